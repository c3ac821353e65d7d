/- A region that draws its order: each free operation keeps what it tells of its value in all later worlds, whatever that value is; the others wait for all ahead of them. No condition. -/
import Derived.Test.YtihkmkcjjlmkhaaBase
import Derived.Deep.MidRow
namespace Go.Proofs.Ytihkmkcjjlmkhaa
set_option maxRecDepth 100000
open Go Go.ChangeAt Go.RowKit
section
variable {P : Program} {md : Region.Mode}

theorem wpAny_inv {ops : Array Oper} {Q : Exit → Act → World → Prop} (pure : Nat → Bool) (Inv : Array Bool → Act → World → Prop) (hs : Region.noSelect ops = true)
    (hQ : ∀ c a d v w, Q (.panic c) (Act.put a d v) w → Q (.panic c) a w)
    (hpure : ∀ listed a w i, listed.size = ops.size → i ∈ Region.ready md ops listed → pure i = true → Inv listed a w → ∃ oi v, ops[i]? = some oi ∧ Region.free md ops listed i = true ∧ Yields P ops oi v a ∧ Inv (listed.setIfInBounds i true) (a.put oi.dst v) w)
    (step : ∀ listed a w i, listed.size = ops.size → (∀ j ∈ Region.ready md ops listed, pure j = false) → i ∈ Region.ready md ops listed → Inv listed a w → wpOp P ops Q i (fun a' w' => Inv (listed.setIfInBounds i true) a' w') a w)
    (fin : ∀ listed a w, listed.size = ops.size → Region.ready md ops listed = [] → Inv listed a w → Q .normal a w) :
    ∀ (fuel : Nat) (listed : Array Bool) (a : Act) (w : World), listed.size = ops.size → listed.count false ≤ fuel → Inv listed a w → wpAny P md ops Q fuel listed a w := by
  have low : ∀ (listed : Array Bool) i, i ∈ Region.ready md ops listed → ∃ h : i < listed.size, listed[i] = false := by
    intro listed i hi
    have := (mem_ready.1 hi).1
    rcases Nat.lt_or_ge i listed.size with h' | h'
    · refine ⟨h', ?_⟩
      simpa [h'] using this
    · simp [Array.getElem?_eq_none h'] at this
  have less : ∀ (listed : Array Bool) i fuel, i ∈ Region.ready md ops listed → listed.count false ≤ fuel + 1 → (listed.setIfInBounds i true).count false ≤ fuel := by
    intro listed i fuel hi hc
    obtain ⟨h1, h2⟩ := low listed i hi
    have e : listed.setIfInBounds i true = listed.set i true h1 := by simp [Array.setIfInBounds, h1]
    rw [e, Array.count_set, h2]
    have hm : false ∈ listed := by rw [← h2]; simp
    have := Array.count_pos_iff.2 hm
    simp
    omega
  intro fuel
  induction fuel with
  | zero =>
    intro listed a w hs hc hI
    have hr : Region.ready md ops listed = [] := by
      cases hr : Region.ready md ops listed with
      | nil => rfl
      | cons i r =>
        obtain ⟨h1, h2⟩ := low listed i (by rw [hr]; simp)
        have : false ∈ listed := by rw [← h2]; simp
        have := Array.count_pos_iff.2 this
        omega
    exact ⟨hr, fin listed a w hs hr hI⟩
  | succ fuel ih =>
    intro listed a w hsz hc hI
    by_cases hp : ∃ i ∈ Region.ready md ops listed, pure i = true
    · obtain ⟨i, hi, hpi⟩ := hp
      obtain ⟨oi, v, ho, hf, hy, hI'⟩ := hpure listed a w i hsz hi hpi hI
      exact wpAny_take ho hs hf (by simpa using hi) (fun c a w h => hQ c a _ _ w h) hy (ih _ _ w (by simpa using hsz) (less _ i fuel hi hc) hI')
    · have hp' : ∀ j ∈ Region.ready md ops listed, pure j = false := fun j hj => by
        cases h : pure j with
        | false => rfl
        | true => exact absurd ⟨j, hj, h⟩ hp
      exact ⟨fun hr => fin listed a w hsz hr hI, fun i hi => wpOp_mono (fun a' w' hk => ih _ a' w' (by simpa using hsz) (less _ i fuel hi hc) hk) (step listed a w i hsz hp' hi hI)⟩

/-- What the free operations have left in their places. -/
def putAll : List Oper → Nat → (Nat → Value) → Act → Act
  | [], _, _, a => a
  | o :: r, k, u, a => putAll r (k + 1) u (a.put o.dst (u k))

theorem putAll_congr : ∀ (l : List Oper) (k : Nat) (u u' : Nat → Value) (a : Act), (∀ j, k ≤ j → u j = u' j) → putAll l k u a = putAll l k u' a
  | [], _, _, _, _, _ => rfl
  | o :: r, k, u, u', a, h => by
    simp only [putAll]
    rw [h k (Nat.le_refl _)]
    exact putAll_congr r (k + 1) u u' _ fun j hj => h j (by omega)

theorem putAll_put (d : Option Tmp) (v : Value) : ∀ (l : List Oper) (k : Nat) (u : Nat → Value) (a : Act), (∀ o ∈ l, ∀ t, d = some t → o.dst ≠ some t) → putAll l k u (a.put d v) = (putAll l k u a).put d v
  | [], _, _, _, _ => rfl
  | o :: r, k, u, a, h => by
    simp only [putAll]
    rw [Act.put_comm a v (u k) (fun t ht => h o (by simp) t ht)]
    exact putAll_put d v r (k + 1) u _ fun o' ho' => h o' (by simp [ho'])

theorem put_put (a : Act) (d : Option Tmp) (x y : Value) : (a.put d x).put d y = a.put d y := by
  cases d <;> simp [Act.put, Array.setIfInBounds_setIfInBounds]

def distinctB : List Oper → Bool
  | [] => true
  | o :: r => (r.all fun o' => match o.dst with | none => true | some t => o'.dst != some t) && distinctB r

theorem putAll_upd : ∀ (l : List Oper) (k i : Nat) (o : Oper) (u : Nat → Value) (v : Value) (a : Act), distinctB l = true → l[i]? = some o → (putAll l k u a).put o.dst v = putAll l k (fun j => if j = k + i then v else u j) a
  | [], _, i, _, _, _, _, _, h => by simp at h
  | o' :: r, k, i, o, u, v, a, hd, h => by
    simp only [distinctB, Bool.and_eq_true, List.all_eq_true] at hd
    cases i with
    | zero =>
      simp only [List.getElem?_cons_zero, Option.some.injEq] at h
      subst h
      simp only [putAll, Nat.add_zero, if_true]
      rw [← putAll_put o'.dst v r (k + 1) u _ ?_, put_put]
      · exact putAll_congr r (k + 1) _ _ _ fun j hj => by rw [if_neg (by omega)]
      · intro o2 h2 t ht
        have := hd.1 o2 h2
        rw [ht] at this
        simpa using this
    | succ i =>
      simp only [List.getElem?_cons_succ] at h
      simp only [putAll]
      rw [putAll_upd r (k + 1) i o u v _ hd.2 h, if_neg (by omega)]
      exact putAll_congr r (k + 1) _ _ _ fun j hj => by rw [show k + 1 + i = k + (i + 1) by omega]

theorem putAll_self : ∀ (l : List Oper) (k : Nat) (u : Nat → Value) (a : Act), (∀ j o, l[j]? = some o → ∀ t, o.dst = some t → u (k + j) = a.tmps.getD t undef) → putAll l k u a = a
  | [], _, _, _, _ => rfl
  | o :: r, k, u, a, h => by
    have e : a.put o.dst (u k) = a := by
      cases hd : o.dst with
      | none => rfl
      | some t =>
        have := h 0 o (by simp) t hd
        rw [Nat.add_zero] at this
        rw [this]
        unfold Act.put
        simp only
        congr 1
        apply Array.ext_getElem?
        intro j
        rw [Array.getElem?_setIfInBounds]
        by_cases hj : t = j
        · subst hj
          by_cases hl : t < a.tmps.size
          · simp [hl]
          · simp [hl]
        · simp [hj]
    simp only [putAll]
    rw [e]
    exact putAll_self r (k + 1) u a fun j o' ho' t ht => by
      have := h (j + 1) o' (by simpa using ho') t ht
      rw [← this, show k + 1 + j = k + (j + 1) by omega]

/-- The numbers of the operations that one waits for. -/
def depsOf (md : Region.Mode) (o : Oper) : List Nat := (o.after.toList.filter fun e => Region.binds md e).map (·.on)

/-- An operation that looks at no memory. -/
def plainOp (o : Oper) : Bool := match o.op with | .field .. => true | .move .. => true | .pick .. => true | .unOp .. => true | _ => false
def grow (md : Region.Mode) (L : List Oper) (n : Nat) (S : List Nat) : List Nat :=
  (List.range L.length).filter fun j => S.contains j || (S.any fun k => (L[k]?.map fun o => (depsOf md o).contains j).getD false) || (decide (j < n) && (L[j]?.map fun o => plainOp o && (depsOf md o).all S.contains).getD false)
def grown (md : Region.Mode) (L : List Oper) (n : Nat) : Nat → List Nat → List Nat
  | 0, S => S
  | k + 1, S => grown md L n k (grow md L n S)

def factsB (md : Region.Mode) (L : List Oper) (n : Nat) : Bool :=
  Region.noSelect L.toArray && decide (n ≤ L.length) && distinctB (L.take n) &&
  ((List.range L.length).all fun i => (L[i]?.map fun o => (depsOf md o).all fun j => decide (j < i)).getD false) &&
  ((List.range L.length).all fun i => decide (i < n) || (L[i]?.map fun o => (List.range i).all (grown md L n 5 (depsOf md o)).contains).getD false) &&
  ((List.range n).all fun i => (L[i]?.map fun o => !plainOp o || ((List.range L.length).all fun j => j == i || (depsOf md o).contains j || (L[j]?.map fun o' => (depsOf md o').contains i || o.apart L.toArray o').getD false)).getD false)

def stepGoal (P : Program) (ops : Array Oper) (Q : Exit → Act → World → Prop) (F : World → Nat → Nat → Value → Prop) (o : Oper) (a : Act) (w : World) : Prop :=
  if plainOp o then ∃ v, Yields P ops o v a ∧ F w w.heap.size w.heap.size v else
  if Region.wanted o (yielded ops a.tmps) then o.wp P a w (fun a' w' => ∃ v, a' = a.put o.dst v ∧ Below w.heap.size w w' ∧ F w' w.heap.size w'.heap.size v) Q else ∃ v, a.put o.dst undef = a.put o.dst v ∧ F w w.heap.size w.heap.size v

theorem grow_sound {L : List Oper} {n : Nat} {S : List Nat} (Z : Nat → Prop) (closed : ∀ i o, L[i]? = some o → Z i → ∀ j ∈ depsOf md o, Z j)
    (plain : ∀ i o, L[i]? = some o → i < n → plainOp o = true → (∀ j ∈ depsOf md o, Z j) → Z i) (h : ∀ j ∈ S, Z j) : ∀ j ∈ grow md L n S, Z j := by
  intro j hj
  simp only [grow, List.mem_filter, List.mem_range, Bool.or_eq_true, List.contains_iff_mem, List.any_eq_true, Bool.and_eq_true, decide_eq_true_eq] at hj
  obtain ⟨hjL, (hj | ⟨k, hk, hj⟩) | ⟨hjn, hj⟩⟩ := hj
  · exact h j hj
  · cases ho : L[k]? with
    | none => rw [ho] at hj; simp at hj
    | some o =>
      rw [ho] at hj
      simp only [Option.map_some, Option.getD_some, List.contains_iff_mem] at hj
      exact closed k o ho (h k hk) j hj
  · cases ho : L[j]? with
    | none => rw [ho] at hj; simp at hj
    | some o =>
      rw [ho] at hj
      simp only [Option.map_some, Option.getD_some, Bool.and_eq_true, List.all_eq_true, List.contains_iff_mem] at hj
      exact plain j o ho hjn hj.1 fun d hd => h d (hj.2 d hd)
theorem grown_sound {L : List Oper} {n : Nat} (Z : Nat → Prop) (closed : ∀ i o, L[i]? = some o → Z i → ∀ j ∈ depsOf md o, Z j)
    (plain : ∀ i o, L[i]? = some o → i < n → plainOp o = true → (∀ j ∈ depsOf md o, Z j) → Z i) : ∀ (t : Nat) (S : List Nat), (∀ j ∈ S, Z j) → ∀ j ∈ grown md L n t S, Z j
  | 0, _, h => h
  | t + 1, _, h => grown_sound Z closed plain t _ (grow_sound Z closed plain h)

theorem wp_region_facts0 {id : Nat} {Q : Exit → Act → World → Prop} {a : Act} {w : World} {L : List Oper} (n : Nat) (C : World → Prop) (F : Nat → World → Nat → Nat → Value → Prop) (hm : P.follows .mixedOrders = true)
    (hB : factsB .any L n = true) (hQ : ∀ c a d v w, Q (.panic c) (Act.put a d v) w → Q (.panic c) a w) (hC : C w.drew) (hext : ∀ w w', C w → Below w.heap.size w w' → C w')
    (hF : ∀ j w w' l h v, C w → Below w.heap.size w w' → h ≤ w.heap.size → F j w l h v → F j w' l h v)
    (steps : ∀ i o, (L.take n)[i]? = some o → ∀ (u : Nat → Value) (lo hi : Nat → Nat) w, C w → (∀ j ∈ depsOf .any o, F j w (lo j) (hi j) (u j)) → stepGoal P L.toArray Q (F i) o (putAll (L.take n) 0 u a) w)
    (rest : ∀ (u : Nat → Value) (lo hi : Nat → Nat) w, C w → (∀ j, j < n → F j w (lo j) (hi j) (u j)) → (∀ i j, i < n → j < n → i ≠ j → hi i ≤ lo j ∨ hi j ≤ lo i) → (∀ j, j < n → hi j ≤ w.heap.size) → wpList P L.toArray Q (L.drop n) (putAll (L.take n) 0 u a) w) :
    (Code.region id L.toArray true).wp P Q a w := by
  simp only [factsB, Bool.and_eq_true, decide_eq_true_eq, List.all_eq_true, List.mem_range, Bool.or_eq_true] at hB
  obtain ⟨⟨⟨⟨⟨hsel, hn⟩, hd⟩, hbefore⟩, hall⟩, hfree⟩ := hB
  have before : ∀ i o, L[i]? = some o → ∀ j ∈ depsOf .any o, j < i := by
    intro i o ho j hj
    have hi : i < L.length := (List.getElem?_eq_some_iff.1 ho).1
    have := hbefore i hi
    rw [ho] at this
    simp only [Option.map_some, Option.getD_some, List.all_eq_true, decide_eq_true_eq] at this
    exact this j hj
  have deps : ∀ (listed : Array Bool) i, i ∈ Region.ready .any L.toArray listed → ∃ o, L[i]? = some o ∧ listed.getD i true = false ∧ ∀ j ∈ depsOf .any o, listed.getD j false = true := by
    intro listed i hi
    obtain ⟨h1, o, ho, h2⟩ := mem_ready.1 hi
    refine ⟨o, by simpa using ho, h1, fun j hj => ?_⟩
    obtain ⟨e, he, rfl⟩ := List.mem_map.1 hj
    obtain ⟨he1, he2⟩ := List.mem_filter.1 he
    exact h2 e (by simpa using he1) he2
  have isready : ∀ (listed : Array Bool) i o, listed.size = L.toArray.size → L[i]? = some o → listed.getD i false = false → (∀ j ∈ depsOf .any o, listed.getD j false = true) → i ∈ Region.ready .any L.toArray listed := by
    intro listed i o hs ho hl hall
    rw [mem_ready]
    have hi : i < L.length := (List.getElem?_eq_some_iff.1 ho).1
    refine ⟨?_, o, by simpa using ho, fun e he hb => hall e.on (List.mem_map.2 ⟨e, List.mem_filter.2 ⟨by simpa using he, hb⟩, rfl⟩)⟩
    have : i < listed.size := by simpa [hs] using hi
    simp [this] at hl ⊢
    exact hl
  have full : ∀ (listed : Array Bool), listed.size = L.toArray.size → Region.ready .any L.toArray listed = [] → ∀ j, j < L.length → listed.getD j false = true := by
    intro listed hs hr j
    induction j using Nat.strongRecOn with
    | ind j ih =>
      intro hj
      cases hl : listed.getD j false with
      | true => rfl
      | false =>
        exfalso
        have hx : L[j]? = some (L[j]) := List.getElem?_eq_getElem hj
        have : j ∈ Region.ready .any L.toArray listed := isready listed j _ hs hx hl fun d hd => ih d (before j _ hx d hd) (Nat.lt_trans (before j _ hx d hd) hj)
        rw [hr] at this
        cases this
  have wpl : ∀ m o a w, L[m]? = some o → wpList P L.toArray Q (L.drop m) a w → wpOp P L.toArray Q m (wpList P L.toArray Q (L.drop (m + 1))) a w := by
    intro m o a w ho h
    have hm : m < L.length := (List.getElem?_eq_some_iff.1 ho).1
    have e : L.drop m = o :: L.drop (m + 1) := by
      rw [List.drop_eq_getElem_cons hm]
      congr 1
      exact Option.some.inj ((List.getElem?_eq_getElem hm).symm.trans ho)
    rw [e] at h
    unfold wpOp
    have : L.toArray[m]? = some o := by simpa using ho
    rw [this]
    exact h
  have waits : ∀ (listed : Array Bool) i o, listed.size = L.toArray.size → (∀ k o, L[k]? = some o → listed.getD k false = true → ∀ j ∈ depsOf .any o, listed.getD j false = true) →
      (∀ j ∈ Region.ready .any L.toArray listed, (decide (j < n) && (L[j]?.map plainOp).getD false) = false) → n ≤ i → L[i]? = some o → (∀ j ∈ depsOf .any o, listed.getD j false = true) → ∀ j, j < i → listed.getD j false = true := by
    intro listed i o hs hcl hsat hi ho hdep j hj
    have hiL : i < L.length := (List.getElem?_eq_some_iff.1 ho).1
    have := (hall i hiL).resolve_left (by omega)
    rw [ho] at this
    simp only [Option.map_some, Option.getD_some, List.all_eq_true, List.mem_range, List.contains_iff_mem] at this
    refine grown_sound (md := .any) (L := L) (n := n) (fun j => listed.getD j false = true) hcl ?_ 5 _ hdep j (this j hj)
    intro k ok hok hkn hp hk
    cases hl : listed.getD k false with
    | true => rfl
    | false =>
      have := hsat k (isready listed k ok hs hok hl hk)
      rw [hok] at this
      simp [hkn, hp] at this
  have hclosed : ∀ (listed : Array Bool) i o, listed.size = L.toArray.size → L[i]? = some o → (∀ j ∈ depsOf .any o, listed.getD j false = true) → (∀ k o, L[k]? = some o → listed.getD k false = true → ∀ j ∈ depsOf .any o, listed.getD j false = true) →
      (∀ k o, L[k]? = some o → (listed.setIfInBounds i true).getD k false = true → ∀ j ∈ depsOf .any o, (listed.setIfInBounds i true).getD j false = true) := by
    intro listed i o hs ho hdep hcl k ok hok hk j hj
    refine getD_set_true ?_
    by_cases hki : k = i
    · subst hki
      obtain rfl : ok = o := Option.some.inj (hok.symm.trans ho)
      exact hdep j hj
    · rw [getD_set_ne false (Ne.symm hki)] at hk
      exact hcl k ok hok hk j hj
  refine wp_region_any hm ?_
  have upd : ∀ (listed : Array Bool) i o u (lo hi : Nat → Nat) w' (a2 : Act) w2 v, i < n → listed.size = L.toArray.size → (L.take n)[i]? = some o → (∀ i, n ≤ i → listed.getD i false = false) → C w' → (∀ j, j < n → listed.getD j false = true → F j w' (lo j) (hi j) (u j) ∧ hi j ≤ w'.heap.size) →
      (∀ i j, i < n → j < n → i ≠ j → listed.getD i false = true → listed.getD j false = true → hi i ≤ lo j ∨ hi j ≤ lo i) →
      a2 = (putAll (L.take n) 0 u a).put o.dst v → Below w'.heap.size w' w2 → F i w2 w'.heap.size w2.heap.size v →
      ((∀ i_1, n ≤ i_1 → (listed.setIfInBounds i true).getD i_1 false = false) ∧ C w2 ∧ ∃ (u : Nat → Value) (lo hi : Nat → Nat), a2 = putAll (L.take n) 0 u a ∧ (∀ j, j < n → (listed.setIfInBounds i true).getD j false = true → F j w2 (lo j) (hi j) (u j) ∧ hi j ≤ w2.heap.size) ∧
        ∀ i_1 j, i_1 < n → j < n → i_1 ≠ j → (listed.setIfInBounds i true).getD i_1 false = true → (listed.setIfInBounds i true).getD j false = true → hi i_1 ≤ lo j ∨ hi j ≤ lo i_1) := by
    intro listed i o u lo hi w' a2 w2 v hin hsz hoT hz hc hf hdj he hb hv
    refine ⟨fun k hk => ?_, hext _ _ hc hb, fun j => if j = 0 + i then v else u j, fun j => if j = i then w'.heap.size else lo j, fun j => if j = i then w2.heap.size else hi j, ?_, fun j hj hl => ?_, fun k j hk hj hkj hlk hlj => ?_⟩
    · rw [getD_set_ne false (by omega)]; exact hz k hk
    · rw [he, putAll_upd (L.take n) 0 i o u v a hd hoT]
    · by_cases hji : j = i
      · subst hji; simpa using hv
      · simp only [Nat.zero_add, if_neg hji]
        rw [getD_set_ne false (Ne.symm hji)] at hl
        exact ⟨hF j w' w2 _ _ _ hc hb (hf j hj hl).2 (hf j hj hl).1, Nat.le_trans (hf j hj hl).2 hb.size⟩
    · by_cases hki : k = i
      · subst hki
        simp only [if_true, if_neg (Ne.symm hkj)]
        rw [getD_set_ne false hkj] at hlj
        exact .inr (hf j hj hlj).2
      · rw [getD_set_ne false (Ne.symm hki)] at hlk
        simp only [if_neg hki]
        by_cases hji : j = i
        · subst hji
          simp only [if_true]
          exact .inl (hf k hk hlk).2
        · rw [getD_set_ne false (Ne.symm hji)] at hlj
          simp only [if_neg hji]
          exact hdj k j hk hj hkj hlk hlj
  refine wpAny_inv (fun j => decide (j < n) && (L[j]?.map plainOp).getD false) (fun listed a' w' => (∀ k o, L[k]? = some o → listed.getD k false = true → ∀ j ∈ depsOf .any o, listed.getD j false = true) ∧
      (((∀ i, n ≤ i → listed.getD i false = false) ∧ C w' ∧ ∃ (u : Nat → Value) (lo hi : Nat → Nat), a' = putAll (L.take n) 0 u a ∧ (∀ j, j < n → listed.getD j false = true → F j w' (lo j) (hi j) (u j) ∧ hi j ≤ w'.heap.size) ∧ ∀ i j, i < n → j < n → i ≠ j → listed.getD i false = true → listed.getD j false = true → hi i ≤ lo j ∨ hi j ≤ lo i) ∨
      (∃ m, n < m ∧ m ≤ L.length ∧ (∀ i, i < L.length → (listed.getD i false = true ↔ i < m)) ∧ wpList P L.toArray Q (L.drop m) a' w'))) hsel hQ ?_ ?_ ?_ _ _ _ _ ?_ ?_ ?_
  · rintro listed a' w' i hs hi hp ⟨hcl, hI⟩
    obtain ⟨o, ho, hun, hdep⟩ := deps listed i hi
    rw [ho] at hp
    simp only [Option.map_some, Option.getD_some, Bool.and_eq_true, decide_eq_true_eq] at hp
    obtain ⟨hin, hpo⟩ := hp
    have hiL : i < L.length := (List.getElem?_eq_some_iff.1 ho).1
    have hiS : i < listed.size := by simpa [hs] using hiL
    have hun' : listed.getD i false = false := by simp [hiS] at hun ⊢; exact hun
    rcases hI with ⟨hz, hc, u, lo, hi', rfl, hf, hdj⟩ | ⟨m, hm1, hm2, hm3, hw⟩
    · have hoT : (L.take n)[i]? = some o := by rw [List.getElem?_take, if_pos hin]; exact ho
      have st := steps i o hoT u lo hi' w' hc (fun j hj => (hf j (by have := before i o ho j hj; omega) (hdep j hj)).1)
      unfold stepGoal at st
      rw [if_pos hpo] at st
      obtain ⟨v, hy, hv⟩ := st
      refine ⟨o, v, by simpa using ho, ?_, hy, hclosed listed i o hs ho hdep hcl, .inl (upd listed i o u lo hi' w' _ w' v hin hs hoT hz hc hf hdj rfl (Below.refl _ _) hv)⟩
      have hfr := hfree i hin
      rw [ho] at hfr
      simp only [Option.map_some, Option.getD_some, hpo, Bool.not_true, Bool.false_or, List.all_eq_true, List.mem_range, Bool.or_eq_true, beq_iff_eq, List.contains_iff_mem] at hfr
      unfold Region.free
      have hoA : L.toArray[i]? = some o := by simpa using ho
      rw [hoA]
      simp only [List.all_eq_true, List.mem_range, Bool.or_eq_true, beq_iff_eq]
      intro j hj
      have hjL : j < L.length := by simpa using hj
      have hjA : L.toArray[j]? = some (L[j]) := by simp [hjL]
      rcases hfr j hjL with (h | h) | h
      · exact .inl (.inl h)
      · refine .inl (.inr ?_)
        have := hdep j h
        have hjS : j < listed.size := by simpa [hs] using hjL
        simp [hjS] at this ⊢
        exact this
      · refine .inr ?_
        rw [hjA]
        simp only
        rw [List.getElem?_eq_getElem hjL] at h
        simp only [Option.map_some, Option.getD_some] at h
        rw [Bool.or_eq_true] at h ⊢
        rcases h with h | h
        · refine .inl ?_
          rw [List.contains_iff_mem] at h
          obtain ⟨e, he, he2⟩ := List.mem_map.1 h
          obtain ⟨he1, he3⟩ := List.mem_filter.1 he
          exact Array.any_eq_true'.2 ⟨e, by simpa using he1, by simp [he3, he2]⟩
        · exact .inr h
    · have := (hm3 i hiL).2 (by omega)
      rw [hun'] at this
      cases this
  · rintro listed a' w' i hs hsat hi ⟨hcl, hI⟩
    obtain ⟨o, ho, hun, hdep⟩ := deps listed i hi
    have hiL : i < L.length := (List.getElem?_eq_some_iff.1 ho).1
    have hiS : i < listed.size := by simpa [hs] using hiL
    have hun' : listed.getD i false = false := by simp [hiS] at hun ⊢; exact hun
    rcases hI with ⟨hz, hc, u, lo, hi', rfl, hf, hdj⟩ | ⟨m, hm1, hm2, hm3, hw⟩
    · rcases Nat.lt_or_ge i n with hin | hin
      · have hoT : (L.take n)[i]? = some o := by rw [List.getElem?_take, if_pos hin]; exact ho
        have st := steps i o hoT u lo hi' w' hc (fun j hj => (hf j (by have := before i o ho j hj; omega) (hdep j hj)).1)
        have hoA : L.toArray[i]? = some o := by simpa using ho
        have hnp : plainOp o = false := by
          have := hsat i hi
          rw [ho] at this
          simpa [hin] using this
        have hcl' := hclosed listed i o hs ho hdep hcl
        unfold wpOp
        rw [hoA]
        simp only
        unfold stepGoal at st
        rw [if_neg (by simp [hnp])] at st
        split
        · rename_i hwant
          rw [if_pos hwant] at st
          refine .inl (Oper.wp_mono (fun a2 w2 ⟨v, he, hb, hv⟩ => ⟨hcl', .inl (upd listed i o u lo hi' w' a2 w2 v hin hs hoT hz hc hf hdj he hb hv)⟩) st)
        · rename_i hwant
          rw [if_neg hwant] at st
          obtain ⟨v, he, st⟩ := st
          exact ⟨hcl', .inl (upd listed i o u lo hi' w' _ _ v hin hs hoT hz hc hf hdj he (Below.refl _ _) st)⟩
      · have hwt := waits listed i o hs hcl hsat hin ho hdep
        have hin' : i = n := by
          rcases Nat.eq_or_lt_of_le hin with h | h
          · exact h.symm
          · have := hwt n h
            rw [hz n (Nat.le_refl _)] at this
            cases this
        subst hin'
        have hr := rest u lo hi' w' hc (fun j hj => (hf j hj (hwt j hj)).1) (fun k j hk hj hkj => hdj k j hk hj hkj (hwt k hk) (hwt j hj)) (fun j hj => (hf j hj (hwt j hj)).2)
        refine wpOp_mono (fun a2 w2 hk => ⟨hclosed listed i o hs ho hdep hcl, .inr ⟨i + 1, by omega, by omega, fun j hj => ?_, hk⟩⟩) (wpl i o _ _ ho hr)
        by_cases hji : j = i
        · subst hji; simp [hiS]
        · rw [getD_set_ne false (Ne.symm hji)]
          rcases Nat.lt_or_ge j i with h | h
          · simp only [hwt j h, true_iff]
            omega
          · rw [hz j h]
            constructor
            · intro h; cases h
            · intro h; omega
    · have him : m ≤ i := by
        rcases Nat.lt_or_ge i m with h | h
        · have := (hm3 i hiL).2 h
          rw [hun'] at this
          cases this
        · exact h
      have hwt := waits listed i o hs hcl hsat (by omega) ho hdep
      have him' : i = m := by
        rcases Nat.eq_or_lt_of_le him with h | h
        · exact h.symm
        · have := (hm3 m (by omega)).1 (hwt m h)
          omega
      subst him'
      refine wpOp_mono (fun a2 w2 hk => ⟨hclosed listed i o hs ho hdep hcl, .inr ⟨i + 1, by omega, by omega, fun j hj => ?_, hk⟩⟩) (wpl i o _ _ ho hw)
      by_cases hji : j = i
      · subst hji; simp [hiS]
      · rw [getD_set_ne false (Ne.symm hji), hm3 j hj]
        omega
  · rintro listed a' w' hs hr ⟨_, hI⟩
    have hf := full listed hs hr
    rcases hI with ⟨hz, hc, u, lo, hi', rfl, hfa, hdj⟩ | ⟨m, hm1, hm2, hm3, hw⟩
    · have e : n = L.length := by
        rcases Nat.eq_or_lt_of_le hn with h | h
        · exact h
        · have := hf n h
          rw [hz n (Nat.le_refl _)] at this
          cases this
      have hr := rest u lo hi' w' hc (fun j hj => (hfa j hj (hf j (by omega))).1) (fun k j hk hj hkj => hdj k j hk hj hkj (hf k (by omega)) (hf j (by omega))) (fun j hj => (hfa j hj (hf j (by omega))).2)
      rw [e, List.drop_length] at hr
      rw [e]
      exact hr
    · have e : m = L.length := by
        rcases Nat.eq_or_lt_of_le hm2 with h | h
        · exact h
        · have := (hm3 m h).1 (hf m h)
          omega
      rw [e, List.drop_length] at hw
      exact hw
  · simp
  · have h : (Array.replicate L.toArray.size false).count false = L.toArray.size := by simp
    rw [h]
    exact Nat.le_refl _
  · have none0 : ∀ k, (Array.replicate L.toArray.size false).getD k false = false := by
      intro k
      simp [Array.getElem?_replicate]
      split <;> rfl
    refine ⟨fun k o _ hk => ?_, .inl ⟨fun i _ => none0 i, hC, fun j => (match (L.take n)[j]? with | some o => (match o.dst with | some t => a.tmps.getD t undef | none => undef) | none => undef), fun _ => 0, fun _ => 0, ?_, fun j _ h => ?_, fun i _ _ _ _ h => ?_⟩⟩
    · rw [none0 k] at hk; cases hk
    · refine (putAll_self _ _ _ _ fun j o ho t ht => ?_).symm
      simp only [Nat.zero_add]
      rw [ho]
      simp only
      rw [ht]
    · rw [none0 j] at h; cases h
    · rw [none0 i] at h; cases h

/-- What holds of an operation's value, by its number. -/
def factAt (Fs : List (World → Nat → Nat → Value → Prop)) (j : Nat) : World → Nat → Nat → Value → Prop := Fs.getD j (fun _ _ _ _ => True)
/-- It holds on in later worlds. -/
def Stays (C : World → Prop) (F : World → Nat → Nat → Value → Prop) : Prop := ∀ w w' l h v, C w → Below w.heap.size w w' → h ≤ w.heap.size → F w l h v → F w' l h v
def StayAll (C : World → Prop) : List (World → Nat → Nat → Value → Prop) → Prop
  | [] => True
  | F :: r => Stays C F ∧ StayAll C r
theorem StayAll.at {C : World → Prop} : ∀ {Fs : List (World → Nat → Nat → Value → Prop)}, StayAll C Fs → ∀ j, Stays C (factAt Fs j)
  | [], _, _ => fun _ _ _ _ _ _ _ _ _ => by simp [factAt]
  | _ :: _, h, 0 => by simpa [factAt] using h.1
  | _ :: _, h, j + 1 => by simpa [factAt] using h.2.at j
theorem stays_val {C : World → Prop} (x : Value) : Stays C (fun _ _ _ v => v = x) := fun _ _ _ _ _ _ _ _ h => h
theorem stays_own {C : World → Prop} (base : Nat) (cells : List Value) : Stays C (fun w lo hi v => ∃ A, base ≤ A ∧ lo ≤ A ∧ A < hi ∧ v = .pointer (some ⟨A, 0, none⟩) ∧ Own w A cells) :=
  fun _ _ _ _ _ _ hb _ ⟨A, h0, h1, h2, h3, h4⟩ => ⟨A, h0, h1, h2, h3, h4.below hb h4.lt⟩
/-- One operation, whatever stands in the places of those that it does not wait for. -/
def StepOk (P : Program) (ops : Array Oper) (C : World → Prop) (Fs : List (World → Nat → Nat → Value → Prop)) (l : List Oper) (a : Act) (i : Nat) (o : Oper) : Prop :=
  ∀ (Q : Exit → Act → World → Prop) (u : Nat → Value) (lo hi : Nat → Nat) w, C w → (∀ j, (depsOf .any o).contains j = true → factAt Fs j w (lo j) (hi j) (u j)) →
    if plainOp o then ∃ v, Yields P ops o v (putAll l 0 u a) ∧ factAt Fs i w w.heap.size w.heap.size v else
      (∀ v w', Below w.heap.size w w' → factAt Fs i w' w.heap.size w'.heap.size v → Q .normal ((putAll l 0 u a).put o.dst v) w') → wpList P ops Q [o] (putAll l 0 u a) w
def StepsOk (P : Program) (ops : Array Oper) (C : World → Prop) (Fs : List (World → Nat → Nat → Value → Prop)) (l : List Oper) (a : Act) : Nat → List Oper → Prop
  | _, [] => True
  | i, o :: r => StepOk P ops C Fs l a i o ∧ StepsOk P ops C Fs l a (i + 1) r
theorem stepsOk_nil {ops : Array Oper} {C : World → Prop} {Fs : List (World → Nat → Nat → Value → Prop)} {l : List Oper} {a : Act} {i : Nat} : StepsOk P ops C Fs l a i [] := trivial
theorem stepsOk_plain {ops : Array Oper} {C : World → Prop} {Fs : List (World → Nat → Nat → Value → Prop)} {l r : List Oper} {a : Act} {i : Nat} {o : Oper} (hp : plainOp o = true)
    (h : ∀ (u : Nat → Value) (lo hi : Nat → Nat) w, C w → (∀ j, (depsOf .any o).contains j = true → factAt Fs j w (lo j) (hi j) (u j)) → ∃ v, Yields P ops o v (putAll l 0 u a) ∧ factAt Fs i w w.heap.size w.heap.size v)
    (hr : StepsOk P ops C Fs l a (i + 1) r) : StepsOk P ops C Fs l a i (o :: r) := ⟨fun Q u lo hi w hc hd => by rw [if_pos hp]; exact h u lo hi w hc hd, hr⟩
theorem stepsOk_other {ops : Array Oper} {C : World → Prop} {Fs : List (World → Nat → Nat → Value → Prop)} {l r : List Oper} {a : Act} {i : Nat} {o : Oper} (hp : plainOp o = false)
    (h : ∀ (Q : Exit → Act → World → Prop) (u : Nat → Value) (lo hi : Nat → Nat) w, C w → (∀ j, (depsOf .any o).contains j = true → factAt Fs j w (lo j) (hi j) (u j)) →
      (∀ v w', Below w.heap.size w w' → factAt Fs i w' w.heap.size w'.heap.size v → Q .normal ((putAll l 0 u a).put o.dst v) w') → wpList P ops Q [o] (putAll l 0 u a) w)
    (hr : StepsOk P ops C Fs l a (i + 1) r) : StepsOk P ops C Fs l a i (o :: r) := ⟨fun Q u lo hi w hc hd => by rw [if_neg (by rw [hp]; exact Bool.false_ne_true)]; exact h Q u lo hi w hc hd, hr⟩
theorem StepsOk.at {ops : Array Oper} {C : World → Prop} {Fs : List (World → Nat → Nat → Value → Prop)} {l : List Oper} {a : Act} : ∀ {r : List Oper} {k : Nat}, StepsOk P ops C Fs l a k r → ∀ i o, r[i]? = some o → StepOk P ops C Fs l a (k + i) o
  | [], _, _, _, _, h => by simp at h
  | o' :: r, k, h, 0, o, ho => by
    simp only [List.getElem?_cons_zero, Option.some.injEq] at ho
    subst ho
    exact h.1
  | o' :: r, k, h, i + 1, o, ho => by
    have := h.2.at i o (by simpa using ho)
    rw [show k + (i + 1) = k + 1 + i by omega]
    exact this
theorem StepOk.goal {ops : Array Oper} {C : World → Prop} {Fs : List (World → Nat → Nat → Value → Prop)} {l : List Oper} {a : Act} {i : Nat} {o : Oper} (h : StepOk P ops C Fs l a i o) (Q : Exit → Act → World → Prop) (u : Nat → Value) (lo hi : Nat → Nat) (w : World) (hc : C w)
    (hd : ∀ j ∈ depsOf .any o, factAt Fs j w (lo j) (hi j) (u j)) : stepGoal P ops Q (factAt Fs i) o (putAll l 0 u a) w := by
  unfold stepGoal
  have h0 := fun Q => h Q u lo hi w hc (fun j hj => hd j (List.contains_iff_mem.1 hj))
  split
  · rename_i hp
    have := h0 Q
    rw [if_pos hp] at this
    exact this
  · rename_i hp
    have h1 := h0 (fun e a' w' => e = .normal ∧ ∃ v, a' = (putAll l 0 u a).put o.dst v ∧ Below w.heap.size w w' ∧ factAt Fs i w' w.heap.size w'.heap.size v)
    rw [if_neg hp] at h1
    have h2 := h1 fun v w' hb hf => ⟨rfl, v, rfl, hb, hf⟩
    unfold wpList at h2
    split
    · rename_i hw
      rw [if_pos hw] at h2
      rcases h2 with h2 | ⟨_, a', w', h2, _⟩
      · unfold Oper.wp at h2 ⊢
        generalize (execOp (putAll l 0 u a).eval o).run P w = r at *
        cases r with
        | ok n w' =>
          cases n <;> simp only [Oper.upon, wpList] at h2 ⊢
          case enter f args => exact h2.mono fun e w'' he => by cases e <;> first | exact he.2 | exact absurd he.1 (by simp) | (obtain ⟨_, _, h, _⟩ := he; cases h)
          case row row args => exact h2.mono fun _ _ he => he.2
          all_goals exact h2.2
        | halt x w' => cases x <;> simp only [Oper.upon] at h2 ⊢ <;> first | exact h2 | exact absurd h2.1 (by simp)
      · cases h2
    · rename_i hw
      rw [if_neg hw] at h2
      obtain ⟨_, v, he, _, hf⟩ := h2
      exact ⟨v, he, hf⟩

/-- A region, by what holds of its operations' values: the first n in any order, the others behind. -/
theorem wp_region_facts {id : Nat} {Q : Exit → Act → World → Prop} {a : Act} {w : World} {L : List Oper} (n : Nat) (C : World → Prop) (Fs : List (World → Nat → Nat → Value → Prop)) (hm : P.follows .mixedOrders = true)
    (hB : factsB .any L n = true) (hC : C w.drew) (hext : ∀ w w', C w → Below w.heap.size w w' → C w') (hF : StayAll C Fs) (steps : StepsOk P L.toArray C Fs (L.take n) a 0 (L.take n))
    (rest : ∀ (Q' : Exit → Act → World → Prop), (∀ a w, Q .normal a w → Q' .normal a w) → ∀ (u : Nat → Value) (lo hi : Nat → Nat) w, C w → (∀ j, j < n → factAt Fs j w (lo j) (hi j) (u j)) → (∀ i j, i < n → j < n → i ≠ j → hi i ≤ lo j ∨ hi j ≤ lo i) → (∀ j, j < n → hi j ≤ w.heap.size) →
      wpList P L.toArray Q' (L.drop n) (putAll (L.take n) 0 u a) w) :
    (Code.region id L.toArray true).wp P Q a w := by
  refine Code.wp_mono (Q := fun e a w => e = .normal ∧ Q .normal a w) (fun e a w ⟨h1, h2⟩ => by subst h1; exact h2) ?_
  refine wp_region_facts0 n C (factAt Fs) hm hB (fun c a d v w h => by cases h.1) hC hext (fun j => hF.at j) (fun i o ho u lo hi w hc hd => ?_) (fun u lo hi w hc hf hd hs => rest _ (fun a w h => ⟨rfl, h⟩) u lo hi w hc hf hd hs)
  have := steps.at i o ho
  rw [Nat.zero_add] at this
  exact this.goal _ u lo hi w hc hd

theorem Own.there {w : World} {B n : Nat} {cs : List Value} (h : Own w B cs) (hn : n ≤ cs.length) : w.there B 0 n := fun j hj => by
  have := h.cells.get j cs[j] (List.getElem?_eq_getElem (by omega))
  exact ⟨by rw [this]; rfl, h.free _⟩
theorem Own.othersets {A : Nat} : ∀ {vs : List Value} {o : Nat} {w : World} {B : Nat} {cs : List Value}, Own w B cs → A ≠ B → Own (w.setCells A o vs) B cs
  | [], _, _, _, _, h, _ => h
  | v :: r, o, w, B, cs, h, hn => by
    rw [World.setCells]
    exact Own.othersets (Own.other h hn v) hn
theorem size_setCells (b : Nat) : ∀ (vs : List Value) (o : Nat) (w : World), (w.setCells b o vs).heap.size = w.heap.size
  | [], _, _ => rfl
  | v :: r, o, w => by rw [World.setCells, size_setCells b r (o + 1)]; simp
theorem Own.sets {w : World} {B : Nat} {cs vs : List Value} (h : Own w B cs) (hl : vs.length = cs.length) : Own (w.setCells B 0 vs) B vs := by
  refine ⟨CellsAt.of fun i v hi => ?_, fun j => ?_, ?_⟩
  · exact World.rangeAt_setCells_same w B 0 vs (h.there (by omega)) i v hi
  · rw [World.frozen?_setCells]; exact h.free j
  · rw [size_setCells]; exact h.lt
theorem Below.setCells {C A : Nat} {u : World} (hA : C ≤ A) : ∀ (vs : List Value) (o : Nat) (w : World), Below C u w → Below C u (w.setCells A o vs)
  | [], _, _, h => h
  | v :: r, o, w, h => by
    rw [World.setCells]
    exact Below.setCells hA r (o + 1) _ (Below.setCell h hA v)
end
end Go.Proofs.Ytihkmkcjjlmkhaa
