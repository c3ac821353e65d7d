/- A region that draws its order: all operations but the last are quiet in a class of worlds, the last waits for all others. No condition. -/
import Derived.Deep.QuietTactic
namespace Go.Proofs.Ytihkmkcjjlmkhaa
set_option maxRecDepth 100000
open Go
section
variable {P : Program} {md : Region.Mode} {C : World → Prop}

/-- The last operation waits for all others; each other waits for earlier ones alone. -/
def lastB (md : Region.Mode) (l : List Oper) (o : Oper) : Bool :=
  ((List.range l.length).all fun j => (l[j]?.map fun x => x.after.all (fun e => !Region.binds md e || decide (e.on < j)) && (match x.guard with | some (g, _) => decide (g < l.length) | none => true)).getD false) &&
  ((List.range l.length).all fun j => o.after.any fun e => Region.binds md e && e.on == j) &&
  (o.after.all fun e => !Region.binds md e || decide (e.on < l.length))

theorem lastB_before {l : List Oper} {o : Oper} (h : lastB md l o = true) {j : Nat} {x : Oper} (hj : l[j]? = some x) : (∀ e ∈ x.after, Region.binds md e = true → e.on < j) ∧ ∀ g b, x.guard = some (g, b) → g < l.length := by
  have hlt : j < l.length := (List.getElem?_eq_some_iff.1 hj).1
  simp only [lastB, Bool.and_eq_true, List.all_eq_true, List.mem_range] at h
  have := h.1.1 j hlt
  rw [hj] at this
  simp only [Option.map_some, Option.getD_some, Bool.and_eq_true, Array.all_eq_true_iff_forall_mem, Bool.or_eq_true, Bool.not_eq_true', decide_eq_true_eq] at this
  refine ⟨fun e he hb => (this.1 e he).resolve_left (by simp [hb]), fun g b hg => ?_⟩
  have h2 := this.2
  rw [hg] at h2
  simpa using h2
theorem lastB_all {l : List Oper} {o : Oper} (h : lastB md l o = true) {j : Nat} (hj : j < l.length) : ∃ e ∈ o.after, Region.binds md e = true ∧ e.on = j := by
  simp only [lastB, Bool.and_eq_true, List.all_eq_true, List.mem_range] at h
  have := h.1.2 j hj
  obtain ⟨e, he, hb⟩ := Array.any_eq_true'.1 this
  simp only [Bool.and_eq_true, beq_iff_eq] at hb
  exact ⟨e, he, hb.1, hb.2⟩
theorem lastB_in {l : List Oper} {o : Oper} (h : lastB md l o = true) : ∀ e ∈ o.after, Region.binds md e = true → e.on < l.length := by
  simp only [lastB, Bool.and_eq_true, Array.all_eq_true_iff_forall_mem, Bool.or_eq_true, Bool.not_eq_true', decide_eq_true_eq] at h
  exact fun e he hb => (h.2 e he).resolve_left (by simp [hb])

theorem push_getD {listed : Array Bool} {b d : Bool} {j : Nat} (h : j < listed.size) : (listed.push b).getD j d = listed.getD j d := by
  simp [Array.getElem?_push, Nat.ne_of_lt h]

theorem push_set {listed : Array Bool} {i : Nat} (h : i < listed.size) : (listed.push false).setIfInBounds i true = (listed.setIfInBounds i true).push false := by
  apply Array.ext_getElem?
  intro j
  rw [Array.getElem?_setIfInBounds, Array.getElem?_push, Array.getElem?_push, Array.getElem?_setIfInBounds]
  by_cases hj : i = j
  · subst hj; simp [h, Nat.ne_of_lt h]
    omega
  · simp [hj]
theorem push_set_last {listed : Array Bool} : (listed.push false).setIfInBounds listed.size true = listed.push true := by
  apply Array.ext_getElem?
  intro j
  rw [Array.getElem?_setIfInBounds, Array.getElem?_push, Array.getElem?_push]
  by_cases hj : listed.size = j
  · subst hj; simp
  · simp [hj, Ne.symm hj]
/-- Which may come up, ahead of the last. -/
theorem mem_ready_push {l : List Oper} {o : Oper} (h : lastB md l o = true) {listed : Array Bool} (hs : listed.size = l.length) {i : Nat} (hi : i < l.length) :
    i ∈ Region.ready md (l ++ [o]).toArray (listed.push false) ↔ i ∈ Region.ready md l.toArray listed := by
  rw [mem_ready, mem_ready]
  have e1 : (l ++ [o]).toArray[i]? = l.toArray[i]? := by simp [List.getElem?_append_left hi]
  rw [e1, push_getD (by omega)]
  refine and_congr_right fun _ => ?_
  constructor
  · rintro ⟨x, hx, hall⟩
    refine ⟨x, hx, fun e he hb => ?_⟩
    have := (lastB_before h (j := i) (by simpa using hx)).1 e he hb
    rw [← push_getD (b := false) (by omega)]
    exact hall e he hb
  · rintro ⟨x, hx, hall⟩
    refine ⟨x, hx, fun e he hb => ?_⟩
    have := (lastB_before h (j := i) (by simpa using hx)).1 e he hb
    rw [push_getD (by omega)]
    exact hall e he hb

/-- Where none of the others may come up, all have come up. -/
theorem all_listed {l : List Oper} {o : Oper} (h : lastB md l o = true) {listed : Array Bool} (hs : listed.size = l.length) (hr : Region.ready md l.toArray listed = []) : ∀ j, j < l.length → listed.getD j false = true := by
  intro j
  induction j using Nat.strongRecOn with
  | ind j ih =>
    intro hj
    cases hl : listed.getD j false with
    | true => rfl
    | false =>
      exfalso
      have hx : l[j]? = some (l[j]) := List.getElem?_eq_getElem hj
      have : j ∈ Region.ready md l.toArray listed := by
        rw [mem_ready]
        refine ⟨?_, l[j], by simp, fun e he hb => ?_⟩
        · have : j < listed.size := by omega
          simp [this] at hl ⊢
          exact hl
        · have := (lastB_before h hx).1 e he hb
          exact ih e.on this (by omega)
      rw [hr] at this
      cases this

theorem getD_true_of_false {listed : Array Bool} {j : Nat} (h : listed.getD j false = true) : listed.getD j true = true := by
  rcases Nat.lt_or_ge j listed.size with h' | h'
  · simp [h'] at h ⊢; exact h
  · simp [h']

theorem ready_full {l : List Oper} {o : Oper} (h : lastB md l o = true) {listed : Array Bool} (hs : listed.size = l.length) (hall : ∀ j, j < l.length → listed.getD j false = true) (b : Bool) :
    ∀ i, i ∈ Region.ready md (l ++ [o]).toArray (listed.push b) ↔ i = l.length ∧ b = false := by
  intro i
  rw [mem_ready]
  rcases Nat.lt_trichotomy i l.length with hi | hi | hi
  · rw [push_getD (by omega), getD_true_of_false (hall i hi)]
    simp; omega
  · subst hi
    have e1 : (l ++ [o]).toArray[l.length]? = some o := by simp
    have e2 : (listed.push b).getD l.length true = b := by rw [← hs]; simp
    rw [e1, e2]
    constructor
    · rintro ⟨hb, _⟩; exact ⟨rfl, hb⟩
    · rintro ⟨_, hb⟩
      refine ⟨hb, o, rfl, fun e he hbb => ?_⟩
      have := lastB_in h e he hbb
      rw [push_getD (by omega)]
      exact hall _ this
  · have e1 : (l ++ [o]).toArray[i]? = none := by simp; omega
    rw [e1]
    simp; omega

theorem ready_nil_of {l : List Oper} {o : Oper} (h : lastB md l o = true) {listed : Array Bool} (hs : listed.size = l.length) (hall : ∀ j, j < l.length → listed.getD j false = true) :
    Region.ready md (l ++ [o]).toArray (listed.push true) = [] := by
  cases hr : Region.ready md (l ++ [o]).toArray (listed.push true) with
  | nil => rfl
  | cons i r =>
    have := (ready_full h hs hall true i).1 (by rw [hr]; simp)
    simp at this

/-- The others in whatever order, then the last. -/
theorem wpAny_last {l : List Oper} {o : Oper} {Qa : Act → Prop} {Q : Exit → Act → World → Prop} (h : lastB md l o = true)
    (hQ : ∀ a w, C w → Qa a → wpOp P (l ++ [o]).toArray Q l.length (fun a w => Q .normal a w) a w) :
    ∀ (fuel : Nat) (listed : Array Bool) (a : Act) (w : World), listed.size = l.length → C w → wpAnyQ P md l.toArray C Qa fuel listed a → wpAny P md (l ++ [o]).toArray Q (fuel + 1) (listed.push false) a w := by
  have fin : ∀ (fuel : Nat) (listed : Array Bool) (a : Act) (w : World), listed.size = l.length → C w → Region.ready md l.toArray listed = [] → Qa a → wpAny P md (l ++ [o]).toArray Q (fuel + 1) (listed.push false) a w := by
    intro fuel listed a w hs hw hr hq
    have hall := all_listed h hs hr
    refine ⟨fun h0 => ?_, fun i hi => ?_⟩
    · have := (ready_full h hs hall false l.length).2 ⟨rfl, rfl⟩
      rw [h0] at this
      cases this
    · obtain ⟨rfl, _⟩ := (ready_full h hs hall false i).1 hi
      refine wpOp_mono (fun a' w' hk => ?_) (hQ a w hw hq)
      have e : (listed.push false).setIfInBounds l.length true = listed.push true := by rw [← hs]; exact push_set_last
      rw [e]
      exact wpAny_done (ready_nil_of h hs hall) hk fuel
  intro fuel
  induction fuel with
  | zero => exact fun listed a w hs hw hh => fin 0 listed a w hs hw hh.1 hh.2
  | succ fuel ih =>
    intro listed a w hs hw hh
    by_cases hr : Region.ready md l.toArray listed = []
    · exact fin (fuel + 1) listed a w hs hw hr (hh.1 hr)
    · refine ⟨fun h0 => ?_, fun i hi => ?_⟩
      · exfalso
        obtain ⟨j, hj⟩ := List.exists_mem_of_ne_nil _ hr
        have hlt : j < l.length := by
          obtain ⟨_, x, hx, _⟩ := mem_ready.1 hj
          have := (Array.getElem?_eq_some_iff.1 hx).1
          simpa using this
        have := (mem_ready_push h hs hlt).2 hj
        rw [h0] at this
        cases this
      · have hlt : i < l.length := by
          rcases Nat.lt_or_ge i l.length with h' | h'
          · exact h'
          · exfalso
            obtain ⟨j, hj⟩ := List.exists_mem_of_ne_nil _ hr
            obtain ⟨hju, x, hx, _⟩ := mem_ready.1 hj
            have hjl : j < l.length := by
              have := (Array.getElem?_eq_some_iff.1 hx).1
              simpa using this
            obtain ⟨hiu, y, hy, hall⟩ := mem_ready.1 hi
            have hil : i < (l ++ [o]).length := by
              have := (Array.getElem?_eq_some_iff.1 hy).1
              simpa using this
            have : i = l.length := by simp at hil; omega
            subst this
            have : y = o := by simpa using hy.symm
            subst this
            obtain ⟨e, he, hb, hej⟩ := lastB_all h hjl
            have := hall e he hb
            rw [hej, push_getD (by omega)] at this
            rw [getD_true_of_false this] at hju
            cases hju
        have hi' := (mem_ready_push h hs hlt).1 hi
        have hq := hh.2 i hi'
        have hL : (l ++ [o]).toArray[i]? = l.toArray[i]? := by simp [List.getElem?_append_left hlt]
        have hq' : qOp P (l ++ [o]).toArray C i (wpAnyQ P md l.toArray C Qa fuel (listed.setIfInBounds i true)) a := by
          unfold qOp at hq ⊢
          rw [hL]
          have hx : l.toArray[i]? = some (l[i]) := by simp
          rw [hx] at hq ⊢
          simp only at hq ⊢
          have hw' : Region.wanted l[i] (yielded (l ++ [o]).toArray a.tmps) = Region.wanted l[i] (yielded l.toArray a.tmps) := by
            unfold Region.wanted
            cases hg : (l[i]).guard with
            | none => rfl
            | some gb =>
              obtain ⟨g, b⟩ := gb
              have hgl := (lastB_before h (j := i) (by simp)).2 g b hg
              have : yielded (l ++ [o]).toArray a.tmps g = yielded l.toArray a.tmps g := by
                unfold yielded
                simp [List.getElem?_append_left hgl]
              simp only [this]
          rw [hw']
          exact hq
        have e : (listed.push false).setIfInBounds i true = (listed.setIfInBounds i true).push false := push_set (by omega)
        rw [e]
        exact wpOp_of_qOp hw (fun a' w' hw' hk => ih _ a' w' (by simpa using hs) hw' hk) hq'

theorem wp_region_last {id : Nat} {Q : Exit → Act → World → Prop} {a : Act} {w : World} {l : List Oper} {o : Oper} (hm : P.follows .mixedOrders = true) (hB : Region.lexB .any l.toArray = true) (hl : lastB .any l o = true)
    (hC : C { w with drawn := w.drawn + 1 })
    (h : wpQuiet P l.toArray C (fun a' => ∀ w', C w' → wpOp P (l ++ [o]).toArray Q l.length (fun a w => Q .normal a w) a' w') l a) : (Code.region id (l ++ [o]).toArray true).wp P Q a w := by
  simp only [Region.lexB, Bool.and_eq_true] at hB
  refine wp_region_any hm ?_
  have h1 := wpAnyQ_lex (C := C) (md := .any) hB.1 l 0 (Array.replicate l.length false) a (by simp) (by simpa using hB.2) h
  have h2 := wpAny_last (P := P) (Q := Q) hl (fun a w hw hq => hq w hw) l.length (Array.replicate l.length false) a { w with drawn := w.drawn + 1 } (by simp) hC h1
  have e : (Array.replicate l.length false).push false = Array.replicate (l ++ [o]).toArray.size false := by simp [Array.replicate_succ]
  rw [e] at h2
  have e2 : (l ++ [o]).toArray.size = l.length + 1 := by simp
  rw [e2] at h2 ⊢
  exact h2

theorem wp_region_last_lit {id n : Nat} {Q : Exit → Act → World → Prop} {a : Act} {w : World} {L : List Oper} {o : Oper} (hlen : L.length = n + 1) (ho : L[n]? = some o) (hm : P.follows .mixedOrders = true)
    (hB : Region.lexB .any (L.take n).toArray = true) (hl : lastB .any (L.take n) o = true) (hC : C { w with drawn := w.drawn + 1 })
    (h : wpQuiet P (L.take n).toArray C (fun a' => ∀ w', C w' → wpList P L.toArray Q [o] a' w') (L.take n) a) : (Code.region id L.toArray true).wp P Q a w := by
  have hL : L = L.take n ++ [o] := by
    apply List.ext_getElem?
    intro i
    rw [List.getElem?_append, List.length_take, List.getElem?_take]
    by_cases hi : i < n
    · rw [if_pos (by omega), if_pos hi]
    · rw [if_neg (by omega)]
      by_cases hi2 : i = n
      · subst hi2; rw [ho, show i - min i L.length = 0 by omega]; rfl
      · rw [List.getElem?_eq_none (by omega), List.getElem?_eq_none (by simp; omega)]
  have hn : (L.take n).length = n := by simp; omega
  have key := wp_region_last (P := P) (id := id) (Q := Q) (a := a) (w := w) hm hB hl hC
  rw [← hL, hn] at key
  refine key ?_
  have e : (fun a' => ∀ w', C w' → wpOp P L.toArray Q n (fun a w => Q .normal a w) a' w') = (fun a' => ∀ w', C w' → wpList P L.toArray Q [o] a' w') := by
    funext a'
    refine forall_congr fun w' => ?_
    have : L.toArray[n]? = some o := by simpa using ho
    unfold wpOp
    rw [this]
    rfl
  rw [e]
  exact h
end
end Go.Proofs.Ytihkmkcjjlmkhaa
