/- Sequence.Reverse: the places in the other order. No condition. -/
import Derived.Test.YtihkmkcjjlmkhaaSeq2
namespace Go.Proofs.Ytihkmkcjjlmkhaa
set_option maxRecDepth 100000
open Go.ChangeShapes Go.WideShapes Go.ChangeAt Go.RowKit Go.Deep

/-- The number at p when l places of wd numbers stand the other way about. -/
def revAt (xs : List Nat) (wd l p : Nat) : Nat := xs[(l - 1 - p / wd) * wd + p % wd]!
def curN (xs : List Nat) (wd l i : Nat) : List Nat := (List.range (l * wd)).map fun p => if p < i * wd then revAt xs wd l p else 0
def revL (xs : List Nat) (wd : Nat) : List Nat := curN xs wd (xs.length / wd) (xs.length / wd)
theorem curN_length (xs : List Nat) (wd l i : Nat) : (curN xs wd l i).length = l * wd := by simp [curN]
theorem curN_at {xs : List Nat} {wd l i p : Nat} (h : p < l * wd) : (curN xs wd l i)[p]? = some (if p < i * wd then revAt xs wd l p else 0) := by
  simp [curN, h]
theorem curN_zero (xs : List Nat) (wd l : Nat) : curN xs wd l 0 = List.replicate (l * wd) 0 := by
  apply List.ext_getElem?
  intro p
  by_cases h : p < l * wd
  · rw [curN_at h]; simp [h]
  · rw [List.getElem?_eq_none (by rw [curN_length]; omega), List.getElem?_eq_none (by simp; omega)]
theorem splice_at {α : Type} {L cs : List α} {off p : Nat} (h : off + cs.length ≤ L.length) : (splice L off cs)[p]? = if p < off then L[p]? else if p < off + cs.length then cs[p - off]? else L[p]? := by
  unfold splice
  rw [List.getElem?_append]
  have e : (L.take off).length = off := by simp; omega
  rw [e]
  by_cases h1 : p < off
  · rw [if_pos h1, if_pos h1, List.getElem?_take_of_lt h1]
  · rw [if_neg h1, if_neg h1, List.getElem?_append]
    by_cases h2 : p < off + cs.length
    · rw [if_pos (by omega), if_pos h2]
    · rw [if_neg (by omega), if_neg h2, List.getElem?_drop]
      congr 1; omega
theorem splice_map {α β : Type} (f : α → β) (L cs : List α) (off : Nat) : splice (L.map f) off (cs.map f) = (splice L off cs).map f := by simp [splice]
theorem curN_step {xs : List Nat} {wd l i : Nat} (hw : 0 < wd) (hx : xs.length = l * wd) (hi : i < l) : splice (curN xs wd l i) (i * wd) ((xs.drop ((l - 1 - i) * wd)).take wd) = curN xs wd l (i + 1) := by
  have e1 : (i + 1) * wd ≤ l * wd := Nat.mul_le_mul_right _ hi
  have e2 : (i + 1) * wd = i * wd + wd := by rw [Nat.add_mul, Nat.one_mul]
  have e3 : (l - 1 - i + 1) * wd ≤ l * wd := Nat.mul_le_mul_right _ (by omega)
  rw [Nat.add_mul, Nat.one_mul] at e3
  have hb : ((xs.drop ((l - 1 - i) * wd)).take wd).length = wd := by simp; omega
  apply List.ext_getElem?
  intro p
  rw [splice_at (by rw [hb, curN_length]; omega), hb]
  by_cases h : p < l * wd
  · rw [curN_at h, curN_at h]
    by_cases h1 : p < i * wd
    · rw [if_pos h1, if_pos h1, if_pos (by omega)]
    · rw [if_neg h1, if_neg h1]
      by_cases h2 : p < i * wd + wd
      · rw [if_pos h2, if_pos (by omega), List.getElem?_take_of_lt (by omega), List.getElem?_drop]
        have d1 : p / wd = i := by
          rw [Nat.div_eq_iff hw]; omega
        have d2 : p % wd = p - i * wd := by
          have := Nat.div_add_mod p wd
          rw [d1, Nat.mul_comm] at this; omega
        unfold revAt
        rw [d1, d2, List.getElem!_eq_getElem?_getD, List.getElem?_eq_getElem (by omega)]
        rfl
      · rw [if_neg h2, if_neg (by omega)]
  · have h1 : ¬ p < i * wd := by omega
    have h2 : ¬ p < i * wd + wd := by omega
    rw [if_neg h1, if_neg h2, List.getElem?_eq_none (by rw [curN_length]; omega), List.getElem?_eq_none (by rw [curN_length]; omega)]
theorem revL_length {xs : List Nat} {wd : Nat} (h : xs.length % wd = 0) : (revL xs wd).length = xs.length := by
  unfold revL; rw [curN_length]
  have := Nat.div_add_mod xs.length wd
  rw [Nat.mul_comm]; omega
theorem revL_at {xs : List Nat} {wd p : Nat} (h : xs.length % wd = 0) (hp : p < xs.length) : (revL xs wd)[p]? = some (revAt xs wd (xs.length / wd) p) := by
  have e := Nat.div_add_mod xs.length wd
  rw [Nat.mul_comm] at e
  have hp' : p < xs.length / wd * wd := by omega
  unfold revL
  rw [curN_at hp', if_pos hp']
theorem revL_revL {xs : List Nat} {wd : Nat} (hw : 0 < wd) (h : xs.length % wd = 0) : revL (revL xs wd) wd = xs := by
  have hl := revL_length h
  obtain ⟨l, hx⟩ : ∃ l, xs.length = l * wd := ⟨xs.length / wd, by have := Nat.div_add_mod xs.length wd; rw [Nat.mul_comm] at this; omega⟩
  have hd : xs.length / wd = l := by rw [hx]; exact Nat.mul_div_cancel _ hw
  apply List.ext_getElem?
  intro p
  by_cases hp : p < xs.length
  · rw [revL_at (by rw [hl]; exact h) (by rw [hl]; exact hp), hl, hd]
    unfold revAt
    have h1 : p / wd < l := Nat.div_lt_of_lt_mul (by rw [Nat.mul_comm]; omega)
    have h2 : p % wd < wd := Nat.mod_lt _ hw
    have e := Nat.div_add_mod p wd
    rw [Nat.mul_comm] at e
    generalize p / wd = q at *
    generalize p % wd = r at *
    have h3 : (l - 1 - q + 1) * wd ≤ l * wd := Nat.mul_le_mul_right _ (by omega)
    rw [Nat.add_mul, Nat.one_mul] at h3
    rw [List.getElem!_eq_getElem?_getD, revL_at h (by omega), hd]
    unfold revAt
    have d1 : ((l - 1 - q) * wd + r) / wd = l - 1 - q := by
      rw [Nat.mul_comm, Nat.mul_add_div hw, Nat.div_eq_of_lt h2]; rfl
    have d2 : ((l - 1 - q) * wd + r) % wd = r := by
      rw [Nat.mul_comm, Nat.mul_add_mod, Nat.mod_eq_of_lt h2]
    rw [d1, d2, show l - 1 - (l - 1 - q) = q by omega]
    rw [e, Option.getD_some, List.getElem!_eq_getElem?_getD, List.getElem?_eq_getElem hp]
    rfl
  · rw [List.getElem?_eq_none (by rw [revL_length (by rw [hl]; exact h), hl]; omega), List.getElem?_eq_none (by omega)]
theorem wrapk {k wd n : Nat} (h : k * wd + wd ≤ n) (hn : n ≤ 4000) : wrap64 (((k : Int) + 1) * (wd : Int)) = (k : Int) * (wd : Int) + (wd : Int) := by
  have e : ((k : Int) + 1) * (wd : Int) = ((k * wd + wd : Nat) : Int) := by rw [Int.add_mul, Int.one_mul]; simp
  have e2 : (k : Int) * (wd : Int) + (wd : Int) = ((k * wd + wd : Nat) : Int) := by simp
  rw [e, e2]
  generalize k * wd + wd = q at *
  unfold wrap64
  omega
theorem reverse_any {d : Int} {a : Option Addr} {n ca B : Nat} {xs : List Nat} {w : World} (ha : NumsIs w B a xs) (hB : B ≤ w.heap.size) (hn : xs.length = n) (hl : n ≤ 4000) (h0 : 0 ≤ d) (h3 : d ≤ 3) (hm : n % widthN d = 0) (hca : n ≤ ca) :
    Calls Try.prog 50 #[vSeq d a n ca] w fun e w' => ∃ g, e = .returned (vSeq d (some ⟨g, 0, none⟩) n n) ∧ w.heap.size ≤ g ∧ RowIs w' g (revL xs (widthN d)) ∧ Below w.heap.size w w' := by
  obtain ⟨wd, hwd⟩ : ∃ wd, widthN d = wd := ⟨_, rfl⟩
  have HWN := Lib.hid hwd
  have HW : Hid (widthI d = (wd : Int)) := by show _ = _; rw [← hwd]; unfold widthN widthI; split <;> (try split) <;> rfl
  have hwd3 : 2 ≤ wd ∧ wd ≤ 4 := by rw [← hwd]; unfold widthN widthI; split <;> (try split) <;> decide
  rw [hwd] at hm ⊢
  obtain ⟨l, hlq⟩ : ∃ l, n / widthN d = l := ⟨_, rfl⟩
  have hnl : n = l * wd := by
    have := Nat.div_add_mod n wd
    rw [← hlq, hwd, Nat.mul_comm]; omega
  have hln : l ≤ n := by rw [← hlq]; exact Nat.div_le_self _ _
  have HL := Lib.hid hlq
  have HNL := Lib.hid hnl
  have HA := Lib.hid ha
  have mk := make_fls n (by omega)
  have HZ : Hid (List.replicate n (fl 0) = (curN xs wd l 0).map fl) := by show _ = _; rw [curN_zero, hnl]; simp
  clear hwd hlq hnl ha
  go_enter Try.func50, Try.ntmps50
  go_wp2_with (first | (go_at_call 90; (with_reducible refine (dimension_any h0 h3 HW.out _).mono ?_); rintro e w1 ⟨rfl, hb⟩; (first | (obtain ⟨x1, rfl⟩ := LaterW.of2 hb) | (obtain ⟨x1, rfl⟩ := LaterW.of hb)); clear hb) | (go_at_call 84; (with_reducible refine (seqLength_any h0 h3 HL.out hl _).mono ?_); rintro e w1 ⟨rfl, hb⟩; (first | (obtain ⟨x1, rfl⟩ := LaterW.of2 hb) | (obtain ⟨x1, rfl⟩ := LaterW.of hb)); clear hb))
  rename LaterW _ => y1
  have hgw : w.heap.size + 2 ≤ y1.val.heap.size := by have := y1.ok.size; simp only [World.size_alloc] at this; omega
  obtain ⟨g, hg⟩ : ∃ g, g = y1.val.heap.size := ⟨_, rfl⟩
  have hgg : w.heap.size + 2 ≤ g := by rw [hg]; exact hgw
  clear hgw
  have p1 : Own y1.val w.heap.size [.int .u8 d, .slice a n ca] := (by repeat (first | (refine Own.new' _ rfl ?_; first | with_reducible rfl | (simp; done)) | with_reducible apply Own.later | with_reducible apply Own.alloc | with_reducible apply Own.drew | with_reducible apply Own.drewN | with_reducible apply Own.other))
  have p2 : Own y1.val (w.heap.size + 1) [.int .u8 0, .slice none 0 0] := (by repeat (first | (refine Own.new' _ rfl ?_; first | with_reducible rfl | (simp; done)) | with_reducible apply Own.later | with_reducible apply Own.alloc | with_reducible apply Own.drew | with_reducible apply Own.drewN | with_reducible apply Own.other))
  have hby : Below w.heap.size w y1.val := (by repeat (first | with_reducible exact Below.refl _ _ | with_reducible exact HBEL.out | with_reducible assumption | with_reducible refine Below.setCell ?_ (by first | (dsimp only; omega) | (simp; try omega)) _ | with_reducible refine LaterW.below _ ?_ | with_reducible refine below_alloc ?_ _ | with_reducible refine below_drewN' ?_ _ | with_reducible refine Below.drew ?_ | with_reducible exact below_drewN _))
  have q1 := p1.alloc (.cells (Array.replicate n (fl 0)) 36)
  have q2 := p2.alloc (.cells (Array.replicate n (fl 0)) 36)
  have hrow : RowIs (y1.val.alloc (.cells (Array.replicate n (fl 0)) 36)) g (curN xs wd l 0) := by
    unfold RowIs; rw [← HZ.out, hg, List.toArray_replicate]; exact alloc_at _ _
  have hbw := hby.alloc hby.size (.cells (Array.replicate n (fl 0)) 36)
  rw [← hg] at *
  generalize y1.val.alloc (.cells (Array.replicate n (fl 0)) 36) = W0 at *
  clear hby p1 p2 hg HZ mk
  go_loopw [6] (fun i wr => ∃ k : Nat, k ≤ l ∧ i = .int .i64 k ∧ RowIs wr g (curN xs wd l k) ∧ Own wr w.heap.size [.int .u8 d, .slice a n ca] ∧ Own wr (w.heap.size + 1) [.int .u8 0, .slice none 0 0] ∧ Below w.heap.size w wr) (fun i _ => l - (intOf i).toNat)
  case atStart => exact ⟨0, Nat.zero_le _, rfl, hrow, q1, q2, hbw⟩
  case round =>
    clear hrow q1 q2 hbw
    obtain ⟨k, hk, rfl, hrow, o1, o2, hbel⟩ := hrel
    by_cases hlt : k < l
    · have HR := Lib.hid hrow
      have HO1 := Lib.hid o1
      have HO2 := Lib.hid o2
      have HB := Lib.hid hbel
      have e1 : k * wd + wd ≤ n := by have := Nat.mul_le_mul_right wd (show k + 1 ≤ l from hlt); rw [Nat.add_mul, Nat.one_mul, ← HNL.out] at this; exact this
      obtain ⟨j, hj⟩ : ∃ j, l - 1 - k = j := ⟨_, rfl⟩
      have e2 : j * wd + wd ≤ n := by have := Nat.mul_le_mul_right wd (show j + 1 ≤ l by omega); rw [Nat.add_mul, Nat.one_mul, ← HNL.out] at this; exact this
      have e3 : (k + 1) * wd = k * wd + wd := by rw [Nat.add_mul, Nat.one_mul]
      have e4 : (j + 1) * wd = j * wd + wd := by rw [Nat.add_mul, Nat.one_mul]
      obtain ⟨b1, o1', rfl, _, _⟩ := HA.out.resolve_left (fun h => by rw [h] at hn; simp at hn; omega)
      have G1 : ∀ w', Below wr.heap.size wr w' → w'.cell? ⟨w.heap.size, 1, none⟩ = some (.slice (some ⟨b1, o1', none⟩) n ca) := fun w' h => (o1.below h o1.lt).cells.2.1
      clear hrow o1 o2 hbel
      go_wp2_with fail
      have ej : ((l : Int) - (k : Int) - 1) = (j : Int) := by omega
      rw [ej]
      refine wp_region_facts 19 (fun w' => Below wr.heap.size wr w') [fun _ _ _ v => v = .slice (some ⟨g, 0, none⟩) n n, fun _ _ _ v => v = .int .i64 k, fun _ _ _ v => v = .int .i64 wd, fun _ _ _ v => v = .int .i64 ((k * wd : Nat) : Int), fun _ _ _ v => v = .int .i64 k, fun _ _ _ v => v = .int .i64 ((k + 1 : Nat) : Int), fun _ _ _ v => v = .int .i64 wd, fun _ _ _ v => v = .int .i64 ((k * wd + wd : Nat) : Int), fun _ _ _ v => v = .slice (some ⟨g, k * wd, none⟩) wd (n - k * wd), fun _ _ _ v => v = .pointer (some ⟨w.heap.size, 1, none⟩), fun _ _ _ v => v = .slice (some ⟨b1, o1', none⟩) n ca, fun _ _ _ v => v = .int .i64 j, fun _ _ _ v => v = .int .i64 wd, fun _ _ _ v => v = .int .i64 ((j * wd : Nat) : Int), fun _ _ _ v => v = .int .i64 j, fun _ _ _ v => v = .int .i64 ((j + 1 : Nat) : Int), fun _ _ _ v => v = .int .i64 wd, fun _ _ _ v => v = .int .i64 ((j * wd + wd : Nat) : Int), fun _ _ _ v => v = .slice (some ⟨b1, o1' + j * wd, none⟩) wd (ca - j * wd)] rfl (by kernel_rfl) (Below.refl _ _).drew (fun _ _ h h' => Below.trans h (Below.mono h' h.size)) ⟨stays_val _, stays_val _, stays_val _, stays_val _, stays_val _, stays_val _, stays_val _, stays_val _, stays_val _, stays_val _, stays_val _, stays_val _, stays_val _, stays_val _, stays_val _, stays_val _, stays_val _, stays_val _, stays_val _, trivial⟩ ?steps ?rest
      case steps =>
        simp only [List.take_succ_cons, List.take_zero]
        (refine stepsOk_plain rfl (fun u lo hi w1 hw1 hd => ?_) ?_; · (refine ⟨_, .inl ⟨rfl, fun W => ?_⟩, by exact rfl⟩; simp [putAll, Act.put, List.setIfInBounds_toArray, List.set_cons_zero, List.set_cons_succ, Nat.zero_add, Nat.reduceAdd, go_sem]))
        (refine stepsOk_plain rfl (fun u lo hi w1 hw1 hd => ?_) ?_; · (refine ⟨_, .inl ⟨rfl, fun W => ?_⟩, by exact rfl⟩; simp [putAll, Act.put, List.setIfInBounds_toArray, List.set_cons_zero, List.set_cons_succ, Nat.zero_add, Nat.reduceAdd, go_sem]))
        (refine stepsOk_plain rfl (fun u lo hi w1 hw1 hd => ?_) ?_; · (refine ⟨_, .inl ⟨rfl, fun W => ?_⟩, by exact rfl⟩; simp [putAll, Act.put, List.setIfInBounds_toArray, List.set_cons_zero, List.set_cons_succ, Nat.zero_add, Nat.reduceAdd, go_sem]))
        (refine stepsOk_other rfl (fun Q u lo hi w1 hw1 hd hK => ?_) ?_; · ((have d1 := hd 1 rfl); (simp only [factAt, List.getD_cons_zero, List.getD_cons_succ] at d1); (have d2 := hd 2 rfl); (simp only [factAt, List.getD_cons_zero, List.getD_cons_succ] at d2); simp only [putAll, Act.put, List.setIfInBounds_toArray, List.set_cons_zero, List.set_cons_succ, Nat.zero_add, Nat.reduceAdd, d1, d2] at hK ⊢; go_wp2_with fail; refine hK _ _ ?_ ?_; (· exact (by repeat (first | with_reducible exact Below.refl _ _ | with_reducible assumption | with_reducible refine Below.setCell ?_ (by dsimp only; repeat (first | with_reducible exact Nat.le_refl _ | with_reducible refine Nat.le_trans ?_ (LaterW.ok _).size | rw [World.size_alloc] | rw [World.size_setCell] | rw [World.size_drew] | with_reducible refine Nat.le_succ_of_le ?_)) _ | with_reducible refine LaterW.below _ ?_ | with_reducible refine below_alloc ?_ _ | with_reducible refine below_drewN' ?_ _ | with_reducible refine Below.drew ?_))); (· exact congrArg (Value.int .i64) (by simp))))
        (refine stepsOk_plain rfl (fun u lo hi w1 hw1 hd => ?_) ?_; · (refine ⟨_, .inl ⟨rfl, fun W => ?_⟩, by exact rfl⟩; simp [putAll, Act.put, List.setIfInBounds_toArray, List.set_cons_zero, List.set_cons_succ, Nat.zero_add, Nat.reduceAdd, go_sem]))
        (refine stepsOk_other rfl (fun Q u lo hi w1 hw1 hd hK => ?_) ?_; · ((have d4 := hd 4 rfl); (simp only [factAt, List.getD_cons_zero, List.getD_cons_succ] at d4); simp only [putAll, Act.put, List.setIfInBounds_toArray, List.set_cons_zero, List.set_cons_succ, Nat.zero_add, Nat.reduceAdd, d4] at hK ⊢; go_wp2_with fail; refine hK _ _ ?_ ?_; (· exact (by repeat (first | with_reducible exact Below.refl _ _ | with_reducible assumption | with_reducible refine Below.setCell ?_ (by dsimp only; repeat (first | with_reducible exact Nat.le_refl _ | with_reducible refine Nat.le_trans ?_ (LaterW.ok _).size | rw [World.size_alloc] | rw [World.size_setCell] | rw [World.size_drew] | with_reducible refine Nat.le_succ_of_le ?_)) _ | with_reducible refine LaterW.below _ ?_ | with_reducible refine below_alloc ?_ _ | with_reducible refine below_drewN' ?_ _ | with_reducible refine Below.drew ?_))); (· exact congrArg (Value.int .i64) (by simp))))
        (refine stepsOk_plain rfl (fun u lo hi w1 hw1 hd => ?_) ?_; · (refine ⟨_, .inl ⟨rfl, fun W => ?_⟩, by exact rfl⟩; simp [putAll, Act.put, List.setIfInBounds_toArray, List.set_cons_zero, List.set_cons_succ, Nat.zero_add, Nat.reduceAdd, go_sem]))
        (refine stepsOk_other rfl (fun Q u lo hi w1 hw1 hd hK => ?_) ?_; · ((have d5 := hd 5 rfl); (simp only [factAt, List.getD_cons_zero, List.getD_cons_succ] at d5); (have d6 := hd 6 rfl); (simp only [factAt, List.getD_cons_zero, List.getD_cons_succ] at d6); simp only [putAll, Act.put, List.setIfInBounds_toArray, List.set_cons_zero, List.set_cons_succ, Nat.zero_add, Nat.reduceAdd, d5, d6] at hK ⊢; go_wp2_with fail; refine hK _ _ ?_ ?_; (· exact (by repeat (first | with_reducible exact Below.refl _ _ | with_reducible assumption | with_reducible refine Below.setCell ?_ (by dsimp only; repeat (first | with_reducible exact Nat.le_refl _ | with_reducible refine Nat.le_trans ?_ (LaterW.ok _).size | rw [World.size_alloc] | rw [World.size_setCell] | rw [World.size_drew] | with_reducible refine Nat.le_succ_of_le ?_)) _ | with_reducible refine LaterW.below _ ?_ | with_reducible refine below_alloc ?_ _ | with_reducible refine below_drewN' ?_ _ | with_reducible refine Below.drew ?_))); (· exact congrArg (Value.int .i64) (by simp; exact wrapk e1 hl))))
        (refine stepsOk_other rfl (fun Q u lo hi w1 hw1 hd hK => ?_) ?_; · ((have d0 := hd 0 rfl); (simp only [factAt, List.getD_cons_zero] at d0); (have d3 := hd 3 rfl); (simp only [factAt, List.getD_cons_zero, List.getD_cons_succ] at d3); (have d7 := hd 7 rfl); (simp only [factAt, List.getD_cons_zero, List.getD_cons_succ] at d7); simp only [putAll, Act.put, List.setIfInBounds_toArray, List.set_cons_zero, List.set_cons_succ, Nat.zero_add, Nat.reduceAdd, d0, d3, d7] at hK ⊢; go_wp2_with fail; refine hK _ _ ?_ ?_; (· exact (by repeat (first | with_reducible exact Below.refl _ _ | with_reducible assumption | with_reducible refine Below.setCell ?_ (by dsimp only; repeat (first | with_reducible exact Nat.le_refl _ | with_reducible refine Nat.le_trans ?_ (LaterW.ok _).size | rw [World.size_alloc] | rw [World.size_setCell] | rw [World.size_drew] | with_reducible refine Nat.le_succ_of_le ?_)) _ | with_reducible refine LaterW.below _ ?_ | with_reducible refine below_alloc ?_ _ | with_reducible refine below_drewN' ?_ _ | with_reducible refine Below.drew ?_))); (· exact congrArg (fun q => Value.slice _ q _) (Nat.add_sub_cancel_left _ _))))
        (refine stepsOk_other rfl (fun Q u lo hi w1 hw1 hd hK => ?_) ?_; · (simp only [putAll, Act.put, List.setIfInBounds_toArray, List.set_cons_zero, List.set_cons_succ, Nat.zero_add, Nat.reduceAdd] at hK ⊢; go_wp2_with fail; refine hK _ _ ?_ ?_; (· exact (by repeat (first | with_reducible exact Below.refl _ _ | with_reducible assumption | with_reducible refine Below.setCell ?_ (by dsimp only; repeat (first | with_reducible exact Nat.le_refl _ | with_reducible refine Nat.le_trans ?_ (LaterW.ok _).size | rw [World.size_alloc] | rw [World.size_setCell] | rw [World.size_drew] | with_reducible refine Nat.le_succ_of_le ?_)) _ | with_reducible refine LaterW.below _ ?_ | with_reducible refine below_alloc ?_ _ | with_reducible refine below_drewN' ?_ _ | with_reducible refine Below.drew ?_))); (· exact rfl)))
        (refine stepsOk_other rfl (fun Q u lo hi w1 hw1 hd hK => ?_) ?_; · ((have d9 := hd 9 rfl); (simp only [factAt, List.getD_cons_zero, List.getD_cons_succ] at d9); simp only [putAll, Act.put, List.setIfInBounds_toArray, List.set_cons_zero, List.set_cons_succ, Nat.zero_add, Nat.reduceAdd, d9] at hK ⊢; go_wp2_with fail; refine hK _ _ ?_ ?_; (· exact (by repeat (first | with_reducible exact Below.refl _ _ | with_reducible assumption | with_reducible refine Below.setCell ?_ (by dsimp only; repeat (first | with_reducible exact Nat.le_refl _ | with_reducible refine Nat.le_trans ?_ (LaterW.ok _).size | rw [World.size_alloc] | rw [World.size_setCell] | rw [World.size_drew] | with_reducible refine Nat.le_succ_of_le ?_)) _ | with_reducible refine LaterW.below _ ?_ | with_reducible refine below_alloc ?_ _ | with_reducible refine below_drewN' ?_ _ | with_reducible refine Below.drew ?_))); (· exact rfl)))
        (refine stepsOk_plain rfl (fun u lo hi w1 hw1 hd => ?_) ?_; · (refine ⟨_, .inl ⟨rfl, fun W => ?_⟩, by exact rfl⟩; simp [putAll, Act.put, List.setIfInBounds_toArray, List.set_cons_zero, List.set_cons_succ, Nat.zero_add, Nat.reduceAdd, go_sem]))
        (refine stepsOk_plain rfl (fun u lo hi w1 hw1 hd => ?_) ?_; · (refine ⟨_, .inl ⟨rfl, fun W => ?_⟩, by exact rfl⟩; simp [putAll, Act.put, List.setIfInBounds_toArray, List.set_cons_zero, List.set_cons_succ, Nat.zero_add, Nat.reduceAdd, go_sem]))
        (refine stepsOk_other rfl (fun Q u lo hi w1 hw1 hd hK => ?_) ?_; · ((have d11 := hd 11 rfl); (simp only [factAt, List.getD_cons_zero, List.getD_cons_succ] at d11); (have d12 := hd 12 rfl); (simp only [factAt, List.getD_cons_zero, List.getD_cons_succ] at d12); simp only [putAll, Act.put, List.setIfInBounds_toArray, List.set_cons_zero, List.set_cons_succ, Nat.zero_add, Nat.reduceAdd, d11, d12] at hK ⊢; go_wp2_with fail; refine hK _ _ ?_ ?_; (· exact (by repeat (first | with_reducible exact Below.refl _ _ | with_reducible assumption | with_reducible refine Below.setCell ?_ (by dsimp only; repeat (first | with_reducible exact Nat.le_refl _ | with_reducible refine Nat.le_trans ?_ (LaterW.ok _).size | rw [World.size_alloc] | rw [World.size_setCell] | rw [World.size_drew] | with_reducible refine Nat.le_succ_of_le ?_)) _ | with_reducible refine LaterW.below _ ?_ | with_reducible refine below_alloc ?_ _ | with_reducible refine below_drewN' ?_ _ | with_reducible refine Below.drew ?_))); (· exact congrArg (Value.int .i64) (by simp))))
        (refine stepsOk_plain rfl (fun u lo hi w1 hw1 hd => ?_) ?_; · (refine ⟨_, .inl ⟨rfl, fun W => ?_⟩, by exact rfl⟩; simp [putAll, Act.put, List.setIfInBounds_toArray, List.set_cons_zero, List.set_cons_succ, Nat.zero_add, Nat.reduceAdd, go_sem]))
        (refine stepsOk_other rfl (fun Q u lo hi w1 hw1 hd hK => ?_) ?_; · ((have d14 := hd 14 rfl); (simp only [factAt, List.getD_cons_zero, List.getD_cons_succ] at d14); simp only [putAll, Act.put, List.setIfInBounds_toArray, List.set_cons_zero, List.set_cons_succ, Nat.zero_add, Nat.reduceAdd, d14] at hK ⊢; go_wp2_with fail; refine hK _ _ ?_ ?_; (· exact (by repeat (first | with_reducible exact Below.refl _ _ | with_reducible assumption | with_reducible refine Below.setCell ?_ (by dsimp only; repeat (first | with_reducible exact Nat.le_refl _ | with_reducible refine Nat.le_trans ?_ (LaterW.ok _).size | rw [World.size_alloc] | rw [World.size_setCell] | rw [World.size_drew] | with_reducible refine Nat.le_succ_of_le ?_)) _ | with_reducible refine LaterW.below _ ?_ | with_reducible refine below_alloc ?_ _ | with_reducible refine below_drewN' ?_ _ | with_reducible refine Below.drew ?_))); (· exact congrArg (Value.int .i64) (by simp))))
        (refine stepsOk_plain rfl (fun u lo hi w1 hw1 hd => ?_) ?_; · (refine ⟨_, .inl ⟨rfl, fun W => ?_⟩, by exact rfl⟩; simp [putAll, Act.put, List.setIfInBounds_toArray, List.set_cons_zero, List.set_cons_succ, Nat.zero_add, Nat.reduceAdd, go_sem]))
        (refine stepsOk_other rfl (fun Q u lo hi w1 hw1 hd hK => ?_) ?_; · ((have d15 := hd 15 rfl); (simp only [factAt, List.getD_cons_zero, List.getD_cons_succ] at d15); (have d16 := hd 16 rfl); (simp only [factAt, List.getD_cons_zero, List.getD_cons_succ] at d16); simp only [putAll, Act.put, List.setIfInBounds_toArray, List.set_cons_zero, List.set_cons_succ, Nat.zero_add, Nat.reduceAdd, d15, d16] at hK ⊢; go_wp2_with fail; refine hK _ _ ?_ ?_; (· exact (by repeat (first | with_reducible exact Below.refl _ _ | with_reducible assumption | with_reducible refine Below.setCell ?_ (by dsimp only; repeat (first | with_reducible exact Nat.le_refl _ | with_reducible refine Nat.le_trans ?_ (LaterW.ok _).size | rw [World.size_alloc] | rw [World.size_setCell] | rw [World.size_drew] | with_reducible refine Nat.le_succ_of_le ?_)) _ | with_reducible refine LaterW.below _ ?_ | with_reducible refine below_alloc ?_ _ | with_reducible refine below_drewN' ?_ _ | with_reducible refine Below.drew ?_))); (· exact congrArg (Value.int .i64) (by simp; exact wrapk e2 hl))))
        (refine stepsOk_other rfl (fun Q u lo hi w1 hw1 hd hK => ?_) ?_; · ((have d10 := hd 10 rfl); (simp only [factAt, List.getD_cons_zero, List.getD_cons_succ] at d10); (have d13 := hd 13 rfl); (simp only [factAt, List.getD_cons_zero, List.getD_cons_succ] at d13); (have d17 := hd 17 rfl); (simp only [factAt, List.getD_cons_zero, List.getD_cons_succ] at d17); simp only [putAll, Act.put, List.setIfInBounds_toArray, List.set_cons_zero, List.set_cons_succ, Nat.zero_add, Nat.reduceAdd, d10, d13, d17] at hK ⊢; go_wp2_with fail; refine hK _ _ ?_ ?_; (· exact (by repeat (first | with_reducible exact Below.refl _ _ | with_reducible assumption | with_reducible refine Below.setCell ?_ (by dsimp only; repeat (first | with_reducible exact Nat.le_refl _ | with_reducible refine Nat.le_trans ?_ (LaterW.ok _).size | rw [World.size_alloc] | rw [World.size_setCell] | rw [World.size_drew] | with_reducible refine Nat.le_succ_of_le ?_)) _ | with_reducible refine LaterW.below _ ?_ | with_reducible refine below_alloc ?_ _ | with_reducible refine below_drewN' ?_ _ | with_reducible refine Below.drew ?_))); (· exact congrArg (fun q => Value.slice _ q _) (Nat.add_sub_cancel_left _ _))))
        exact stepsOk_nil
      case rest =>
        (intro Q' hQ' u lo hi w1 hw1 hf hdj hsz; (have d0 := hf 0 (by decide)); (simp only [factAt, List.getD_cons_zero] at d0); (have d1 := hf 1 (by decide)); (simp only [factAt, List.getD_cons_zero, List.getD_cons_succ] at d1); (have d2 := hf 2 (by decide)); (simp only [factAt, List.getD_cons_zero, List.getD_cons_succ] at d2); (have d3 := hf 3 (by decide)); (simp only [factAt, List.getD_cons_zero, List.getD_cons_succ] at d3); (have d4 := hf 4 (by decide)); (simp only [factAt, List.getD_cons_zero, List.getD_cons_succ] at d4); (have d5 := hf 5 (by decide)); (simp only [factAt, List.getD_cons_zero, List.getD_cons_succ] at d5); (have d6 := hf 6 (by decide)); (simp only [factAt, List.getD_cons_zero, List.getD_cons_succ] at d6); (have d7 := hf 7 (by decide)); (simp only [factAt, List.getD_cons_zero, List.getD_cons_succ] at d7); (have d8 := hf 8 (by decide)); (simp only [factAt, List.getD_cons_zero, List.getD_cons_succ] at d8); (have d9 := hf 9 (by decide)); (simp only [factAt, List.getD_cons_zero, List.getD_cons_succ] at d9); (have d10 := hf 10 (by decide)); (simp only [factAt, List.getD_cons_zero, List.getD_cons_succ] at d10); (have d11 := hf 11 (by decide)); (simp only [factAt, List.getD_cons_zero, List.getD_cons_succ] at d11); (have d12 := hf 12 (by decide)); (simp only [factAt, List.getD_cons_zero, List.getD_cons_succ] at d12); (have d13 := hf 13 (by decide)); (simp only [factAt, List.getD_cons_zero, List.getD_cons_succ] at d13); (have d14 := hf 14 (by decide)); (simp only [factAt, List.getD_cons_zero, List.getD_cons_succ] at d14); (have d15 := hf 15 (by decide)); (simp only [factAt, List.getD_cons_zero, List.getD_cons_succ] at d15); (have d16 := hf 16 (by decide)); (simp only [factAt, List.getD_cons_zero, List.getD_cons_succ] at d16); (have d17 := hf 17 (by decide)); (simp only [factAt, List.getD_cons_zero, List.getD_cons_succ] at d17); (have d18 := hf 18 (by decide)); (simp only [factAt, List.getD_cons_zero, List.getD_cons_succ] at d18); simp only [List.take_succ_cons, List.take_zero, List.drop_succ_cons, List.drop_zero, putAll, Act.put, List.setIfInBounds_toArray, List.set_cons_zero, List.set_cons_succ, Nat.zero_add, Nat.reduceAdd, d0, d1, d2, d3, d4, d5, d6, d7, d8, d9, d10, d11, d12, d13, d14, d15, d16, d17, d18])
        have hb1 : Below w.heap.size w w1 := HB.out.trans (Below.mono hw1 HB.out.size)
        have r1 := HR.out.below hw1 HR.out.lt
        have hjl : j * wd + wd ≤ xs.length := by omega
        refine wpList_copy_splice rfl (.tmp 34) (.tmp 44) 22 22 rfl 36 Try.underlying22 sizeFl _ _ _ _ _ _ rfl rfl g (k * wd) ((curN xs wd l k).map fl) 36 r1 (((xs.drop (j * wd)).take wd).map fl) ?c2 ?c3 ?c4 ?c5 (w.heap.size + 2) w1 (Below.refl _ _) hgg ?_
        case c2 => rw [List.length_map, List.length_take, List.length_drop, show Nat.min wd wd = wd from Nat.min_self _]; omega
        case c3 =>
          intro h0m
          obtain ⟨ad, ea, ec⟩ := news_of (HA.out.below hb1 hB) hjl (by omega)
          cases ea
          refine ⟨rfl, _, rfl, fun q v hq => ?_⟩
          have := ec q v hq
          rwa [Addr.add_lit (o := o1')] at this
        case c4 => rw [List.length_map, List.length_map, curN_length, List.length_take, List.length_drop, ← HNL.out]; omega
        case c5 => intro v hv; obtain ⟨x, _, rfl⟩ := List.mem_map.1 hv; rfl
        intro w2 hg2 hb2
        have r2 : RowIs w2 g (curN xs wd l (k + 1)) := by
          have h := hg2.out
          rw [splice_map, ← hj, curN_step (by omega) (by rw [hn]; exact HNL.out) hlt] at h
          exact h
        have s1 := (HO1.out.below hw1 HO1.out.lt).below hb2 (by omega)
        have s2 := (HO2.out.below hw1 HO2.out.lt).below hb2 (by omega)
        have s3 : Below w.heap.size w w2 := hb1.trans (Below.mono hb2 (by omega))
        apply hQ'
        dsimp only [Act.put]
        clear d0 d1 d2 d3 d4 d5 d6 d7 d8 d9 d10 d11 d12 d13 d14 d15 d16 d17 d18 hf hdj hsz hb2 hg2 r1 hw1 hb1 u lo hi HR HO1 HO2 HB G1
        go_wp2_with fail
        exact ⟨⟨k + 1, hlt, by go_num, r2, s1, s2, s3⟩, by simp [intOf]; omega⟩
    · obtain rfl : k = l := by omega
      have HR := Lib.hid hrow
      have HO2 := Lib.hid o2
      have HB := Lib.hid hbel
      have g0 := o1.cells.1
      have l1 := o1.lt
      clear hrow o1 o2 hbel
      go_wp2_with (refine wpList_store_mid rfl 70 (.tmp 2) (.tmp 49) rfl (w.heap.size + 1) 0 _ rfl rfl (Own.there HO2.out (Nat.le_refl 2)) (by kernel_rfl) (by kernel_rfl) ?_)
      have oR := Own.sets (vs := [.int .u8 d, .slice (some ⟨g, 0, none⟩) n n]) HO2.out rfl
      have hR := RowIs.setCells (C := w.heap.size + 1) (by omega) HR.out 0 [.int .u8 d, .slice (some ⟨g, 0, none⟩) n n]
      have hbl := Below.setCells (Nat.le_succ _) [.int .u8 d, .slice (some ⟨g, 0, none⟩) n n] 0 _ HB.out
      have hfin : RowIs (wr.setCells (w.heap.size + 1) 0 [.int .u8 d, .slice (some ⟨g, 0, none⟩) n n]) g (revL xs wd) := by
        unfold revL
        rw [hn, ← HWN.out, HL.out, HWN.out]
        exact hR
      generalize wr.setCells (w.heap.size + 1) 0 [.int .u8 d, .slice (some ⟨g, 0, none⟩) n n] = W9 at *
      refine ret_agg [.int .u8 d, .slice (some ⟨g, 0, none⟩) n n] rfl rfl rfl (by kernel_rfl) (by kernel_rfl) (oR).cells (⟨g, rfl, by omega, hfin, hbl⟩)
end Go.Proofs.Ytihkmkcjjlmkhaa
