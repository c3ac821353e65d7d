/- FnSeqReverseTwice holds of every geometry: a small line's sequence that is reversed twice is what it was. No condition. -/
import Derived.Test.YtihkmkcjjlmkhaaSeq5
import Derived.Test.YtihkmkcjjlmkhaaFrame
import Derived.Test.YtihkmkcjjlmkhaaFacts
namespace Go.Proofs.Ytihkmkcjjlmkhaa
set_option maxRecDepth 100000
open Go.ChangeShapes Go.WideShapes Go.ChangeAt Go.RowKit Go.Deep

/-- A line of its own memory. -/
def LineOf (k d : Int) (m : Nat) (xs : List Nat) (w : World) (v : Value) : Prop := ∃ a c, v = vGeom k d a m c none 0 0 ∧ NumsIs w w.heap.size a xs ∧ HeadOk a m c
section
variable {k d : Int} {m : Nat} {xs : List Nat} {w : World} {v : Value}
theorem LineOf.eq (h : LineOf k d m xs w v) : v = vGeom k d (Exists.choose h) m (Exists.choose (Exists.choose_spec h)) none 0 0 := (Exists.choose_spec (Exists.choose_spec h)).1
theorem LineOf.nums (h : LineOf k d m xs w v) : NumsIs w w.heap.size (Exists.choose h) xs := (Exists.choose_spec (Exists.choose_spec h)).2.1
theorem LineOf.head (h : LineOf k d m xs w v) : HeadOk (Exists.choose h) m (Exists.choose (Exists.choose_spec h)) := (Exists.choose_spec (Exists.choose_spec h)).2.2
end
theorem stays_line {C : World → Prop} (k d : Int) (m : Nat) (xs : List Nat) : Stays C (fun w _ _ v => LineOf k d m xs w v) :=
  fun _ _ _ _ _ _ hb _ ⟨a, c, h1, h2, h3⟩ => ⟨a, c, h1, (h2.below hb (Nat.le_refl _)).mono hb.size, h3⟩
theorem has_small {x : Int} (h0 : -1000 ≤ x) (h1 : x ≤ 1000) : IntKind.i64.has x := by
  have e1 : IntKind.i64.min = -9223372036854775808 := by decide
  have e2 : IntKind.i64.max = 9223372036854775807 := by decide
  unfold IntKind.has
  omega
theorem leafIs {w : World} {B : Nat} {k d : Int} {a : Option Addr} {m c : Nat} {xs : List Nat} (n : Nat) (hk : IntKind.i64.has k) (hd : IntKind.i64.has d) (hx : ∀ x ∈ xs, x < 2 ^ 64) (hl : xs.length = m) (hm : m ≤ 4000) (ha : NumsIs w B a xs) (hh : HeadOk a m c) :
    GeomIs w B (n + 1) (.mk k d xs []) [.int .i64 k, .int .i64 d, .slice a m c, .slice none 0 0] :=
  ⟨hk, hd, hx, by simp only [GT.nums]; omega, by simp [GT.kids], a, none, c, 0, by simp [GT.kind, GT.dim, GT.nums, GT.kids, hl], ha, by simp only [GT.nums]; rw [hl]; exact hh, ⟨Nat.le_refl _, fun _ => rfl⟩, .inl rfl⟩
theorem revTwice_line {d : Int} {a kk : Option Addr} {na ca nk ck m : Nat} {Ys Rs : List Nat} {pn : Nat} {pc : List Value} (w : World)
    (HF' : Hid (∀ W', Calls Try.prog 11 #[vGeom 2 d a na ca kk nk ck] W' fun e w' => e = .returned (.bool true) ∧ Below W'.heap.size W' w'))
    (HGL : Hid (∀ W', Below w.heap.size w W' → Calls Try.prog 12 #[vGeom 2 d a na ca kk nk ck] W' fun e w' => ∃ v, e = .returned (.tuple #[v, .bool true]) ∧ w'.ownsRow W'.heap.size 119 4 v pn pc ∧ Below W'.heap.size W' w'))
    (HSR : Hid (∀ W', Below w.heap.size w W' → Calls Try.prog 14 #[vGeom 2 d a na ca kk nk ck] W' fun e w' => ∃ a' c', e = .returned (vGeom 2 (d % 4) a' m c' none 0 0) ∧ NumsIs w' w'.heap.size a' Rs ∧ HeadOk a' m c' ∧ Fresh a' W'.heap.size ∧ Below W'.heap.size W' w'))
    (HS2 : Hid (∀ W' a' c', NumsIs W' W'.heap.size a' Rs → Calls Try.prog 14 #[vGeom 2 (d % 4) a' m c' none 0 0] W' fun e w' => ∃ a' c', e = .returned (vGeom 2 (d % 4) a' m c' none 0 0) ∧ NumsIs w' w'.heap.size a' Ys ∧ HeadOk a' m c' ∧ Fresh a' W'.heap.size ∧ Below W'.heap.size W' w'))
    (HNEW : Hid (∀ W', Below w.heap.size w W' → Calls Try.prog 15 #[vGeom 2 d a na ca kk nk ck] W' fun e w' => ∃ a' c', e = .returned (vGeom 2 (d % 4) a' m c' none 0 0) ∧ NumsIs w' w'.heap.size a' Ys ∧ HeadOk a' m c' ∧ Fresh a' W'.heap.size ∧ Below W'.heap.size W' w'))
    (HSAME : Hid (∀ W' a1 c1 a2 c2, NumsIs W' W'.heap.size a1 Ys → HeadOk a1 m c1 → NumsIs W' W'.heap.size a2 Ys → HeadOk a2 m c2 → Calls Try.prog 13 #[vGeom 2 (d % 4) a1 m c1 none 0 0, vGeom 2 (d % 4) a2 m c2 none 0 0] W' fun e w' => e = .returned (.bool true) ∧ Below W'.heap.size W' w')) :
    Calls Try.prog 3 #[vGeom 2 d a na ca kk nk ck] w fun e w' => e = .returned (.bool true) ∧ Below w.heap.size w w' := by
  go_enter Try.func3, Try.ntmps3
  go_wp2_with ((go_at_call 11; (with_reducible refine (HF'.out _).mono ?_); rintro e w1 ⟨rfl, hb⟩; (first | (obtain ⟨x1, rfl⟩ := LaterW.of2 hb) | (obtain ⟨x1, rfl⟩ := LaterW.of hb)); clear hb))
  have hbel : Below w.heap.size w x1.val := (by repeat (first | with_reducible exact Below.refl _ _ | with_reducible exact HBEL.out | with_reducible assumption | with_reducible refine Below.setCell ?_ (by first | (dsimp only; omega) | (simp; try omega)) _ | with_reducible refine LaterW.below _ ?_ | with_reducible refine below_alloc ?_ _ | with_reducible refine below_drewN' ?_ _ | with_reducible refine Below.drew ?_ | with_reducible exact below_drewN _))
  refine (HGL.out _ hbel).mono ?_
  rintro e w2 ⟨v, rfl, hv, hb⟩
  clear hv
  have hb2 := hbel.trans (Below.mono hb hbel.size)
  have o1 : Own x1.val w.heap.size [.int .i64 2, .int .i64 d, .slice a na ca, .slice kk nk ck] := (by repeat (first | (exact Own.new' _ rfl (by simp; done)) | with_reducible apply Own.later | with_reducible apply Own.alloc | with_reducible apply Own.drew | with_reducible apply Own.drewN | with_reducible apply Own.other))
  have o2 := o1.below hb o1.lt
  have HB := Lib.hid hb2
  clear hb hbel o1 x1 hb2 HGL
  go_wp2_with fail
  have G0 : ∀ w', Below w2.heap.size w2 w' → w'.cell? ⟨w.heap.size, 0, none⟩ = some (.int .i64 2) := fun w' h => (o2.below h o2.lt).cells.1
  have G1 : ∀ w', Below w2.heap.size w2 w' → w'.cell? ⟨w.heap.size, 1, none⟩ = some (.int .i64 d) := fun w' h => (o2.below h o2.lt).cells.2.1
  have G2 : ∀ w', Below w2.heap.size w2 w' → w'.cell? ⟨w.heap.size, 2, none⟩ = some (.slice a na ca) := fun w' h => (o2.below h o2.lt).cells.2.2.1
  have G3 : ∀ w', Below w2.heap.size w2 w' → w'.cell? ⟨w.heap.size, 3, none⟩ = some (.slice kk nk ck) := fun w' h => (o2.below h o2.lt).cells.2.2.2.1
  clear o2
  refine wp_region_facts 8 (fun w' => Below w2.heap.size w2 w') [fun _ _ _ v => v = .bool true, fun _ _ _ v => v = .bool false, fun _ _ _ v => v = .bool false, fun _ _ _ v => v = vGeom 2 d a na ca kk nk ck, fun w _ _ v => LineOf 2 (d % 4) m Rs w v, fun w _ _ v => LineOf 2 (d % 4) m Ys w v, fun _ _ _ v => v = vGeom 2 d a na ca kk nk ck, fun w _ _ v => LineOf 2 (d % 4) m Ys w v] rfl (by kernel_rfl) (Below.refl _ _).drew (fun _ _ h h' => Below.trans h (Below.mono h' h.size)) ⟨stays_val _, stays_val _, stays_val _, stays_val _, stays_line _ _ _ _, stays_line _ _ _ _, stays_val _, stays_line _ _ _ _, trivial⟩ ?steps ?rest
  case steps =>
    simp only [List.take_succ_cons, List.take_zero]
    (refine stepsOk_plain rfl (fun u lo hi w1 hw1 hd => ?_) ?_; · (refine ⟨_, .inl ⟨rfl, fun W => ?_⟩, by exact rfl⟩; simp [putAll, Act.put, List.setIfInBounds_toArray, List.set_cons_zero, List.set_cons_succ, Nat.zero_add, Nat.reduceAdd, go_sem]))
    (refine stepsOk_plain rfl (fun u lo hi w1 hw1 hd => ?_) ?_; · ((have d0 := hd 0 rfl); (simp only [factAt, List.getD_cons_zero] at d0); refine ⟨_, .inl ⟨rfl, fun W => ?_⟩, by exact rfl⟩; simp [putAll, Act.put, List.setIfInBounds_toArray, List.set_cons_zero, List.set_cons_succ, Nat.zero_add, Nat.reduceAdd, d0, go_sem]))
    (refine stepsOk_plain rfl (fun u lo hi w1 hw1 hd => ?_) ?_; · ((have d1 := hd 1 rfl); (simp only [factAt, List.getD_cons_zero, List.getD_cons_succ] at d1); refine ⟨_, .inl ⟨rfl, fun W => ?_⟩, by exact rfl⟩; simp [putAll, Act.put, List.setIfInBounds_toArray, List.set_cons_zero, List.set_cons_succ, Nat.zero_add, Nat.reduceAdd, d1, go_sem]))
    (refine stepsOk_other rfl (fun Q u lo hi w1 hw1 hd hK => ?_) ?_; · ((have d2 := hd 2 rfl); (simp only [factAt, List.getD_cons_zero, List.getD_cons_succ] at d2); simp only [putAll, Act.put, List.setIfInBounds_toArray, List.set_cons_zero, List.set_cons_succ, Nat.zero_add, Nat.reduceAdd, d2] at hK ⊢; go_wp2_with fail; refine hK _ _ ?_ ?_; (· exact (by repeat (first | with_reducible exact Below.refl _ _ | with_reducible assumption | with_reducible refine Below.setCell ?_ (by dsimp only; repeat (first | with_reducible exact Nat.le_refl _ | with_reducible refine Nat.le_trans ?_ (LaterW.ok _).size | rw [World.size_alloc] | rw [World.size_setCell] | rw [World.size_drew] | with_reducible refine Nat.le_succ_of_le ?_)) _ | with_reducible refine LaterW.below _ ?_ | with_reducible refine below_alloc ?_ _ | with_reducible refine below_drewN' ?_ _ | with_reducible refine Below.drew ?_))); (· exact rfl)))
    (refine stepsOk_other rfl (fun Q u lo hi w1 hw1 hd hK => ?_) ?_; · ((have d2 := hd 2 rfl); (simp only [factAt, List.getD_cons_zero, List.getD_cons_succ] at d2); (have d3 := hd 3 rfl); (simp only [factAt, List.getD_cons_zero, List.getD_cons_succ] at d3); simp only [putAll, Act.put, List.setIfInBounds_toArray, List.set_cons_zero, List.set_cons_succ, Nat.zero_add, Nat.reduceAdd, d2, d3] at hK ⊢; go_wp2_with (go_at_call 14; refine (HSR.out _ (HB.out.trans (Below.mono hw1 HB.out.size))).mono ?_; rintro e w3 ⟨a', c', rfl, q1, q2, q3, hb⟩); refine hK _ _ ?_ ?_; (· exact (by repeat (first | with_reducible exact Below.refl _ _ | with_reducible assumption | with_reducible refine Below.setCell ?_ (by dsimp only; repeat (first | with_reducible exact Nat.le_refl _ | with_reducible refine Nat.le_trans ?_ (LaterW.ok _).size | rw [World.size_alloc] | rw [World.size_setCell] | rw [World.size_drew] | with_reducible refine Nat.le_succ_of_le ?_)) _ | with_reducible refine LaterW.below _ ?_ | with_reducible refine below_alloc ?_ _ | with_reducible refine below_drewN' ?_ _ | with_reducible refine Below.drew ?_))); (· exact ⟨_, _, rfl, q1, q2⟩)))
    (refine stepsOk_other rfl (fun Q u lo hi w1 hw1 hd hK => ?_) ?_; · ((have d2 := hd 2 rfl); (simp only [factAt, List.getD_cons_zero, List.getD_cons_succ] at d2); (have d4 := hd 4 rfl); (simp only [factAt, List.getD_cons_zero, List.getD_cons_succ] at d4); (have e4 := LineOf.eq d4); (have n4 := LineOf.nums d4); (have h4 := LineOf.head d4); (generalize Exists.choose (Exists.choose_spec d4) = C4 at e4 h4); (generalize Exists.choose d4 = A4 at e4 n4 h4); (clear d4); (rename _ = _ => d4); simp only [putAll, Act.put, List.setIfInBounds_toArray, List.set_cons_zero, List.set_cons_succ, Nat.zero_add, Nat.reduceAdd, d2, d4] at hK ⊢; go_wp2_with (go_at_call 14; refine (HS2.out _ _ _ n4).mono ?_; rintro e w3 ⟨a', c', rfl, q1, q2, q3, hb⟩); refine hK _ _ ?_ ?_; (· exact (by repeat (first | with_reducible exact Below.refl _ _ | with_reducible assumption | with_reducible refine Below.setCell ?_ (by dsimp only; repeat (first | with_reducible exact Nat.le_refl _ | with_reducible refine Nat.le_trans ?_ (LaterW.ok _).size | rw [World.size_alloc] | rw [World.size_setCell] | rw [World.size_drew] | with_reducible refine Nat.le_succ_of_le ?_)) _ | with_reducible refine LaterW.below _ ?_ | with_reducible refine below_alloc ?_ _ | with_reducible refine below_drewN' ?_ _ | with_reducible refine Below.drew ?_))); (· exact ⟨_, _, rfl, q1, q2⟩)))
    (refine stepsOk_other rfl (fun Q u lo hi w1 hw1 hd hK => ?_) ?_; · ((have d2 := hd 2 rfl); (simp only [factAt, List.getD_cons_zero, List.getD_cons_succ] at d2); simp only [putAll, Act.put, List.setIfInBounds_toArray, List.set_cons_zero, List.set_cons_succ, Nat.zero_add, Nat.reduceAdd, d2] at hK ⊢; go_wp2_with fail; refine hK _ _ ?_ ?_; (· exact (by repeat (first | with_reducible exact Below.refl _ _ | with_reducible assumption | with_reducible refine Below.setCell ?_ (by dsimp only; repeat (first | with_reducible exact Nat.le_refl _ | with_reducible refine Nat.le_trans ?_ (LaterW.ok _).size | rw [World.size_alloc] | rw [World.size_setCell] | rw [World.size_drew] | with_reducible refine Nat.le_succ_of_le ?_)) _ | with_reducible refine LaterW.below _ ?_ | with_reducible refine below_alloc ?_ _ | with_reducible refine below_drewN' ?_ _ | with_reducible refine Below.drew ?_))); (· exact rfl)))
    (refine stepsOk_other rfl (fun Q u lo hi w1 hw1 hd hK => ?_) ?_; · ((have d2 := hd 2 rfl); (simp only [factAt, List.getD_cons_zero, List.getD_cons_succ] at d2); (have d6 := hd 6 rfl); (simp only [factAt, List.getD_cons_zero, List.getD_cons_succ] at d6); simp only [putAll, Act.put, List.setIfInBounds_toArray, List.set_cons_zero, List.set_cons_succ, Nat.zero_add, Nat.reduceAdd, d2, d6] at hK ⊢; go_wp2_with (go_at_call 15; refine (HNEW.out _ (HB.out.trans (Below.mono hw1 HB.out.size))).mono ?_; rintro e w3 ⟨a', c', rfl, q1, q2, q3, hb⟩); refine hK _ _ ?_ ?_; (· exact (by repeat (first | with_reducible exact Below.refl _ _ | with_reducible assumption | with_reducible refine Below.setCell ?_ (by dsimp only; repeat (first | with_reducible exact Nat.le_refl _ | with_reducible refine Nat.le_trans ?_ (LaterW.ok _).size | rw [World.size_alloc] | rw [World.size_setCell] | rw [World.size_drew] | with_reducible refine Nat.le_succ_of_le ?_)) _ | with_reducible refine LaterW.below _ ?_ | with_reducible refine below_alloc ?_ _ | with_reducible refine below_drewN' ?_ _ | with_reducible refine Below.drew ?_))); (· exact ⟨_, _, rfl, q1, q2⟩)))
    exact stepsOk_nil
  case rest =>
    (intro Q' hQ' u lo hi w1 hw1 hf hdj hsz; (have d0 := hf 0 (by decide)); (simp only [factAt, List.getD_cons_zero] at d0); (have d1 := hf 1 (by decide)); (simp only [factAt, List.getD_cons_zero, List.getD_cons_succ] at d1); (have d2 := hf 2 (by decide)); (simp only [factAt, List.getD_cons_zero, List.getD_cons_succ] at d2); (have d3 := hf 3 (by decide)); (simp only [factAt, List.getD_cons_zero, List.getD_cons_succ] at d3); (have d4 := hf 4 (by decide)); (simp only [factAt, List.getD_cons_zero, List.getD_cons_succ] at d4); (have e4 := LineOf.eq d4); (have n4 := LineOf.nums d4); (have h4 := LineOf.head d4); (generalize Exists.choose (Exists.choose_spec d4) = C4 at e4 h4); (generalize Exists.choose d4 = A4 at e4 n4 h4); (clear d4); (rename _ = _ => d4); (have d5 := hf 5 (by decide)); (simp only [factAt, List.getD_cons_zero, List.getD_cons_succ] at d5); (have e5 := LineOf.eq d5); (have n5 := LineOf.nums d5); (have h5 := LineOf.head d5); (generalize Exists.choose (Exists.choose_spec d5) = C5 at e5 h5); (generalize Exists.choose d5 = A5 at e5 n5 h5); (clear d5); (rename _ = _ => d5); (have d6 := hf 6 (by decide)); (simp only [factAt, List.getD_cons_zero, List.getD_cons_succ] at d6); (have d7 := hf 7 (by decide)); (simp only [factAt, List.getD_cons_zero, List.getD_cons_succ] at d7); (have e7 := LineOf.eq d7); (have n7 := LineOf.nums d7); (have h7 := LineOf.head d7); (generalize Exists.choose (Exists.choose_spec d7) = C7 at e7 h7); (generalize Exists.choose d7 = A7 at e7 n7 h7); (clear d7); (rename _ = _ => d7); simp only [List.take_succ_cons, List.take_zero, List.drop_succ_cons, List.drop_zero, putAll, Act.put, List.setIfInBounds_toArray, List.set_cons_zero, List.set_cons_succ, Nat.zero_add, Nat.reduceAdd, d0, d1, d2, d3, d4, d5, d6, d7])
    go_wp2_with (go_at_call 13; refine (HSAME.out _ _ _ _ _ n5 h5 n7 h7).mono ?_; rintro e w3 ⟨rfl, hb⟩)
    go_ret
    exact ⟨rfl, HB.out.trans (Below.mono (hw1.trans (Below.mono hb hw1.size)) HB.out.size)⟩
theorem revTwice_walk {n : Nat} {g : GT} {cs : List Value} (w : World) (hg : GeomIs w w.heap.size n g cs) : Calls Try.prog 3 #[.agg cs.toArray] w fun e w' => e = .returned (.bool true) ∧ Below w.heap.size w w' := by
  cases n with
  | zero => exact hg.elim
  | succ n =>
  have hg0 := hg
  obtain ⟨k, d, xs, ks⟩ := g
  obtain ⟨hk, hd, hx, l1, l2, a, kk, ca, ck, rfl, ha, hca, hck, _⟩ := hg
  simp only [GT.kind, GT.dim, GT.nums, GT.kids] at *
  obtain ⟨na, hna⟩ : ∃ na, xs.length = na := ⟨_, rfl⟩
  obtain ⟨nk, hnk⟩ : ∃ nk, ks.length = nk := ⟨_, rfl⟩
  rw [hna] at hca hg0 l1 ⊢
  rw [hnk] at hck hg0 l2 ⊢
  have HG := Lib.hid hg0
  have HF := fun {r : Bool} (h : fitsB na nk = r) (w : World) => zzFits2_any k d a kk ca ck h l1 l2 w
  cases hfit : fitsB na nk
  · have H := Lib.hid hfit
    have HF' := Lib.hid (fun w => HF H.out w)
    clear hg0 ha hca hck hfit HF
    go_enter Try.func3, Try.ntmps3
    go_wp2_with ((go_at_call 11; (with_reducible refine (HF'.out _).mono ?_); rintro e w1 ⟨rfl, hb⟩; (first | (obtain ⟨x1, rfl⟩ := LaterW.of2 hb) | (obtain ⟨x1, rfl⟩ := LaterW.of hb)); clear hb))
    go_ret
    exact ⟨rfl, (by repeat (first | with_reducible exact Below.refl _ _ | with_reducible exact HBEL.out | with_reducible assumption | with_reducible refine Below.setCell ?_ (by first | (dsimp only; omega) | (simp; try omega)) _ | with_reducible refine LaterW.below _ ?_ | with_reducible refine below_alloc ?_ _ | with_reducible refine below_drewN' ?_ _ | with_reducible refine Below.drew ?_ | with_reducible exact below_drewN _))⟩
  · have H := Lib.hid hfit
    have HF' := Lib.hid (fun w => HF H.out w)
    cases hline : (smallB (n + 1) (.mk k d xs ks) && decide (k = 2))
    · have HL := Lib.hid hline
      clear hg0 ha hca hck hfit HF hline
      go_enter Try.func3, Try.ntmps3
      go_wp2_with ((go_at_call 11; (with_reducible refine (HF'.out _).mono ?_); rintro e w1 ⟨rfl, hb⟩; (first | (obtain ⟨x1, rfl⟩ := LaterW.of2 hb) | (obtain ⟨x1, rfl⟩ := LaterW.of hb)); clear hb))
      have hbel : Below w.heap.size w x1.val := (by repeat (first | with_reducible exact Below.refl _ _ | with_reducible exact HBEL.out | with_reducible assumption | with_reducible refine Below.setCell ?_ (by first | (dsimp only; omega) | (simp; try omega)) _ | with_reducible refine LaterW.below _ ?_ | with_reducible refine below_alloc ?_ _ | with_reducible refine below_drewN' ?_ _ | with_reducible refine Below.drew ?_ | with_reducible exact below_drewN _))
      refine (gLine_not (HG.out.below (C := w.heap.size) hbel (Nat.le_refl _)) hbel.size HL.out).mono ?_
      rintro e w2 ⟨rfl, hb⟩
      have hb2 := hbel.trans (Below.mono hb hbel.size)
      clear hb hbel HG x1
      go_wp2_with fail
      ((first | refine wp_region_later2 (by kernel_rfl) (by kernel_rfl) ?_ | refine wp_region_later (by kernel_rfl) (by kernel_rfl) ?_); (repeat (go_big_quiet_step (fail))); refine wpQuiet_nil ?_; rintro _ ⟨x1, rfl⟩)
      go_wp2_with fail
      go_ret
      exact ⟨rfl, LaterW.below _ hb2⟩
    · rw [Bool.and_eq_true, decide_eq_true_eq] at hline
      obtain ⟨hsm, rfl⟩ := hline
      have hl2 := nums_small hsm
      have h0 : 0 ≤ d % 4 := by omega
      have h3 : d % 4 ≤ 3 := by omega
      obtain ⟨m, hm⟩ : ∃ m, na / widthN (d % 4) * widthN (d % 4) = m := ⟨_, rfl⟩
      have hmn : m ≤ na := by have := Nat.div_mul_le_self na (widthN (d % 4)); omega
      have hmm : m % widthN (d % 4) = 0 := by rw [← hm]; exact mod_full _ _
      have hmdiv : m / widthN (d % 4) * widthN (d % 4) = m := by
        have := Nat.div_add_mod m (widthN (d % 4)); rw [Nat.mul_comm]; omega
      have hwd : 0 < widthN (d % 4) := by have := width_sum h0 h3; omega
      obtain ⟨Ys, hYs⟩ : ∃ Ys, xs.take m = Ys := ⟨_, rfl⟩
      have hYl : Ys.length = m := by rw [← hYs]; simp; omega
      have hYx : ∀ x ∈ Ys, x < 2 ^ 64 := fun x hx' => hx x (List.mem_of_mem_take (by rw [hYs]; exact hx'))
      have hRl : (revL Ys (widthN (d % 4))).length = m := by rw [revL_length (by rw [hYl]; exact hmm), hYl]
      have hRR : revL (revL Ys (widthN (d % 4))) (widthN (d % 4)) = Ys := revL_revL hwd (by rw [hYl]; exact hmm)
      have HSR : Hid (∀ W', Below w.heap.size w W' → Calls Try.prog 14 #[vGeom 2 d a na ca kk nk ck] W' fun e w' => ∃ a' c', e = .returned (vGeom 2 (d % 4) a' m c' none 0 0) ∧ NumsIs w' w'.heap.size a' (revL Ys (widthN (d % 4))) ∧ HeadOk a' m c' ∧ Fresh a' W'.heap.size ∧ Below W'.heap.size W' w') := fun W' h => by
        have := seqReverse_any (kk := kk) (nk := nk) (ck := ck) (ca := ca) (ha.below h (Nat.le_refl _)) h.size hna (by omega) hm
        rwa [hYs] at this
      have HS2 : Hid (∀ W' a' c', NumsIs W' W'.heap.size a' (revL Ys (widthN (d % 4))) → Calls Try.prog 14 #[vGeom 2 (d % 4) a' m c' none 0 0] W' fun e w' => ∃ a' c', e = .returned (vGeom 2 (d % 4) a' m c' none 0 0) ∧ NumsIs w' w'.heap.size a' Ys ∧ HeadOk a' m c' ∧ Fresh a' W'.heap.size ∧ Below W'.heap.size W' w') := fun W' a' c' h => by
        have e4 : d % 4 % 4 = d % 4 := by omega
        have := seqReverse_any (d := d % 4) (kk := none) (nk := 0) (ck := 0) (ca := c') (m := m) h (Nat.le_refl _) hRl (by omega) (by rw [e4]; exact hmdiv)
        rwa [e4, List.take_of_length_le (by omega), hRR] at this
      have HNEW : Hid (∀ W', Below w.heap.size w W' → Calls Try.prog 15 #[vGeom 2 d a na ca kk nk ck] W' fun e w' => ∃ a' c', e = .returned (vGeom 2 (d % 4) a' m c' none 0 0) ∧ NumsIs w' w'.heap.size a' Ys ∧ HeadOk a' m c' ∧ Fresh a' W'.heap.size ∧ Below W'.heap.size W' w') := fun W' h => by
        have := newLine_any (d := d) (kk := kk) (nk := nk) (ck := ck) (ha.below h (Nat.le_refl _)) h.size hna (by omega) hca
        rw [hm, hYs] at this
        exact this
      have HSAME : Hid (∀ W' a1 c1 a2 c2, NumsIs W' W'.heap.size a1 Ys → HeadOk a1 m c1 → NumsIs W' W'.heap.size a2 Ys → HeadOk a2 m c2 → Calls Try.prog 13 #[vGeom 2 (d % 4) a1 m c1 none 0 0, vGeom 2 (d % 4) a2 m c2 none 0 0] W' fun e w' => e = .returned (.bool true) ∧ Below W'.heap.size W' w') := fun W' a1 c1 a2 c2 q1 q2 q3 q4 =>
        sameGeom_any 1 (.mk 2 (d % 4) Ys []) _ _ W'.heap.size W' (leafIs 0 (has_small (by omega) (by omega)) (has_small (by omega) (by omega)) hYx hYl (by omega) q1 q2) (leafIs 0 (has_small (by omega) (by omega)) (has_small (by omega) (by omega)) hYx hYl (by omega) q3 q4) (Nat.le_refl _)
      have HGL : Hid (∀ W', Below w.heap.size w W' → Calls Try.prog 12 #[vGeom 2 d a na ca kk nk ck] W' fun e w' => ∃ v, e = .returned (.tuple #[v, .bool true]) ∧ w'.ownsRow W'.heap.size 119 4 v (placesOf (xs.take m) (d % 4)).length (plCells (placesOf (xs.take m) (d % 4))) ∧ Below W'.heap.size W' w') := fun W' h =>
        gLine_line (GeomIs.below h (Nat.le_refl _) hg0) h.size hsm (ha.below h (Nat.le_refl _)) hna (by omega) hca hm
      exact revTwice_line w HF' HGL HSR HS2 HNEW HSAME

set_option maxRecDepth 100000 in
theorem fnSeqReverseTwice_lifted (os : Os) (started : os.Started) (H : Type) (enc : TypeId × Value → H) :
    ReturnsInHanded {} Try.checked os 3 .any (Rows.fnSeqReverseTwiceSpec.pre6 enc Try.prog Try.f3 Rows.fnSeqReverseTwiceRow.domain false) (Rows.fnSeqReverseTwiceSpec.post enc Try.prog Try.f3 false true false false) := by
  refine returnsInHanded_of_change (C := Try.checked) own started (by kernel_rfl) Try.func3
    (ChangeSpec.witness6 (enc := enc) (C := Try.checked) false ⟨#[], #[.agg #[.int .i64 0, .int .i64 0, .slice none 0 0, .slice none 0 0]], []⟩ 8 (by kernel_rfl) (by kernel_rfl) (by kernel_rfl) (by kernel_rfl)) ?_
  intro W base args ds gs before hval0 hW _ _
  have hval : ∀ (j : Nat) t v, Try.f3.params[j]? = some t → args[j]? = some v → Value.okWide Try.prog W .any base t v := hval0
  have hW' := hW
  obtain ⟨p, q, hA0, hV, rfl, _, _⟩ := hW
  have hA : DataW.TrodAll enc Try.prog W 0 (fun _ => true) true Try.f3.params.toList args.toList ds p := hA0
  rw [Try.params3] at hA hval
  obtain ⟨v0, vs0, d0, ds0, p0, q0, hargs, rfl, rfl, h0, r0⟩ := trodAll_cons hA
  obtain ⟨rfl, rfl, rfl⟩ := trodAll_nil r0
  obtain rfl : args = #[v0] := by cases args; simp_all
  obtain ⟨rfl, rfl⟩ := trodVars_none hV
  have lt0 : ∀ x ∈ p0, x.block < W.heap.size := by obtain ⟨m, hm⟩ := h0; exact DataW.trod_lt m _ _ _ hm
  have ok0 := hval 0 25 v0 rfl rfl
  clear hA0 hval0
  obtain ⟨cs, rfl, _, _⟩ := okWide_cells (n := 4) (ts := [3, 3, 22, 23]) Try.underlying25 (by kernel_rfl) (by kernel_rfl) ok0
  have hk := h0
  obtain ⟨fuel, hf⟩ := hk
  obtain ⟨g, hg⟩ := open_geom (by simpa [Value.cells] using hf)
  refine (revTwice_walk W hg).mono fun e W' ⟨he, bel⟩ => ?_
  subst he
  exact ⟨_, rfl, _, _, _, [], _, [], hW', trodAll_mk1 (shut_bool Try.underlying4 _), (trodAll_cons_mk (Below.trod laidOut (by kernel_rfl) (of_decide_eq_true (by kernel_rfl)) h0 bel lt0) trodAll_mk0), rfl, bel.frame _, fun h => by cases h⟩
theorem fnSeqReverseTwice_proved : Rows.FnSeqReverseTwiceSaid :=
  OpenClaim.holds_of_wide 3 Try.f3 rfl rfl rfl rfl rfl rfl rfl ⟨rfl, rfl, rfl, rfl, rfl⟩ rfl rfl rfl rfl rfl (by kernel_rfl) Try.func3 (by kernel_rfl)
    (of_decide_eq_true (by kernel_rfl)) (by unfold Func.isWrapper; first | (rw [if_pos (by decide +kernel)]; kernel_rfl) | (rw [if_neg (by decide +kernel)]; exact ⟨rfl, rfl⟩))
    (fun os started H enc _ => fnSeqReverseTwice_lifted os started H enc)
#print axioms fnSeqReverseTwice_proved
end Go.Proofs.Ytihkmkcjjlmkhaa
