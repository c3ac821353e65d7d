/- FnPointForce holds of every geometry and number: a small point under another type of coordinates has 0 for numbers that come in, and keeps the others. No condition. -/
import Derived.Test.YtihkmkcjjlmkhaaForce
import Derived.Test.YtihkmkcjjlmkhaaFrame
namespace Go.Proofs.Ytihkmkcjjlmkhaa
set_option maxRecDepth 100000
open Go.ChangeShapes Go.WideShapes Go.ChangeAt Go.RowKit Go.Deep

theorem kForce_true {k d e dm : Int} {a kk : Option Addr} {na ca nk ck m m1 : Nat} {Zs Ys : List Nat} {v1 : Value} (w : World) (h1 : LineOf k e m Zs w v1)
    (HNEW : Hid (∀ W', Below w.heap.size w W' → Calls Try.prog 15 #[vGeom k d a na ca kk nk ck] W' fun r w' => ∃ v, r = .returned v ∧ LineOf k dm m1 Ys w' v ∧ Below W'.heap.size W' w'))
    (HFOR : Hid (∀ W' v, LineOf k dm m1 Ys W' v → Calls Try.prog 53 #[v, .int .i64 e] W' fun r w' => ∃ v, r = .returned v ∧ LineOf k e m Zs w' v ∧ Below W'.heap.size W' w'))
    (HSAME : Hid (∀ W' v v', LineOf k e m Zs W' v → LineOf k e m Zs W' v' → Calls Try.prog 13 #[v, v'] W' fun r w' => r = .returned (.bool true) ∧ Below W'.heap.size W' w')) :
    Calls Try.prog 17 #[v1, vGeom k d a na ca kk nk ck, .int .i64 e] w fun r w' => r = .returned (.bool true) ∧ Below w.heap.size w w' := by
  obtain ⟨a1, c1, rfl, n1, hh1⟩ := h1
  have HN1 := Lib.hid n1
  have HH1 := Lib.hid hh1
  clear n1 hh1
  go_enter Try.func17, Try.ntmps17
  go_wp2_with fail
  have o3 : Own ((w.alloc (.cells #[.int .i64 k, .int .i64 e, .slice a1 m c1, .slice none 0 0] 25)).alloc (.cells #[.int .i64 k, .int .i64 d, .slice a na ca, .slice kk nk ck] 25)) w.heap.size [.int .i64 k, .int .i64 e, .slice a1 m c1, .slice none 0 0] := (by repeat (first | (exact Own.new' _ rfl (by simp; done)) | with_reducible apply Own.later | with_reducible apply Own.alloc | with_reducible apply Own.drew | with_reducible apply Own.drewN | with_reducible apply Own.other))
  have o4 : Own ((w.alloc (.cells #[.int .i64 k, .int .i64 e, .slice a1 m c1, .slice none 0 0] 25)).alloc (.cells #[.int .i64 k, .int .i64 d, .slice a na ca, .slice kk nk ck] 25)) (w.heap.size + 1) [.int .i64 k, .int .i64 d, .slice a na ca, .slice kk nk ck] := (by repeat (first | (exact Own.new' _ rfl (by simp; done)) | with_reducible apply Own.later | with_reducible apply Own.alloc | with_reducible apply Own.drew | with_reducible apply Own.drewN | with_reducible apply Own.other))
  have hbel : Below w.heap.size w ((w.alloc (.cells #[.int .i64 k, .int .i64 e, .slice a1 m c1, .slice none 0 0] 25)).alloc (.cells #[.int .i64 k, .int .i64 d, .slice a na ca, .slice kk nk ck] 25)) := (by repeat (first | with_reducible exact Below.refl _ _ | with_reducible exact HBEL.out | with_reducible assumption | with_reducible refine Below.setCell ?_ (by first | (dsimp only; omega) | (simp; try omega)) _ | with_reducible refine LaterW.below _ ?_ | with_reducible refine below_alloc ?_ _ | with_reducible refine below_drewN' ?_ _ | with_reducible refine Below.drew ?_ | with_reducible exact below_drewN _))
  have HB := Lib.hid hbel
  generalize ((w.alloc (.cells #[.int .i64 k, .int .i64 e, .slice a1 m c1, .slice none 0 0] 25)).alloc (.cells #[.int .i64 k, .int .i64 d, .slice a na ca, .slice kk nk ck] 25)) = w0 at *
  have G0 : ∀ w', Below w0.heap.size w0 w' → w'.cell? ⟨w.heap.size, 0, none⟩ = some (.int .i64 k) := fun w' h => (o3.below h o3.lt).cells.1
  have G1 : ∀ w', Below w0.heap.size w0 w' → w'.cell? ⟨w.heap.size, 1, none⟩ = some (.int .i64 e) := fun w' h => (o3.below h o3.lt).cells.2.1
  have G2 : ∀ w', Below w0.heap.size w0 w' → w'.cell? ⟨w.heap.size, 2, none⟩ = some (.slice a1 m c1) := fun w' h => (o3.below h o3.lt).cells.2.2.1
  have G3 : ∀ w', Below w0.heap.size w0 w' → w'.cell? ⟨w.heap.size, 3, none⟩ = some (.slice none 0 0) := fun w' h => (o3.below h o3.lt).cells.2.2.2.1
  have K0 : ∀ w', Below w0.heap.size w0 w' → w'.cell? ⟨w.heap.size + 1, 0, none⟩ = some (.int .i64 k) := fun w' h => (o4.below h o4.lt).cells.1
  have K1 : ∀ w', Below w0.heap.size w0 w' → w'.cell? ⟨w.heap.size + 1, 1, none⟩ = some (.int .i64 d) := fun w' h => (o4.below h o4.lt).cells.2.1
  have K2 : ∀ w', Below w0.heap.size w0 w' → w'.cell? ⟨w.heap.size + 1, 2, none⟩ = some (.slice a na ca) := fun w' h => (o4.below h o4.lt).cells.2.2.1
  have K3 : ∀ w', Below w0.heap.size w0 w' → w'.cell? ⟨w.heap.size + 1, 3, none⟩ = some (.slice kk nk ck) := fun w' h => (o4.below h o4.lt).cells.2.2.2.1
  clear o3 o4 hbel
  refine wp_region_facts 5 (fun w' => Below w0.heap.size w0 w') [fun _ _ _ v => v = vGeom k e a1 m c1 none 0 0, fun _ _ _ v => v = vGeom k d a na ca kk nk ck, fun w _ _ v => LineOf k dm m1 Ys w v, fun _ _ _ v => v = .int .i64 e, fun w _ _ v => LineOf k e m Zs w v] rfl (by kernel_rfl) (Below.refl _ _).drew (fun _ _ h h' => Below.trans h (Below.mono h' h.size)) ⟨stays_val _, stays_val _, stays_line _ _ _ _, stays_val _, stays_line _ _ _ _, trivial⟩ ?steps ?rest
  case steps =>
    simp only [List.take_succ_cons, List.take_zero]
    (refine stepsOk_other rfl (fun Q u lo hi w1 hw1 hd hK => ?_) ?_; · (simp only [putAll, Act.put, List.setIfInBounds_toArray, List.set_cons_zero, List.set_cons_succ, Nat.zero_add, Nat.reduceAdd] at hK ⊢; go_wp2_with fail; refine hK _ _ ?_ ?_; (· exact (by repeat (first | with_reducible exact Below.refl _ _ | with_reducible assumption | with_reducible refine Below.setCell ?_ (by dsimp only; repeat (first | with_reducible exact Nat.le_refl _ | with_reducible refine Nat.le_trans ?_ (LaterW.ok _).size | rw [World.size_alloc] | rw [World.size_setCell] | rw [World.size_drew] | with_reducible refine Nat.le_succ_of_le ?_)) _ | with_reducible refine LaterW.below _ ?_ | with_reducible refine below_alloc ?_ _ | with_reducible refine below_drewN' ?_ _ | with_reducible refine Below.drew ?_))); (· exact rfl)))
    (refine stepsOk_other rfl (fun Q u lo hi w1 hw1 hd hK => ?_) ?_; · (simp only [putAll, Act.put, List.setIfInBounds_toArray, List.set_cons_zero, List.set_cons_succ, Nat.zero_add, Nat.reduceAdd] at hK ⊢; go_wp2_with fail; refine hK _ _ ?_ ?_; (· exact (by repeat (first | with_reducible exact Below.refl _ _ | with_reducible assumption | with_reducible refine Below.setCell ?_ (by dsimp only; repeat (first | with_reducible exact Nat.le_refl _ | with_reducible refine Nat.le_trans ?_ (LaterW.ok _).size | rw [World.size_alloc] | rw [World.size_setCell] | rw [World.size_drew] | with_reducible refine Nat.le_succ_of_le ?_)) _ | with_reducible refine LaterW.below _ ?_ | with_reducible refine below_alloc ?_ _ | with_reducible refine below_drewN' ?_ _ | with_reducible refine Below.drew ?_))); (· exact rfl)))
    (refine stepsOk_other rfl (fun Q u lo hi w1 hw1 hd hK => ?_) ?_; · ((have d1 := hd 1 rfl); (simp only [factAt, List.getD_cons_zero, List.getD_cons_succ] at d1); simp only [putAll, Act.put, List.setIfInBounds_toArray, List.set_cons_zero, List.set_cons_succ, Nat.zero_add, Nat.reduceAdd, d1] at hK ⊢; go_wp2_with (go_at_call 15; refine (HNEW.out _ (HB.out.trans (Below.mono hw1 HB.out.size))).mono ?_; rintro r w3 ⟨v, rfl, q1, hb⟩); refine hK _ _ ?_ ?_; (· exact (by repeat (first | with_reducible exact Below.refl _ _ | with_reducible assumption | with_reducible refine Below.setCell ?_ (by dsimp only; repeat (first | with_reducible exact Nat.le_refl _ | with_reducible refine Nat.le_trans ?_ (LaterW.ok _).size | rw [World.size_alloc] | rw [World.size_setCell] | rw [World.size_drew] | with_reducible refine Nat.le_succ_of_le ?_)) _ | with_reducible refine LaterW.below _ ?_ | with_reducible refine below_alloc ?_ _ | with_reducible refine below_drewN' ?_ _ | with_reducible refine Below.drew ?_))); (· exact q1)))
    (refine stepsOk_plain rfl (fun u lo hi w1 hw1 hd => ?_) ?_; · (refine ⟨_, .inl ⟨rfl, fun W => ?_⟩, by exact rfl⟩; simp [putAll, Act.put, List.setIfInBounds_toArray, List.set_cons_zero, List.set_cons_succ, Nat.zero_add, Nat.reduceAdd, go_sem]))
    (refine stepsOk_other rfl (fun Q u lo hi w1 hw1 hd hK => ?_) ?_; · ((have d2 := hd 2 rfl); (simp only [factAt, List.getD_cons_zero, List.getD_cons_succ] at d2); (have e2 := LineOf.eq d2); (have n2 := LineOf.nums d2); (have h2 := LineOf.head d2); (generalize Exists.choose (Exists.choose_spec d2) = C2 at e2 h2); (generalize Exists.choose d2 = A2 at e2 n2 h2); (clear d2); (rename _ = _ => d2); (have d3 := hd 3 rfl); (simp only [factAt, List.getD_cons_zero, List.getD_cons_succ] at d3); simp only [putAll, Act.put, List.setIfInBounds_toArray, List.set_cons_zero, List.set_cons_succ, Nat.zero_add, Nat.reduceAdd, d2, d3] at hK ⊢; go_wp2_with (go_at_call 53; refine (HFOR.out _ _ ⟨_, _, rfl, n2, h2⟩).mono ?_; rintro r w3 ⟨v, rfl, q1, hb⟩); refine hK _ _ ?_ ?_; (· exact (by repeat (first | with_reducible exact Below.refl _ _ | with_reducible assumption | with_reducible refine Below.setCell ?_ (by dsimp only; repeat (first | with_reducible exact Nat.le_refl _ | with_reducible refine Nat.le_trans ?_ (LaterW.ok _).size | rw [World.size_alloc] | rw [World.size_setCell] | rw [World.size_drew] | with_reducible refine Nat.le_succ_of_le ?_)) _ | with_reducible refine LaterW.below _ ?_ | with_reducible refine below_alloc ?_ _ | with_reducible refine below_drewN' ?_ _ | with_reducible refine Below.drew ?_))); (· exact q1)))
    exact stepsOk_nil
  case rest =>
    (intro Q' hQ' u lo hi w1 hw1 hf hdj hsz; (have d0 := hf 0 (by decide)); (simp only [factAt, List.getD_cons_zero] at d0); (have d1 := hf 1 (by decide)); (simp only [factAt, List.getD_cons_zero, List.getD_cons_succ] at d1); (have d2 := hf 2 (by decide)); (simp only [factAt, List.getD_cons_zero, List.getD_cons_succ] at d2); (have d3 := hf 3 (by decide)); (simp only [factAt, List.getD_cons_zero, List.getD_cons_succ] at d3); (have d4 := hf 4 (by decide)); (simp only [factAt, List.getD_cons_zero, List.getD_cons_succ] at d4); (have e4 := LineOf.eq d4); (have n4 := LineOf.nums d4); (have h4 := LineOf.head d4); (generalize Exists.choose (Exists.choose_spec d4) = C4 at e4 h4); (generalize Exists.choose d4 = A4 at e4 n4 h4); (clear d4); (rename _ = _ => d4); simp only [List.take_succ_cons, List.take_zero, List.drop_succ_cons, List.drop_zero, putAll, Act.put, List.setIfInBounds_toArray, List.set_cons_zero, List.set_cons_succ, Nat.zero_add, Nat.reduceAdd, d0, d4])
    have n1 := (HN1.out.below (HB.out.trans (Below.mono hw1 HB.out.size)) (Nat.le_refl _)).mono (HB.out.trans (Below.mono hw1 HB.out.size)).size
    go_wp2_with (go_at_call 13; refine (HSAME.out _ _ _ ⟨_, _, rfl, n1, HH1.out⟩ ⟨_, _, rfl, n4, h4⟩).mono ?_; rintro r w3 ⟨rfl, hb⟩)
    go_ret
    exact ⟨rfl, HB.out.trans (Below.mono (hw1.trans (Below.mono hb hw1.size)) HB.out.size)⟩
set_option maxHeartbeats 600000 in
theorem pointForce_true {k d e : Int} {a kk : Option Addr} {na ca nk ck m : Nat} {Zs : List Nat} (w : World)
    (HF' : Hid (∀ W', Calls Try.prog 11 #[vGeom k d a na ca kk nk ck] W' fun e w' => e = .returned (.bool true) ∧ Below W'.heap.size W' w'))
    (HKD : Hid (∀ W', Below w.heap.size w W' → Calls Try.prog 16 #[vGeom k d a na ca kk nk ck, .int .i64 1, .int .i64 e] W' fun e w' => e = .returned (.bool true) ∧ Below W'.heap.size W' w'))
    (HPF : Hid (∀ W', Below w.heap.size w W' → Calls Try.prog 18 #[vGeom k d a na ca kk nk ck, .int .i64 e] W' fun r w' => ∃ v, r = .returned v ∧ LineOf k e m Zs w' v ∧ Below W'.heap.size W' w'))
    (HKF : Hid (∀ W' v, Below w.heap.size w W' → LineOf k e m Zs W' v → Calls Try.prog 17 #[v, vGeom k d a na ca kk nk ck, .int .i64 e] W' fun r w' => r = .returned (.bool true) ∧ Below W'.heap.size W' w')) :
    Calls Try.prog 4 #[vGeom k d a na ca kk nk ck, .int .i64 e] w fun e w' => e = .returned (.bool true) ∧ Below w.heap.size w w' := by
  go_enter Try.func4, Try.ntmps4
  go_wp2_with ((go_at_call 11; (with_reducible refine (HF'.out _).mono ?_); rintro e w1 ⟨rfl, hb⟩; (first | (obtain ⟨x1, rfl⟩ := LaterW.of2 hb) | (obtain ⟨x1, rfl⟩ := LaterW.of hb)); clear hb))
  have o1 : Own x1.val w.heap.size [.int .i64 k, .int .i64 d, .slice a na ca, .slice kk nk ck] := (by repeat (first | (exact Own.new' _ rfl (by simp; done)) | with_reducible apply Own.later | with_reducible apply Own.alloc | with_reducible apply Own.drew | with_reducible apply Own.drewN | with_reducible apply Own.other))
  have hbel : Below w.heap.size w x1.val := (by repeat (first | with_reducible exact Below.refl _ _ | with_reducible exact HBEL.out | with_reducible assumption | with_reducible refine Below.setCell ?_ (by first | (dsimp only; omega) | (simp; try omega)) _ | with_reducible refine LaterW.below _ ?_ | with_reducible refine below_alloc ?_ _ | with_reducible refine below_drewN' ?_ _ | with_reducible refine Below.drew ?_ | with_reducible exact below_drewN _))
  have HB := Lib.hid hbel
  generalize x1.val = w0 at *
  clear x1
  have G0 : ∀ w', Below w0.heap.size w0 w' → w'.cell? ⟨w.heap.size, 0, none⟩ = some (.int .i64 k) := fun w' h => (o1.below h o1.lt).cells.1
  have G1 : ∀ w', Below w0.heap.size w0 w' → w'.cell? ⟨w.heap.size, 1, none⟩ = some (.int .i64 d) := fun w' h => (o1.below h o1.lt).cells.2.1
  have G2 : ∀ w', Below w0.heap.size w0 w' → w'.cell? ⟨w.heap.size, 2, none⟩ = some (.slice a na ca) := fun w' h => (o1.below h o1.lt).cells.2.2.1
  have G3 : ∀ w', Below w0.heap.size w0 w' → w'.cell? ⟨w.heap.size, 3, none⟩ = some (.slice kk nk ck) := fun w' h => (o1.below h o1.lt).cells.2.2.2.1
  clear o1 hbel
  refine wp_region_facts 10 (fun w' => Below w0.heap.size w0 w') [fun _ _ _ v => v = vGeom k d a na ca kk nk ck, fun _ _ _ v => v = .int .i64 e, fun _ _ _ v => v = .bool true, fun _ _ _ v => v = .bool false, fun _ _ _ v => v = .bool false, fun _ _ _ v => v = vGeom k d a na ca kk nk ck, fun _ _ _ v => v = .int .i64 e, fun w _ _ v => LineOf k e m Zs w v, fun _ _ _ v => v = vGeom k d a na ca kk nk ck, fun _ _ _ v => v = .int .i64 e] rfl (by kernel_rfl) (Below.refl _ _).drew (fun _ _ h h' => Below.trans h (Below.mono h' h.size)) ⟨stays_val _, stays_val _, stays_val _, stays_val _, stays_val _, stays_val _, stays_val _, stays_line _ _ _ _, stays_val _, stays_val _, trivial⟩ ?steps ?rest
  case steps =>
    simp only [List.take_succ_cons, List.take_zero]
    (refine stepsOk_other rfl (fun Q u lo hi w1 hw1 hd hK => ?_) ?_; · (simp only [putAll, Act.put, List.setIfInBounds_toArray, List.set_cons_zero, List.set_cons_succ, Nat.zero_add, Nat.reduceAdd] at hK ⊢; go_wp2_with fail; refine hK _ _ ?_ ?_; (· exact (by repeat (first | with_reducible exact Below.refl _ _ | with_reducible assumption | with_reducible refine Below.setCell ?_ (by dsimp only; repeat (first | with_reducible exact Nat.le_refl _ | with_reducible refine Nat.le_trans ?_ (LaterW.ok _).size | rw [World.size_alloc] | rw [World.size_setCell] | rw [World.size_drew] | with_reducible refine Nat.le_succ_of_le ?_)) _ | with_reducible refine LaterW.below _ ?_ | with_reducible refine below_alloc ?_ _ | with_reducible refine below_drewN' ?_ _ | with_reducible refine Below.drew ?_))); (· exact rfl)))
    (refine stepsOk_plain rfl (fun u lo hi w1 hw1 hd => ?_) ?_; · (refine ⟨_, .inl ⟨rfl, fun W => ?_⟩, by exact rfl⟩; simp [putAll, Act.put, List.setIfInBounds_toArray, List.set_cons_zero, List.set_cons_succ, Nat.zero_add, Nat.reduceAdd, go_sem]))
    (refine stepsOk_other rfl (fun Q u lo hi w1 hw1 hd hK => ?_) ?_; · ((have d0 := hd 0 rfl); (simp only [factAt, List.getD_cons_zero] at d0); (have d1 := hd 1 rfl); (simp only [factAt, List.getD_cons_zero, List.getD_cons_succ] at d1); simp only [putAll, Act.put, List.setIfInBounds_toArray, List.set_cons_zero, List.set_cons_succ, Nat.zero_add, Nat.reduceAdd, d0, d1] at hK ⊢; go_wp2_with (go_at_call 16; refine (HKD.out _ (HB.out.trans (Below.mono hw1 HB.out.size))).mono ?_; rintro r w3 ⟨rfl, hb⟩); refine hK _ _ ?_ ?_; (· exact (by repeat (first | with_reducible exact Below.refl _ _ | with_reducible assumption | with_reducible refine Below.setCell ?_ (by dsimp only; repeat (first | with_reducible exact Nat.le_refl _ | with_reducible refine Nat.le_trans ?_ (LaterW.ok _).size | rw [World.size_alloc] | rw [World.size_setCell] | rw [World.size_drew] | with_reducible refine Nat.le_succ_of_le ?_)) _ | with_reducible refine LaterW.below _ ?_ | with_reducible refine below_alloc ?_ _ | with_reducible refine below_drewN' ?_ _ | with_reducible refine Below.drew ?_))); (· exact rfl)))
    (refine stepsOk_plain rfl (fun u lo hi w1 hw1 hd => ?_) ?_; · ((have d2 := hd 2 rfl); (simp only [factAt, List.getD_cons_zero, List.getD_cons_succ] at d2); refine ⟨_, .inl ⟨rfl, fun W => ?_⟩, by exact rfl⟩; simp [putAll, Act.put, List.setIfInBounds_toArray, List.set_cons_zero, List.set_cons_succ, Nat.zero_add, Nat.reduceAdd, d2, go_sem]))
    (refine stepsOk_plain rfl (fun u lo hi w1 hw1 hd => ?_) ?_; · ((have d3 := hd 3 rfl); (simp only [factAt, List.getD_cons_zero, List.getD_cons_succ] at d3); refine ⟨_, .inl ⟨rfl, fun W => ?_⟩, by exact rfl⟩; simp [putAll, Act.put, List.setIfInBounds_toArray, List.set_cons_zero, List.set_cons_succ, Nat.zero_add, Nat.reduceAdd, d3, go_sem]))
    (refine stepsOk_other rfl (fun Q u lo hi w1 hw1 hd hK => ?_) ?_; · ((have d4 := hd 4 rfl); (simp only [factAt, List.getD_cons_zero, List.getD_cons_succ] at d4); simp only [putAll, Act.put, List.setIfInBounds_toArray, List.set_cons_zero, List.set_cons_succ, Nat.zero_add, Nat.reduceAdd, d4] at hK ⊢; go_wp2_with fail; refine hK _ _ ?_ ?_; (· exact (by repeat (first | with_reducible exact Below.refl _ _ | with_reducible assumption | with_reducible refine Below.setCell ?_ (by dsimp only; repeat (first | with_reducible exact Nat.le_refl _ | with_reducible refine Nat.le_trans ?_ (LaterW.ok _).size | rw [World.size_alloc] | rw [World.size_setCell] | rw [World.size_drew] | with_reducible refine Nat.le_succ_of_le ?_)) _ | with_reducible refine LaterW.below _ ?_ | with_reducible refine below_alloc ?_ _ | with_reducible refine below_drewN' ?_ _ | with_reducible refine Below.drew ?_))); (· exact rfl)))
    (refine stepsOk_plain rfl (fun u lo hi w1 hw1 hd => ?_) ?_; · ((have d4 := hd 4 rfl); (simp only [factAt, List.getD_cons_zero, List.getD_cons_succ] at d4); refine ⟨_, .inl ⟨?_, fun W => ?_⟩, by exact rfl⟩; (· simp [Region.wanted, yielded, putAll, Act.put, List.setIfInBounds_toArray, List.set_cons_zero, List.set_cons_succ, Nat.zero_add, Nat.reduceAdd, d4, go_sem]); simp [putAll, Act.put, List.setIfInBounds_toArray, List.set_cons_zero, List.set_cons_succ, Nat.zero_add, Nat.reduceAdd, d4, go_sem]))
    (refine stepsOk_other rfl (fun Q u lo hi w1 hw1 hd hK => ?_) ?_; · ((have d4 := hd 4 rfl); (simp only [factAt, List.getD_cons_zero, List.getD_cons_succ] at d4); (have d5 := hd 5 rfl); (simp only [factAt, List.getD_cons_zero, List.getD_cons_succ] at d5); (have d6 := hd 6 rfl); (simp only [factAt, List.getD_cons_zero, List.getD_cons_succ] at d6); simp only [putAll, Act.put, List.setIfInBounds_toArray, List.set_cons_zero, List.set_cons_succ, Nat.zero_add, Nat.reduceAdd, d4, d5, d6] at hK ⊢; go_wp2_with (go_at_call 18; refine (HPF.out _ (HB.out.trans (Below.mono hw1 HB.out.size))).mono ?_; rintro r w3 ⟨v, rfl, q1, hb⟩); refine hK _ _ ?_ ?_; (· exact (by repeat (first | with_reducible exact Below.refl _ _ | with_reducible assumption | with_reducible refine Below.setCell ?_ (by dsimp only; repeat (first | with_reducible exact Nat.le_refl _ | with_reducible refine Nat.le_trans ?_ (LaterW.ok _).size | rw [World.size_alloc] | rw [World.size_setCell] | rw [World.size_drew] | with_reducible refine Nat.le_succ_of_le ?_)) _ | with_reducible refine LaterW.below _ ?_ | with_reducible refine below_alloc ?_ _ | with_reducible refine below_drewN' ?_ _ | with_reducible refine Below.drew ?_))); (· exact q1)))
    (refine stepsOk_other rfl (fun Q u lo hi w1 hw1 hd hK => ?_) ?_; · ((have d4 := hd 4 rfl); (simp only [factAt, List.getD_cons_zero, List.getD_cons_succ] at d4); simp only [putAll, Act.put, List.setIfInBounds_toArray, List.set_cons_zero, List.set_cons_succ, Nat.zero_add, Nat.reduceAdd, d4] at hK ⊢; go_wp2_with fail; refine hK _ _ ?_ ?_; (· exact (by repeat (first | with_reducible exact Below.refl _ _ | with_reducible assumption | with_reducible refine Below.setCell ?_ (by dsimp only; repeat (first | with_reducible exact Nat.le_refl _ | with_reducible refine Nat.le_trans ?_ (LaterW.ok _).size | rw [World.size_alloc] | rw [World.size_setCell] | rw [World.size_drew] | with_reducible refine Nat.le_succ_of_le ?_)) _ | with_reducible refine LaterW.below _ ?_ | with_reducible refine below_alloc ?_ _ | with_reducible refine below_drewN' ?_ _ | with_reducible refine Below.drew ?_))); (· exact rfl)))
    (refine stepsOk_plain rfl (fun u lo hi w1 hw1 hd => ?_) ?_; · ((have d4 := hd 4 rfl); (simp only [factAt, List.getD_cons_zero, List.getD_cons_succ] at d4); refine ⟨_, .inl ⟨?_, fun W => ?_⟩, by exact rfl⟩; (· simp [Region.wanted, yielded, putAll, Act.put, List.setIfInBounds_toArray, List.set_cons_zero, List.set_cons_succ, Nat.zero_add, Nat.reduceAdd, d4, go_sem]); simp [putAll, Act.put, List.setIfInBounds_toArray, List.set_cons_zero, List.set_cons_succ, Nat.zero_add, Nat.reduceAdd, d4, go_sem]))
    exact stepsOk_nil
  case rest =>
    (intro Q' hQ' u lo hi w1 hw1 hf hdj hsz; (have d0 := hf 0 (by decide)); (simp only [factAt, List.getD_cons_zero] at d0); (have d1 := hf 1 (by decide)); (simp only [factAt, List.getD_cons_zero, List.getD_cons_succ] at d1); (have d2 := hf 2 (by decide)); (simp only [factAt, List.getD_cons_zero, List.getD_cons_succ] at d2); (have d3 := hf 3 (by decide)); (simp only [factAt, List.getD_cons_zero, List.getD_cons_succ] at d3); (have d4 := hf 4 (by decide)); (simp only [factAt, List.getD_cons_zero, List.getD_cons_succ] at d4); (have d5 := hf 5 (by decide)); (simp only [factAt, List.getD_cons_zero, List.getD_cons_succ] at d5); (have d6 := hf 6 (by decide)); (simp only [factAt, List.getD_cons_zero, List.getD_cons_succ] at d6); (have d7 := hf 7 (by decide)); (simp only [factAt, List.getD_cons_zero, List.getD_cons_succ] at d7); (have e7 := LineOf.eq d7); (have n7 := LineOf.nums d7); (have h7 := LineOf.head d7); (generalize Exists.choose (Exists.choose_spec d7) = C7 at e7 h7); (generalize Exists.choose d7 = A7 at e7 n7 h7); (clear d7); (rename _ = _ => d7); (have d8 := hf 8 (by decide)); (simp only [factAt, List.getD_cons_zero, List.getD_cons_succ] at d8); (have d9 := hf 9 (by decide)); (simp only [factAt, List.getD_cons_zero, List.getD_cons_succ] at d9); simp only [List.take_succ_cons, List.take_zero, List.drop_succ_cons, List.drop_zero, putAll, Act.put, List.setIfInBounds_toArray, List.set_cons_zero, List.set_cons_succ, Nat.zero_add, Nat.reduceAdd, d4, d7, d8, d9])
    go_wp2_with (go_at_call 17; refine (HKF.out _ _ (HB.out.trans (Below.mono hw1 HB.out.size)) ⟨_, _, rfl, n7, h7⟩).mono ?_; rintro r w3 ⟨rfl, hb⟩)
    go_ret
    exact ⟨rfl, HB.out.trans (Below.mono (hw1.trans (Below.mono hb hw1.size)) HB.out.size)⟩
theorem placesOf_few {xs : List Nat} {d : Int} (h0 : 0 ≤ d) (h3 : d ≤ 3) : placesOf (xs.take (min (xs.length / widthN d) 1 * widthN d)) d = if xs.length / widthN d = 0 then [] else [placeAt xs d 0] := by
  have hws := width_sum h0 h3
  have hwd : 0 < widthN d := by omega
  by_cases hq : xs.length / widthN d = 0
  · rw [if_pos hq, hq]
    simp [placesOf]
  · rw [if_neg hq]
    have h1 : min (xs.length / widthN d) 1 = 1 := Nat.min_eq_right (Nat.one_le_iff_ne_zero.2 hq)
    have hle : widthN d ≤ xs.length := by
      have := Nat.div_mul_le_self xs.length (widthN d)
      have h2 : 1 * widthN d ≤ xs.length / widthN d * widthN d := Nat.mul_le_mul_right _ (Nat.one_le_iff_ne_zero.2 hq)
      omega
    rw [h1, Nat.one_mul]
    have hl : (xs.take (widthN d)).length = widthN d := by simp; omega
    unfold placesOf
    rw [hl, Nat.div_self hwd]
    have e : ∀ i, i < widthN d → (xs.take (widthN d))[i]! = xs[i]! := fun i hi => by
      rw [List.getElem!_eq_getElem?_getD, List.getElem!_eq_getElem?_getD, List.getElem?_take_of_lt (by omega)]
    simp only [List.range_one, List.map_cons, List.map_nil]
    congr 1
    unfold placeAt
    simp only [Nat.zero_mul, Nat.zero_add]
    rw [e 0 (by omega), e 1 (by omega), e (widthN d - 1) (by omega)]
    congr 1
    by_cases h5 : d = 1 ∨ d = 3
    · rw [if_pos h5, if_pos h5, e 2 (by rw [hws]; rcases h5 with h5 | h5 <;> rw [h5] <;> simp [has3] <;> split <;> omega)]
    · rw [if_neg h5, if_neg h5]
theorem force3_same {xs : List Nat} {d e : Int} : placeRow e (force3 d e (placeAt xs d 0)) = placeRow e (placeAt xs d 0) := by
  have hz : has3 d = false → (placeAt xs d 0).z = 0 := fun h => by
    unfold placeAt has3 at *
    simp only [Bool.or_eq_false_iff, decide_eq_false_iff_not] at h
    simp [h.1, h.2]
  have hm : hasM d = false → (placeAt xs d 0).m = 0 := fun h => by
    unfold placeAt hasM at *
    simp only [Bool.or_eq_false_iff, decide_eq_false_iff_not] at h
    simp [h.1, h.2]
  unfold placeRow force3
  simp only
  congr 1
  · congr 1
    cases h1 : has3 e
    · rfl
    · cases h2 : has3 d
      · simp [hz h2]
      · simp
  · cases h1 : hasM e
    · rfl
    · cases h2 : hasM d
      · simp [hm h2]
      · simp
theorem open_int {w : World} {r : Reach} {base : Nat} {v : Value} (h : Value.okWide Try.prog w r base 3 v) : ∃ a : Int, v = .int .i64 a := by
  simp only [Value.okWide, Try.underlying3] at h
  obtain ⟨b, hb, _⟩ := cell_int Try.underlying3 h
  exact ⟨b, hb⟩
theorem pointForce_walk {n : Nat} {g : GT} {cs : List Value} {e : Int} (w : World) (hg : GeomIs w w.heap.size n g cs) : Calls Try.prog 4 #[.agg cs.toArray, .int .i64 e] w fun e w' => e = .returned (.bool true) ∧ Below w.heap.size w w' := by
  cases n with
  | zero => exact hg.elim
  | succ n =>
  have hg0 := hg
  obtain ⟨k, d, xs, ks⟩ := g
  obtain ⟨hk, hd, hx, l1, l2, a, kk, ca, ck, rfl, ha, hca, hck, _⟩ := hg
  simp only [GT.kind, GT.dim, GT.nums, GT.kids] at *
  obtain ⟨na, hna⟩ : ∃ na, xs.length = na := ⟨_, rfl⟩
  obtain ⟨nk, hnk⟩ : ∃ nk, ks.length = nk := ⟨_, rfl⟩
  rw [hna] at hca hg0 l1 ⊢
  rw [hnk] at hck hg0 l2 ⊢
  have HG := Lib.hid hg0
  have HF := fun {r : Bool} (h : fitsB na nk = r) (w : World) => zzFits2_any k d a kk ca ck h l1 l2 w
  cases hfit : fitsB na nk
  · have H := Lib.hid hfit
    have HF' := Lib.hid (fun w => HF H.out w)
    clear hg0 ha hca hck hfit HF
    go_enter Try.func4, Try.ntmps4
    go_wp2_with ((go_at_call 11; (with_reducible refine (HF'.out _).mono ?_); rintro e w1 ⟨rfl, hb⟩; (first | (obtain ⟨x1, rfl⟩ := LaterW.of2 hb) | (obtain ⟨x1, rfl⟩ := LaterW.of hb)); clear hb))
    go_ret
    exact ⟨rfl, (by repeat (first | with_reducible exact Below.refl _ _ | with_reducible exact HBEL.out | with_reducible assumption | with_reducible refine Below.setCell ?_ (by first | (dsimp only; omega) | (simp; try omega)) _ | with_reducible refine LaterW.below _ ?_ | with_reducible refine below_alloc ?_ _ | with_reducible refine below_drewN' ?_ _ | with_reducible refine Below.drew ?_ | with_reducible exact below_drewN _))⟩
  · have H := Lib.hid hfit
    have HF' := Lib.hid (fun w => HF H.out w)
    cases hline : (decide (k = 1) && smallB (n + 1) (.mk k d xs ks) && decide (0 ≤ e) && decide (e ≤ 3))
    · have HKD : Hid (∀ W', Below w.heap.size w W' → Calls Try.prog 16 #[vGeom k d a na ca kk nk ck, .int .i64 1, .int .i64 e] W' fun e w' => e = .returned (.bool false) ∧ Below W'.heap.size W' w') := fun W' h =>
        kDim_any 1 (GeomIs.below h (Nat.le_refl _) hg0) h.size hline
      clear hg0 ha hca hck hfit HF hline HG
      go_enter Try.func4, Try.ntmps4
      go_wp2_with ((go_at_call 11; (with_reducible refine (HF'.out _).mono ?_); rintro e w1 ⟨rfl, hb⟩; (first | (obtain ⟨x1, rfl⟩ := LaterW.of2 hb) | (obtain ⟨x1, rfl⟩ := LaterW.of hb)); clear hb))
      have hbel : Below w.heap.size w x1.val := (by repeat (first | with_reducible exact Below.refl _ _ | with_reducible exact HBEL.out | with_reducible assumption | with_reducible refine Below.setCell ?_ (by first | (dsimp only; omega) | (simp; try omega)) _ | with_reducible refine LaterW.below _ ?_ | with_reducible refine below_alloc ?_ _ | with_reducible refine below_drewN' ?_ _ | with_reducible refine Below.drew ?_ | with_reducible exact below_drewN _))
      have HBEL := Lib.hid hbel
      have o1 : Own x1.val w.heap.size [.int .i64 k, .int .i64 d, .slice a na ca, .slice kk nk ck] := (by repeat (first | (exact Own.new' _ rfl (by simp; done)) | with_reducible apply Own.later | with_reducible apply Own.alloc | with_reducible apply Own.drew | with_reducible apply Own.drewN | with_reducible apply Own.other))
      obtain ⟨q0, q1, q2, q3, _⟩ := o1.cells
      have lt1 := o1.lt
      clear hbel o1
      generalize x1.val = w0 at *
      clear x1
      ((first | refine wp_region_later2 (by kernel_rfl) (by kernel_rfl) ?_ | refine wp_region_later (by kernel_rfl) (by kernel_rfl) ?_); (repeat (go_big_quiet_step ((go_at_call 16; with_reducible exact Calls.later_of (HKD.out _ (by repeat (first | with_reducible exact Below.refl _ _ | with_reducible exact HBEL.out | with_reducible assumption | with_reducible refine Below.setCell ?_ (by first | (dsimp only; omega) | (simp; try omega)) _ | with_reducible refine LaterW.below _ ?_ | with_reducible refine below_alloc ?_ _ | with_reducible refine below_drewN' ?_ _ | with_reducible refine Below.drew ?_ | with_reducible exact below_drewN _))))))); refine wpQuiet_nil ?_; rintro _ ⟨x1, rfl⟩)
      go_wp2_with fail
      go_ret
      exact ⟨rfl, (by repeat (first | with_reducible exact Below.refl _ _ | with_reducible exact HBEL.out | with_reducible assumption | with_reducible refine Below.setCell ?_ (by first | (dsimp only; omega) | (simp; try omega)) _ | with_reducible refine LaterW.below _ ?_ | with_reducible refine below_alloc ?_ _ | with_reducible refine below_drewN' ?_ _ | with_reducible refine Below.drew ?_ | with_reducible exact below_drewN _))⟩
    · simp only [Bool.and_eq_true, decide_eq_true_eq] at hline
      obtain ⟨⟨⟨rfl, hsm⟩, e0⟩, e3⟩ := hline
      have hl2 := nums_small hsm
      have h0 : 0 ≤ d % 4 := by omega
      have h3 : d % 4 ≤ 3 := by omega
      obtain ⟨m1, hm1⟩ : ∃ m1, min (na / widthN (d % 4)) 1 * widthN (d % 4) = m1 := ⟨_, rfl⟩
      have hws := width_sum h0 h3
      have hm1n : m1 ≤ na := by
        rw [← hm1]; exact Nat.le_trans (Nat.mul_le_mul_right _ (Nat.min_le_left _ _)) (Nat.div_mul_le_self _ _)
      obtain ⟨Ys, hYs⟩ : ∃ Ys, xs.take m1 = Ys := ⟨_, rfl⟩
      have hYl : Ys.length = m1 := by rw [← hYs]; simp; omega
      have hpl : placesOf Ys (d % 4) = if na / widthN (d % 4) = 0 then [] else [placeAt xs (d % 4) 0] := by
        have := placesOf_few (xs := xs) h0 h3
        rw [hna, hm1, hYs] at this
        exact this
      have hdv : m1 / widthN (d % 4) = min (na / widthN (d % 4)) 1 := by rw [← hm1]; exact Nat.mul_div_cancel _ (by omega)
      obtain ⟨Zs, hZs⟩ : ∃ Zs, (if na / widthN (d % 4) = 0 then [] else placeRow e (force3 (d % 4) e (placeAt xs (d % 4) 0))) = Zs := ⟨_, rfl⟩
      obtain ⟨m, hm⟩ : ∃ m, (if na / widthN (d % 4) = 0 then 0 else widthN e) = m := ⟨_, rfl⟩
      have hZ2 : (placesOf Ys (d % 4)).flatMap (placeRow e) = Zs := by
        rw [hpl, ← hZs]
        split
        · rfl
        · rw [force3_same]; simp
      have hm2 : m1 / widthN (d % 4) * widthN e = m := by
        rw [hdv, ← hm]
        split
        · rename_i h; rw [h]; simp
        · rename_i h; rw [show min (na / widthN (d % 4)) 1 = 1 from Nat.min_eq_right (Nat.one_le_iff_ne_zero.2 h), Nat.one_mul]
      have hwe := width_sum e0 e3
      have hZl : Zs.length = m := by
        rw [← hZs, ← hm]
        split
        · rfl
        · rw [hwe]; unfold placeRow; cases has3 e <;> cases hasM e <;> rfl
      have hx0 : ∀ i : Nat, xs[i]! < 2 ^ 64 := fun i => by
        by_cases h : i < xs.length
        · rw [List.getElem!_eq_getElem?_getD, List.getElem?_eq_getElem h]; exact hx _ (List.getElem_mem h)
        · rw [List.getElem!_eq_getElem?_getD, List.getElem?_eq_none (by omega)]; decide
      have hZx : ∀ x ∈ Zs, x < 2 ^ 64 := by
        rw [← hZs]
        split
        · intro x hx; cases hx
        · rw [force3_same]
          intro x hxm
          unfold placeRow at hxm
          have p0 := hx0 (0 * widthN (d % 4))
          have p1 := hx0 (0 * widthN (d % 4) + 1)
          have p2 : (placeAt xs (d % 4) 0).z < 2 ^ 64 := by unfold placeAt; simp only; split; exact hx0 _; decide
          have p3 : (placeAt xs (d % 4) 0).m < 2 ^ 64 := by unfold placeAt; simp only; split; exact hx0 _; decide
          simp only [List.mem_append, List.mem_cons, List.not_mem_nil, or_false] at hxm
          rcases hxm with ((h | h) | h) | h
          · rw [h]; exact p0
          · rw [h]; exact p1
          · split at h
            · simp at h; rw [h]; exact p2
            · cases h
          · split at h
            · simp at h; rw [h]; exact p3
            · cases h
      have hwe4 : widthN e ≤ 4 := by rw [hwe]; split <;> split <;> omega
      have hml : m ≤ 4000 := by rw [← hm]; split <;> omega
      have HNEW : Hid (∀ W', Below w.heap.size w W' → Calls Try.prog 15 #[vGeom 1 d a na ca kk nk ck] W' fun r w' => ∃ v, r = .returned v ∧ LineOf 1 (d % 4) m1 Ys w' v ∧ Below W'.heap.size W' w') := fun W' h => by
        have := newPoint1_any (d := d) (kk := kk) (nk := nk) (ck := ck) (ha.below h (Nat.le_refl _)) h.size hna (by omega) hca
        rw [hm1, hYs] at this
        refine this.mono ?_
        rintro r w' ⟨a', c', rfl, q1, q2, _, q4⟩
        exact ⟨_, rfl, ⟨a', c', rfl, q1, q2⟩, q4⟩
      have HFOR : Hid (∀ W' v, LineOf 1 (d % 4) m1 Ys W' v → Calls Try.prog 53 #[v, .int .i64 e] W' fun r w' => ∃ v, r = .returned v ∧ LineOf 1 e m Zs w' v ∧ Below W'.heap.size W' w') := fun W' v h => by
        obtain ⟨a', c', rfl, q1, q2⟩ := h
        have := force_leaf (k := 1) (ca := c') (e := e) q1 (Nat.le_refl _) hYl (by omega) h0 h3 e0 e3
        rw [hm2, hZ2] at this
        refine this.mono ?_
        rintro r w' ⟨a', c', rfl, q1, q2, _, q4⟩
        exact ⟨_, rfl, ⟨a', c', rfl, q1, q2⟩, q4⟩
      have HSAME : Hid (∀ W' v v', LineOf 1 e m Zs W' v → LineOf 1 e m Zs W' v' → Calls Try.prog 13 #[v, v'] W' fun r w' => r = .returned (.bool true) ∧ Below W'.heap.size W' w') := fun W' v v' h h' => by
        obtain ⟨a1, c1, rfl, q1, q2⟩ := h
        obtain ⟨a2, c2, rfl, q3, q4⟩ := h'
        exact sameGeom_any 1 (.mk 1 e Zs []) _ _ W'.heap.size W' (leafIs 0 (has_small (by omega) (by omega)) (has_small (by omega) (by omega)) hZx hZl hml q1 q2) (leafIs 0 (has_small (by omega) (by omega)) (has_small (by omega) (by omega)) hZx hZl hml q3 q4) (Nat.le_refl _)
      have HPF : Hid (∀ W', Below w.heap.size w W' → Calls Try.prog 18 #[vGeom 1 d a na ca kk nk ck, .int .i64 e] W' fun r w' => ∃ v, r = .returned v ∧ LineOf 1 e m Zs w' v ∧ Below W'.heap.size W' w') := fun W' h =>
        pointForce_any (ha.below h (Nat.le_refl _)) h.size hna (by omega) e0 e3 hm hZs
      have HKD : Hid (∀ W', Below w.heap.size w W' → Calls Try.prog 16 #[vGeom 1 d a na ca kk nk ck, .int .i64 1, .int .i64 e] W' fun e w' => e = .returned (.bool true) ∧ Below W'.heap.size W' w') := fun W' h =>
        kDim_any 1 (GeomIs.below h (Nat.le_refl _) hg0) h.size (by rw [hsm]; simp [e0, e3])
      have HKF : Hid (∀ W' v, Below w.heap.size w W' → LineOf 1 e m Zs W' v → Calls Try.prog 17 #[v, vGeom 1 d a na ca kk nk ck, .int .i64 e] W' fun r w' => r = .returned (.bool true) ∧ Below W'.heap.size W' w') := fun W' v h hv =>
        kForce_true W' hv (fun W2 h2 => HNEW.out W2 (h.trans (Below.mono h2 h.size))) HFOR HSAME
      exact pointForce_true w HF' HKD HPF HKF

set_option maxRecDepth 100000 in
theorem fnPointForce_lifted (os : Os) (started : os.Started) (H : Type) (enc : TypeId × Value → H) :
    ReturnsInHanded {} Try.checked os 4 .any (Rows.fnPointForceSpec.pre6 enc Try.prog Try.f4 Rows.fnPointForceRow.domain false) (Rows.fnPointForceSpec.post enc Try.prog Try.f4 false true false false) := by
  refine returnsInHanded_of_change (C := Try.checked) own started (by kernel_rfl) Try.func4
    (ChangeSpec.witness6 (enc := enc) (C := Try.checked) false ⟨#[], #[.agg #[.int .i64 0, .int .i64 0, .slice none 0 0, .slice none 0 0], .int .i64 0], []⟩ 8 (by kernel_rfl) (by kernel_rfl) (by kernel_rfl) (by kernel_rfl)) ?_
  intro W base args ds gs before hval0 hW _ _
  have hval : ∀ (j : Nat) t v, Try.f4.params[j]? = some t → args[j]? = some v → Value.okWide Try.prog W .any base t v := hval0
  have hW' := hW
  obtain ⟨p, q, hA0, hV, rfl, _, _⟩ := hW
  have hA : DataW.TrodAll enc Try.prog W 0 (fun _ => true) true Try.f4.params.toList args.toList ds p := hA0
  rw [Try.params4] at hA hval
  obtain ⟨v0, vs0, d0, ds0, p0, q0, hargs, rfl, rfl, h0, r0⟩ := trodAll_cons hA
  obtain ⟨v1, vs1, d1, ds1, p1, q1, rfl, rfl, rfl, h1, r1⟩ := trodAll_cons r0
  obtain ⟨rfl, rfl, rfl⟩ := trodAll_nil r1
  obtain rfl : args = #[v0, v1] := by cases args; simp_all
  obtain ⟨rfl, rfl⟩ := trodVars_none hV
  have lt0 : ∀ x ∈ p0, x.block < W.heap.size := by obtain ⟨m, hm⟩ := h0; exact DataW.trod_lt m _ _ _ hm
  have ok0 := hval 0 25 v0 rfl rfl
  have lt1 : ∀ x ∈ p1, x.block < W.heap.size := by obtain ⟨m, hm⟩ := h1; exact DataW.trod_lt m _ _ _ hm
  have ok1 := hval 1 3 v1 rfl rfl
  clear hA0 hval0
  obtain ⟨cs, rfl, _, _⟩ := okWide_cells (n := 4) (ts := [3, 3, 22, 23]) Try.underlying25 (by kernel_rfl) (by kernel_rfl) ok0
  obtain ⟨e, rfl⟩ := open_int ok1
  have hk := h0
  obtain ⟨fuel, hf⟩ := hk
  obtain ⟨g, hg⟩ := open_geom (by simpa [Value.cells] using hf)
  refine (pointForce_walk W hg).mono fun e W' ⟨he, bel⟩ => ?_
  subst he
  exact ⟨_, rfl, _, _, _, [], _, [], hW', trodAll_mk1 (shut_bool Try.underlying4 _), (trodAll_cons_mk (Below.trod laidOut (by kernel_rfl) (of_decide_eq_true (by kernel_rfl)) h0 bel lt0) (trodAll_cons_mk (Below.trod laidOut (by kernel_rfl) (of_decide_eq_true (by kernel_rfl)) h1 bel lt1) trodAll_mk0)), rfl, bel.frame _, fun h => by cases h⟩
theorem fnPointForce_proved : Rows.FnPointForceSaid :=
  OpenClaim.holds_of_wide 4 Try.f4 rfl rfl rfl rfl rfl rfl rfl ⟨rfl, rfl, rfl, rfl, rfl⟩ rfl rfl rfl rfl rfl (by kernel_rfl) Try.func4 (by kernel_rfl)
    (of_decide_eq_true (by kernel_rfl)) (by unfold Func.isWrapper; first | (rw [if_pos (by decide +kernel)]; kernel_rfl) | (rw [if_neg (by decide +kernel)]; exact ⟨rfl, rfl⟩))
    (fun os started H enc _ => fnPointForce_lifted os started H enc)
#print axioms fnPointForce_proved
end Go.Proofs.Ytihkmkcjjlmkhaa
