/- geom.LineString's IsEmpty, GetXY, IsClosed, StartPoint, EndPoint. No condition. -/
import Derived.Test.YtihkmkcjjlmkhaaForce
import Derived.Test.YtihkmkcjjlmkhaaXY
namespace Go.Proofs.Ytihkmkcjjlmkhaa
set_option maxRecDepth 100000
open Go.ChangeShapes Go.WideShapes Go.ChangeAt Go.RowKit Go.Deep
open Fl

@[go_sem] theorem stoodGXY : Try.prog.stoodInHeld 78 = false := by kernel_rfl
@[go_sem] theorem guardGXY : Try.prog.eqGuardType Try.prog.depth 78 = false := by kernel_rfl
@[go_sem ↓] theorem eqGXY (W : World) (a b c d : Nat) : (binOp .eql 78 (vXY a b) (vXY c d)).run Try.prog W = .ok (.bool ((D.order a c == some .eq) && (D.order b d == some .eq))) W := by
  by_cases h1 : D.order a c = some .eq <;> by_cases h2 : D.order b d = some .eq <;> simp [go_sem, h1, h2]
section
variable {d : Int} {a : Option Addr} {n ca B q : Nat} {xs : List Nat} {w : World}
theorem lineEmpty_any (h0 : 0 ≤ d) (h3 : d ≤ 3) (hq : n / widthN d = q) (hl : n ≤ 4000) : Calls Try.prog 111 #[vSeq d a n ca] w fun e w' => e = .returned (.bool (decide (q = 0))) ∧ Below w.heap.size w w' := by
  have HQ := Lib.hid hq
  clear hq
  go_enter Try.func111, Try.ntmps111
  go_wp2_with ((go_at_call 84; (with_reducible refine (seqLength_any h0 h3 HQ.out hl _).mono ?_); rintro e w1 ⟨rfl, hb⟩; (first | (obtain ⟨x1, rfl⟩ := LaterW.of2 hb) | (obtain ⟨x1, rfl⟩ := LaterW.of hb)); clear hb))
  go_ret
  exact ⟨ret_bool (by by_cases h : q = 0 <;> simp [h]), (by repeat (first | with_reducible exact Below.refl _ _ | with_reducible exact HBEL.out | with_reducible assumption | with_reducible refine Below.setCell ?_ (by first | (dsimp only; omega) | (simp; try omega)) _ | with_reducible refine LaterW.below _ ?_ | with_reducible refine below_alloc ?_ _ | with_reducible refine below_drewN' ?_ _ | with_reducible refine Below.drew ?_ | with_reducible exact below_drewN _))⟩
theorem getXY_any (ha : NumsIs w B a xs) (hB : B ≤ w.heap.size) (hn : xs.length = n) (hl : n ≤ 4000) (h0 : 0 ≤ d) (h3 : d ≤ 3) {k : Nat} (hk : k < n / widthN d) :
    Calls Try.prog 128 #[vSeq d a n ca, .int .i64 k] w fun e w' => e = .returned (vXY (placeAt xs d k).x (placeAt xs d k).y) ∧ Below w.heap.size w w' := by
  obtain ⟨wd, hwd⟩ : ∃ wd, widthN d = wd := ⟨_, rfl⟩
  have HW : Hid (widthI d = (wd : Int)) := by show _ = _; rw [← hwd]; unfold widthN widthI; split <;> (try split) <;> rfl
  have hwd3 : 2 ≤ wd ∧ wd ≤ 4 := by rw [← hwd]; unfold widthN widthI; split <;> (try split) <;> decide
  rw [hwd] at hk
  have hk2 : k * wd + wd ≤ n := by
    have h1 : (k + 1) * wd ≤ n / wd * wd := Nat.mul_le_mul_right _ hk
    have h2 := Nat.div_mul_le_self n wd
    rw [Nat.add_mul, Nat.one_mul] at h1
    omega
  obtain ⟨b1, o1, rfl, l1, c1⟩ := ha.resolve_left (fun h => by rw [h] at hn; simp at hn; omega)
  have m1 : b1 < w.heap.size := by omega
  have hpx : (placeAt xs d k).x = xs[k * wd]! := by unfold placeAt; rw [hwd]
  have hpy : (placeAt xs d k).y = xs[k * wd + 1]! := by unfold placeAt; rw [hwd]
  rw [hpx, hpy]
  have C0 : ∀ w', Below w.heap.size w w' → w'.cell? ⟨b1, o1 + k * wd, none⟩ = some (fl xs[k * wd]!) := fun w' h => (h.cell (p := ⟨b1, o1 + k * wd, none⟩) m1).trans (c1 _ (by omega))
  have C1 : ∀ w', Below w.heap.size w w' → w'.cell? ⟨b1, o1 + (k * wd + 1), none⟩ = some (fl xs[k * wd + 1]!) := fun w' h => (h.cell (p := ⟨b1, o1 + (k * wd + 1), none⟩) m1).trans (c1 _ (by omega))
  clear c1 hwd ha hk hB l1 hn hpx hpy
  obtain ⟨vx, hvx⟩ : ∃ vx, xs[k * wd]! = vx := ⟨_, rfl⟩
  obtain ⟨vy, hvy⟩ : ∃ vy, xs[k * wd + 1]! = vy := ⟨_, rfl⟩
  rw [hvx] at C0 ⊢
  rw [hvy] at C1 ⊢
  clear hvx hvy
  go_enter Try.func128, Try.ntmps128
  go_wp2_with ((go_at_call 90; (with_reducible refine (dimension_any h0 h3 HW.out _).mono ?_); rintro e w1 ⟨rfl, hb⟩; (first | (obtain ⟨x1, rfl⟩ := LaterW.of2 hb) | (obtain ⟨x1, rfl⟩ := LaterW.of hb)); clear hb))
  have o2 : Own x1.val (w.heap.size + 1) [fl 0, fl 0] := (by repeat (first | (refine Own.new' _ rfl ?_; first | with_reducible rfl | (simp; done)) | with_reducible apply Own.later | with_reducible apply Own.alloc | with_reducible apply Own.drew | with_reducible apply Own.drewN | with_reducible apply Own.other))
  have o1' : Own x1.val w.heap.size [.int .u8 d, .slice (some ⟨b1, o1, none⟩) n ca] := (by repeat (first | (refine Own.new' _ rfl ?_; first | with_reducible rfl | (simp; done)) | with_reducible apply Own.later | with_reducible apply Own.alloc | with_reducible apply Own.drew | with_reducible apply Own.drewN | with_reducible apply Own.other))
  have hbel : Below w.heap.size w x1.val := (by repeat (first | with_reducible exact Below.refl _ _ | with_reducible exact HBEL.out | with_reducible assumption | with_reducible refine Below.setCell ?_ (by first | (dsimp only; omega) | (simp; try omega)) _ | with_reducible refine LaterW.below _ ?_ | with_reducible refine below_alloc ?_ _ | with_reducible refine below_drewN' ?_ _ | with_reducible refine Below.drew ?_ | with_reducible exact below_drewN _))
  generalize x1.val = W at *
  clear x1
  have D0 : ∀ w', Below W.heap.size W w' → w'.cell? ⟨b1, o1 + k * wd, none⟩ = some (fl vx) := fun w' h => C0 w' (hbel.trans (Below.mono h hbel.size))
  have D1 : ∀ w', Below W.heap.size W w' → w'.cell? ⟨b1, o1 + (k * wd + 1), none⟩ = some (fl vy) := fun w' h => C1 w' (hbel.trans (Below.mono h hbel.size))
  have G1 : ∀ w', Below W.heap.size W w' → w'.cell? ⟨w.heap.size, 1, none⟩ = some (.slice (some ⟨b1, o1, none⟩) n ca) := fun w' h => (o1'.below h o1'.lt).cells.2.1
  clear C0 C1
  refine wp_region_facts 16 (fun w' => Below W.heap.size W w') [fun _ _ _ v => v = .pointer (some ⟨w.heap.size, 1, none⟩), fun _ _ _ v => v = .slice (some ⟨b1, o1, none⟩) n ca, fun _ _ _ v => v = .int .i64 k, fun _ _ _ v => v = .int .i64 wd, fun _ _ _ v => v = .int .i64 ((k * wd : Nat) : Int), fun _ _ _ v => v = .pointer (some ⟨b1, o1 + k * wd, none⟩), fun _ _ _ v => v = fl vx, fun _ _ _ v => v = .pointer (some ⟨w.heap.size, 1, none⟩), fun _ _ _ v => v = .slice (some ⟨b1, o1, none⟩) n ca, fun _ _ _ v => v = .int .i64 k, fun _ _ _ v => v = .int .i64 wd, fun _ _ _ v => v = .int .i64 ((k * wd : Nat) : Int), fun _ _ _ v => v = .int .i64 ((k * wd + 1 : Nat) : Int), fun _ _ _ v => v = .pointer (some ⟨b1, o1 + (k * wd + 1), none⟩), fun _ _ _ v => v = fl vy, fun _ _ _ v => v = vXY vx vy] rfl (by kernel_rfl) (Below.refl _ _).drew (fun _ _ h h' => Below.trans h (Below.mono h' h.size)) ⟨stays_val _, stays_val _, stays_val _, stays_val _, stays_val _, stays_val _, stays_val _, stays_val _, stays_val _, stays_val _, stays_val _, stays_val _, stays_val _, stays_val _, stays_val _, stays_val _, trivial⟩ ?steps ?rest
  case steps =>
    simp only [List.take_succ_cons, List.take_zero]
    (refine stepsOk_other rfl (fun Q u lo hi w1 hw1 hd hK => ?_) ?_; · (simp only [putAll, Act.put, List.setIfInBounds_toArray, List.set_cons_zero, List.set_cons_succ, Nat.zero_add, Nat.reduceAdd] at hK ⊢; go_wp2_with fail; refine hK _ _ ?_ ?_; (· exact (by repeat (first | with_reducible exact Below.refl _ _ | with_reducible assumption | with_reducible refine Below.setCell ?_ (by dsimp only; repeat (first | with_reducible exact Nat.le_refl _ | with_reducible refine Nat.le_trans ?_ (LaterW.ok _).size | rw [World.size_alloc] | rw [World.size_setCell] | rw [World.size_drew] | with_reducible refine Nat.le_succ_of_le ?_)) _ | with_reducible refine LaterW.below _ ?_ | with_reducible refine below_alloc ?_ _ | with_reducible refine below_drewN' ?_ _ | with_reducible refine Below.drew ?_))); (· exact rfl)))
    (refine stepsOk_other rfl (fun Q u lo hi w1 hw1 hd hK => ?_) ?_; · ((have d0 := hd 0 rfl); (simp only [factAt, List.getD_cons_zero] at d0); simp only [putAll, Act.put, List.setIfInBounds_toArray, List.set_cons_zero, List.set_cons_succ, Nat.zero_add, Nat.reduceAdd, d0] at hK ⊢; go_wp2_with fail; refine hK _ _ ?_ ?_; (· exact (by repeat (first | with_reducible exact Below.refl _ _ | with_reducible assumption | with_reducible refine Below.setCell ?_ (by dsimp only; repeat (first | with_reducible exact Nat.le_refl _ | with_reducible refine Nat.le_trans ?_ (LaterW.ok _).size | rw [World.size_alloc] | rw [World.size_setCell] | rw [World.size_drew] | with_reducible refine Nat.le_succ_of_le ?_)) _ | with_reducible refine LaterW.below _ ?_ | with_reducible refine below_alloc ?_ _ | with_reducible refine below_drewN' ?_ _ | with_reducible refine Below.drew ?_))); (· exact rfl)))
    (refine stepsOk_plain rfl (fun u lo hi w1 hw1 hd => ?_) ?_; · (refine ⟨_, .inl ⟨rfl, fun W => ?_⟩, by exact rfl⟩; simp [putAll, Act.put, List.setIfInBounds_toArray, List.set_cons_zero, List.set_cons_succ, Nat.zero_add, Nat.reduceAdd, go_sem]))
    (refine stepsOk_plain rfl (fun u lo hi w1 hw1 hd => ?_) ?_; · (refine ⟨_, .inl ⟨rfl, fun W => ?_⟩, by exact rfl⟩; simp [putAll, Act.put, List.setIfInBounds_toArray, List.set_cons_zero, List.set_cons_succ, Nat.zero_add, Nat.reduceAdd, go_sem]))
    (refine stepsOk_other rfl (fun Q u lo hi w1 hw1 hd hK => ?_) ?_; · ((have d2 := hd 2 rfl); (simp only [factAt, List.getD_cons_zero, List.getD_cons_succ] at d2); (have d3 := hd 3 rfl); (simp only [factAt, List.getD_cons_zero, List.getD_cons_succ] at d3); simp only [putAll, Act.put, List.setIfInBounds_toArray, List.set_cons_zero, List.set_cons_succ, Nat.zero_add, Nat.reduceAdd, d2, d3] at hK ⊢; go_wp2_with fail; refine hK _ _ ?_ ?_; (· exact (by repeat (first | with_reducible exact Below.refl _ _ | with_reducible assumption | with_reducible refine Below.setCell ?_ (by dsimp only; repeat (first | with_reducible exact Nat.le_refl _ | with_reducible refine Nat.le_trans ?_ (LaterW.ok _).size | rw [World.size_alloc] | rw [World.size_setCell] | rw [World.size_drew] | with_reducible refine Nat.le_succ_of_le ?_)) _ | with_reducible refine LaterW.below _ ?_ | with_reducible refine below_alloc ?_ _ | with_reducible refine below_drewN' ?_ _ | with_reducible refine Below.drew ?_))); (· exact congrArg (Value.int .i64) (by simp))))
    (refine stepsOk_other rfl (fun Q u lo hi w1 hw1 hd hK => ?_) ?_; · ((have d1 := hd 1 rfl); (simp only [factAt, List.getD_cons_zero, List.getD_cons_succ] at d1); (have d4 := hd 4 rfl); (simp only [factAt, List.getD_cons_zero, List.getD_cons_succ] at d4); simp only [putAll, Act.put, List.setIfInBounds_toArray, List.set_cons_zero, List.set_cons_succ, Nat.zero_add, Nat.reduceAdd, d1, d4] at hK ⊢; go_wp2_with fail; refine hK _ _ ?_ ?_; (· exact (by repeat (first | with_reducible exact Below.refl _ _ | with_reducible assumption | with_reducible refine Below.setCell ?_ (by dsimp only; repeat (first | with_reducible exact Nat.le_refl _ | with_reducible refine Nat.le_trans ?_ (LaterW.ok _).size | rw [World.size_alloc] | rw [World.size_setCell] | rw [World.size_drew] | with_reducible refine Nat.le_succ_of_le ?_)) _ | with_reducible refine LaterW.below _ ?_ | with_reducible refine below_alloc ?_ _ | with_reducible refine below_drewN' ?_ _ | with_reducible refine Below.drew ?_))); (· exact rfl)))
    (refine stepsOk_other rfl (fun Q u lo hi w1 hw1 hd hK => ?_) ?_; · ((have d5 := hd 5 rfl); (simp only [factAt, List.getD_cons_zero, List.getD_cons_succ] at d5); simp only [putAll, Act.put, List.setIfInBounds_toArray, List.set_cons_zero, List.set_cons_succ, Nat.zero_add, Nat.reduceAdd, d5] at hK ⊢; go_wp2_with fail; refine hK _ _ ?_ ?_; (· exact (by repeat (first | with_reducible exact Below.refl _ _ | with_reducible assumption | with_reducible refine Below.setCell ?_ (by dsimp only; repeat (first | with_reducible exact Nat.le_refl _ | with_reducible refine Nat.le_trans ?_ (LaterW.ok _).size | rw [World.size_alloc] | rw [World.size_setCell] | rw [World.size_drew] | with_reducible refine Nat.le_succ_of_le ?_)) _ | with_reducible refine LaterW.below _ ?_ | with_reducible refine below_alloc ?_ _ | with_reducible refine below_drewN' ?_ _ | with_reducible refine Below.drew ?_))); (· exact rfl)))
    (refine stepsOk_other rfl (fun Q u lo hi w1 hw1 hd hK => ?_) ?_; · (simp only [putAll, Act.put, List.setIfInBounds_toArray, List.set_cons_zero, List.set_cons_succ, Nat.zero_add, Nat.reduceAdd] at hK ⊢; go_wp2_with fail; refine hK _ _ ?_ ?_; (· exact (by repeat (first | with_reducible exact Below.refl _ _ | with_reducible assumption | with_reducible refine Below.setCell ?_ (by dsimp only; repeat (first | with_reducible exact Nat.le_refl _ | with_reducible refine Nat.le_trans ?_ (LaterW.ok _).size | rw [World.size_alloc] | rw [World.size_setCell] | rw [World.size_drew] | with_reducible refine Nat.le_succ_of_le ?_)) _ | with_reducible refine LaterW.below _ ?_ | with_reducible refine below_alloc ?_ _ | with_reducible refine below_drewN' ?_ _ | with_reducible refine Below.drew ?_))); (· exact rfl)))
    (refine stepsOk_other rfl (fun Q u lo hi w1 hw1 hd hK => ?_) ?_; · ((have d7 := hd 7 rfl); (simp only [factAt, List.getD_cons_zero, List.getD_cons_succ] at d7); simp only [putAll, Act.put, List.setIfInBounds_toArray, List.set_cons_zero, List.set_cons_succ, Nat.zero_add, Nat.reduceAdd, d7] at hK ⊢; go_wp2_with fail; refine hK _ _ ?_ ?_; (· exact (by repeat (first | with_reducible exact Below.refl _ _ | with_reducible assumption | with_reducible refine Below.setCell ?_ (by dsimp only; repeat (first | with_reducible exact Nat.le_refl _ | with_reducible refine Nat.le_trans ?_ (LaterW.ok _).size | rw [World.size_alloc] | rw [World.size_setCell] | rw [World.size_drew] | with_reducible refine Nat.le_succ_of_le ?_)) _ | with_reducible refine LaterW.below _ ?_ | with_reducible refine below_alloc ?_ _ | with_reducible refine below_drewN' ?_ _ | with_reducible refine Below.drew ?_))); (· exact rfl)))
    (refine stepsOk_plain rfl (fun u lo hi w1 hw1 hd => ?_) ?_; · (refine ⟨_, .inl ⟨rfl, fun W => ?_⟩, by exact rfl⟩; simp [putAll, Act.put, List.setIfInBounds_toArray, List.set_cons_zero, List.set_cons_succ, Nat.zero_add, Nat.reduceAdd, go_sem]))
    (refine stepsOk_plain rfl (fun u lo hi w1 hw1 hd => ?_) ?_; · (refine ⟨_, .inl ⟨rfl, fun W => ?_⟩, by exact rfl⟩; simp [putAll, Act.put, List.setIfInBounds_toArray, List.set_cons_zero, List.set_cons_succ, Nat.zero_add, Nat.reduceAdd, go_sem]))
    (refine stepsOk_other rfl (fun Q u lo hi w1 hw1 hd hK => ?_) ?_; · ((have d9 := hd 9 rfl); (simp only [factAt, List.getD_cons_zero, List.getD_cons_succ] at d9); (have d10 := hd 10 rfl); (simp only [factAt, List.getD_cons_zero, List.getD_cons_succ] at d10); simp only [putAll, Act.put, List.setIfInBounds_toArray, List.set_cons_zero, List.set_cons_succ, Nat.zero_add, Nat.reduceAdd, d9, d10] at hK ⊢; go_wp2_with fail; refine hK _ _ ?_ ?_; (· exact (by repeat (first | with_reducible exact Below.refl _ _ | with_reducible assumption | with_reducible refine Below.setCell ?_ (by dsimp only; repeat (first | with_reducible exact Nat.le_refl _ | with_reducible refine Nat.le_trans ?_ (LaterW.ok _).size | rw [World.size_alloc] | rw [World.size_setCell] | rw [World.size_drew] | with_reducible refine Nat.le_succ_of_le ?_)) _ | with_reducible refine LaterW.below _ ?_ | with_reducible refine below_alloc ?_ _ | with_reducible refine below_drewN' ?_ _ | with_reducible refine Below.drew ?_))); (· exact congrArg (Value.int .i64) (by simp))))
    (refine stepsOk_other rfl (fun Q u lo hi w1 hw1 hd hK => ?_) ?_; · ((have d11 := hd 11 rfl); (simp only [factAt, List.getD_cons_zero, List.getD_cons_succ] at d11); simp only [putAll, Act.put, List.setIfInBounds_toArray, List.set_cons_zero, List.set_cons_succ, Nat.zero_add, Nat.reduceAdd, d11] at hK ⊢; go_wp2_with fail; refine hK _ _ ?_ ?_; (· exact (by repeat (first | with_reducible exact Below.refl _ _ | with_reducible assumption | with_reducible refine Below.setCell ?_ (by dsimp only; repeat (first | with_reducible exact Nat.le_refl _ | with_reducible refine Nat.le_trans ?_ (LaterW.ok _).size | rw [World.size_alloc] | rw [World.size_setCell] | rw [World.size_drew] | with_reducible refine Nat.le_succ_of_le ?_)) _ | with_reducible refine LaterW.below _ ?_ | with_reducible refine below_alloc ?_ _ | with_reducible refine below_drewN' ?_ _ | with_reducible refine Below.drew ?_))); (· exact congrArg (Value.int .i64) (by simp))))
    (refine stepsOk_other rfl (fun Q u lo hi w1 hw1 hd hK => ?_) ?_; · ((have d8 := hd 8 rfl); (simp only [factAt, List.getD_cons_zero, List.getD_cons_succ] at d8); (have d12 := hd 12 rfl); (simp only [factAt, List.getD_cons_zero, List.getD_cons_succ] at d12); simp only [putAll, Act.put, List.setIfInBounds_toArray, List.set_cons_zero, List.set_cons_succ, Nat.zero_add, Nat.reduceAdd, d8, d12] at hK ⊢; go_wp2_with fail; refine hK _ _ ?_ ?_; (· exact (by repeat (first | with_reducible exact Below.refl _ _ | with_reducible assumption | with_reducible refine Below.setCell ?_ (by dsimp only; repeat (first | with_reducible exact Nat.le_refl _ | with_reducible refine Nat.le_trans ?_ (LaterW.ok _).size | rw [World.size_alloc] | rw [World.size_setCell] | rw [World.size_drew] | with_reducible refine Nat.le_succ_of_le ?_)) _ | with_reducible refine LaterW.below _ ?_ | with_reducible refine below_alloc ?_ _ | with_reducible refine below_drewN' ?_ _ | with_reducible refine Below.drew ?_))); (· exact rfl)))
    (refine stepsOk_other rfl (fun Q u lo hi w1 hw1 hd hK => ?_) ?_; · ((have d13 := hd 13 rfl); (simp only [factAt, List.getD_cons_zero, List.getD_cons_succ] at d13); simp only [putAll, Act.put, List.setIfInBounds_toArray, List.set_cons_zero, List.set_cons_succ, Nat.zero_add, Nat.reduceAdd, d13] at hK ⊢; go_wp2_with fail; refine hK _ _ ?_ ?_; (· exact (by repeat (first | with_reducible exact Below.refl _ _ | with_reducible assumption | with_reducible refine Below.setCell ?_ (by dsimp only; repeat (first | with_reducible exact Nat.le_refl _ | with_reducible refine Nat.le_trans ?_ (LaterW.ok _).size | rw [World.size_alloc] | rw [World.size_setCell] | rw [World.size_drew] | with_reducible refine Nat.le_succ_of_le ?_)) _ | with_reducible refine LaterW.below _ ?_ | with_reducible refine below_alloc ?_ _ | with_reducible refine below_drewN' ?_ _ | with_reducible refine Below.drew ?_))); (· exact rfl)))
    (refine stepsOk_other rfl (fun Q u lo hi w1 hw1 hd hK => ?_) ?_; · ((have d6 := hd 6 rfl); (simp only [factAt, List.getD_cons_zero, List.getD_cons_succ] at d6); (have d14 := hd 14 rfl); (simp only [factAt, List.getD_cons_zero, List.getD_cons_succ] at d14); simp only [putAll, Act.put, List.setIfInBounds_toArray, List.set_cons_zero, List.set_cons_succ, Nat.zero_add, Nat.reduceAdd, d6, d14] at hK ⊢; go_wp2_with fail; refine hK _ _ ?_ ?_; (· exact (by repeat (first | with_reducible exact Below.refl _ _ | with_reducible assumption | with_reducible refine Below.setCell ?_ (by dsimp only; repeat (first | with_reducible exact Nat.le_refl _ | with_reducible refine Nat.le_trans ?_ (LaterW.ok _).size | rw [World.size_alloc] | rw [World.size_setCell] | rw [World.size_drew] | with_reducible refine Nat.le_succ_of_le ?_)) _ | with_reducible refine LaterW.below _ ?_ | with_reducible refine below_alloc ?_ _ | with_reducible refine below_drewN' ?_ _ | with_reducible refine Below.drew ?_))); (· exact rfl)))
    exact stepsOk_nil
  case rest =>
    (intro Q' hQ' u lo hi w1 hw1 hf hdj hsz; (have d0 := hf 0 (by decide)); (simp only [factAt, List.getD_cons_zero] at d0); (have d1 := hf 1 (by decide)); (simp only [factAt, List.getD_cons_zero, List.getD_cons_succ] at d1); (have d2 := hf 2 (by decide)); (simp only [factAt, List.getD_cons_zero, List.getD_cons_succ] at d2); (have d3 := hf 3 (by decide)); (simp only [factAt, List.getD_cons_zero, List.getD_cons_succ] at d3); (have d4 := hf 4 (by decide)); (simp only [factAt, List.getD_cons_zero, List.getD_cons_succ] at d4); (have d5 := hf 5 (by decide)); (simp only [factAt, List.getD_cons_zero, List.getD_cons_succ] at d5); (have d6 := hf 6 (by decide)); (simp only [factAt, List.getD_cons_zero, List.getD_cons_succ] at d6); (have d7 := hf 7 (by decide)); (simp only [factAt, List.getD_cons_zero, List.getD_cons_succ] at d7); (have d8 := hf 8 (by decide)); (simp only [factAt, List.getD_cons_zero, List.getD_cons_succ] at d8); (have d9 := hf 9 (by decide)); (simp only [factAt, List.getD_cons_zero, List.getD_cons_succ] at d9); (have d10 := hf 10 (by decide)); (simp only [factAt, List.getD_cons_zero, List.getD_cons_succ] at d10); (have d11 := hf 11 (by decide)); (simp only [factAt, List.getD_cons_zero, List.getD_cons_succ] at d11); (have d12 := hf 12 (by decide)); (simp only [factAt, List.getD_cons_zero, List.getD_cons_succ] at d12); (have d13 := hf 13 (by decide)); (simp only [factAt, List.getD_cons_zero, List.getD_cons_succ] at d13); (have d14 := hf 14 (by decide)); (simp only [factAt, List.getD_cons_zero, List.getD_cons_succ] at d14); (have d15 := hf 15 (by decide)); (simp only [factAt, List.getD_cons_zero, List.getD_cons_succ] at d15); simp only [List.take_succ_cons, List.take_zero, List.drop_succ_cons, List.drop_zero, putAll, Act.put, List.setIfInBounds_toArray, List.set_cons_zero, List.set_cons_succ, Nat.zero_add, Nat.reduceAdd, d0, d1, d2, d3, d4, d5, d6, d7, d8, d9, d10, d11, d12, d13, d14, d15])
    have p2 := o2.below hw1 o2.lt
    refine wpList_store_mid rfl 78 (.tmp 4) (.tmp 24) rfl (w.heap.size + 1) 0 _ rfl rfl (p2.there (Nat.le_refl 2)) (by kernel_rfl) (by kernel_rfl) ?_
    have n2 := Own.sets (vs := [fl vx, fl vy]) p2 rfl
    have hb := Below.setCells (Nat.le_succ _) [fl vx, fl vy] 0 _ (hbel.trans (Below.mono hw1 hbel.size))
    apply hQ'
    dsimp only [Act.put]
    generalize (w1.setCells (w.heap.size + 1) 0 [fl vx, fl vy]) = W2 at *
    clear G1 D0 D1 hf hdj hsz d0 d1 d2 d3 d4 d5 d6 d7 d8 d9 d10 d11 d12 d13 d14 d15 hw1 p2 hQ' lo hi
    go_wp2_with fail
    refine ret_agg [fl vx, fl vy] rfl rfl rfl (by kernel_rfl) (by kernel_rfl) (n2).cells (⟨rfl, hb⟩)
def closedB (xs : List Nat) (d : Int) (q : Nat) : Bool := decide (q ≠ 0) && ((D.order (placeAt xs d 0).x (placeAt xs d (q - 1)).x == some .eq) && (D.order (placeAt xs d 0).y (placeAt xs d (q - 1)).y == some .eq))
theorem isClosed_any (ha : NumsIs w B a xs) (hB : B ≤ w.heap.size) (hn : xs.length = n) (hl : n ≤ 4000) (h0 : 0 ≤ d) (h3 : d ≤ 3) (hq : n / widthN d = q) (hq0 : q ≠ 0) :
    Calls Try.prog 112 #[vSeq d a n ca] w fun e w' => e = .returned (.bool (closedB xs d q)) ∧ Below w.heap.size w w' := by
  have HA := Lib.hid ha
  have hqn : q ≤ n := by rw [← hq]; exact Nat.div_le_self _ _
  have HQ := Lib.hid hq
  have HG : Hid (∀ (W' : World) (k : Nat), Below w.heap.size w W' → k < q → Calls Try.prog 128 #[vSeq d a n ca, .int .i64 k] W' fun e w' => e = .returned (vXY (placeAt xs d k).x (placeAt xs d k).y) ∧ Below W'.heap.size W' w') := fun W' k h hk => getXY_any (HA.out.below h hB) (Nat.le_trans hB h.size) hn hl h0 h3 (by rw [HQ.out]; exact hk)
  have hcl : closedB xs d q = ((D.order (placeAt xs d 0).x (placeAt xs d (q - 1)).x == some .eq) && (D.order (placeAt xs d 0).y (placeAt xs d (q - 1)).y == some .eq)) := by unfold closedB; simp [hq0]
  rw [hcl]
  have g0 : ∀ W', Below w.heap.size w W' → Calls Try.prog 128 #[vSeq d a n ca, .int .i64 0] W' fun e w' => e = .returned (vXY (placeAt xs d 0).x (placeAt xs d 0).y) ∧ Below W'.heap.size W' w' := fun W' h => HG.out W' 0 h (by omega)
  have g1 := fun W' h => HG.out W' (q - 1) h (by omega)
  have e1 : ((q - 1 : Nat) : Int) = (q : Int) - 1 := by omega
  rw [e1] at g1
  generalize placeAt xs d 0 = p0 at *
  generalize placeAt xs d (q - 1) = p1 at *
  have HG0 := Lib.hid g0
  have HG1 := Lib.hid g1
  clear ha hq HG hcl g0 g1 HA e1
  go_enter Try.func112, Try.ntmps112
  go_wp2_with fail
  have o1 : Own (w.alloc (.cells #[.int .u8 d, .slice a n ca] 72)) w.heap.size [.int .u8 d, .slice a n ca] := (by repeat (first | (refine Own.new' _ rfl ?_; first | with_reducible rfl | (simp; done)) | with_reducible apply Own.later | with_reducible apply Own.alloc | with_reducible apply Own.drew | with_reducible apply Own.drewN | with_reducible apply Own.other))
  have hbel : Below w.heap.size w (w.alloc (.cells #[.int .u8 d, .slice a n ca] 72)) := (by repeat (first | with_reducible exact Below.refl _ _ | with_reducible exact HBEL.out | with_reducible assumption | with_reducible refine Below.setCell ?_ (by first | (dsimp only; omega) | (simp; try omega)) _ | with_reducible refine LaterW.below _ ?_ | with_reducible refine below_alloc ?_ _ | with_reducible refine below_drewN' ?_ _ | with_reducible refine Below.drew ?_ | with_reducible exact below_drewN _))
  have HB := Lib.hid hbel
  generalize (w.alloc (.cells #[.int .u8 d, .slice a n ca] 72)) = W at *
  have G0 : ∀ w', Below W.heap.size W w' → w'.cell? ⟨w.heap.size, 0, none⟩ = some (.int .u8 d) := fun w' h => (o1.below h o1.lt).cells.1
  have G1 : ∀ w', Below W.heap.size W w' → w'.cell? ⟨w.heap.size, 1, none⟩ = some (.slice a n ca) := fun w' h => (o1.below h o1.lt).cells.2.1
  clear o1 hbel
  have hdec : decide (q = 0) = false := by simp [hq0]
  refine wp_region_facts 14 (fun w' => Below W.heap.size W w') [fun _ _ _ v => v = vSeq d a n ca, fun _ _ _ v => v = .bool false, fun _ _ _ v => v = .bool true, fun _ _ _ v => v = .bool true, fun _ _ _ v => v = .pointer (some ⟨w.heap.size, 0, none⟩), fun _ _ _ v => v = vSeq d a n ca, fun _ _ _ v => v = vXY p0.x p0.y, fun _ _ _ v => v = .pointer (some ⟨w.heap.size, 0, none⟩), fun _ _ _ v => v = vSeq d a n ca, fun _ _ _ v => v = .pointer (some ⟨w.heap.size, 0, none⟩), fun _ _ _ v => v = vSeq d a n ca, fun _ _ _ v => v = .int .i64 q, fun _ _ _ v => v = .int .i64 ((q : Int) - 1), fun _ _ _ v => v = vXY p1.x p1.y] rfl (by kernel_rfl) (Below.refl _ _).drew (fun _ _ h h' => Below.trans h (Below.mono h' h.size)) ⟨stays_val _, stays_val _, stays_val _, stays_val _, stays_val _, stays_val _, stays_val _, stays_val _, stays_val _, stays_val _, stays_val _, stays_val _, stays_val _, stays_val _, trivial⟩ ?steps ?rest
  case steps =>
    simp only [List.take_succ_cons, List.take_zero]
    (refine stepsOk_other rfl (fun Q u lo hi w1 hw1 hd hK => ?_) ?_; · (simp only [putAll, Act.put, List.setIfInBounds_toArray, List.set_cons_zero, List.set_cons_succ, Nat.zero_add, Nat.reduceAdd] at hK ⊢; go_wp2_with fail; refine hK _ _ ?_ ?_; (· exact (by repeat (first | with_reducible exact Below.refl _ _ | with_reducible assumption | with_reducible refine Below.setCell ?_ (by dsimp only; repeat (first | with_reducible exact Nat.le_refl _ | with_reducible refine Nat.le_trans ?_ (LaterW.ok _).size | rw [World.size_alloc] | rw [World.size_setCell] | rw [World.size_drew] | with_reducible refine Nat.le_succ_of_le ?_)) _ | with_reducible refine LaterW.below _ ?_ | with_reducible refine below_alloc ?_ _ | with_reducible refine below_drewN' ?_ _ | with_reducible refine Below.drew ?_))); (· exact rfl)))
    (refine stepsOk_other rfl (fun Q u lo hi w1 hw1 hd hK => ?_) ?_; · ((have d0 := hd 0 rfl); (simp only [factAt, List.getD_cons_zero] at d0); simp only [putAll, Act.put, List.setIfInBounds_toArray, List.set_cons_zero, List.set_cons_succ, Nat.zero_add, Nat.reduceAdd, d0] at hK ⊢; go_wp2_with (go_at_call 111; (with_reducible refine (lineEmpty_any h0 h3 HQ.out hl).mono ?_); rintro e w1 ⟨rfl, hb⟩; (first | (obtain ⟨x1, rfl⟩ := LaterW.of2 hb) | (obtain ⟨x1, rfl⟩ := LaterW.of hb)); clear hb); refine hK _ _ ?_ ?_; (· exact (by repeat (first | with_reducible exact Below.refl _ _ | with_reducible assumption | with_reducible refine Below.setCell ?_ (by dsimp only; repeat (first | with_reducible exact Nat.le_refl _ | with_reducible refine Nat.le_trans ?_ (LaterW.ok _).size | rw [World.size_alloc] | rw [World.size_setCell] | rw [World.size_drew] | with_reducible refine Nat.le_succ_of_le ?_)) _ | with_reducible refine LaterW.below _ ?_ | with_reducible refine below_alloc ?_ _ | with_reducible refine below_drewN' ?_ _ | with_reducible refine Below.drew ?_))); (· exact rfl)))
    (refine stepsOk_plain rfl (fun u lo hi w1 hw1 hd => ?_) ?_; · ((have d1 := hd 1 rfl); (simp only [factAt, List.getD_cons_zero, List.getD_cons_succ] at d1); refine ⟨_, .inl ⟨rfl, fun W => ?_⟩, by exact rfl⟩; simp [putAll, Act.put, List.setIfInBounds_toArray, List.set_cons_zero, List.set_cons_succ, Nat.zero_add, Nat.reduceAdd, d1, go_sem]))
    (refine stepsOk_plain rfl (fun u lo hi w1 hw1 hd => ?_) ?_; · ((have d2 := hd 2 rfl); (simp only [factAt, List.getD_cons_zero, List.getD_cons_succ] at d2); refine ⟨_, .inl ⟨rfl, fun W => ?_⟩, by exact rfl⟩; simp [putAll, Act.put, List.setIfInBounds_toArray, List.set_cons_zero, List.set_cons_succ, Nat.zero_add, Nat.reduceAdd, d2, go_sem]))
    (refine stepsOk_other rfl (fun Q u lo hi w1 hw1 hd hK => ?_) ?_; · ((have d3 := hd 3 rfl); (simp only [factAt, List.getD_cons_zero, List.getD_cons_succ] at d3); simp only [putAll, Act.put, List.setIfInBounds_toArray, List.set_cons_zero, List.set_cons_succ, Nat.zero_add, Nat.reduceAdd, d3] at hK ⊢; go_wp2_with fail; refine hK _ _ ?_ ?_; (· exact (by repeat (first | with_reducible exact Below.refl _ _ | with_reducible assumption | with_reducible refine Below.setCell ?_ (by dsimp only; repeat (first | with_reducible exact Nat.le_refl _ | with_reducible refine Nat.le_trans ?_ (LaterW.ok _).size | rw [World.size_alloc] | rw [World.size_setCell] | rw [World.size_drew] | with_reducible refine Nat.le_succ_of_le ?_)) _ | with_reducible refine LaterW.below _ ?_ | with_reducible refine below_alloc ?_ _ | with_reducible refine below_drewN' ?_ _ | with_reducible refine Below.drew ?_))); (· exact rfl)))
    (refine stepsOk_other rfl (fun Q u lo hi w1 hw1 hd hK => ?_) ?_; · ((have d3 := hd 3 rfl); (simp only [factAt, List.getD_cons_zero, List.getD_cons_succ] at d3); (have d4 := hd 4 rfl); (simp only [factAt, List.getD_cons_zero, List.getD_cons_succ] at d4); simp only [putAll, Act.put, List.setIfInBounds_toArray, List.set_cons_zero, List.set_cons_succ, Nat.zero_add, Nat.reduceAdd, d3, d4] at hK ⊢; go_wp2_with fail; refine hK _ _ ?_ ?_; (· exact (by repeat (first | with_reducible exact Below.refl _ _ | with_reducible assumption | with_reducible refine Below.setCell ?_ (by dsimp only; repeat (first | with_reducible exact Nat.le_refl _ | with_reducible refine Nat.le_trans ?_ (LaterW.ok _).size | rw [World.size_alloc] | rw [World.size_setCell] | rw [World.size_drew] | with_reducible refine Nat.le_succ_of_le ?_)) _ | with_reducible refine LaterW.below _ ?_ | with_reducible refine below_alloc ?_ _ | with_reducible refine below_drewN' ?_ _ | with_reducible refine Below.drew ?_))); (· exact rfl)))
    (refine stepsOk_other rfl (fun Q u lo hi w1 hw1 hd hK => ?_) ?_; · ((have d3 := hd 3 rfl); (simp only [factAt, List.getD_cons_zero, List.getD_cons_succ] at d3); (have d5 := hd 5 rfl); (simp only [factAt, List.getD_cons_zero, List.getD_cons_succ] at d5); simp only [putAll, Act.put, List.setIfInBounds_toArray, List.set_cons_zero, List.set_cons_succ, Nat.zero_add, Nat.reduceAdd, d3, d5] at hK ⊢; go_wp2_with (go_at_call 128; (with_reducible refine (HG0.out _ (HB.out.trans (Below.mono hw1 HB.out.size))).mono ?_); rintro e w1 ⟨rfl, hb⟩; (first | (obtain ⟨x1, rfl⟩ := LaterW.of2 hb) | (obtain ⟨x1, rfl⟩ := LaterW.of hb)); clear hb); refine hK _ _ ?_ ?_; (· exact (by repeat (first | with_reducible exact Below.refl _ _ | with_reducible assumption | with_reducible refine Below.setCell ?_ (by dsimp only; repeat (first | with_reducible exact Nat.le_refl _ | with_reducible refine Nat.le_trans ?_ (LaterW.ok _).size | rw [World.size_alloc] | rw [World.size_setCell] | rw [World.size_drew] | with_reducible refine Nat.le_succ_of_le ?_)) _ | with_reducible refine LaterW.below _ ?_ | with_reducible refine below_alloc ?_ _ | with_reducible refine below_drewN' ?_ _ | with_reducible refine Below.drew ?_))); (· exact rfl)))
    (refine stepsOk_other rfl (fun Q u lo hi w1 hw1 hd hK => ?_) ?_; · ((have d3 := hd 3 rfl); (simp only [factAt, List.getD_cons_zero, List.getD_cons_succ] at d3); simp only [putAll, Act.put, List.setIfInBounds_toArray, List.set_cons_zero, List.set_cons_succ, Nat.zero_add, Nat.reduceAdd, d3] at hK ⊢; go_wp2_with fail; refine hK _ _ ?_ ?_; (· exact (by repeat (first | with_reducible exact Below.refl _ _ | with_reducible assumption | with_reducible refine Below.setCell ?_ (by dsimp only; repeat (first | with_reducible exact Nat.le_refl _ | with_reducible refine Nat.le_trans ?_ (LaterW.ok _).size | rw [World.size_alloc] | rw [World.size_setCell] | rw [World.size_drew] | with_reducible refine Nat.le_succ_of_le ?_)) _ | with_reducible refine LaterW.below _ ?_ | with_reducible refine below_alloc ?_ _ | with_reducible refine below_drewN' ?_ _ | with_reducible refine Below.drew ?_))); (· exact rfl)))
    (refine stepsOk_other rfl (fun Q u lo hi w1 hw1 hd hK => ?_) ?_; · ((have d3 := hd 3 rfl); (simp only [factAt, List.getD_cons_zero, List.getD_cons_succ] at d3); (have d7 := hd 7 rfl); (simp only [factAt, List.getD_cons_zero, List.getD_cons_succ] at d7); simp only [putAll, Act.put, List.setIfInBounds_toArray, List.set_cons_zero, List.set_cons_succ, Nat.zero_add, Nat.reduceAdd, d3, d7] at hK ⊢; go_wp2_with fail; refine hK _ _ ?_ ?_; (· exact (by repeat (first | with_reducible exact Below.refl _ _ | with_reducible assumption | with_reducible refine Below.setCell ?_ (by dsimp only; repeat (first | with_reducible exact Nat.le_refl _ | with_reducible refine Nat.le_trans ?_ (LaterW.ok _).size | rw [World.size_alloc] | rw [World.size_setCell] | rw [World.size_drew] | with_reducible refine Nat.le_succ_of_le ?_)) _ | with_reducible refine LaterW.below _ ?_ | with_reducible refine below_alloc ?_ _ | with_reducible refine below_drewN' ?_ _ | with_reducible refine Below.drew ?_))); (· exact rfl)))
    (refine stepsOk_other rfl (fun Q u lo hi w1 hw1 hd hK => ?_) ?_; · ((have d3 := hd 3 rfl); (simp only [factAt, List.getD_cons_zero, List.getD_cons_succ] at d3); simp only [putAll, Act.put, List.setIfInBounds_toArray, List.set_cons_zero, List.set_cons_succ, Nat.zero_add, Nat.reduceAdd, d3] at hK ⊢; go_wp2_with fail; refine hK _ _ ?_ ?_; (· exact (by repeat (first | with_reducible exact Below.refl _ _ | with_reducible assumption | with_reducible refine Below.setCell ?_ (by dsimp only; repeat (first | with_reducible exact Nat.le_refl _ | with_reducible refine Nat.le_trans ?_ (LaterW.ok _).size | rw [World.size_alloc] | rw [World.size_setCell] | rw [World.size_drew] | with_reducible refine Nat.le_succ_of_le ?_)) _ | with_reducible refine LaterW.below _ ?_ | with_reducible refine below_alloc ?_ _ | with_reducible refine below_drewN' ?_ _ | with_reducible refine Below.drew ?_))); (· exact rfl)))
    (refine stepsOk_other rfl (fun Q u lo hi w1 hw1 hd hK => ?_) ?_; · ((have d3 := hd 3 rfl); (simp only [factAt, List.getD_cons_zero, List.getD_cons_succ] at d3); (have d9 := hd 9 rfl); (simp only [factAt, List.getD_cons_zero, List.getD_cons_succ] at d9); simp only [putAll, Act.put, List.setIfInBounds_toArray, List.set_cons_zero, List.set_cons_succ, Nat.zero_add, Nat.reduceAdd, d3, d9] at hK ⊢; go_wp2_with fail; refine hK _ _ ?_ ?_; (· exact (by repeat (first | with_reducible exact Below.refl _ _ | with_reducible assumption | with_reducible refine Below.setCell ?_ (by dsimp only; repeat (first | with_reducible exact Nat.le_refl _ | with_reducible refine Nat.le_trans ?_ (LaterW.ok _).size | rw [World.size_alloc] | rw [World.size_setCell] | rw [World.size_drew] | with_reducible refine Nat.le_succ_of_le ?_)) _ | with_reducible refine LaterW.below _ ?_ | with_reducible refine below_alloc ?_ _ | with_reducible refine below_drewN' ?_ _ | with_reducible refine Below.drew ?_))); (· exact rfl)))
    (refine stepsOk_other rfl (fun Q u lo hi w1 hw1 hd hK => ?_) ?_; · ((have d3 := hd 3 rfl); (simp only [factAt, List.getD_cons_zero, List.getD_cons_succ] at d3); (have d10 := hd 10 rfl); (simp only [factAt, List.getD_cons_zero, List.getD_cons_succ] at d10); simp only [putAll, Act.put, List.setIfInBounds_toArray, List.set_cons_zero, List.set_cons_succ, Nat.zero_add, Nat.reduceAdd, d3, d10] at hK ⊢; go_wp2_with (go_at_call 84; (with_reducible refine (seqLength_any h0 h3 HQ.out hl _).mono ?_); rintro e w1 ⟨rfl, hb⟩; (first | (obtain ⟨x1, rfl⟩ := LaterW.of2 hb) | (obtain ⟨x1, rfl⟩ := LaterW.of hb)); clear hb); refine hK _ _ ?_ ?_; (· exact (by repeat (first | with_reducible exact Below.refl _ _ | with_reducible assumption | with_reducible refine Below.setCell ?_ (by dsimp only; repeat (first | with_reducible exact Nat.le_refl _ | with_reducible refine Nat.le_trans ?_ (LaterW.ok _).size | rw [World.size_alloc] | rw [World.size_setCell] | rw [World.size_drew] | with_reducible refine Nat.le_succ_of_le ?_)) _ | with_reducible refine LaterW.below _ ?_ | with_reducible refine below_alloc ?_ _ | with_reducible refine below_drewN' ?_ _ | with_reducible refine Below.drew ?_))); (· exact rfl)))
    (refine stepsOk_other rfl (fun Q u lo hi w1 hw1 hd hK => ?_) ?_; · ((have d3 := hd 3 rfl); (simp only [factAt, List.getD_cons_zero, List.getD_cons_succ] at d3); (have d11 := hd 11 rfl); (simp only [factAt, List.getD_cons_zero, List.getD_cons_succ] at d11); simp only [putAll, Act.put, List.setIfInBounds_toArray, List.set_cons_zero, List.set_cons_succ, Nat.zero_add, Nat.reduceAdd, d3, d11] at hK ⊢; go_wp2_with fail; refine hK _ _ ?_ ?_; (· exact (by repeat (first | with_reducible exact Below.refl _ _ | with_reducible assumption | with_reducible refine Below.setCell ?_ (by dsimp only; repeat (first | with_reducible exact Nat.le_refl _ | with_reducible refine Nat.le_trans ?_ (LaterW.ok _).size | rw [World.size_alloc] | rw [World.size_setCell] | rw [World.size_drew] | with_reducible refine Nat.le_succ_of_le ?_)) _ | with_reducible refine LaterW.below _ ?_ | with_reducible refine below_alloc ?_ _ | with_reducible refine below_drewN' ?_ _ | with_reducible refine Below.drew ?_))); (· exact congrArg (Value.int .i64) (by simp))))
    (refine stepsOk_other rfl (fun Q u lo hi w1 hw1 hd hK => ?_) ?_; · ((have d3 := hd 3 rfl); (simp only [factAt, List.getD_cons_zero, List.getD_cons_succ] at d3); (have d8 := hd 8 rfl); (simp only [factAt, List.getD_cons_zero, List.getD_cons_succ] at d8); (have d12 := hd 12 rfl); (simp only [factAt, List.getD_cons_zero, List.getD_cons_succ] at d12); simp only [putAll, Act.put, List.setIfInBounds_toArray, List.set_cons_zero, List.set_cons_succ, Nat.zero_add, Nat.reduceAdd, d3, d8, d12] at hK ⊢; go_wp2_with (go_at_call 128; (with_reducible refine (HG1.out _ (HB.out.trans (Below.mono hw1 HB.out.size))).mono ?_); rintro e w1 ⟨rfl, hb⟩; (first | (obtain ⟨x1, rfl⟩ := LaterW.of2 hb) | (obtain ⟨x1, rfl⟩ := LaterW.of hb)); clear hb); refine hK _ _ ?_ ?_; (· exact (by repeat (first | with_reducible exact Below.refl _ _ | with_reducible assumption | with_reducible refine Below.setCell ?_ (by dsimp only; repeat (first | with_reducible exact Nat.le_refl _ | with_reducible refine Nat.le_trans ?_ (LaterW.ok _).size | rw [World.size_alloc] | rw [World.size_setCell] | rw [World.size_drew] | with_reducible refine Nat.le_succ_of_le ?_)) _ | with_reducible refine LaterW.below _ ?_ | with_reducible refine below_alloc ?_ _ | with_reducible refine below_drewN' ?_ _ | with_reducible refine Below.drew ?_))); (· exact rfl)))
    exact stepsOk_nil
  case rest =>
    (intro Q' hQ' u lo hi w1 hw1 hf hdj hsz; (have d0 := hf 0 (by decide)); (simp only [factAt, List.getD_cons_zero] at d0); (have d1 := hf 1 (by decide)); (simp only [factAt, List.getD_cons_zero, List.getD_cons_succ] at d1); (have d2 := hf 2 (by decide)); (simp only [factAt, List.getD_cons_zero, List.getD_cons_succ] at d2); (have d3 := hf 3 (by decide)); (simp only [factAt, List.getD_cons_zero, List.getD_cons_succ] at d3); (have d4 := hf 4 (by decide)); (simp only [factAt, List.getD_cons_zero, List.getD_cons_succ] at d4); (have d5 := hf 5 (by decide)); (simp only [factAt, List.getD_cons_zero, List.getD_cons_succ] at d5); (have d6 := hf 6 (by decide)); (simp only [factAt, List.getD_cons_zero, List.getD_cons_succ] at d6); (have d7 := hf 7 (by decide)); (simp only [factAt, List.getD_cons_zero, List.getD_cons_succ] at d7); (have d8 := hf 8 (by decide)); (simp only [factAt, List.getD_cons_zero, List.getD_cons_succ] at d8); (have d9 := hf 9 (by decide)); (simp only [factAt, List.getD_cons_zero, List.getD_cons_succ] at d9); (have d10 := hf 10 (by decide)); (simp only [factAt, List.getD_cons_zero, List.getD_cons_succ] at d10); (have d11 := hf 11 (by decide)); (simp only [factAt, List.getD_cons_zero, List.getD_cons_succ] at d11); (have d12 := hf 12 (by decide)); (simp only [factAt, List.getD_cons_zero, List.getD_cons_succ] at d12); (have d13 := hf 13 (by decide)); (simp only [factAt, List.getD_cons_zero, List.getD_cons_succ] at d13); simp only [List.take_succ_cons, List.take_zero, List.drop_succ_cons, List.drop_zero, putAll, Act.put, List.setIfInBounds_toArray, List.set_cons_zero, List.set_cons_succ, Nat.zero_add, Nat.reduceAdd, d3, d6, d13])
    go_wp2_with fail
    all_goals
      go_ret
      exact ⟨ret_bool (by simp_all), HB.out.trans (Below.mono hw1 HB.out.size)⟩
theorem lineType_any : Calls Try.prog 127 #[vSeq d a n ca] w fun e w' => e = .returned (.int .u8 d) ∧ Below w.heap.size w w' := by
  go_enter Try.func127, Try.ntmps127
  go_wp2_with ((go_at_call 83; (with_reducible refine (seqType_any _ _ _ _ _).mono ?_); rintro e w1 ⟨rfl, hb⟩; (first | (obtain ⟨x1, rfl⟩ := LaterW.of2 hb) | (obtain ⟨x1, rfl⟩ := LaterW.of hb)); clear hb))
  go_ret
  exact ⟨rfl, (by repeat (first | with_reducible exact Below.refl _ _ | with_reducible exact HBEL.out | with_reducible assumption | with_reducible refine Below.setCell ?_ (by first | (dsimp only; omega) | (simp; try omega)) _ | with_reducible refine LaterW.below _ ?_ | with_reducible refine below_alloc ?_ _ | with_reducible refine below_drewN' ?_ _ | with_reducible refine Below.drew ?_ | with_reducible exact below_drewN _))⟩
theorem startPoint_any (ha : NumsIs w B a xs) (hB : B ≤ w.heap.size) (hn : xs.length = n) (hl : n ≤ 4000) (h0 : 0 ≤ d) (h3 : d ≤ 3) (hq : n / widthN d = q) (hq0 : q ≠ 0) :
    Calls Try.prog 114 #[vSeq d a n ca] w fun e w' => e = .returned (vP (placeAt xs d 0) d true) ∧ Below w.heap.size w w' := by
  have HQ := Lib.hid hq
  have HG : Hid (∀ (W' : World), Below w.heap.size w W' → Calls Try.prog 85 #[vSeq d a n ca, .int .i64 0] W' fun e w' => e = .returned (vC (placeAt xs d 0) d) ∧ Below W'.heap.size W' w') := fun W' h => seqGet_any (k := 0) (ha.below h hB) (Nat.le_trans hB h.size) hn hl h0 h3 (by rw [HQ.out]; omega)
  have hdec : decide (q = 0) = false := by simp [hq0]
  generalize placeAt xs d 0 = p at *
  clear ha hq
  go_enter Try.func114, Try.ntmps114
  go_wp2_with (first | (go_at_call 111; (with_reducible refine (lineEmpty_any h0 h3 HQ.out hl).mono ?_); rintro e w1 ⟨rfl, hb⟩; (first | (obtain ⟨x1, rfl⟩ := LaterW.of2 hb) | (obtain ⟨x1, rfl⟩ := LaterW.of hb)); clear hb) | (go_at_call 85; (with_reducible refine (HG.out _ (by repeat (first | with_reducible exact Below.refl _ _ | with_reducible exact HBEL.out | with_reducible assumption | with_reducible refine Below.setCell ?_ (by first | (dsimp only; omega) | (simp; try omega)) _ | with_reducible refine LaterW.below _ ?_ | with_reducible refine below_alloc ?_ _ | with_reducible refine below_drewN' ?_ _ | with_reducible refine Below.drew ?_ | with_reducible exact below_drewN _))).mono ?_); rintro e w1 ⟨rfl, hb⟩; (first | (obtain ⟨x1, rfl⟩ := LaterW.of2 hb) | (obtain ⟨x1, rfl⟩ := LaterW.of hb)); clear hb) | (go_at_call 94; (with_reducible refine (newPoint_any p _ _).mono ?_); rintro e w1 ⟨rfl, hb⟩; (first | (obtain ⟨x1, rfl⟩ := LaterW.of2 hb) | (obtain ⟨x1, rfl⟩ := LaterW.of hb)); clear hb))
  refine ret_agg [fl p.x, fl p.y, fl p.z, fl p.m, .int .u8 d, .bool true] rfl rfl rfl (by kernel_rfl) (by kernel_rfl) (by simp [CellsAt, go_sem]) ⟨rfl, ?_⟩
  exact (by repeat (first | with_reducible exact Below.refl _ _ | with_reducible exact HBEL.out | with_reducible assumption | with_reducible refine Below.setCell ?_ (by first | (dsimp only; omega) | (simp; try omega)) _ | with_reducible refine LaterW.below _ ?_ | with_reducible refine below_alloc ?_ _ | with_reducible refine below_drewN' ?_ _ | with_reducible refine Below.drew ?_ | with_reducible exact below_drewN _))
theorem endPoint_any (ha : NumsIs w B a xs) (hB : B ≤ w.heap.size) (hn : xs.length = n) (hl : n ≤ 4000) (h0 : 0 ≤ d) (h3 : d ≤ 3) (hq : n / widthN d = q) (hq0 : q ≠ 0) :
    Calls Try.prog 115 #[vSeq d a n ca] w fun e w' => e = .returned (vP (placeAt xs d (q - 1)) d true) ∧ Below w.heap.size w w' := by
  have hqn : q ≤ n := by rw [← hq]; exact Nat.div_le_self _ _
  have HQ := Lib.hid hq
  have e1 : ((q - 1 : Nat) : Int) = (q : Int) - 1 := by omega
  have HG : Hid (∀ (W' : World), Below w.heap.size w W' → Calls Try.prog 85 #[vSeq d a n ca, .int .i64 ((q : Int) - 1)] W' fun e w' => e = .returned (vC (placeAt xs d (q - 1)) d) ∧ Below W'.heap.size W' w') := fun W' h => by
    have := seqGet_any (ca := ca) (k := q - 1) (ha.below h hB) (Nat.le_trans hB h.size) hn hl h0 h3 (by rw [HQ.out]; omega)
    rw [e1] at this
    exact this
  have hdec : decide (q = 0) = false := by simp [hq0]
  generalize placeAt xs d (q - 1) = p at *
  clear ha hq e1
  go_enter Try.func115, Try.ntmps115
  go_wp2_with (first | (go_at_call 111; (with_reducible refine (lineEmpty_any h0 h3 HQ.out hl).mono ?_); rintro e w1 ⟨rfl, hb⟩; (first | (obtain ⟨x1, rfl⟩ := LaterW.of2 hb) | (obtain ⟨x1, rfl⟩ := LaterW.of hb)); clear hb) | (go_at_call 84; (with_reducible refine (seqLength_any h0 h3 HQ.out hl _).mono ?_); rintro e w1 ⟨rfl, hb⟩; (first | (obtain ⟨x1, rfl⟩ := LaterW.of2 hb) | (obtain ⟨x1, rfl⟩ := LaterW.of hb)); clear hb) | (go_at_call 85; (with_reducible refine (HG.out _ (by repeat (first | with_reducible exact Below.refl _ _ | with_reducible exact HBEL.out | with_reducible assumption | with_reducible refine Below.setCell ?_ (by first | (dsimp only; omega) | (simp; try omega)) _ | with_reducible refine LaterW.below _ ?_ | with_reducible refine below_alloc ?_ _ | with_reducible refine below_drewN' ?_ _ | with_reducible refine Below.drew ?_ | with_reducible exact below_drewN _))).mono ?_); rintro e w1 ⟨rfl, hb⟩; (first | (obtain ⟨x1, rfl⟩ := LaterW.of2 hb) | (obtain ⟨x1, rfl⟩ := LaterW.of hb)); clear hb) | (go_at_call 94; (with_reducible refine (newPoint_any p _ _).mono ?_); rintro e w1 ⟨rfl, hb⟩; (first | (obtain ⟨x1, rfl⟩ := LaterW.of2 hb) | (obtain ⟨x1, rfl⟩ := LaterW.of hb)); clear hb))
  refine ret_agg [fl p.x, fl p.y, fl p.z, fl p.m, .int .u8 d, .bool true] rfl rfl rfl (by kernel_rfl) (by kernel_rfl) (by simp [CellsAt, go_sem]) ⟨rfl, ?_⟩
  exact (by repeat (first | with_reducible exact Below.refl _ _ | with_reducible exact HBEL.out | with_reducible assumption | with_reducible refine Below.setCell ?_ (by first | (dsimp only; omega) | (simp; try omega)) _ | with_reducible refine LaterW.below _ ?_ | with_reducible refine below_alloc ?_ _ | with_reducible refine below_drewN' ?_ _ | with_reducible refine Below.drew ?_ | with_reducible exact below_drewN _))
end
/-- Points of one type lie one behind the other in a block. -/
def ptCells (d : Int) (ps : List Pl) : List Value := ps.flatMap fun p => [fl p.x, fl p.y, fl p.z, fl p.m, .int .u8 d, .bool true]
abbrev vMP (g : Option Addr) (n : Nat) (d : Int) : Value := .agg #[.slice g n n, .int .u8 d]
theorem force3_id (d : Int) (p : Pl) : force3 d d p = p := by unfold force3; simp
theorem ptInfo : (Try.prog.info? 82).map (fun i => (i.zero, i.size, i.bytes)) = some (some (vP noPl 0 false), 6, 48) := by kernel_rfl
theorem make_two (W : World) : (Instr.makeSlice 109 (.int .i64 2) (.int .i64 2)).run Try.prog W = .ok (.slice (some ⟨W.heap.size, 0, none⟩) 2 2) (W.alloc (.cells #[fl 0, fl 0, fl 0, fl 0, .int .u8 0, .bool false, fl 0, fl 0, fl 0, fl 0, .int .u8 0, .bool false] 82)) := by
  obtain ⟨i, hi, hz, hs, hb⟩ := info_parts ptInfo
  have h := run_make (P := Try.prog) W 109 82 i (vP noPl 0 false) Try.underlying109 hi hz .i64 .i64 2 2 (by omega) (by omega) (by rw [hb]; omega) (by omega)
  simp only [hs] at h
  rw [h]
  have e : madeCells (vP noPl 0 false).cells 12 = #[fl 0, fl 0, fl 0, fl 0, .int .u8 0, .bool false, fl 0, fl 0, fl 0, fl 0, .int .u8 0, .bool false] := by
    apply Array.ext
    · simp [size_madeCells]
    · intro i h1 h2
      simp only [madeCells, Array.getElem_map, Array.getElem_range]
      match i, h2 with
      | 0, _ => rfl
      | 1, _ => rfl
      | 2, _ => rfl
      | 3, _ => rfl
      | 4, _ => rfl
      | 5, _ => rfl
      | 6, _ => rfl
      | 7, _ => rfl
      | 8, _ => rfl
      | 9, _ => rfl
      | 10, _ => rfl
      | 11, _ => rfl
  have e2 : Int.toNat 2 * 6 = 12 := rfl
  rw [e2, e]
  rfl
theorem Own.splice {B : Nat} : ∀ {vs : List Value} {w : World} {cs : List Value} {o : Nat}, Own w B cs → o + vs.length ≤ cs.length → Own (w.setCells B o vs) B (Go.splice cs o vs)
  | [], w, cs, o, h, _ => by
    have e : Go.splice cs o [] = cs := by simp [Go.splice]
    rw [e]
    exact h
  | v :: r, w, cs, o, h, hl => by
    have h1 := h.set o (by simp at hl; omega) v
    have h2 := Own.splice (vs := r) (o := o + 1) h1 (by simp at hl ⊢; omega)
    have e : Go.splice (cs.set o v) (o + 1) r = Go.splice cs o (v :: r) := by
      apply List.ext_getElem?
      intro p
      rw [splice_at (by simp at hl ⊢; omega), splice_at hl]
      simp only [List.length_cons]
      by_cases h0 : p < o
      · rw [if_pos (by omega), if_pos h0, List.getElem?_set_ne (by omega)]
      · rw [if_neg h0]
        by_cases h4 : p = o
        · subst h4
          rw [if_pos (by omega), if_pos (by omega), Nat.sub_self, List.getElem?_set_self (by simp at hl; omega)]
          rfl
        · rw [if_neg (by omega)]
          by_cases h5 : p < o + 1 + r.length
          · rw [if_pos h5, if_pos (by omega), show p - o = (p - (o + 1)) + 1 by omega, List.getElem?_cons_succ]
          · rw [if_neg h5, if_neg (by omega), List.getElem?_set_ne (by omega)]
    rw [e] at h2
    exact h2
theorem Own.thereAt {w : World} {B n o : Nat} {cs : List Value} (h : Own w B cs) (hn : o + n ≤ cs.length) : w.there B o n := fun j hj => by
  have := h.cells.get (o + j) cs[o + j] (List.getElem?_eq_getElem (by omega))
  rw [Nat.zero_add] at this
  exact ⟨by rw [this]; rfl, h.free _⟩
theorem forcePoint_same {d : Int} (p : Pl) (h0 : 0 ≤ d) (h3 : d ≤ 3) (w : World) : Calls Try.prog 56 #[vP p d true, .int .u8 d] w fun r w' => r = .returned (vP p d true) ∧ Below w.heap.size w w' := by
  have := forcePoint_full (e := d) p h0 h3 h0 h3 w
  rwa [force3_id] at this
def ptZero : List Value := [fl 0, fl 0, fl 0, fl 0, .int .u8 0, .bool false]
/-- two points, each forced to the type that they have -/
theorem forceTwo_any {d : Int} {g cap : Nat} {p q : Pl} {w : World} (h : Own w g (ptCells d [p, q])) (h0 : 0 ≤ d) (h3 : d ≤ 3) :
    Calls Try.prog 129 #[.slice (some ⟨g, 0, none⟩) 2 cap, .int .u8 d] w fun e w' => ∃ g', e = .returned (.slice (some ⟨g', 0, none⟩) 2 2) ∧ w.heap.size ≤ g' ∧ Own w' g' (ptCells d [p, q]) ∧ Below w.heap.size w w' := by
  have mk := make_two
  have HO := Lib.hid h
  clear h
  go_enter Try.func129, Try.ntmps129
  go_wp2_with fail
  have z1 : Own (w.alloc (.cells #[fl 0, fl 0, fl 0, fl 0, .int .u8 0, .bool false, fl 0, fl 0, fl 0, fl 0, .int .u8 0, .bool false] 82)) w.heap.size (ptZero ++ ptZero) := Own.new' _ rfl rfl
  have z2 := HO.out.alloc (.cells #[fl 0, fl 0, fl 0, fl 0, .int .u8 0, .bool false, fl 0, fl 0, fl 0, fl 0, .int .u8 0, .bool false] 82)
  have z3 : Below w.heap.size w (w.alloc (.cells #[fl 0, fl 0, fl 0, fl 0, .int .u8 0, .bool false, fl 0, fl 0, fl 0, fl 0, .int .u8 0, .bool false] 82)) := (by repeat (first | with_reducible exact Below.refl _ _ | with_reducible exact HBEL.out | with_reducible assumption | with_reducible refine Below.setCell ?_ (by first | (dsimp only; omega) | (simp; try omega)) _ | with_reducible refine LaterW.below _ ?_ | with_reducible refine below_alloc ?_ _ | with_reducible refine below_drewN' ?_ _ | with_reducible refine Below.drew ?_ | with_reducible exact below_drewN _))
  have hgl := HO.out.lt
  generalize (w.alloc (.cells #[fl 0, fl 0, fl 0, fl 0, .int .u8 0, .bool false, fl 0, fl 0, fl 0, fl 0, .int .u8 0, .bool false] 82)) = W0 at *
  go_loopw [13] (fun i wr => ((i = .int .i64 0 ∧ Own wr w.heap.size (ptZero ++ ptZero)) ∨ (i = .int .i64 1 ∧ Own wr w.heap.size (ptCells d [p] ++ ptZero)) ∨ (i = .int .i64 2 ∧ Own wr w.heap.size (ptCells d [p, q]))) ∧ Own wr g (ptCells d [p, q]) ∧ Below w.heap.size w wr) (fun i _ => 2 - (intOf i).toNat)
  case atStart => exact ⟨.inl ⟨rfl, z1⟩, z2, z3⟩
  case round =>
    clear z1 z2 z3 mk
    obtain ⟨hcase, hg, hbel⟩ := hrel
    have HG := Lib.hid hg
    have HB := Lib.hid hbel
    have ltg := hg.lt
    rcases hcase with ⟨rfl, hz⟩ | ⟨rfl, hz⟩ | ⟨rfl, hz⟩
    · have HZ := Lib.hid hz
      have ltz := hz.lt
      obtain ⟨c0, c1, c2, c3, c4, c5, c6, c7, c8, c9, c10, c11, _⟩ := hg.cells
      clear hg hbel hz
      go_wp2_with (first | (go_at_call 56; (with_reducible refine (forcePoint_same p h0 h3 _).mono ?_); rintro e w1 ⟨rfl, hb⟩; (first | (obtain ⟨x1, rfl⟩ := LaterW.of2 hb) | (obtain ⟨x1, rfl⟩ := LaterW.of hb)); clear hb) | (refine wpList_store_mid rfl 82 (.tmp 23) (.tmp 22) rfl w.heap.size 0 _ rfl rfl (Own.thereAt (cs := ptZero ++ ptZero) (by repeat (first | with_reducible exact HZ.out | with_reducible apply Own.later | with_reducible apply Own.alloc | with_reducible apply Own.drew | with_reducible apply Own.drewN)) (show 0 + 6 ≤ 12 by omega)) (by kernel_rfl) (by kernel_rfl) ?_))
      have hy : Own x1.val w.heap.size (ptZero ++ ptZero) := (by repeat (first | with_reducible exact HZ.out | with_reducible apply Own.later | with_reducible apply Own.alloc | with_reducible apply Own.drew | with_reducible apply Own.drewN))
      have hg2 : Own x1.val g (ptCells d [p, q]) := (by repeat (first | with_reducible exact HG.out | with_reducible apply Own.later | with_reducible apply Own.alloc | with_reducible apply Own.drew | with_reducible apply Own.drewN))
      have hbx : Below w.heap.size w x1.val := LaterW.below x1 (Below.alloc HB.out HB.out.size _)
      exact ⟨⟨.inr (.inl ⟨rfl, Own.splice hy (show 0 + 6 ≤ 12 by omega)⟩), Own.othersets hg2 (by omega), Below.setCells (Nat.le_refl _) _ _ _ hbx⟩, by simp [intOf]⟩
    · have HZ := Lib.hid hz
      have ltz := hz.lt
      obtain ⟨c0, c1, c2, c3, c4, c5, c6, c7, c8, c9, c10, c11, _⟩ := hg.cells
      clear hg hbel hz
      go_wp2_with (first | (go_at_call 56; (with_reducible refine (forcePoint_same q h0 h3 _).mono ?_); rintro e w1 ⟨rfl, hb⟩; (first | (obtain ⟨x1, rfl⟩ := LaterW.of2 hb) | (obtain ⟨x1, rfl⟩ := LaterW.of hb)); clear hb) | (refine wpList_store_mid rfl 82 (.tmp 23) (.tmp 22) rfl w.heap.size 6 _ rfl rfl (Own.thereAt (cs := ptCells d [p] ++ ptZero) (by repeat (first | with_reducible exact HZ.out | with_reducible apply Own.later | with_reducible apply Own.alloc | with_reducible apply Own.drew | with_reducible apply Own.drewN)) (show 6 + 6 ≤ 12 by omega)) (by kernel_rfl) (by kernel_rfl) ?_))
      have hy : Own x1.val w.heap.size (ptCells d [p] ++ ptZero) := (by repeat (first | with_reducible exact HZ.out | with_reducible apply Own.later | with_reducible apply Own.alloc | with_reducible apply Own.drew | with_reducible apply Own.drewN))
      have hg2 : Own x1.val g (ptCells d [p, q]) := (by repeat (first | with_reducible exact HG.out | with_reducible apply Own.later | with_reducible apply Own.alloc | with_reducible apply Own.drew | with_reducible apply Own.drewN))
      have hbx : Below w.heap.size w x1.val := LaterW.below x1 (Below.alloc HB.out HB.out.size _)
      exact ⟨⟨.inr (.inr ⟨rfl, Own.splice hy (show 6 + 6 ≤ 12 by omega)⟩), Own.othersets hg2 (by omega), Below.setCells (Nat.le_refl _) _ _ _ hbx⟩, by simp [intOf]⟩
    · have HZ := Lib.hid hz
      clear hg hbel hz
      go_wp2_with fail
      go_ret
      exact ⟨w.heap.size, rfl, Nat.le_refl _, HZ.out, HB.out⟩
end Go.Proofs.Ytihkmkcjjlmkhaa
