/- Points: geom.Point's small functions. No condition. -/
import Derived.Test.YtihkmkcjjlmkhaaSeq5
namespace Go.Proofs.Ytihkmkcjjlmkhaa
set_option maxRecDepth 100000
open Go.ChangeShapes Go.WideShapes Go.ChangeAt Go.RowKit Go.Deep

abbrev vP (p : Pl) (d : Int) (f : Bool) : Value := .agg #[fl p.x, fl p.y, fl p.z, fl p.m, .int .u8 d, .bool f]
def noPl : Pl := ⟨0, 0, 0, 0⟩
theorem newEmptyPoint_any (d : Int) (w : World) : Calls Try.prog 93 #[.int .u8 d] w fun e w' => e = .returned (vP noPl d false) ∧ Below w.heap.size w w' := by
  go_enter Try.func93, Try.ntmps93
  go_wp2_with fail
  refine ret_agg [fl 0, fl 0, fl 0, fl 0, .int .u8 d, .bool false] rfl rfl rfl (by kernel_rfl) (by kernel_rfl) (by simp [CellsAt, go_sem]) ⟨rfl, ?_⟩
  exact (by repeat (first | with_reducible exact Below.refl _ _ | with_reducible exact HBEL.out | with_reducible assumption | with_reducible refine Below.setCell ?_ (by first | (dsimp only; omega) | (simp; try omega)) _ | with_reducible refine LaterW.below _ ?_ | with_reducible refine below_alloc ?_ _ | with_reducible refine below_drewN' ?_ _ | with_reducible refine Below.drew ?_ | with_reducible exact below_drewN _))
theorem newPoint_any (p : Pl) (d : Int) (w : World) : Calls Try.prog 94 #[vC p d] w fun e w' => e = .returned (vP p d true) ∧ Below w.heap.size w w' := by
  go_enter Try.func94, Try.ntmps94
  go_wp2_with fail
  refine ret_agg [fl p.x, fl p.y, fl p.z, fl p.m, .int .u8 d, .bool true] rfl rfl rfl (by kernel_rfl) (by kernel_rfl) (by simp [CellsAt, go_sem]) ⟨rfl, ?_⟩
  exact (by repeat (first | with_reducible exact Below.refl _ _ | with_reducible exact HBEL.out | with_reducible assumption | with_reducible refine Below.setCell ?_ (by first | (dsimp only; omega) | (simp; try omega)) _ | with_reducible refine LaterW.below _ ?_ | with_reducible refine below_alloc ?_ _ | with_reducible refine below_drewN' ?_ _ | with_reducible refine Below.drew ?_ | with_reducible exact below_drewN _))
theorem pointType_any (p : Pl) (d : Int) (f : Bool) (w : World) : Calls Try.prog 91 #[vP p d f] w fun e w' => e = .returned (.int .u8 d) ∧ Below w.heap.size w w' := by
  go_enter Try.func91, Try.ntmps91
  go_wp2_with fail
  go_ret
  exact ⟨rfl, (by repeat (first | with_reducible exact Below.refl _ _ | with_reducible exact HBEL.out | with_reducible assumption | with_reducible refine Below.setCell ?_ (by first | (dsimp only; omega) | (simp; try omega)) _ | with_reducible refine LaterW.below _ ?_ | with_reducible refine below_alloc ?_ _ | with_reducible refine below_drewN' ?_ _ | with_reducible refine Below.drew ?_ | with_reducible exact below_drewN _))⟩
theorem pointCoords_any (p : Pl) (d : Int) (f : Bool) (w : World) : Calls Try.prog 92 #[vP p d f] w fun e w' => e = .returned (.tuple #[vC p d, .bool f]) ∧ Below w.heap.size w w' := by
  obtain ⟨x, y, z, m⟩ := p
  go_enter Try.func92, Try.ntmps92
  go_wp2_with fail
  go_region
  go_wp2_with fail
  refine bodyPost_ret (v := .tuple #[vC ⟨x, y, z, m⟩ d, .bool f]) (by simp [results, Try.results92, go_sem]) rfl ?_
  exact ⟨rfl, (by repeat (first | with_reducible exact Below.refl _ _ | with_reducible exact HBEL.out | with_reducible assumption | with_reducible refine Below.setCell ?_ (by first | (dsimp only; omega) | (simp; try omega)) _ | with_reducible refine LaterW.below _ ?_ | with_reducible refine below_alloc ?_ _ | with_reducible refine below_drewN' ?_ _ | with_reducible refine Below.drew ?_ | with_reducible exact below_drewN _))⟩
def force3 (d e : Int) (p : Pl) : Pl := ⟨p.x, p.y, if has3 e = has3 d then p.z else 0, if hasM e = hasM d then p.m else 0⟩
theorem forcePoint_full {d e : Int} (p : Pl) (h0 : 0 ≤ d) (h3 : d ≤ 3) (e0 : 0 ≤ e) (e3 : e ≤ 3) (w : World) : Calls Try.prog 56 #[vP p d true, .int .u8 e] w fun r w' => r = .returned (vP (force3 d e p) e true) ∧ Below w.heap.size w w' := by
  obtain ⟨x, y, z, m⟩ := p
  obtain ⟨b1, hb1⟩ : ∃ b, has3 e = b := ⟨_, rfl⟩
  obtain ⟨b2, hb2⟩ : ∃ b, has3 d = b := ⟨_, rfl⟩
  obtain ⟨b3, hb3⟩ : ∃ b, hasM e = b := ⟨_, rfl⟩
  obtain ⟨b4, hb4⟩ : ∃ b, hasM d = b := ⟨_, rfl⟩
  have HF : force3 d e ⟨x, y, z, m⟩ = ⟨x, y, if (b1 != b2) = true then 0 else z, if (b3 != b4) = true then 0 else m⟩ := by
    unfold force3; rw [hb1, hb2, hb3, hb4]
    cases b1 <;> cases b2 <;> cases b3 <;> cases b4 <;> rfl
  rw [HF]
  have H1 := Lib.hid hb1
  have H2 := Lib.hid hb2
  have H3 := Lib.hid hb3
  have H4 := Lib.hid hb4
  clear hb1 hb2 hb3 hb4 HF
  cases hz : (b1 != b2) <;> cases hm : (b3 != b4)
  · obtain rfl : b1 = b2 := by revert hz; cases b1 <;> cases b2 <;> simp
    obtain rfl : b3 = b4 := by revert hm; cases b3 <;> cases b4 <;> simp
    clear hz hm
    go_enter Try.func56, Try.ntmps56
    go_wp2_with fail
    ((first | refine wp_region_later2 (by kernel_rfl) (by kernel_rfl) ?_ | refine wp_region_later (by kernel_rfl) (by kernel_rfl) ?_); (repeat (go_big_quiet_step (first | (go_at_call 86; with_reducible exact Calls.later_of (is3D_any e0 e3 H1.out _)) | (go_at_call 86; with_reducible exact Calls.later_of (is3D_any h0 h3 H2.out _))))); refine wpQuiet_nil ?_; rintro _ ⟨x1, rfl⟩)
    have oB : Own x1.val w.heap.size [fl x, fl y, fl z, fl m, .int .u8 d, .bool true] := (by repeat (first | (refine Own.new' _ rfl ?_; first | with_reducible rfl | (simp; done)) | with_reducible apply Own.later | with_reducible apply Own.alloc | with_reducible apply Own.drew | with_reducible apply Own.drewN | with_reducible apply Own.other))
    have oR : Own x1.val (w.heap.size + 1) [fl 0, fl 0, fl 0, fl 0, .int .u8 0, .bool false] := (by repeat (first | (refine Own.new' _ rfl ?_; first | with_reducible rfl | (simp; done)) | with_reducible apply Own.later | with_reducible apply Own.alloc | with_reducible apply Own.drew | with_reducible apply Own.drewN | with_reducible apply Own.other))
    have hbel : Below w.heap.size w x1.val := (by repeat (first | with_reducible exact Below.refl _ _ | with_reducible exact HBEL.out | with_reducible assumption | with_reducible refine Below.setCell ?_ (by first | (dsimp only; omega) | (simp; try omega)) _ | with_reducible refine LaterW.below _ ?_ | with_reducible refine below_alloc ?_ _ | with_reducible refine below_drewN' ?_ _ | with_reducible refine Below.drew ?_ | with_reducible exact below_drewN _))
    generalize x1.val = W1 at *
    clear x1
    obtain ⟨q0, q1, q2, q3, q4, q5, _⟩ := oB.cells
    have fz := fun j => oB.free j
    have ltB := oB.lt
    have HOB := Lib.hid oB
    have HOR := Lib.hid oR
    have HB := Lib.hid hbel
    clear oB oR hbel
    go_wp2_with fail
    ((first | refine wp_region_later2 (by kernel_rfl) (by kernel_rfl) ?_ | refine wp_region_later (by kernel_rfl) (by kernel_rfl) ?_); (repeat (go_big_quiet_step (first | (go_at_call 87; with_reducible exact Calls.later_of (isMeasured_any e0 e3 H3.out _)) | (go_at_call 87; with_reducible exact Calls.later_of (isMeasured_any h0 h3 H4.out _))))); refine wpQuiet_nil ?_; rintro _ ⟨x1, rfl⟩)
    have oB : Own x1.val w.heap.size [fl x, fl y, fl z, fl m, .int .u8 d, .bool true] := HOB.out.later x1
    have oR : Own x1.val (w.heap.size + 1) [fl 0, fl 0, fl 0, fl 0, .int .u8 0, .bool false] := HOR.out.later x1
    have hbel : Below w.heap.size w x1.val := LaterW.below x1 HB.out
    generalize x1.val = W2 at *
    clear x1 q0 q1 q2 q3 q4 q5 fz ltB
    obtain ⟨q0, q1, q2, q3, q4, q5, _⟩ := oB.cells
    have fz := fun j => oB.free j
    have ltB := oB.lt
    have HOB2 := Lib.hid oB
    have HOR2 := Lib.hid oR
    have HB2 := Lib.hid hbel
    clear oB oR hbel HOB HOR HB
    go_wp2_with (refine wpList_store_mid rfl 82 (.tmp 4) (.tmp 31) rfl (w.heap.size + 1) 0 _ rfl rfl (Own.there (HOR2.out.other (p := ⟨w.heap.size, 4, none⟩) (by simp) (.int .u8 e)) (Nat.le_refl 6)) (by kernel_rfl) (by kernel_rfl) ?_)
    have oF := Own.sets (vs := [fl x, fl y, fl z, fl m, .int .u8 e, .bool true]) (HOR2.out.other (p := ⟨w.heap.size, 4, none⟩) (by simp) (.int .u8 e)) rfl
    have hF := Below.setCells (Nat.le_succ _) [fl x, fl y, fl z, fl m, .int .u8 e, .bool true] 0 _ (Below.setCell HB2.out (p := ⟨w.heap.size, 4, none⟩) (Nat.le_refl _) (.int .u8 e))
    refine ret_agg [fl x, fl y, fl z, fl m, .int .u8 e, .bool true] rfl rfl rfl (by kernel_rfl) (by kernel_rfl) (oF).cells (⟨rfl, hF⟩)
  · obtain rfl : b1 = b2 := by revert hz; cases b1 <;> cases b2 <;> simp
    obtain rfl : b4 = !b3 := by revert hm; cases b3 <;> cases b4 <;> simp
    clear hz hm
    go_enter Try.func56, Try.ntmps56
    go_wp2_with fail
    ((first | refine wp_region_later2 (by kernel_rfl) (by kernel_rfl) ?_ | refine wp_region_later (by kernel_rfl) (by kernel_rfl) ?_); (repeat (go_big_quiet_step (first | (go_at_call 86; with_reducible exact Calls.later_of (is3D_any e0 e3 H1.out _)) | (go_at_call 86; with_reducible exact Calls.later_of (is3D_any h0 h3 H2.out _))))); refine wpQuiet_nil ?_; rintro _ ⟨x1, rfl⟩)
    have oB : Own x1.val w.heap.size [fl x, fl y, fl z, fl m, .int .u8 d, .bool true] := (by repeat (first | (refine Own.new' _ rfl ?_; first | with_reducible rfl | (simp; done)) | with_reducible apply Own.later | with_reducible apply Own.alloc | with_reducible apply Own.drew | with_reducible apply Own.drewN | with_reducible apply Own.other))
    have oR : Own x1.val (w.heap.size + 1) [fl 0, fl 0, fl 0, fl 0, .int .u8 0, .bool false] := (by repeat (first | (refine Own.new' _ rfl ?_; first | with_reducible rfl | (simp; done)) | with_reducible apply Own.later | with_reducible apply Own.alloc | with_reducible apply Own.drew | with_reducible apply Own.drewN | with_reducible apply Own.other))
    have hbel : Below w.heap.size w x1.val := (by repeat (first | with_reducible exact Below.refl _ _ | with_reducible exact HBEL.out | with_reducible assumption | with_reducible refine Below.setCell ?_ (by first | (dsimp only; omega) | (simp; try omega)) _ | with_reducible refine LaterW.below _ ?_ | with_reducible refine below_alloc ?_ _ | with_reducible refine below_drewN' ?_ _ | with_reducible refine Below.drew ?_ | with_reducible exact below_drewN _))
    generalize x1.val = W1 at *
    clear x1
    obtain ⟨q0, q1, q2, q3, q4, q5, _⟩ := oB.cells
    have fz := fun j => oB.free j
    have ltB := oB.lt
    have HOB := Lib.hid oB
    have HOR := Lib.hid oR
    have HB := Lib.hid hbel
    clear oB oR hbel
    go_wp2_with fail
    ((first | refine wp_region_later2 (by kernel_rfl) (by kernel_rfl) ?_ | refine wp_region_later (by kernel_rfl) (by kernel_rfl) ?_); (repeat (go_big_quiet_step (first | (go_at_call 87; with_reducible exact Calls.later_of (isMeasured_any e0 e3 H3.out _)) | (go_at_call 87; with_reducible exact Calls.later_of (isMeasured_any h0 h3 H4.out _))))); refine wpQuiet_nil ?_; rintro _ ⟨x1, rfl⟩)
    have oB : Own x1.val w.heap.size [fl x, fl y, fl z, fl m, .int .u8 d, .bool true] := HOB.out.later x1
    have oR : Own x1.val (w.heap.size + 1) [fl 0, fl 0, fl 0, fl 0, .int .u8 0, .bool false] := HOR.out.later x1
    have hbel : Below w.heap.size w x1.val := LaterW.below x1 HB.out
    generalize x1.val = W2 at *
    clear x1 q0 q1 q2 q3 q4 q5 fz ltB
    obtain ⟨q0, q1, q2, q3, q4, q5, _⟩ := oB.cells
    have fz := fun j => oB.free j
    have ltB := oB.lt
    have HOB2 := Lib.hid oB
    have HOR2 := Lib.hid oR
    have HB2 := Lib.hid hbel
    clear oB oR hbel HOB HOR HB
    go_wp2_with (refine wpList_store_mid rfl 82 (.tmp 4) (.tmp 31) rfl (w.heap.size + 1) 0 _ rfl rfl (Own.there ((HOR2.out.other (p := ⟨w.heap.size, 3, none⟩) (by simp) (fl 0)).other (p := ⟨w.heap.size, 4, none⟩) (by simp) (.int .u8 e)) (Nat.le_refl 6)) (by kernel_rfl) (by kernel_rfl) ?_)
    have oF := Own.sets (vs := [fl x, fl y, fl z, fl 0, .int .u8 e, .bool true]) ((HOR2.out.other (p := ⟨w.heap.size, 3, none⟩) (by simp) (fl 0)).other (p := ⟨w.heap.size, 4, none⟩) (by simp) (.int .u8 e)) rfl
    have hF := Below.setCells (Nat.le_succ _) [fl x, fl y, fl z, fl 0, .int .u8 e, .bool true] 0 _ (Below.setCell (Below.setCell HB2.out (p := ⟨w.heap.size, 3, none⟩) (Nat.le_refl _) (fl 0)) (p := ⟨w.heap.size, 4, none⟩) (Nat.le_refl _) (.int .u8 e))
    refine ret_agg [fl x, fl y, fl z, fl 0, .int .u8 e, .bool true] rfl rfl rfl (by kernel_rfl) (by kernel_rfl) (oF).cells (⟨rfl, hF⟩)
  · obtain rfl : b2 = !b1 := by revert hz; cases b1 <;> cases b2 <;> simp
    obtain rfl : b3 = b4 := by revert hm; cases b3 <;> cases b4 <;> simp
    clear hz hm
    go_enter Try.func56, Try.ntmps56
    go_wp2_with fail
    ((first | refine wp_region_later2 (by kernel_rfl) (by kernel_rfl) ?_ | refine wp_region_later (by kernel_rfl) (by kernel_rfl) ?_); (repeat (go_big_quiet_step (first | (go_at_call 86; with_reducible exact Calls.later_of (is3D_any e0 e3 H1.out _)) | (go_at_call 86; with_reducible exact Calls.later_of (is3D_any h0 h3 H2.out _))))); refine wpQuiet_nil ?_; rintro _ ⟨x1, rfl⟩)
    have oB : Own x1.val w.heap.size [fl x, fl y, fl z, fl m, .int .u8 d, .bool true] := (by repeat (first | (refine Own.new' _ rfl ?_; first | with_reducible rfl | (simp; done)) | with_reducible apply Own.later | with_reducible apply Own.alloc | with_reducible apply Own.drew | with_reducible apply Own.drewN | with_reducible apply Own.other))
    have oR : Own x1.val (w.heap.size + 1) [fl 0, fl 0, fl 0, fl 0, .int .u8 0, .bool false] := (by repeat (first | (refine Own.new' _ rfl ?_; first | with_reducible rfl | (simp; done)) | with_reducible apply Own.later | with_reducible apply Own.alloc | with_reducible apply Own.drew | with_reducible apply Own.drewN | with_reducible apply Own.other))
    have hbel : Below w.heap.size w x1.val := (by repeat (first | with_reducible exact Below.refl _ _ | with_reducible exact HBEL.out | with_reducible assumption | with_reducible refine Below.setCell ?_ (by first | (dsimp only; omega) | (simp; try omega)) _ | with_reducible refine LaterW.below _ ?_ | with_reducible refine below_alloc ?_ _ | with_reducible refine below_drewN' ?_ _ | with_reducible refine Below.drew ?_ | with_reducible exact below_drewN _))
    generalize x1.val = W1 at *
    clear x1
    obtain ⟨q0, q1, q2, q3, q4, q5, _⟩ := oB.cells
    have fz := fun j => oB.free j
    have ltB := oB.lt
    have HOB := Lib.hid oB
    have HOR := Lib.hid oR
    have HB := Lib.hid hbel
    clear oB oR hbel
    go_wp2_with fail
    ((first | refine wp_region_later2 (by kernel_rfl) (by kernel_rfl) ?_ | refine wp_region_later (by kernel_rfl) (by kernel_rfl) ?_); (repeat (go_big_quiet_step (first | (go_at_call 87; with_reducible exact Calls.later_of (isMeasured_any e0 e3 H3.out _)) | (go_at_call 87; with_reducible exact Calls.later_of (isMeasured_any h0 h3 H4.out _))))); refine wpQuiet_nil ?_; rintro _ ⟨x1, rfl⟩)
    have oB : Own x1.val w.heap.size [fl x, fl y, fl 0, fl m, .int .u8 d, .bool true] := (HOB.out.set 2 (by simp) (fl 0)).later x1
    have oR : Own x1.val (w.heap.size + 1) [fl 0, fl 0, fl 0, fl 0, .int .u8 0, .bool false] := (HOR.out.other (p := ⟨w.heap.size, 2, none⟩) (by simp) (fl 0)).later x1
    have hbel : Below w.heap.size w x1.val := LaterW.below x1 (Below.setCell HB.out (p := ⟨w.heap.size, 2, none⟩) (Nat.le_refl _) (fl 0))
    generalize x1.val = W2 at *
    clear x1 q0 q1 q2 q3 q4 q5 fz ltB
    obtain ⟨q0, q1, q2, q3, q4, q5, _⟩ := oB.cells
    have fz := fun j => oB.free j
    have ltB := oB.lt
    have HOB2 := Lib.hid oB
    have HOR2 := Lib.hid oR
    have HB2 := Lib.hid hbel
    clear oB oR hbel HOB HOR HB
    go_wp2_with (refine wpList_store_mid rfl 82 (.tmp 4) (.tmp 31) rfl (w.heap.size + 1) 0 _ rfl rfl (Own.there (HOR2.out.other (p := ⟨w.heap.size, 4, none⟩) (by simp) (.int .u8 e)) (Nat.le_refl 6)) (by kernel_rfl) (by kernel_rfl) ?_)
    have oF := Own.sets (vs := [fl x, fl y, fl 0, fl m, .int .u8 e, .bool true]) (HOR2.out.other (p := ⟨w.heap.size, 4, none⟩) (by simp) (.int .u8 e)) rfl
    have hF := Below.setCells (Nat.le_succ _) [fl x, fl y, fl 0, fl m, .int .u8 e, .bool true] 0 _ (Below.setCell HB2.out (p := ⟨w.heap.size, 4, none⟩) (Nat.le_refl _) (.int .u8 e))
    refine ret_agg [fl x, fl y, fl 0, fl m, .int .u8 e, .bool true] rfl rfl rfl (by kernel_rfl) (by kernel_rfl) (oF).cells (⟨rfl, hF⟩)
  · obtain rfl : b2 = !b1 := by revert hz; cases b1 <;> cases b2 <;> simp
    obtain rfl : b4 = !b3 := by revert hm; cases b3 <;> cases b4 <;> simp
    clear hz hm
    go_enter Try.func56, Try.ntmps56
    go_wp2_with fail
    ((first | refine wp_region_later2 (by kernel_rfl) (by kernel_rfl) ?_ | refine wp_region_later (by kernel_rfl) (by kernel_rfl) ?_); (repeat (go_big_quiet_step (first | (go_at_call 86; with_reducible exact Calls.later_of (is3D_any e0 e3 H1.out _)) | (go_at_call 86; with_reducible exact Calls.later_of (is3D_any h0 h3 H2.out _))))); refine wpQuiet_nil ?_; rintro _ ⟨x1, rfl⟩)
    have oB : Own x1.val w.heap.size [fl x, fl y, fl z, fl m, .int .u8 d, .bool true] := (by repeat (first | (refine Own.new' _ rfl ?_; first | with_reducible rfl | (simp; done)) | with_reducible apply Own.later | with_reducible apply Own.alloc | with_reducible apply Own.drew | with_reducible apply Own.drewN | with_reducible apply Own.other))
    have oR : Own x1.val (w.heap.size + 1) [fl 0, fl 0, fl 0, fl 0, .int .u8 0, .bool false] := (by repeat (first | (refine Own.new' _ rfl ?_; first | with_reducible rfl | (simp; done)) | with_reducible apply Own.later | with_reducible apply Own.alloc | with_reducible apply Own.drew | with_reducible apply Own.drewN | with_reducible apply Own.other))
    have hbel : Below w.heap.size w x1.val := (by repeat (first | with_reducible exact Below.refl _ _ | with_reducible exact HBEL.out | with_reducible assumption | with_reducible refine Below.setCell ?_ (by first | (dsimp only; omega) | (simp; try omega)) _ | with_reducible refine LaterW.below _ ?_ | with_reducible refine below_alloc ?_ _ | with_reducible refine below_drewN' ?_ _ | with_reducible refine Below.drew ?_ | with_reducible exact below_drewN _))
    generalize x1.val = W1 at *
    clear x1
    obtain ⟨q0, q1, q2, q3, q4, q5, _⟩ := oB.cells
    have fz := fun j => oB.free j
    have ltB := oB.lt
    have HOB := Lib.hid oB
    have HOR := Lib.hid oR
    have HB := Lib.hid hbel
    clear oB oR hbel
    go_wp2_with fail
    ((first | refine wp_region_later2 (by kernel_rfl) (by kernel_rfl) ?_ | refine wp_region_later (by kernel_rfl) (by kernel_rfl) ?_); (repeat (go_big_quiet_step (first | (go_at_call 87; with_reducible exact Calls.later_of (isMeasured_any e0 e3 H3.out _)) | (go_at_call 87; with_reducible exact Calls.later_of (isMeasured_any h0 h3 H4.out _))))); refine wpQuiet_nil ?_; rintro _ ⟨x1, rfl⟩)
    have oB : Own x1.val w.heap.size [fl x, fl y, fl 0, fl m, .int .u8 d, .bool true] := (HOB.out.set 2 (by simp) (fl 0)).later x1
    have oR : Own x1.val (w.heap.size + 1) [fl 0, fl 0, fl 0, fl 0, .int .u8 0, .bool false] := (HOR.out.other (p := ⟨w.heap.size, 2, none⟩) (by simp) (fl 0)).later x1
    have hbel : Below w.heap.size w x1.val := LaterW.below x1 (Below.setCell HB.out (p := ⟨w.heap.size, 2, none⟩) (Nat.le_refl _) (fl 0))
    generalize x1.val = W2 at *
    clear x1 q0 q1 q2 q3 q4 q5 fz ltB
    obtain ⟨q0, q1, q2, q3, q4, q5, _⟩ := oB.cells
    have fz := fun j => oB.free j
    have ltB := oB.lt
    have HOB2 := Lib.hid oB
    have HOR2 := Lib.hid oR
    have HB2 := Lib.hid hbel
    clear oB oR hbel HOB HOR HB
    go_wp2_with (refine wpList_store_mid rfl 82 (.tmp 4) (.tmp 31) rfl (w.heap.size + 1) 0 _ rfl rfl (Own.there ((HOR2.out.other (p := ⟨w.heap.size, 3, none⟩) (by simp) (fl 0)).other (p := ⟨w.heap.size, 4, none⟩) (by simp) (.int .u8 e)) (Nat.le_refl 6)) (by kernel_rfl) (by kernel_rfl) ?_)
    have oF := Own.sets (vs := [fl x, fl y, fl 0, fl 0, .int .u8 e, .bool true]) ((HOR2.out.other (p := ⟨w.heap.size, 3, none⟩) (by simp) (fl 0)).other (p := ⟨w.heap.size, 4, none⟩) (by simp) (.int .u8 e)) rfl
    have hF := Below.setCells (Nat.le_succ _) [fl x, fl y, fl 0, fl 0, .int .u8 e, .bool true] 0 _ (Below.setCell (Below.setCell HB2.out (p := ⟨w.heap.size, 3, none⟩) (Nat.le_refl _) (fl 0)) (p := ⟨w.heap.size, 4, none⟩) (Nat.le_refl _) (.int .u8 e))
    refine ret_agg [fl x, fl y, fl 0, fl 0, .int .u8 e, .bool true] rfl rfl rfl (by kernel_rfl) (by kernel_rfl) (oF).cells (⟨rfl, hF⟩)
theorem forcePoint_empty {d e : Int} (p : Pl) (w : World) : Calls Try.prog 56 #[vP p d false, .int .u8 e] w fun r w' => r = .returned (vP noPl e false) ∧ Below w.heap.size w w' := by
  obtain ⟨x, y, z, m⟩ := p
  go_enter Try.func56, Try.ntmps56
  go_wp2_with ((go_at_call 93; (with_reducible refine (newEmptyPoint_any _ _).mono ?_); rintro e w1 ⟨rfl, hb⟩; (first | (obtain ⟨x1, rfl⟩ := LaterW.of2 hb) | (obtain ⟨x1, rfl⟩ := LaterW.of hb)); clear hb))
  refine ret_agg [fl noPl.x, fl noPl.y, fl noPl.z, fl noPl.m, .int .u8 e, .bool false] rfl rfl rfl (by kernel_rfl) (by kernel_rfl) (by simp [CellsAt, go_sem]) ⟨rfl, ?_⟩
  exact (by repeat (first | with_reducible exact Below.refl _ _ | with_reducible exact HBEL.out | with_reducible assumption | with_reducible refine Below.setCell ?_ (by first | (dsimp only; omega) | (simp; try omega)) _ | with_reducible refine LaterW.below _ ?_ | with_reducible refine below_alloc ?_ _ | with_reducible refine below_drewN' ?_ _ | with_reducible refine Below.drew ?_ | with_reducible exact below_drewN _))
end Go.Proofs.Ytihkmkcjjlmkhaa
