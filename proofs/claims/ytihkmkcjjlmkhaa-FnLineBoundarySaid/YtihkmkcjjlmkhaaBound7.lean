/- FnLineBoundary where the line is too long, of no type, empty or closed. No condition. -/
import Derived.Test.YtihkmkcjjlmkhaaBound6
namespace Go.Proofs.Ytihkmkcjjlmkhaa
set_option maxRecDepth 100000
open Go.ChangeShapes Go.WideShapes Go.ChangeAt Go.RowKit Go.Deep
open Fl

section
variable {d : Int} {a : Option Addr} {n ca : Nat} {xs : List Nat} {w : World}
theorem lb_long (hl : 2147483647 < n) : Calls Try.prog 9 #[.slice a n ca, .int .i64 d] w fun e w' => e = .returned (.bool true) ∧ Below w.heap.size w w' := by
  go_enter Try.func9, Try.ntmps9
  go_wp2_with fail
  go_ret
  exact ⟨rfl, (by repeat (first | with_reducible exact Below.refl _ _ | with_reducible exact HBEL.out | with_reducible assumption | with_reducible refine Below.setCell ?_ (by first | (dsimp only; omega) | (simp; try omega)) _ | with_reducible refine LaterW.below _ ?_ | with_reducible refine below_alloc ?_ _ | with_reducible refine below_drewN' ?_ _ | with_reducible refine Below.drew ?_ | with_reducible exact below_drewN _))⟩
theorem lb_bad (hl : n ≤ 2147483647) (h : lineOkB n d = false) : Calls Try.prog 9 #[.slice a n ca, .int .i64 d] w fun e w' => e = .returned (.bool true) ∧ Below w.heap.size w w' := by
  have H := Lib.hid h
  clear h
  go_enter Try.func9, Try.ntmps9
  go_wp2_with ((go_at_call 34; (with_reducible refine (lineOf_bad H.out).mono ?_); rintro e w1 ⟨rfl, hb⟩; (first | (obtain ⟨x1, rfl⟩ := LaterW.of2 hb) | (obtain ⟨x1, rfl⟩ := LaterW.of hb)); clear hb))
  go_ret
  exact ⟨rfl, (by repeat (first | with_reducible exact Below.refl _ _ | with_reducible exact HBEL.out | with_reducible assumption | with_reducible refine Below.setCell ?_ (by first | (dsimp only; omega) | (simp; try omega)) _ | with_reducible refine LaterW.below _ ?_ | with_reducible refine below_alloc ?_ _ | with_reducible refine below_drewN' ?_ _ | with_reducible refine Below.drew ?_ | with_reducible exact below_drewN _))⟩
theorem lb_much (hl : n ≤ 2147483647) (hl2 : 2000 < n) (h : lineOkB n d = true) : Calls Try.prog 9 #[.slice a n ca, .int .i64 d] w fun e w' => e = .returned (.bool true) ∧ Below w.heap.size w w' := by
  have H := Lib.hid h
  clear h
  go_enter Try.func9, Try.ntmps9
  go_wp2_with ((go_at_call 34; (with_reducible refine (lineOf_good H.out).mono ?_); rintro e w1 ⟨rfl, hb⟩; (first | (obtain ⟨x1, rfl⟩ := LaterW.of2 hb) | (obtain ⟨x1, rfl⟩ := LaterW.of hb)); clear hb))
  go_ret
  exact ⟨rfl, (by repeat (first | with_reducible exact Below.refl _ _ | with_reducible exact HBEL.out | with_reducible assumption | with_reducible refine Below.setCell ?_ (by first | (dsimp only; omega) | (simp; try omega)) _ | with_reducible refine LaterW.below _ ?_ | with_reducible refine below_alloc ?_ _ | with_reducible refine below_drewN' ?_ _ | with_reducible refine Below.drew ?_ | with_reducible exact below_drewN _))⟩
/-- no boundary point: an empty line -/
theorem lb_empty (h : lineOkB 0 d = true) : Calls Try.prog 9 #[.slice a 0 ca, .int .i64 d] w fun e w' => e = .returned (.bool true) ∧ Below w.heap.size w w' := by
  have H := Lib.hid h
  have h0 : 0 ≤ d := by unfold lineOkB at h; simp at h; omega
  have h3 : d ≤ 3 := by unfold lineOkB at h; simp at h; omega
  obtain ⟨wd, hwd⟩ : ∃ wd, widthN d = wd := ⟨_, rfl⟩
  have HW : Hid (widthI d = (wd : Int)) := by show _ = _; rw [← hwd]; unfold widthN widthI; split <;> (try split) <;> rfl
  have hwd3 : 2 ≤ wd ∧ wd ≤ 4 := by rw [← hwd]; unfold widthN widthI; split <;> (try split) <;> decide
  have HGA : Hid (∀ W', Calls Try.prog 35 #[vGeom 2 d a 0 ca none 0 0, .func (.func 36) #[] #[]] W' fun e w' => ∃ r, e = .returned (.bool r) ∧ Below W'.heap.size W' w') := fun W' => gAll_any (B := 0) (xs := []) (.inl rfl) (Nat.zero_le _) rfl (by omega)
  have HLB : Hid (∀ W', Calls Try.prog 37 #[vGeom 2 d a 0 ca none 0 0] W' fun e w' => e = .returned (vGeom 4 0 none 0 0 none 0 0) ∧ Below W'.heap.size W' w') := fun W' => lineBoundary_none (B := 0) (xs := []) (q := 0) (.inl rfl) (Nat.zero_le _) rfl (by omega) h0 h3 (Nat.zero_mod _) (Nat.zero_div _) (.inl rfl)
  clear h hwd
  go_enter Try.func9, Try.ntmps9
  go_wp2_with ((go_at_call 34; (with_reducible refine (lineOf_good H.out).mono ?_); rintro e w1 ⟨rfl, hb⟩; (first | (obtain ⟨x1, rfl⟩ := LaterW.of2 hb) | (obtain ⟨x1, rfl⟩ := LaterW.of hb)); clear hb))
  refine (HGA.out _).mono ?_
  rintro e w2 ⟨r, rfl, hb⟩
  obtain ⟨x2, rfl⟩ := LaterW.of hb
  clear hb
  cases r
  · go_wp2_with fail
    go_ret
    exact ⟨rfl, (by repeat (first | with_reducible exact Below.refl _ _ | with_reducible exact HBEL.out | with_reducible assumption | with_reducible refine Below.setCell ?_ (by first | (dsimp only; omega) | (simp; try omega)) _ | with_reducible refine LaterW.below _ ?_ | with_reducible refine below_alloc ?_ _ | with_reducible refine below_drewN' ?_ _ | with_reducible refine Below.drew ?_ | with_reducible exact below_drewN _))⟩
  · go_wp2_with (first | (go_at_call 37; (with_reducible refine (HLB.out _).mono ?_); rintro e w1 ⟨rfl, hb⟩; (first | (obtain ⟨x1, rfl⟩ := LaterW.of2 hb) | (obtain ⟨x1, rfl⟩ := LaterW.of hb)); clear hb) | (go_at_call 38; (with_reducible refine (width_any h0 h3 HW.out _).mono ?_); rintro e w1 ⟨rfl, hb⟩; (first | (obtain ⟨x1, rfl⟩ := LaterW.of2 hb) | (obtain ⟨x1, rfl⟩ := LaterW.of hb)); clear hb))
    ((first | refine wp_region_later2 (by kernel_rfl) (by kernel_rfl) ?_ | refine wp_region_later (by kernel_rfl) (by kernel_rfl) ?_); (repeat (go_big_quiet_step (fail))); refine wpQuiet_nil ?_; rintro _ ⟨x1, rfl⟩)
    go_wp2_with fail
    go_ret
    exact ⟨rfl, (by repeat (first | with_reducible exact Below.refl _ _ | with_reducible exact HBEL.out | with_reducible assumption | with_reducible refine Below.setCell ?_ (by first | (dsimp only; omega) | (simp; try omega)) _ | with_reducible refine LaterW.below _ ?_ | with_reducible refine below_alloc ?_ _ | with_reducible refine below_drewN' ?_ _ | with_reducible refine Below.drew ?_ | with_reducible exact below_drewN _))⟩
theorem order_dec {a b : Nat} (h : (D.order a b == some .eq) = true) : D.order a b = some .eq := by simpa using h
/-- no boundary point: a closed line -/
theorem lb_closed {wd la : Nat} (ha : NumsIs w w.heap.size a xs) (hn : xs.length = n) (hn0 : 0 < n) (hl : n ≤ 2000) (h : lineOkB n d = true) (hwd : widthN d = wd) (hla : la + wd = n) (hc : closedB xs d (n / wd) = true)
    (c0 : D.order xs[0]! xs[la]! = some .eq) (c1 : D.order xs[1]! xs[la + 1]! = some .eq) : Calls Try.prog 9 #[.slice a n ca, .int .i64 d] w fun e w' => e = .returned (.bool true) ∧ Below w.heap.size w w' := by
  have H := Lib.hid h
  have h0 : 0 ≤ d := by unfold lineOkB at h; simp at h; omega
  have h3 : d ≤ 3 := by unfold lineOkB at h; simp at h; omega
  have hm : n % widthN d = 0 := by unfold lineOkB at h; simp at h; omega
  have HW : Hid (widthI d = (wd : Int)) := by show _ = _; rw [← hwd]; unfold widthN widthI; split <;> (try split) <;> rfl
  have hwd3 : 2 ≤ wd ∧ wd ≤ 4 := by rw [← hwd]; unfold widthN widthI; split <;> (try split) <;> decide
  have HGA : Hid (∀ W', Below w.heap.size w W' → Calls Try.prog 35 #[vGeom 2 d a n ca none 0 0, .func (.func 36) #[] #[]] W' fun e w' => ∃ r, e = .returned (.bool r) ∧ Below W'.heap.size W' w') := fun W' h => gAll_any (ha.below h (Nat.le_refl _)) h.size hn (by omega)
  have HLB : Hid (∀ W', Below w.heap.size w W' → Calls Try.prog 37 #[vGeom 2 d a n ca none 0 0] W' fun e w' => e = .returned (vGeom 4 0 none 0 0 none 0 0) ∧ Below W'.heap.size W' w') := fun W' h => lineBoundary_none (ha.below h (Nat.le_refl _)) h.size hn (by omega) h0 h3 hm rfl (.inr (by rw [hwd]; exact hc))
  have HA := Lib.hid ha
  have el : (n : Int) - (wd : Int) = (la : Int) := by omega
  clear h hwd ha hc hm
  go_enter Try.func9, Try.ntmps9
  go_wp2_with ((go_at_call 34; (with_reducible refine (lineOf_good H.out).mono ?_); rintro e w1 ⟨rfl, hb⟩; (first | (obtain ⟨x1, rfl⟩ := LaterW.of2 hb) | (obtain ⟨x1, rfl⟩ := LaterW.of hb)); clear hb))
  refine (HGA.out _ (by repeat (first | with_reducible exact Below.refl _ _ | with_reducible exact HBEL.out | with_reducible assumption | with_reducible refine Below.setCell ?_ (by first | (dsimp only; omega) | (simp; try omega)) _ | with_reducible refine LaterW.below _ ?_ | with_reducible refine below_alloc ?_ _ | with_reducible refine below_drewN' ?_ _ | with_reducible refine Below.drew ?_ | with_reducible exact below_drewN _))).mono ?_
  rintro e w2 ⟨r, rfl, hb⟩
  obtain ⟨x2, rfl⟩ := LaterW.of hb
  clear hb
  cases r
  · go_wp2_with fail
    go_ret
    exact ⟨rfl, (by repeat (first | with_reducible exact Below.refl _ _ | with_reducible exact HBEL.out | with_reducible assumption | with_reducible refine Below.setCell ?_ (by first | (dsimp only; omega) | (simp; try omega)) _ | with_reducible refine LaterW.below _ ?_ | with_reducible refine below_alloc ?_ _ | with_reducible refine below_drewN' ?_ _ | with_reducible refine Below.drew ?_ | with_reducible exact below_drewN _))⟩
  · go_wp2_with (first | (go_at_call 37; (with_reducible refine (HLB.out _ (by repeat (first | with_reducible exact Below.refl _ _ | with_reducible exact HBEL.out | with_reducible assumption | with_reducible refine Below.setCell ?_ (by first | (dsimp only; omega) | (simp; try omega)) _ | with_reducible refine LaterW.below _ ?_ | with_reducible refine below_alloc ?_ _ | with_reducible refine below_drewN' ?_ _ | with_reducible refine Below.drew ?_ | with_reducible exact below_drewN _))).mono ?_); rintro e w1 ⟨rfl, hb⟩; (first | (obtain ⟨x1, rfl⟩ := LaterW.of2 hb) | (obtain ⟨x1, rfl⟩ := LaterW.of hb)); clear hb) | (go_at_call 38; (with_reducible refine (width_any h0 h3 HW.out _).mono ?_); rintro e w1 ⟨rfl, hb⟩; (first | (obtain ⟨x1, rfl⟩ := LaterW.of2 hb) | (obtain ⟨x1, rfl⟩ := LaterW.of hb)); clear hb))
    obtain ⟨b1, ob, rfl, l1, cc⟩ := HA.out.resolve_left (fun h => by rw [h] at hn; simp at hn; omega)
    rename LaterW w => y1
    rename LaterW (World.alloc y1.val _) => y2
    have o1 : Own x1.val y2.val.heap.size [.int .i64 4, .int .i64 0, .slice none 0 0, .slice none 0 0] := (by repeat (first | (refine Own.new' _ rfl ?_; first | with_reducible rfl | (simp; done)) | with_reducible apply Own.later | with_reducible apply Own.alloc | with_reducible apply Own.drew | with_reducible apply Own.drewN | with_reducible apply Own.other))
    have hbel : Below w.heap.size w x1.val := (by repeat (first | with_reducible exact Below.refl _ _ | with_reducible exact HBEL.out | with_reducible assumption | with_reducible refine Below.setCell ?_ (by first | (dsimp only; omega) | (simp; try omega)) _ | with_reducible refine LaterW.below _ ?_ | with_reducible refine below_alloc ?_ _ | with_reducible refine below_drewN' ?_ _ | with_reducible refine Below.drew ?_ | with_reducible exact below_drewN _))
    have HBEL := Lib.hid hbel
    obtain ⟨G, hG⟩ : ∃ G, G = y2.val.heap.size := ⟨_, rfl⟩
    rw [← hG] at o1
    have q0 := (hbel.cell (p := ⟨b1, ob, none⟩) l1).trans (cc 0 (by omega))
    have q1 := (hbel.cell (p := ⟨b1, ob + 1, none⟩) l1).trans (cc 1 (by omega))
    have q2 := (hbel.cell (p := ⟨b1, ob + la, none⟩) l1).trans (cc la (by omega))
    have q3 := (hbel.cell (p := ⟨b1, ob + (la + 1), none⟩) l1).trans (cc (la + 1) (by omega))
    have m2 : b1 < x1.val.heap.size := Nat.lt_of_lt_of_le l1 hbel.size
    have hn0' : ((n : Int) == 0) = false := by simp; omega
    have e1 : (D.order xs[0]! xs[la]! == some .eq) = true := by rw [c0]; rfl
    have e2 : (D.order xs[1]! xs[la + 1]! == some .eq) = true := by rw [c1]; rfl
    clear c0 c1
    generalize xs[la]! = v2 at *
    generalize xs[la + 1]! = v3 at *
    generalize xs[0]! = v0 at *
    generalize xs[1]! = v1 at *
    clear cc HA HGA HLB H HW hbel
    rw [← hG]
    generalize x1.val = W at *
    clear hG x1 x2 y2
    obtain ⟨p0, p1, p2, p3, _⟩ := o1.cells
    have lt1 := o1.lt
    ((first | refine wp_region_later2 (by kernel_rfl) (by kernel_rfl) ?_ | refine wp_region_later (by kernel_rfl) (by kernel_rfl) ?_); (repeat (go_big_quiet_step (fail))); refine wpQuiet_nil ?_; rintro _ ⟨x1, rfl⟩)
    go_wp2_with fail
    go_ret
    exact ⟨rfl, (by repeat (first | with_reducible exact Below.refl _ _ | with_reducible exact HBEL.out | with_reducible assumption | with_reducible refine Below.setCell ?_ (by first | (dsimp only; omega) | (simp; try omega)) _ | with_reducible refine LaterW.below _ ?_ | with_reducible refine below_alloc ?_ _ | with_reducible refine below_drewN' ?_ _ | with_reducible refine Below.drew ?_ | with_reducible exact below_drewN _))⟩
end
end Go.Proofs.Ytihkmkcjjlmkhaa
