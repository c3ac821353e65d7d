/- impl.LineBoundary; laws.lineOf, gAll of a line. No condition. -/
import Derived.Test.YtihkmkcjjlmkhaaBound4
namespace Go.Proofs.Ytihkmkcjjlmkhaa
set_option maxRecDepth 100000
open Go.ChangeShapes Go.WideShapes Go.ChangeAt Go.RowKit Go.Deep
open Fl

section
variable {d : Int} {a kk : Option Addr} {n ca nk ck B q : Nat} {xs : List Nat} {w : World}
theorem lineFull_any (ha : NumsIs w B a xs) (hB : B ≤ w.heap.size) (hn : xs.length = n) (hl : n ≤ 4000) (h0 : 0 ≤ d) (h3 : d ≤ 3) (hm : n % widthN d = 0) :
    Calls Try.prog 48 #[vGeom 2 d a n ca kk nk ck] w fun e w' => ∃ g, e = .returned (vSeq d (some ⟨g, 0, none⟩) n n) ∧ w.heap.size ≤ g ∧ RowIs w' g xs ∧ Below w.heap.size w w' := by
  have e4 : d % 4 = d := by omega
  have hmm : n / widthN d * widthN d = n := by have := Nat.div_add_mod n (widthN d); rw [Nat.mul_comm] at this; omega
  have := line_any (d := d) (kk := kk) (nk := nk) (ck := ck) (ca := ca) ha hB hn hl (m := n) (by rw [e4]; exact hmm)
  rwa [e4, List.take_of_length_le (by omega)] at this
theorem lineBoundary_none (ha : NumsIs w B a xs) (hB : B ≤ w.heap.size) (hn : xs.length = n) (hl : n ≤ 4000) (h0 : 0 ≤ d) (h3 : d ≤ 3) (hm : n % widthN d = 0) (hq : n / widthN d = q) (hc : q = 0 ∨ closedB xs d q = true) :
    Calls Try.prog 37 #[vGeom 2 d a n ca kk nk ck] w fun e w' => e = .returned (vGeom 4 0 none 0 0 none 0 0) ∧ Below w.heap.size w w' := by
  have HL : Hid (∀ W', Below w.heap.size w W' → Calls Try.prog 48 #[vGeom 2 d a n ca kk nk ck] W' fun e w' => ∃ g, e = .returned (vSeq d (some ⟨g, 0, none⟩) n n) ∧ W'.heap.size ≤ g ∧ RowIs w' g xs ∧ Below W'.heap.size W' w') := fun W' h => lineFull_any (ha.below h hB) (Nat.le_trans hB h.size) hn hl h0 h3 hm
  have HBD : Hid (∀ W' g, RowIs W' g xs → Calls Try.prog 77 #[vSeq d (some ⟨g, 0, none⟩) n n] W' fun e w' => e = .returned (vMP none 0 0) ∧ Below W'.heap.size W' w') := fun W' g h => boundary_none h.nums (Nat.le_refl _) hn hl h0 h3 hq hc
  clear ha hq hc hm
  go_enter Try.func37, Try.ntmps37
  go_wp2_with fail
  refine (HL.out _ (by repeat (first | with_reducible exact Below.refl _ _ | with_reducible exact HBEL.out | with_reducible assumption | with_reducible refine Below.setCell ?_ (by first | (dsimp only; omega) | (simp; try omega)) _ | with_reducible refine LaterW.below _ ?_ | with_reducible refine below_alloc ?_ _ | with_reducible refine below_drewN' ?_ _ | with_reducible refine Below.drew ?_ | with_reducible exact below_drewN _))).mono ?_
  rintro e w1 ⟨g, rfl, hge, hrow, hb⟩
  clear hge
  obtain ⟨x1, rfl⟩ := LaterW.of hb
  have HR := Lib.hid hrow
  have o2 : Own x1.val (w.heap.size + 1) [.int .i64 0, .int .i64 0, .slice none 0 0, .slice none 0 0] := (by repeat (first | (refine Own.new' _ rfl ?_; first | with_reducible rfl | (simp; done)) | with_reducible apply Own.later | with_reducible apply Own.alloc | with_reducible apply Own.drew | with_reducible apply Own.drewN | with_reducible apply Own.other))
  have hbel : Below w.heap.size w x1.val := (by repeat (first | with_reducible exact Below.refl _ _ | with_reducible exact HBEL.out | with_reducible assumption | with_reducible refine Below.setCell ?_ (by first | (dsimp only; omega) | (simp; try omega)) _ | with_reducible refine LaterW.below _ ?_ | with_reducible refine below_alloc ?_ _ | with_reducible refine below_drewN' ?_ _ | with_reducible refine Below.drew ?_ | with_reducible exact below_drewN _))
  have HO := Lib.hid o2
  have HBEL := Lib.hid hbel
  clear hb hrow o2 hbel
  generalize x1.val = W at *
  clear x1
  go_wp2_with (first | (go_at_call 77; (with_reducible refine (HBD.out _ _ HR.out).mono ?_); rintro e w1 ⟨rfl, hb⟩; (first | (obtain ⟨x1, rfl⟩ := LaterW.of2 hb) | (obtain ⟨x1, rfl⟩ := LaterW.of hb)); clear hb) | (go_at_call 76; (with_reducible refine (plainMulti_none _).mono ?_); rintro e w1 ⟨rfl, hb⟩; (first | (obtain ⟨x1, rfl⟩ := LaterW.of2 hb) | (obtain ⟨x1, rfl⟩ := LaterW.of hb)); clear hb) | (refine wpList_store_mid rfl 25 (.tmp 2) (.tmp 6) rfl (w.heap.size + 1) 0 _ rfl rfl (Own.there (cs := [.int .i64 0, .int .i64 0, .slice none 0 0, .slice none 0 0]) (by repeat (first | with_reducible exact HO.out | with_reducible apply Own.later | with_reducible apply Own.alloc | with_reducible apply Own.drew | with_reducible apply Own.drewN)) (Nat.le_refl 4)) (by kernel_rfl) (by kernel_rfl) ?_))
  have oR := Own.sets (vs := [.int .i64 4, .int .i64 0, .slice none 0 0, .slice none 0 0]) (cs := [.int .i64 0, .int .i64 0, .slice none 0 0, .slice none 0 0]) (w := x1.val) (B := w.heap.size + 1) (by repeat (first | with_reducible exact HO.out | with_reducible apply Own.later | with_reducible apply Own.alloc | with_reducible apply Own.drew | with_reducible apply Own.drewN)) rfl
  have hbl := Below.setCells (C := w.heap.size) (A := w.heap.size + 1) (u := w) (Nat.le_succ _) [.int .i64 4, .int .i64 0, .slice none 0 0, .slice none 0 0] 0 x1.val (LaterW.below x1 (by repeat (first | with_reducible exact Below.refl _ _ | with_reducible exact HBEL.out | with_reducible assumption | with_reducible refine Below.setCell ?_ (by first | (dsimp only; omega) | (simp; try omega)) _ | with_reducible refine LaterW.below _ ?_ | with_reducible refine below_alloc ?_ _ | with_reducible refine below_drewN' ?_ _ | with_reducible refine Below.drew ?_ | with_reducible exact below_drewN _)))
  generalize x1.val.setCells (w.heap.size + 1) 0 [.int .i64 4, .int .i64 0, .slice none 0 0, .slice none 0 0] = W9 at *
  refine ret_agg [.int .i64 4, .int .i64 0, .slice none 0 0, .slice none 0 0] rfl rfl rfl (by kernel_rfl) (by kernel_rfl) (oR).cells (⟨rfl, hbl⟩)
theorem lineBoundary_two (ha : NumsIs w B a xs) (hB : B ≤ w.heap.size) (hn : xs.length = n) (hl : n ≤ 4000) (h0 : 0 ≤ d) (h3 : d ≤ 3) (hm : n % widthN d = 0) (hq : n / widthN d = q) (hq0 : q ≠ 0) (hc : closedB xs d q = false) :
    Calls Try.prog 37 #[vGeom 2 d a n ca kk nk ck] w fun e w' => ∃ k2 c2 cs, e = .returned (vGeom 4 d none 0 0 k2 2 c2) ∧ w'.ownsRow w.heap.size 25 4 (.slice k2 2 c2) 2 cs ∧ KidCells w' w.heap.size d [placeRow d (placeAt xs d 0), placeRow d (placeAt xs d (q - 1))] cs ∧ Below w.heap.size w w' := by
  have HL : Hid (∀ W', Below w.heap.size w W' → Calls Try.prog 48 #[vGeom 2 d a n ca kk nk ck] W' fun e w' => ∃ g, e = .returned (vSeq d (some ⟨g, 0, none⟩) n n) ∧ W'.heap.size ≤ g ∧ RowIs w' g xs ∧ Below W'.heap.size W' w') := fun W' h => lineFull_any (ha.below h hB) (Nat.le_trans hB h.size) hn hl h0 h3 hm
  have HBD : Hid (∀ W' g, RowIs W' g xs → Calls Try.prog 77 #[vSeq d (some ⟨g, 0, none⟩) n n] W' fun e w' => ∃ g, e = .returned (vMP (some ⟨g, 0, none⟩) 2 d) ∧ W'.heap.size ≤ g ∧ Own w' g (ptCells d [placeAt xs d 0, placeAt xs d (q - 1)]) ∧ Below W'.heap.size W' w') := fun W' g h => boundary_two h.nums (Nat.le_refl _) hn hl h0 h3 hq hq0 hc
  generalize placeAt xs d 0 = p0 at *
  generalize placeAt xs d (q - 1) = p1 at *
  clear ha hq hc hm
  go_enter Try.func37, Try.ntmps37
  go_wp2_with fail
  refine (HL.out _ (by repeat (first | with_reducible exact Below.refl _ _ | with_reducible exact HBEL.out | with_reducible assumption | with_reducible refine Below.setCell ?_ (by first | (dsimp only; omega) | (simp; try omega)) _ | with_reducible refine LaterW.below _ ?_ | with_reducible refine below_alloc ?_ _ | with_reducible refine below_drewN' ?_ _ | with_reducible refine Below.drew ?_ | with_reducible exact below_drewN _))).mono ?_
  rintro e w1 ⟨g, rfl, hge, hrow, hb⟩
  clear hge
  obtain ⟨x1, rfl⟩ := LaterW.of hb
  have HR := Lib.hid hrow
  have o2 : Own x1.val (w.heap.size + 1) [.int .i64 0, .int .i64 0, .slice none 0 0, .slice none 0 0] := (by repeat (first | (refine Own.new' _ rfl ?_; first | with_reducible rfl | (simp; done)) | with_reducible apply Own.later | with_reducible apply Own.alloc | with_reducible apply Own.drew | with_reducible apply Own.drewN | with_reducible apply Own.other))
  have hbel : Below w.heap.size w x1.val := (by repeat (first | with_reducible exact Below.refl _ _ | with_reducible exact HBEL.out | with_reducible assumption | with_reducible refine Below.setCell ?_ (by first | (dsimp only; omega) | (simp; try omega)) _ | with_reducible refine LaterW.below _ ?_ | with_reducible refine below_alloc ?_ _ | with_reducible refine below_drewN' ?_ _ | with_reducible refine Below.drew ?_ | with_reducible exact below_drewN _))
  have HO := Lib.hid o2
  have HBEL := Lib.hid hbel
  clear hb hrow o2 hbel
  generalize x1.val = W at *
  clear x1
  go_wp2_with fail
  refine (HBD.out _ _ HR.out).mono ?_
  rintro e w2 ⟨g2, rfl, hge, hown, hb⟩
  have HG2 := Lib.hid hown
  have HO2 := Lib.hid (HO.out.below hb HO.out.lt)
  have HB2 := Lib.hid (HBEL.out.trans (Below.mono hb HBEL.out.size))
  have hlt := HO2.out.lt
  clear hown hb hge HO HBEL HR
  go_wp2_with fail
  refine (plainMulti_two HG2.out h0 h3).mono ?_
  rintro e w3 ⟨k2, c2, cs, rfl, hrow, hkids, hb⟩
  have HK := Lib.hid hkids
  have HRW := Lib.hid hrow
  have HO3 := Lib.hid (HO2.out.below hb HO2.out.lt)
  have HB3 := Lib.hid (HB2.out.trans (Below.mono hb HB2.out.size))
  clear hkids hrow hb HG2
  go_wp2_with (refine wpList_store_mid rfl 25 (.tmp 2) (.tmp 6) rfl (w.heap.size + 1) 0 _ rfl rfl (Own.there HO3.out (Nat.le_refl 4)) (by kernel_rfl) (by kernel_rfl) ?_)
  have oR := Own.sets (vs := [.int .i64 4, .int .i64 d, .slice none 0 0, .slice k2 2 c2]) HO3.out rfl
  have hR := ownsRow_mono (c := w.heap.size) (own_setCells (C := w.heap.size + 1) (by omega) HRW.out 0 [.int .i64 4, .int .i64 d, .slice none 0 0, .slice k2 2 c2]) (by omega)
  have hK := KidCells.base (C := w.heap.size) (by omega) (KidCells.setCells (q := w.heap.size + 1) (by omega) 0 [.int .i64 4, .int .i64 d, .slice none 0 0, .slice k2 2 c2] HK.out)
  have hbl := Below.setCells (Nat.le_succ _) [.int .i64 4, .int .i64 d, .slice none 0 0, .slice k2 2 c2] 0 _ HB3.out
  generalize w3.setCells (w.heap.size + 1) 0 [.int .i64 4, .int .i64 d, .slice none 0 0, .slice k2 2 c2] = W9 at *
  refine ret_agg [.int .i64 4, .int .i64 d, .slice none 0 0, .slice k2 2 c2] rfl rfl rfl (by kernel_rfl) (by kernel_rfl) (oR).cells (⟨_, _, _, rfl, hR, hK, hbl⟩)
def lineOkB (n : Nat) (d : Int) : Bool := decide (0 ≤ d) && decide (d ≤ 3) && decide (n % widthN d = 0)
theorem lineOf_bad (h : lineOkB n d = false) : Calls Try.prog 34 #[.slice a n ca, .int .i64 d] w fun e w' => e = .returned (.tuple #[vGeom 0 0 none 0 0 none 0 0, .bool false]) ∧ Below w.heap.size w w' := by
  by_cases c0 : d < 0
  · go_enter Try.func34, Try.ntmps34
    go_wp2_with fail
    refine bodyPost_ret (v := .tuple #[vGeom 0 0 none 0 0 none 0 0, .bool false]) (by simp [results, Try.results34, go_sem]) rfl ?_
    exact ⟨rfl, (by repeat (first | with_reducible exact Below.refl _ _ | with_reducible exact HBEL.out | with_reducible assumption | with_reducible refine Below.setCell ?_ (by first | (dsimp only; omega) | (simp; try omega)) _ | with_reducible refine LaterW.below _ ?_ | with_reducible refine below_alloc ?_ _ | with_reducible refine below_drewN' ?_ _ | with_reducible refine Below.drew ?_ | with_reducible exact below_drewN _))⟩
  · by_cases c3 : d > 3
    · go_enter Try.func34, Try.ntmps34
      go_wp2_with fail
      refine bodyPost_ret (v := .tuple #[vGeom 0 0 none 0 0 none 0 0, .bool false]) (by simp [results, Try.results34, go_sem]) rfl ?_
      exact ⟨rfl, (by repeat (first | with_reducible exact Below.refl _ _ | with_reducible exact HBEL.out | with_reducible assumption | with_reducible refine Below.setCell ?_ (by first | (dsimp only; omega) | (simp; try omega)) _ | with_reducible refine LaterW.below _ ?_ | with_reducible refine below_alloc ?_ _ | with_reducible refine below_drewN' ?_ _ | with_reducible refine Below.drew ?_ | with_reducible exact below_drewN _))⟩
    · have h0 : 0 ≤ d := by omega
      have h3 : d ≤ 3 := by omega
      have hm : n % widthN d ≠ 0 := by unfold lineOkB at h; simpa [h0, h3] using h
      obtain ⟨wd, hwd⟩ : ∃ wd, widthN d = wd := ⟨_, rfl⟩
      have HW : Hid (widthI d = (wd : Int)) := by show _ = _; rw [← hwd]; unfold widthN widthI; split <;> (try split) <;> rfl
      have hwd3 : 2 ≤ wd ∧ wd ≤ 4 := by rw [← hwd]; unfold widthN widthI; split <;> (try split) <;> decide
      rw [hwd] at hm
      obtain ⟨r, hr⟩ : ∃ r, n % wd = r := ⟨_, rfl⟩
      have hmod : ((n : Int).tmod (wd : Int)) = ((r : Nat) : Int) := by rw [← Int.ofNat_tmod, hr]
      rw [hr] at hm
      have hne : ((r : Int) != 0) = true := by simp; omega
      clear hwd hr h
      go_enter Try.func34, Try.ntmps34
      go_wp2_with ((go_at_call 38; (with_reducible refine (width_any h0 h3 HW.out _).mono ?_); rintro e w1 ⟨rfl, hb⟩; (first | (obtain ⟨x1, rfl⟩ := LaterW.of2 hb) | (obtain ⟨x1, rfl⟩ := LaterW.of hb)); clear hb))
      refine bodyPost_ret (v := .tuple #[vGeom 0 0 none 0 0 none 0 0, .bool false]) (by simp [results, Try.results34, go_sem]) rfl ?_
      exact ⟨rfl, (by repeat (first | with_reducible exact Below.refl _ _ | with_reducible exact HBEL.out | with_reducible assumption | with_reducible refine Below.setCell ?_ (by first | (dsimp only; omega) | (simp; try omega)) _ | with_reducible refine LaterW.below _ ?_ | with_reducible refine below_alloc ?_ _ | with_reducible refine below_drewN' ?_ _ | with_reducible refine Below.drew ?_ | with_reducible exact below_drewN _))⟩
theorem lineOf_good (h : lineOkB n d = true) : Calls Try.prog 34 #[.slice a n ca, .int .i64 d] w fun e w' => e = .returned (.tuple #[vGeom 2 d a n ca none 0 0, .bool true]) ∧ Below w.heap.size w w' := by
  unfold lineOkB at h
  simp only [Bool.and_eq_true, decide_eq_true_eq] at h
  obtain ⟨⟨h0, h3⟩, hm⟩ := h
  have c0 : ¬ d < 0 := by omega
  have c3 : ¬ 3 < d := by omega
  obtain ⟨wd, hwd⟩ : ∃ wd, widthN d = wd := ⟨_, rfl⟩
  have HW : Hid (widthI d = (wd : Int)) := by show _ = _; rw [← hwd]; unfold widthN widthI; split <;> (try split) <;> rfl
  have hwd3 : 2 ≤ wd ∧ wd ≤ 4 := by rw [← hwd]; unfold widthN widthI; split <;> (try split) <;> decide
  rw [hwd] at hm
  have hmod : ((n : Int).tmod (wd : Int)) = 0 := by rw [← Int.ofNat_tmod, hm]; rfl
  clear hwd hm
  go_enter Try.func34, Try.ntmps34
  go_wp2_with ((go_at_call 38; (with_reducible refine (width_any h0 h3 HW.out _).mono ?_); rintro e w1 ⟨rfl, hb⟩; (first | (obtain ⟨x1, rfl⟩ := LaterW.of2 hb) | (obtain ⟨x1, rfl⟩ := LaterW.of hb)); clear hb))
  refine bodyPost_ret (v := .tuple #[vGeom 2 d a n ca none 0 0, .bool true]) (by simp [results, Try.results34, go_sem]) rfl ?_
  exact ⟨rfl, (by repeat (first | with_reducible exact Below.refl _ _ | with_reducible exact HBEL.out | with_reducible assumption | with_reducible refine Below.setCell ?_ (by first | (dsimp only; omega) | (simp; try omega)) _ | with_reducible refine LaterW.below _ ?_ | with_reducible refine below_alloc ?_ _ | with_reducible refine below_drewN' ?_ _ | with_reducible refine Below.drew ?_ | with_reducible exact below_drewN _))⟩
theorem gNumber_any (x : Nat) (w : World) : Calls Try.prog 36 #[fl x] w fun e w' => ∃ r, e = .returned (.bool r) ∧ Below w.heap.size w w' := by
  go_enter Try.func36, Try.ntmps36
  go_wp2_with ((go_at_call 58; (with_reducible refine (Calls.below_same (isNaN_any _ _)).mono ?_); rintro e w1 ⟨rfl, hb⟩; (first | (obtain ⟨x1, rfl⟩ := LaterW.of2 hb) | (obtain ⟨x1, rfl⟩ := LaterW.of hb)); clear hb))
  go_ret
  exact ⟨_, rfl, (by repeat (first | with_reducible exact Below.refl _ _ | with_reducible exact HBEL.out | with_reducible assumption | with_reducible refine Below.setCell ?_ (by first | (dsimp only; omega) | (simp; try omega)) _ | with_reducible refine LaterW.below _ ?_ | with_reducible refine below_alloc ?_ _ | with_reducible refine below_drewN' ?_ _ | with_reducible refine Below.drew ?_ | with_reducible exact below_drewN _))⟩
theorem gAll_any (ha : NumsIs w B a xs) (hB : B ≤ w.heap.size) (hn : xs.length = n) (hl : n ≤ 4000) : Calls Try.prog 35 #[vGeom 2 d a n ca none 0 0, .func (.func 36) #[] #[]] w fun e w' => ∃ r, e = .returned (.bool r) ∧ Below w.heap.size w w' := by
  have HA := Lib.hid ha
  clear ha
  go_enter Try.func35, Try.ntmps35
  go_wp2_with fail
  have o1 : Own (w.alloc (.cells #[.int .i64 2, .int .i64 d, .slice a n ca, .slice none 0 0] 25)) w.heap.size [.int .i64 2, .int .i64 d, .slice a n ca, .slice none 0 0] := (by repeat (first | (refine Own.new' _ rfl ?_; first | with_reducible rfl | (simp; done)) | with_reducible apply Own.later | with_reducible apply Own.alloc | with_reducible apply Own.drew | with_reducible apply Own.drewN | with_reducible apply Own.other))
  have hb0 : Below w.heap.size w (w.alloc (.cells #[.int .i64 2, .int .i64 d, .slice a n ca, .slice none 0 0] 25)) := (by repeat (first | with_reducible exact Below.refl _ _ | with_reducible exact HBEL.out | with_reducible assumption | with_reducible refine Below.setCell ?_ (by first | (dsimp only; omega) | (simp; try omega)) _ | with_reducible refine LaterW.below _ ?_ | with_reducible refine below_alloc ?_ _ | with_reducible refine below_drewN' ?_ _ | with_reducible refine Below.drew ?_ | with_reducible exact below_drewN _))
  generalize (w.alloc (.cells #[.int .i64 2, .int .i64 d, .slice a n ca, .slice none 0 0] 25)) = W0 at *
  go_loopw [12] (fun i wr => ∃ k : Nat, k ≤ n ∧ i = .int .i64 k ∧ Own wr w.heap.size [.int .i64 2, .int .i64 d, .slice a n ca, .slice none 0 0] ∧ Below w.heap.size w wr) (fun i _ => n - (intOf i).toNat)
  case atStart => exact ⟨0, by omega, rfl, o1, hb0⟩
  case round =>
    clear o1 hb0
    obtain ⟨k, hk, rfl, o1, hbel⟩ := hrel
    have HO := Lib.hid o1
    have HB := Lib.hid hbel
    by_cases hlt : k < n
    · obtain ⟨b1, ob, rfl, l1, c1⟩ := HA.out.resolve_left (fun h => by rw [h] at hn; simp at hn; omega)
      have m1 : b1 < w.heap.size := by omega
      have q0 := (hbel.cell (p := ⟨b1, ob + k, none⟩) m1).trans (c1 k (by omega))
      have m2 : b1 < wr.heap.size := Nat.lt_of_lt_of_le m1 hbel.size
      clear c1 o1 hbel
      generalize xs[k]! = vx at *
      go_wp2_with (go_at_call 36; refine (gNumber_any vx _).mono ?_; rintro e w1 ⟨r, rfl, hb⟩)
      · go_ret
        exact ⟨_, rfl, HB.out.trans (Below.mono hb HB.out.size)⟩
      · exact ⟨⟨k + 1, by omega, by go_num, HO.out.below hb HO.out.lt, HB.out.trans (Below.mono hb HB.out.size)⟩, by simp [intOf]; omega⟩
    · obtain rfl : k = n := by omega
      obtain ⟨d0, d1, d2, d3, _⟩ := o1.cells
      have lt1 := o1.lt
      clear o1 hbel
      go_wp2_with fail
      go_loopw [24] (fun i w2 => i = .int .i64 0 ∧ w2 = wr) (fun _ _ => 0)
      case atStart => exact ⟨rfl, rfl⟩
      case round =>
        obtain ⟨rfl, rfl⟩ := hrel
        go_wp2_with fail
        go_ret
        exact ⟨_, rfl, HB.out⟩
end
end Go.Proofs.Ytihkmkcjjlmkhaa
