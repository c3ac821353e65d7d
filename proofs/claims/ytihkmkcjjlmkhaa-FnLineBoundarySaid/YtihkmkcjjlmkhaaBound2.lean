/- geom.NewMultiPoint of two points, geom.LineString's Boundary. No condition. -/
import Derived.Test.YtihkmkcjjlmkhaaBound
namespace Go.Proofs.Ytihkmkcjjlmkhaa
set_option maxRecDepth 100000
open Go.ChangeShapes Go.WideShapes Go.ChangeAt Go.RowKit Go.Deep
open Fl

theorem newMultiTwo_any {d : Int} {g cap : Nat} {p q : Pl} {w : World} (h : Own w g (ptCells d [p, q])) (h0 : 0 ≤ d) (h3 : d ≤ 3) :
    Calls Try.prog 113 #[.slice (some ⟨g, 0, none⟩) 2 cap] w fun e w' => ∃ g', e = .returned (vMP (some ⟨g', 0, none⟩) 2 d) ∧ w.heap.size ≤ g' ∧ Own w' g' (ptCells d [p, q]) ∧ Below w.heap.size w w' := by
  have b1 : bits .and .u8 3 d = d := by rcases width_all d h0 h3 with rfl | rfl | rfl | rfl <;> decide
  have b2 : bits .and .u8 d d = d := by rcases width_all d h0 h3 with rfl | rfl | rfl | rfl <;> decide
  have HO := Lib.hid h
  clear h
  go_enter Try.func113, Try.ntmps113
  go_wp2_with fail
  have z1 : Own (w.alloc (.cells #[.slice none 0 0, .int .u8 0] 111)) w.heap.size [.slice none 0 0, .int .u8 0] := Own.new' _ rfl rfl
  have z2 := HO.out.alloc (.cells #[.slice none 0 0, .int .u8 0] 111)
  have z3 : Below w.heap.size w (w.alloc (.cells #[.slice none 0 0, .int .u8 0] 111)) := (by repeat (first | with_reducible exact Below.refl _ _ | with_reducible exact HBEL.out | with_reducible assumption | with_reducible refine Below.setCell ?_ (by first | (dsimp only; omega) | (simp; try omega)) _ | with_reducible refine LaterW.below _ ?_ | with_reducible refine below_alloc ?_ _ | with_reducible refine below_drewN' ?_ _ | with_reducible refine Below.drew ?_ | with_reducible exact below_drewN _))
  have hgl := HO.out.lt
  generalize (w.alloc (.cells #[.slice none 0 0, .int .u8 0] 111)) = W0 at *
  go_loopw [3, 13] (fun c i wr => ((i = .int .i64 0 ∧ c = .int .u8 3) ∨ (i = .int .i64 1 ∧ c = .int .u8 d) ∨ (i = .int .i64 2 ∧ c = .int .u8 d)) ∧ Own wr w.heap.size [.slice none 0 0, .int .u8 0] ∧ Own wr g (ptCells d [p, q]) ∧ Below w.heap.size w wr) (fun _ i _ => 2 - (intOf i).toNat)
  case atStart => exact ⟨.inl ⟨rfl, rfl⟩, z1, z2, z3⟩
  case round =>
    clear z1 z2 z3
    obtain ⟨hcase, hz, hg, hbel⟩ := hrel
    have HG := Lib.hid hg
    have HZ := Lib.hid hz
    have HB := Lib.hid hbel
    have ltg := hg.lt
    obtain ⟨c0, c1, c2, c3, c4, c5, c6, c7, c8, c9, c10, c11, _⟩ := hg.cells
    clear hg hbel hz
    rcases hcase with ⟨rfl, rfl⟩ | ⟨rfl, rfl⟩ | ⟨rfl, rfl⟩
    · go_wp2_with ((go_at_call 91; (with_reducible refine (pointType_any p d true _).mono ?_); rintro e w1 ⟨rfl, hb⟩; (first | (obtain ⟨x1, rfl⟩ := LaterW.of2 hb) | (obtain ⟨x1, rfl⟩ := LaterW.of hb)); clear hb))
      exact ⟨⟨.inr (.inl ⟨rfl, rfl⟩), (by repeat (first | with_reducible exact HZ.out | with_reducible apply Own.later | with_reducible apply Own.alloc | with_reducible apply Own.drew | with_reducible apply Own.drewN)), (by repeat (first | with_reducible exact HG.out | with_reducible apply Own.later | with_reducible apply Own.alloc | with_reducible apply Own.drew | with_reducible apply Own.drewN)), LaterW.below x1 (Below.alloc HB.out HB.out.size _)⟩, by simp [intOf]⟩
    · go_wp2_with ((go_at_call 91; (with_reducible refine (pointType_any q d true _).mono ?_); rintro e w1 ⟨rfl, hb⟩; (first | (obtain ⟨x1, rfl⟩ := LaterW.of2 hb) | (obtain ⟨x1, rfl⟩ := LaterW.of hb)); clear hb))
      exact ⟨⟨.inr (.inr ⟨rfl, rfl⟩), (by repeat (first | with_reducible exact HZ.out | with_reducible apply Own.later | with_reducible apply Own.alloc | with_reducible apply Own.drew | with_reducible apply Own.drewN)), (by repeat (first | with_reducible exact HG.out | with_reducible apply Own.later | with_reducible apply Own.alloc | with_reducible apply Own.drew | with_reducible apply Own.drewN)), LaterW.below x1 (Below.alloc HB.out HB.out.size _)⟩, by simp [intOf]⟩
    · clear c0 c1 c2 c3 c4 c5 c6 c7 c8 c9 c10 c11
      go_wp2_with fail
      refine (forceTwo_any HG.out h0 h3).mono ?_
      rintro e w2 ⟨g', rfl, hge, hown, hb⟩
      have HG2 := Lib.hid hown
      have HZ2 := Lib.hid (HZ.out.below hb HZ.out.lt)
      have HB2 := Lib.hid (HB.out.trans (Below.mono hb HB.out.size))
      have hz := HZ.out.lt
      clear hown hb
      go_wp2_with (refine wpList_store_mid rfl 111 (.tmp 2) (.tmp 27) rfl w.heap.size 0 _ rfl rfl (Own.there HZ2.out (Nat.le_refl 2)) (by kernel_rfl) (by kernel_rfl) ?_)
      have oR := Own.sets (vs := [.slice (some ⟨g', 0, none⟩) 2 2, .int .u8 d]) HZ2.out rfl
      have oG := Own.othersets (vs := [.slice (some ⟨g', 0, none⟩) 2 2, .int .u8 d]) (o := 0) HG2.out (show w.heap.size ≠ g' by omega)
      have hbl := Below.setCells (Nat.le_refl _) [.slice (some ⟨g', 0, none⟩) 2 2, .int .u8 d] 0 _ HB2.out
      generalize w2.setCells w.heap.size 0 [.slice (some ⟨g', 0, none⟩) 2 2, .int .u8 d] = W9 at *
      refine ret_agg [.slice (some ⟨g', 0, none⟩) 2 2, .int .u8 d] rfl rfl rfl (by kernel_rfl) (by kernel_rfl) (oR).cells (⟨g', rfl, by omega, oG, hbl⟩)
section
variable {d : Int} {a : Option Addr} {n ca B q : Nat} {xs : List Nat} {w : World}
/-- no point -/
theorem boundary_none (ha : NumsIs w B a xs) (hB : B ≤ w.heap.size) (hn : xs.length = n) (hl : n ≤ 4000) (h0 : 0 ≤ d) (h3 : d ≤ 3) (hq : n / widthN d = q) (hc : q = 0 ∨ closedB xs d q = true) :
    Calls Try.prog 77 #[vSeq d a n ca] w fun e w' => e = .returned (vMP none 0 0) ∧ Below w.heap.size w w' := by
  by_cases hq0 : q = 0
  · have HE := Lib.hid (fun (W' : World) => lineEmpty_any (a := a) (ca := ca) (w := W') h0 h3 hq hl)
    have hdec : decide (q = 0) = true := by simp [hq0]
    rw [hdec] at HE
    clear ha hq hc hq0 hdec
    go_enter Try.func77, Try.ntmps77
    go_wp2_with ((go_at_call 111; (with_reducible refine (HE.out _).mono ?_); rintro e w1 ⟨rfl, hb⟩; (first | (obtain ⟨x1, rfl⟩ := LaterW.of2 hb) | (obtain ⟨x1, rfl⟩ := LaterW.of hb)); clear hb))
    refine ret_agg [.slice none 0 0, .int .u8 0] rfl rfl rfl (by kernel_rfl) (by kernel_rfl) (by simp [CellsAt, go_sem]) ⟨rfl, ?_⟩
    exact (by repeat (first | with_reducible exact Below.refl _ _ | with_reducible exact HBEL.out | with_reducible assumption | with_reducible refine Below.setCell ?_ (by first | (dsimp only; omega) | (simp; try omega)) _ | with_reducible refine LaterW.below _ ?_ | with_reducible refine below_alloc ?_ _ | with_reducible refine below_drewN' ?_ _ | with_reducible refine Below.drew ?_ | with_reducible exact below_drewN _))
  · have HE := Lib.hid (fun (W' : World) => lineEmpty_any (a := a) (ca := ca) (w := W') h0 h3 hq hl)
    have hdec : decide (q = 0) = false := by simp [hq0]
    rw [hdec] at HE
    have hcl : closedB xs d q = true := hc.resolve_left hq0
    have HC : Hid (∀ W', Below w.heap.size w W' → Calls Try.prog 112 #[vSeq d a n ca] W' fun e w' => e = .returned (.bool true) ∧ Below W'.heap.size W' w') := fun W' h => by
      have := isClosed_any (ca := ca) (ha.below h hB) (Nat.le_trans hB h.size) hn hl h0 h3 hq hq0
      rwa [hcl] at this
    clear ha hq hc hq0 hdec hcl
    go_enter Try.func77, Try.ntmps77
    go_wp2_with (first | (go_at_call 111; (with_reducible refine (HE.out _).mono ?_); rintro e w1 ⟨rfl, hb⟩; (first | (obtain ⟨x1, rfl⟩ := LaterW.of2 hb) | (obtain ⟨x1, rfl⟩ := LaterW.of hb)); clear hb) | (go_at_call 112; (with_reducible refine (HC.out _ (by repeat (first | with_reducible exact Below.refl _ _ | with_reducible exact HBEL.out | with_reducible assumption | with_reducible refine Below.setCell ?_ (by first | (dsimp only; omega) | (simp; try omega)) _ | with_reducible refine LaterW.below _ ?_ | with_reducible refine below_alloc ?_ _ | with_reducible refine below_drewN' ?_ _ | with_reducible refine Below.drew ?_ | with_reducible exact below_drewN _))).mono ?_); rintro e w1 ⟨rfl, hb⟩; (first | (obtain ⟨x1, rfl⟩ := LaterW.of2 hb) | (obtain ⟨x1, rfl⟩ := LaterW.of hb)); clear hb))
    refine ret_agg [.slice none 0 0, .int .u8 0] rfl rfl rfl (by kernel_rfl) (by kernel_rfl) (by simp [CellsAt, go_sem]) ⟨rfl, ?_⟩
    exact (by repeat (first | with_reducible exact Below.refl _ _ | with_reducible exact HBEL.out | with_reducible assumption | with_reducible refine Below.setCell ?_ (by first | (dsimp only; omega) | (simp; try omega)) _ | with_reducible refine LaterW.below _ ?_ | with_reducible refine below_alloc ?_ _ | with_reducible refine below_drewN' ?_ _ | with_reducible refine Below.drew ?_ | with_reducible exact below_drewN _))
theorem boundary_two (ha : NumsIs w B a xs) (hB : B ≤ w.heap.size) (hn : xs.length = n) (hl : n ≤ 4000) (h0 : 0 ≤ d) (h3 : d ≤ 3) (hq : n / widthN d = q) (hq0 : q ≠ 0) (hc : closedB xs d q = false) :
    Calls Try.prog 77 #[vSeq d a n ca] w fun e w' => ∃ g, e = .returned (vMP (some ⟨g, 0, none⟩) 2 d) ∧ w.heap.size ≤ g ∧ Own w' g (ptCells d [placeAt xs d 0, placeAt xs d (q - 1)]) ∧ Below w.heap.size w w' := by
  have HE := Lib.hid (fun (W' : World) => lineEmpty_any (a := a) (ca := ca) (w := W') h0 h3 hq hl)
  have hdec : decide (q = 0) = false := by simp [hq0]
  rw [hdec] at HE
  have HC : Hid (∀ W', Below w.heap.size w W' → Calls Try.prog 112 #[vSeq d a n ca] W' fun e w' => e = .returned (.bool false) ∧ Below W'.heap.size W' w') := fun W' h => by
    have := isClosed_any (ca := ca) (ha.below h hB) (Nat.le_trans hB h.size) hn hl h0 h3 hq hq0
    rwa [hc] at this
  have HS : Hid (∀ W', Below w.heap.size w W' → Calls Try.prog 114 #[vSeq d a n ca] W' fun e w' => e = .returned (vP (placeAt xs d 0) d true) ∧ Below W'.heap.size W' w') := fun W' h => startPoint_any (ha.below h hB) (Nat.le_trans hB h.size) hn hl h0 h3 hq hq0
  have HF : Hid (∀ W', Below w.heap.size w W' → Calls Try.prog 115 #[vSeq d a n ca] W' fun e w' => e = .returned (vP (placeAt xs d (q - 1)) d true) ∧ Below W'.heap.size W' w') := fun W' h => endPoint_any (ha.below h hB) (Nat.le_trans hB h.size) hn hl h0 h3 hq hq0
  generalize placeAt xs d 0 = p0 at *
  generalize placeAt xs d (q - 1) = p1 at *
  clear ha hq hc hdec
  go_enter Try.func77, Try.ntmps77
  go_wp2_with (first | (go_at_call 111; (with_reducible refine (HE.out _).mono ?_); rintro e w1 ⟨rfl, hb⟩; (first | (obtain ⟨x1, rfl⟩ := LaterW.of2 hb) | (obtain ⟨x1, rfl⟩ := LaterW.of hb)); clear hb) | (go_at_call 112; (with_reducible refine (HC.out _ (by repeat (first | with_reducible exact Below.refl _ _ | with_reducible exact HBEL.out | with_reducible assumption | with_reducible refine Below.setCell ?_ (by first | (dsimp only; omega) | (simp; try omega)) _ | with_reducible refine LaterW.below _ ?_ | with_reducible refine below_alloc ?_ _ | with_reducible refine below_drewN' ?_ _ | with_reducible refine Below.drew ?_ | with_reducible exact below_drewN _))).mono ?_); rintro e w1 ⟨rfl, hb⟩; (first | (obtain ⟨x1, rfl⟩ := LaterW.of2 hb) | (obtain ⟨x1, rfl⟩ := LaterW.of hb)); clear hb))
  have o1 : Own x1.val w.heap.size [.int .u8 d, .slice a n ca] := (by repeat (first | (refine Own.new' _ rfl ?_; first | with_reducible rfl | (simp; done)) | with_reducible apply Own.later | with_reducible apply Own.alloc | with_reducible apply Own.drew | with_reducible apply Own.drewN | with_reducible apply Own.other))
  have o2 : Own x1.val (w.heap.size + 1) [.slice none 0 0, .int .u8 0] := (by repeat (first | (refine Own.new' _ rfl ?_; first | with_reducible rfl | (simp; done)) | with_reducible apply Own.later | with_reducible apply Own.alloc | with_reducible apply Own.drew | with_reducible apply Own.drewN | with_reducible apply Own.other))
  have hbel : Below w.heap.size w x1.val := (by repeat (first | with_reducible exact Below.refl _ _ | with_reducible exact HBEL.out | with_reducible assumption | with_reducible refine Below.setCell ?_ (by first | (dsimp only; omega) | (simp; try omega)) _ | with_reducible refine LaterW.below _ ?_ | with_reducible refine below_alloc ?_ _ | with_reducible refine below_drewN' ?_ _ | with_reducible refine Below.drew ?_ | with_reducible exact below_drewN _))
  have HB := Lib.hid hbel
  have HZ := Lib.hid o2
  generalize x1.val = W at *
  clear x1
  have G0 : ∀ w', Below W.heap.size W w' → w'.cell? ⟨w.heap.size, 0, none⟩ = some (.int .u8 d) := fun w' h => (o1.below h o1.lt).cells.1
  have G1 : ∀ w', Below W.heap.size W w' → w'.cell? ⟨w.heap.size, 1, none⟩ = some (.slice a n ca) := fun w' h => (o1.below h o1.lt).cells.2.1
  clear o1 hbel o2
  refine wp_region_facts 5 (fun w' => Below W.heap.size W w') [fun _ _ _ v => v = vSeq d a n ca, fun _ _ _ v => v = vP p0 d true, fun _ _ _ v => v = vSeq d a n ca, fun _ _ _ v => v = vP p1 d true, fun w lo hi v => ∃ A, W.heap.size ≤ A ∧ v = .slice (some ⟨A, 0, none⟩) 2 2 ∧ Own w A (ptCells d [p0, p1])] rfl (by kernel_rfl) (Below.refl _ _).drew (fun _ _ h h' => Below.trans h (Below.mono h' h.size)) ⟨stays_val _, stays_val _, stays_val _, stays_val _, (fun _ _ _ _ _ _ hb _ ⟨A, h1, h2, h3⟩ => ⟨A, h1, h2, h3.below hb h3.lt⟩), trivial⟩ ?steps ?rest
  case steps =>
    simp only [List.take_succ_cons, List.take_zero]
    (refine stepsOk_other rfl (fun Q u lo hi w1 hw1 hd hK => ?_) ?_; · (simp only [putAll, Act.put, List.setIfInBounds_toArray, List.set_cons_zero, List.set_cons_succ, Nat.zero_add, Nat.reduceAdd] at hK ⊢; go_wp2_with fail; refine hK _ _ ?_ ?_; (· exact (by repeat (first | with_reducible exact Below.refl _ _ | with_reducible assumption | with_reducible refine Below.setCell ?_ (by dsimp only; repeat (first | with_reducible exact Nat.le_refl _ | with_reducible refine Nat.le_trans ?_ (LaterW.ok _).size | rw [World.size_alloc] | rw [World.size_setCell] | rw [World.size_drew] | with_reducible refine Nat.le_succ_of_le ?_)) _ | with_reducible refine LaterW.below _ ?_ | with_reducible refine below_alloc ?_ _ | with_reducible refine below_drewN' ?_ _ | with_reducible refine Below.drew ?_))); (· exact rfl)))
    (refine stepsOk_other rfl (fun Q u lo hi w1 hw1 hd hK => ?_) ?_; · ((have d0 := hd 0 rfl); (simp only [factAt, List.getD_cons_zero] at d0); simp only [putAll, Act.put, List.setIfInBounds_toArray, List.set_cons_zero, List.set_cons_succ, Nat.zero_add, Nat.reduceAdd, d0] at hK ⊢; go_wp2_with (go_at_call 114; (with_reducible refine (HS.out _ (HB.out.trans (Below.mono hw1 HB.out.size))).mono ?_); rintro e w1 ⟨rfl, hb⟩; (first | (obtain ⟨x1, rfl⟩ := LaterW.of2 hb) | (obtain ⟨x1, rfl⟩ := LaterW.of hb)); clear hb); refine hK _ _ ?_ ?_; (· exact (by repeat (first | with_reducible exact Below.refl _ _ | with_reducible assumption | with_reducible refine Below.setCell ?_ (by dsimp only; repeat (first | with_reducible exact Nat.le_refl _ | with_reducible refine Nat.le_trans ?_ (LaterW.ok _).size | rw [World.size_alloc] | rw [World.size_setCell] | rw [World.size_drew] | with_reducible refine Nat.le_succ_of_le ?_)) _ | with_reducible refine LaterW.below _ ?_ | with_reducible refine below_alloc ?_ _ | with_reducible refine below_drewN' ?_ _ | with_reducible refine Below.drew ?_))); (· exact rfl)))
    (refine stepsOk_other rfl (fun Q u lo hi w1 hw1 hd hK => ?_) ?_; · (simp only [putAll, Act.put, List.setIfInBounds_toArray, List.set_cons_zero, List.set_cons_succ, Nat.zero_add, Nat.reduceAdd] at hK ⊢; go_wp2_with fail; refine hK _ _ ?_ ?_; (· exact (by repeat (first | with_reducible exact Below.refl _ _ | with_reducible assumption | with_reducible refine Below.setCell ?_ (by dsimp only; repeat (first | with_reducible exact Nat.le_refl _ | with_reducible refine Nat.le_trans ?_ (LaterW.ok _).size | rw [World.size_alloc] | rw [World.size_setCell] | rw [World.size_drew] | with_reducible refine Nat.le_succ_of_le ?_)) _ | with_reducible refine LaterW.below _ ?_ | with_reducible refine below_alloc ?_ _ | with_reducible refine below_drewN' ?_ _ | with_reducible refine Below.drew ?_))); (· exact rfl)))
    (refine stepsOk_other rfl (fun Q u lo hi w1 hw1 hd hK => ?_) ?_; · ((have d2 := hd 2 rfl); (simp only [factAt, List.getD_cons_zero, List.getD_cons_succ] at d2); simp only [putAll, Act.put, List.setIfInBounds_toArray, List.set_cons_zero, List.set_cons_succ, Nat.zero_add, Nat.reduceAdd, d2] at hK ⊢; go_wp2_with (go_at_call 115; (with_reducible refine (HF.out _ (HB.out.trans (Below.mono hw1 HB.out.size))).mono ?_); rintro e w1 ⟨rfl, hb⟩; (first | (obtain ⟨x1, rfl⟩ := LaterW.of2 hb) | (obtain ⟨x1, rfl⟩ := LaterW.of hb)); clear hb); refine hK _ _ ?_ ?_; (· exact (by repeat (first | with_reducible exact Below.refl _ _ | with_reducible assumption | with_reducible refine Below.setCell ?_ (by dsimp only; repeat (first | with_reducible exact Nat.le_refl _ | with_reducible refine Nat.le_trans ?_ (LaterW.ok _).size | rw [World.size_alloc] | rw [World.size_setCell] | rw [World.size_drew] | with_reducible refine Nat.le_succ_of_le ?_)) _ | with_reducible refine LaterW.below _ ?_ | with_reducible refine below_alloc ?_ _ | with_reducible refine below_drewN' ?_ _ | with_reducible refine Below.drew ?_))); (· exact rfl)))
    (refine stepsOk_other rfl (fun Q u lo hi w1 hw1 hd hK => ?_) ?_; · ((have d1 := hd 1 rfl); (simp only [factAt, List.getD_cons_zero, List.getD_cons_succ] at d1); (have d3 := hd 3 rfl); (simp only [factAt, List.getD_cons_zero, List.getD_cons_succ] at d3); simp only [putAll, Act.put, List.setIfInBounds_toArray, List.set_cons_zero, List.set_cons_succ, Nat.zero_add, Nat.reduceAdd, d1, d3] at hK ⊢; go_wp2_with fail; refine hK _ _ ?_ ?_; (· exact (by repeat (first | with_reducible exact Below.refl _ _ | with_reducible assumption | with_reducible refine Below.setCell ?_ (by dsimp only; repeat (first | with_reducible exact Nat.le_refl _ | with_reducible refine Nat.le_trans ?_ (LaterW.ok _).size | rw [World.size_alloc] | rw [World.size_setCell] | rw [World.size_drew] | with_reducible refine Nat.le_succ_of_le ?_)) _ | with_reducible refine LaterW.below _ ?_ | with_reducible refine below_alloc ?_ _ | with_reducible refine below_drewN' ?_ _ | with_reducible refine Below.drew ?_))); (· exact ⟨_, hw1.size, rfl, Own.new' _ rfl rfl⟩)))
    exact stepsOk_nil
  case rest =>
    (intro Q' hQ' u lo hi w1 hw1 hf hdj hsz; (have d0 := hf 0 (by decide)); (simp only [factAt, List.getD_cons_zero] at d0); (have d1 := hf 1 (by decide)); (simp only [factAt, List.getD_cons_zero, List.getD_cons_succ] at d1); (have d2 := hf 2 (by decide)); (simp only [factAt, List.getD_cons_zero, List.getD_cons_succ] at d2); (have d3 := hf 3 (by decide)); (simp only [factAt, List.getD_cons_zero, List.getD_cons_succ] at d3); (have d4 := hf 4 (by decide)); (simp only [factAt, List.getD_cons_zero, List.getD_cons_succ] at d4); (have ge4 := (Exists.choose_spec d4).1); (have e4 := (Exists.choose_spec d4).2.1); (have o4 := (Exists.choose_spec d4).2.2); (generalize Exists.choose d4 = A4 at ge4 e4 o4); (clear d4); (rename _ = _ => d4); simp only [List.take_succ_cons, List.take_zero, List.drop_succ_cons, List.drop_zero, putAll, Act.put, List.setIfInBounds_toArray, List.set_cons_zero, List.set_cons_succ, Nat.zero_add, Nat.reduceAdd, d4])
    have z2 := HZ.out.below hw1 HZ.out.lt
    have hb1 := HB.out.trans (Below.mono hw1 HB.out.size)
    have hw2 := HZ.out.lt
    have HZ1 := Lib.hid z2
    have HB1 := Lib.hid hb1
    have HO4 := Lib.hid o4
    clear hf hdj hsz d0 d1 d2 d3 z2 hb1 o4 G0 G1
    go_wp2_with (first | (go_at_call 113; refine (newMultiTwo_any HO4.out h0 h3).mono ?_; rintro e w3 ⟨g', rfl, hge, hown, hb⟩) | (refine wpList_store_mid rfl 111 (.tmp 2) (.tmp 15) rfl (w.heap.size + 1) 0 _ rfl rfl (Own.there (HZ1.out.below hb HZ1.out.lt) (Nat.le_refl 2)) (by kernel_rfl) (by kernel_rfl) ?_))
    have hw1s := hw1.size
    have oR := Own.sets (vs := [.slice (some ⟨g', 0, none⟩) 2 2, .int .u8 d]) (HZ1.out.below hb HZ1.out.lt) rfl
    have oG := Own.othersets (vs := [.slice (some ⟨g', 0, none⟩) 2 2, .int .u8 d]) (o := 0) hown (show w.heap.size + 1 ≠ g' by omega)
    have hbl := Below.setCells (Nat.le_succ _) [.slice (some ⟨g', 0, none⟩) 2 2, .int .u8 d] 0 _ (HB1.out.trans (Below.mono hb HB1.out.size))
    generalize w3.setCells (w.heap.size + 1) 0 [.slice (some ⟨g', 0, none⟩) 2 2, .int .u8 d] = W9 at *
    refine ret_agg [.slice (some ⟨g', 0, none⟩) 2 2, .int .u8 d] rfl rfl rfl (by kernel_rfl) (by kernel_rfl) (oR).cells (⟨g', rfl, by omega, oG, hbl⟩)
end
end Go.Proofs.Ytihkmkcjjlmkhaa
