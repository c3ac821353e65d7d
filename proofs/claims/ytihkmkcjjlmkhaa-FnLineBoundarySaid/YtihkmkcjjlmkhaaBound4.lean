/- impl.plainMultiPoint of two points. No condition. -/
import Derived.Test.YtihkmkcjjlmkhaaBound3
namespace Go.Proofs.Ytihkmkcjjlmkhaa
set_option maxRecDepth 100000
open Go.ChangeShapes Go.WideShapes Go.ChangeAt Go.RowKit Go.Deep
open Fl

theorem KidCells.setCells {C q : Nat} {d : Int} (hq : q < C) : ∀ {w : World} (o : Nat) (vs : List Value) {rs : List (List Nat)} {cs : List Value}, KidCells w C d rs cs → KidCells (w.setCells q o vs) C d rs cs
  | _, _, [], _, _, h => h
  | w, o, u :: r, _, _, h => KidCells.setCells hq (w := w.setCell ⟨q, o, none⟩ u) (o + 1) r (h.setCell hq u)
theorem KidCells.base {w : World} {B C : Nat} {d : Int} (hC : C ≤ B) : ∀ {rs : List (List Nat)} {cs : List Value}, KidCells w B d rs cs → KidCells w C d rs cs
  | [], _, h => h
  | _ :: _, _, ⟨a, c, cs', h1, h2, h5⟩ => ⟨a, c, cs', h1, ownsRow_mono h2 hC, h5.base hC⟩
theorem placeRow_len {d : Int} {p : Pl} (h0 : 0 ≤ d) (h3 : d ≤ 3) : (placeRow d p).length = widthN d := by
  rw [width_sum h0 h3]; unfold placeRow; cases has3 d <;> cases hasM d <;> rfl
set_option maxHeartbeats 800000 in
theorem plainMulti_two {d : Int} {b : Nat} {p q : Pl} {w : World} (h : Own w b (ptCells d [p, q])) (h0 : 0 ≤ d) (h3 : d ≤ 3) :
    Calls Try.prog 76 #[vMP (some ⟨b, 0, none⟩) 2 d] w fun e w' => ∃ kk ck cs, e = .returned (vGeom 4 d none 0 0 kk 2 ck) ∧ w'.ownsRow w.heap.size 25 4 (.slice kk 2 ck) 2 cs ∧ KidCells w' w.heap.size d [placeRow d p, placeRow d q] cs ∧ Below w.heap.size w w' := by
  have hcv : IntKind.i64.wrap d = d := by unfold IntKind.wrap; simp [IntKind.signed, IntKind.bits]; omega
  obtain ⟨i0, hi0, hz0, hz1, hz2⟩ := info_parts geomInfo
  have hlp : (placeRow d p).length = widthN d := placeRow_len h0 h3
  have hlq : (placeRow d q).length = widthN d := placeRow_len h0 h3
  have HPO : Hid (∀ W', Calls Try.prog 54 #[vP p d true] W' fun e w' => ∃ a' c', e = .returned (vGeom 1 d a' (placeRow d p).length c' none 0 0) ∧ w'.ownsRow W'.heap.size 36 1 (.slice a' (placeRow d p).length c') (placeRow d p).length ((placeRow d p).map fl) ∧ Below W'.heap.size W' w') := fun W' => by have := plainPoint_own p h0 h3 W'; rwa [hlp]
  have HQO : Hid (∀ W', Calls Try.prog 54 #[vP q d true] W' fun e w' => ∃ a' c', e = .returned (vGeom 1 d a' (placeRow d q).length c' none 0 0) ∧ w'.ownsRow W'.heap.size 36 1 (.slice a' (placeRow d q).length c') (placeRow d q).length ((placeRow d q).map fl) ∧ Below W'.heap.size W' w') := fun W' => by have := plainPoint_own q h0 h3 W'; rwa [hlq]
  generalize placeRow d p = rp at *
  generalize placeRow d q = rq at *
  have HO := Lib.hid h
  have hbl := h.lt
  clear h hlp hlq
  go_enter Try.func76, Try.ntmps76
  go_wp2_with ((go_at_call 108; (with_reducible refine (multiType_any).mono ?_); rintro e w1 ⟨rfl, hb⟩; (first | (obtain ⟨x1, rfl⟩ := LaterW.of2 hb) | (obtain ⟨x1, rfl⟩ := LaterW.of hb)); clear hb))
  rename LaterW _ => y1
  have hgw : w.heap.size + 2 ≤ y1.val.heap.size := by have := y1.ok.size; simp only [World.size_alloc] at this; omega
  have o1 : Own y1.val w.heap.size [.slice (some ⟨b, 0, none⟩) 2 2, .int .u8 d] := (by repeat (first | (refine Own.new' _ rfl ?_; first | with_reducible rfl | (simp; done)) | with_reducible apply Own.later | with_reducible apply Own.alloc | with_reducible apply Own.drew | with_reducible apply Own.drewN | with_reducible apply Own.other))
  have o2 : Own y1.val (w.heap.size + 1) [.int .i64 0, .int .i64 0, .slice none 0 0, .slice none 0 0] := (by repeat (first | (refine Own.new' _ rfl ?_; first | with_reducible rfl | (simp; done)) | with_reducible apply Own.later | with_reducible apply Own.alloc | with_reducible apply Own.drew | with_reducible apply Own.drewN | with_reducible apply Own.other))
  have hby : Below w.heap.size w y1.val := (by repeat (first | with_reducible exact Below.refl _ _ | with_reducible exact HBEL.out | with_reducible assumption | with_reducible refine Below.setCell ?_ (by first | (dsimp only; omega) | (simp; try omega)) _ | with_reducible refine LaterW.below _ ?_ | with_reducible refine below_alloc ?_ _ | with_reducible refine below_drewN' ?_ _ | with_reducible refine Below.drew ?_ | with_reducible exact below_drewN _))
  have o0 : Own y1.val b (ptCells d [p, q]) := HO.out.below hby HO.out.lt
  obtain ⟨G, hG⟩ : ∃ G, G = y1.val.heap.size := ⟨_, rfl⟩
  have hms : MS w (y1.val.alloc (.cells #[.int .i64 4, .int .i64 d, .slice none 0 0, .slice none 0 0] 25)) G d b p q (.slice none 0 0) 0 [] [] :=
    ⟨o1.alloc _, o2.alloc _, by rw [hG]; exact Own.new' _ rfl rfl, o0.alloc _, World.ownsRow_nil _ _ _ _, rfl, hby.alloc hby.size _, by rw [hG]; exact hgw, hbl⟩
  rw [← hG]
  generalize (y1.val.alloc (.cells #[.int .i64 4, .int .i64 d, .slice none 0 0, .slice none 0 0] 25)) = W0 at *
  clear hG hby o1 o2 o0 hgw
  go_loopw [4] (fun i wr => (i = .int .i64 0 ∧ ∃ v cs, MS w wr G d b p q v 0 [] cs) ∨ (i = .int .i64 1 ∧ ∃ v cs, MS w wr G d b p q v 1 [rp] cs) ∨ (i = .int .i64 2 ∧ ∃ v cs, MS w wr G d b p q v 2 [rp, rq] cs)) (fun i _ => 2 - (intOf i).toNat)
  case atStart => exact .inl ⟨rfl, _, _, hms⟩
  case round =>
    clear hms
    rcases hrel with ⟨rfl, kv, cs, hms⟩ | ⟨rfl, kv, cs, hms⟩ | ⟨rfl, kv, cs, hms⟩
    · have HMS0 := Lib.hid hms
      obtain ⟨c0, c1, _⟩ := hms.box.cells
      have ltB := hms.box.lt
      clear hms
      go_wp2_with ((go_at_call 109; (with_reducible refine (numPoints_any).mono ?_); rintro e w1 ⟨rfl, hb⟩; (first | (obtain ⟨x1, rfl⟩ := LaterW.of2 hb) | (obtain ⟨x1, rfl⟩ := LaterW.of hb)); clear hb))
      have hms := HMS0.out.below x1.ok
      generalize x1.val = W at *
      clear x1 c0 c1 ltB HMS0
      have G3 : ∀ w', Below W.heap.size W w' → w'.cell? ⟨G, 3, none⟩ = some kv := fun w' h => (hms.g.below h hms.g.lt).cells.2.2.2.1
      have K0 : ∀ w', Below W.heap.size W w' → w'.cell? ⟨w.heap.size, 0, none⟩ = some (.slice (some ⟨b, 0, none⟩) 2 2) := fun w' h => (hms.box.below h hms.box.lt).cells.1
      have K1 : ∀ w', Below W.heap.size W w' → w'.cell? ⟨w.heap.size, 1, none⟩ = some (.int .u8 d) := fun w' h => (hms.box.below h hms.box.lt).cells.2.1
      have hGW : G < W.heap.size := hms.g.lt
      have HMS := Lib.hid hms
      clear hms
      refine wp_region_facts 7 (fun w' => Below W.heap.size W w') [fun _ _ _ v => v = .pointer (some ⟨G, 3, none⟩), fun _ _ _ v => v = kv, fun _ _ _ v => v = vMP (some ⟨b, 0, none⟩) 2 d, fun _ _ _ v => v = .int .i64 0, fun _ _ _ v => v = vP p d true, fun w _ _ u => PtOf d rp.length (G + 1) rp w u, fun w _ _ u => SlOf d rp.length (G + 1) rp w u] rfl (by kernel_rfl) (Below.refl _ _).drew (fun _ _ h h' => Below.trans h (Below.mono h' h.size)) ⟨stays_val _, stays_val _, stays_val _, stays_val _, stays_val _, stays_pt _ _ _ _, stays_sl _ _ _ _, trivial⟩ ?steps ?rest
      case steps =>
        simp only [List.take_succ_cons, List.take_zero]
        (refine stepsOk_other rfl (fun Q u lo hi w1 hw1 hd hK => ?_) ?_; · (simp only [putAll, Act.put, List.setIfInBounds_toArray, List.set_cons_zero, List.set_cons_succ, Nat.zero_add, Nat.reduceAdd] at hK ⊢; go_wp2_with fail; refine hK _ _ ?_ ?_; (· exact (by repeat (first | with_reducible exact Below.refl _ _ | with_reducible assumption | with_reducible refine Below.setCell ?_ (by dsimp only; repeat (first | with_reducible exact Nat.le_refl _ | with_reducible refine Nat.le_trans ?_ (LaterW.ok _).size | rw [World.size_alloc] | rw [World.size_setCell] | rw [World.size_drew] | with_reducible refine Nat.le_succ_of_le ?_)) _ | with_reducible refine LaterW.below _ ?_ | with_reducible refine below_alloc ?_ _ | with_reducible refine below_drewN' ?_ _ | with_reducible refine Below.drew ?_))); (· exact rfl)))
        (refine stepsOk_other rfl (fun Q u lo hi w1 hw1 hd hK => ?_) ?_; · ((have d0 := hd 0 rfl); (simp only [factAt, List.getD_cons_zero] at d0); simp only [putAll, Act.put, List.setIfInBounds_toArray, List.set_cons_zero, List.set_cons_succ, Nat.zero_add, Nat.reduceAdd, d0] at hK ⊢; go_wp2_with fail; refine hK _ _ ?_ ?_; (· exact (by repeat (first | with_reducible exact Below.refl _ _ | with_reducible assumption | with_reducible refine Below.setCell ?_ (by dsimp only; repeat (first | with_reducible exact Nat.le_refl _ | with_reducible refine Nat.le_trans ?_ (LaterW.ok _).size | rw [World.size_alloc] | rw [World.size_setCell] | rw [World.size_drew] | with_reducible refine Nat.le_succ_of_le ?_)) _ | with_reducible refine LaterW.below _ ?_ | with_reducible refine below_alloc ?_ _ | with_reducible refine below_drewN' ?_ _ | with_reducible refine Below.drew ?_))); (· exact rfl)))
        (refine stepsOk_other rfl (fun Q u lo hi w1 hw1 hd hK => ?_) ?_; · (simp only [putAll, Act.put, List.setIfInBounds_toArray, List.set_cons_zero, List.set_cons_succ, Nat.zero_add, Nat.reduceAdd] at hK ⊢; go_wp2_with fail; refine hK _ _ ?_ ?_; (· exact (by repeat (first | with_reducible exact Below.refl _ _ | with_reducible assumption | with_reducible refine Below.setCell ?_ (by dsimp only; repeat (first | with_reducible exact Nat.le_refl _ | with_reducible refine Nat.le_trans ?_ (LaterW.ok _).size | rw [World.size_alloc] | rw [World.size_setCell] | rw [World.size_drew] | with_reducible refine Nat.le_succ_of_le ?_)) _ | with_reducible refine LaterW.below _ ?_ | with_reducible refine below_alloc ?_ _ | with_reducible refine below_drewN' ?_ _ | with_reducible refine Below.drew ?_))); (· exact rfl)))
        (refine stepsOk_plain rfl (fun u lo hi w1 hw1 hd => ?_) ?_; · (refine ⟨_, .inl ⟨rfl, fun W => ?_⟩, by exact rfl⟩; simp [putAll, Act.put, List.setIfInBounds_toArray, List.set_cons_zero, List.set_cons_succ, Nat.zero_add, Nat.reduceAdd, go_sem]))
        (refine stepsOk_other rfl (fun Q u lo hi w1 hw1 hd hK => ?_) ?_; · ((have d2 := hd 2 rfl); (simp only [factAt, List.getD_cons_zero, List.getD_cons_succ] at d2); (have d3 := hd 3 rfl); (simp only [factAt, List.getD_cons_zero, List.getD_cons_succ] at d3); simp only [putAll, Act.put, List.setIfInBounds_toArray, List.set_cons_zero, List.set_cons_succ, Nat.zero_add, Nat.reduceAdd, d2, d3] at hK ⊢; go_wp2_with (go_at_call 110; (with_reducible refine (pointN_0 (HMS.out.below hw1).pts).mono ?_); rintro e w1 ⟨rfl, hb⟩; (first | (obtain ⟨x1, rfl⟩ := LaterW.of2 hb) | (obtain ⟨x1, rfl⟩ := LaterW.of hb)); clear hb); refine hK _ _ ?_ ?_; (· exact (by repeat (first | with_reducible exact Below.refl _ _ | with_reducible assumption | with_reducible refine Below.setCell ?_ (by dsimp only; repeat (first | with_reducible exact Nat.le_refl _ | with_reducible refine Nat.le_trans ?_ (LaterW.ok _).size | rw [World.size_alloc] | rw [World.size_setCell] | rw [World.size_drew] | with_reducible refine Nat.le_succ_of_le ?_)) _ | with_reducible refine LaterW.below _ ?_ | with_reducible refine below_alloc ?_ _ | with_reducible refine below_drewN' ?_ _ | with_reducible refine Below.drew ?_))); (· exact rfl)))
        (refine stepsOk_other rfl (fun Q u lo hi w1 hw1 hd hK => ?_) ?_; · ((have d4 := hd 4 rfl); (simp only [factAt, List.getD_cons_zero, List.getD_cons_succ] at d4); simp only [putAll, Act.put, List.setIfInBounds_toArray, List.set_cons_zero, List.set_cons_succ, Nat.zero_add, Nat.reduceAdd, d4] at hK ⊢; go_wp2_with (go_at_call 54; refine (HPO.out _).mono ?_; rintro r w3 ⟨a', c', rfl, q1, hb⟩); refine hK _ _ ?_ ?_; (· exact (by repeat (first | with_reducible exact Below.refl _ _ | with_reducible assumption | with_reducible refine Below.setCell ?_ (by dsimp only; repeat (first | with_reducible exact Nat.le_refl _ | with_reducible refine Nat.le_trans ?_ (LaterW.ok _).size | rw [World.size_alloc] | rw [World.size_setCell] | rw [World.size_drew] | with_reducible refine Nat.le_succ_of_le ?_)) _ | with_reducible refine LaterW.below _ ?_ | with_reducible refine below_alloc ?_ _ | with_reducible refine below_drewN' ?_ _ | with_reducible refine Below.drew ?_))); (· exact ⟨a', c', rfl, ownsRow_mono q1 (Nat.le_trans hGW hw1.size)⟩)))
        (refine stepsOk_other rfl (fun Q u lo hi w1 hw1 hd hK => ?_) ?_; · ((have d5 := hd 5 rfl); (simp only [factAt, List.getD_cons_zero, List.getD_cons_succ] at d5); (have e5 := PtOf.eq d5); (have r5 := PtOf.row d5); (generalize Exists.choose (Exists.choose_spec d5) = C5 at e5 r5); (generalize Exists.choose d5 = A5 at e5 r5); (clear d5); (rename _ = _ => d5); simp only [putAll, Act.put, List.setIfInBounds_toArray, List.set_cons_zero, List.set_cons_succ, Nat.zero_add, Nat.reduceAdd, d5] at hK ⊢; go_wp2_with fail; refine hK _ _ ?_ ?_; (· exact (by repeat (first | with_reducible exact Below.refl _ _ | with_reducible assumption | with_reducible refine Below.setCell ?_ (by dsimp only; repeat (first | with_reducible exact Nat.le_refl _ | with_reducible refine Nat.le_trans ?_ (LaterW.ok _).size | rw [World.size_alloc] | rw [World.size_setCell] | rw [World.size_drew] | with_reducible refine Nat.le_succ_of_le ?_)) _ | with_reducible refine LaterW.below _ ?_ | with_reducible refine below_alloc ?_ _ | with_reducible refine below_drewN' ?_ _ | with_reducible refine Below.drew ?_))); (· exact ⟨_, A5, C5, rfl, Own.new' _ rfl rfl, own_below r5 ((Below.refl _ _).alloc (Nat.le_refl _) _)⟩)))
        exact stepsOk_nil
      case rest =>
        (intro Q' hQ' u lo hi w1 hw1 hf hdj hsz; (have d0 := hf 0 (by decide)); (simp only [factAt, List.getD_cons_zero] at d0); (have d1 := hf 1 (by decide)); (simp only [factAt, List.getD_cons_zero, List.getD_cons_succ] at d1); (have d2 := hf 2 (by decide)); (simp only [factAt, List.getD_cons_zero, List.getD_cons_succ] at d2); (have d3 := hf 3 (by decide)); (simp only [factAt, List.getD_cons_zero, List.getD_cons_succ] at d3); (have d4 := hf 4 (by decide)); (simp only [factAt, List.getD_cons_zero, List.getD_cons_succ] at d4); (have d5 := hf 5 (by decide)); (simp only [factAt, List.getD_cons_zero, List.getD_cons_succ] at d5); (have d6 := hf 6 (by decide)); (simp only [factAt, List.getD_cons_zero, List.getD_cons_succ] at d6); (have e6 := SlOf.eq d6); (have o6 := SlOf.own d6); (have r6 := SlOf.row d6); (generalize Exists.choose (Exists.choose_spec (Exists.choose_spec d6)) = C6 at o6 r6); (generalize Exists.choose (Exists.choose_spec d6) = B6 at o6 r6); (generalize Exists.choose d6 = A6 at e6 o6); (clear d6); (rename _ = _ => d6); simp only [List.take_succ_cons, List.take_zero, List.drop_succ_cons, List.drop_zero, putAll, Act.put, List.setIfInBounds_toArray, List.set_cons_zero, List.set_cons_succ, Nat.zero_add, Nat.reduceAdd, d1, d6])
        have hms := HMS.out.below hw1
        obtain ⟨e0, e1, e2, e3, _⟩ := o6.cells
        have lt6 := o6.lt
        have hGw1 : G + 1 ≤ w1.heap.size := Nat.le_trans hGW hw1.size
        have HM1 := Lib.hid hms
        have HR6 := Lib.hid r6
        clear hms o6 r6 G3 K0 K1 hf hdj hsz d0 d2 d3 d4 d5 HMS
        go_wp2_with (at_builtin; refine wpList_append_own _ rfl (.tmp 16) (.tmp 21) 23 rfl (G + 1) 25 i0 (.agg #[.int .i64 0, .int .i64 0, .slice none 0 0, .slice none 0 0]) 4 64 Try.underlying23 hi0 hz0 hz1 hz2 rfl (by decide) kv _ _ rfl HM1.out.row ⟨A6, 0, none⟩ 1 1 [.int .i64 1, .int .i64 d, .slice B6 rp.length C6, .slice none 0 0] rfl rfl ?a01 ?a02 ?a03 ?a04 ?a05 ?_)
        case a01 =>
          intro j u hj
          match j, hj with
          | 0, hj => simp at hj; subst hj; simpa [Addr.add] using e0
          | 1, hj => simp at hj; subst hj; simpa [Addr.add] using e1
          | 2, hj => simp at hj; subst hj; simpa [Addr.add] using e2
          | 3, hj => simp at hj; subst hj; simpa [Addr.add] using e3
        case a02 => intro u hu; simp at hu; rcases hu with rfl | rfl | rfl | rfl <;> rfl
        case a03 => unfold maxLen; omega
        case a04 => omega
        case a05 => exact hGw1
        intro v1 w3 hown hgrow _
        have st := MS.step HM1.out HR6.out hgrow hown
        obtain ⟨g1, cap1, cur1, rfl, _⟩ := hown.2.resolve_left (by rintro ⟨_, h⟩; omega)
        have fz := st.1.free 3
        obtain ⟨cz0, cz1, cz2, cz3, _⟩ := st.1.cells
        have ltG := st.1.lt
        have HST := Lib.hid st.2
        clear st hown hgrow HM1 HR6 e0 e1 e2 e3 lt6
        go_wp2_with fail
        exact ⟨.inr (.inl ⟨rfl, _, _, HST.out⟩), by simp [intOf]⟩
    · have HMS0 := Lib.hid hms
      obtain ⟨c0, c1, _⟩ := hms.box.cells
      have ltB := hms.box.lt
      clear hms
      go_wp2_with ((go_at_call 109; (with_reducible refine (numPoints_any).mono ?_); rintro e w1 ⟨rfl, hb⟩; (first | (obtain ⟨x1, rfl⟩ := LaterW.of2 hb) | (obtain ⟨x1, rfl⟩ := LaterW.of hb)); clear hb))
      have hms := HMS0.out.below x1.ok
      generalize x1.val = W at *
      clear x1 c0 c1 ltB HMS0
      have G3 : ∀ w', Below W.heap.size W w' → w'.cell? ⟨G, 3, none⟩ = some kv := fun w' h => (hms.g.below h hms.g.lt).cells.2.2.2.1
      have K0 : ∀ w', Below W.heap.size W w' → w'.cell? ⟨w.heap.size, 0, none⟩ = some (.slice (some ⟨b, 0, none⟩) 2 2) := fun w' h => (hms.box.below h hms.box.lt).cells.1
      have K1 : ∀ w', Below W.heap.size W w' → w'.cell? ⟨w.heap.size, 1, none⟩ = some (.int .u8 d) := fun w' h => (hms.box.below h hms.box.lt).cells.2.1
      have hGW : G < W.heap.size := hms.g.lt
      have HMS := Lib.hid hms
      clear hms
      refine wp_region_facts 7 (fun w' => Below W.heap.size W w') [fun _ _ _ v => v = .pointer (some ⟨G, 3, none⟩), fun _ _ _ v => v = kv, fun _ _ _ v => v = vMP (some ⟨b, 0, none⟩) 2 d, fun _ _ _ v => v = .int .i64 1, fun _ _ _ v => v = vP q d true, fun w _ _ u => PtOf d rq.length (G + 1) rq w u, fun w _ _ u => SlOf d rq.length (G + 1) rq w u] rfl (by kernel_rfl) (Below.refl _ _).drew (fun _ _ h h' => Below.trans h (Below.mono h' h.size)) ⟨stays_val _, stays_val _, stays_val _, stays_val _, stays_val _, stays_pt _ _ _ _, stays_sl _ _ _ _, trivial⟩ ?steps ?rest
      case steps =>
        simp only [List.take_succ_cons, List.take_zero]
        (refine stepsOk_other rfl (fun Q u lo hi w1 hw1 hd hK => ?_) ?_; · (simp only [putAll, Act.put, List.setIfInBounds_toArray, List.set_cons_zero, List.set_cons_succ, Nat.zero_add, Nat.reduceAdd] at hK ⊢; go_wp2_with fail; refine hK _ _ ?_ ?_; (· exact (by repeat (first | with_reducible exact Below.refl _ _ | with_reducible assumption | with_reducible refine Below.setCell ?_ (by dsimp only; repeat (first | with_reducible exact Nat.le_refl _ | with_reducible refine Nat.le_trans ?_ (LaterW.ok _).size | rw [World.size_alloc] | rw [World.size_setCell] | rw [World.size_drew] | with_reducible refine Nat.le_succ_of_le ?_)) _ | with_reducible refine LaterW.below _ ?_ | with_reducible refine below_alloc ?_ _ | with_reducible refine below_drewN' ?_ _ | with_reducible refine Below.drew ?_))); (· exact rfl)))
        (refine stepsOk_other rfl (fun Q u lo hi w1 hw1 hd hK => ?_) ?_; · ((have d0 := hd 0 rfl); (simp only [factAt, List.getD_cons_zero] at d0); simp only [putAll, Act.put, List.setIfInBounds_toArray, List.set_cons_zero, List.set_cons_succ, Nat.zero_add, Nat.reduceAdd, d0] at hK ⊢; go_wp2_with fail; refine hK _ _ ?_ ?_; (· exact (by repeat (first | with_reducible exact Below.refl _ _ | with_reducible assumption | with_reducible refine Below.setCell ?_ (by dsimp only; repeat (first | with_reducible exact Nat.le_refl _ | with_reducible refine Nat.le_trans ?_ (LaterW.ok _).size | rw [World.size_alloc] | rw [World.size_setCell] | rw [World.size_drew] | with_reducible refine Nat.le_succ_of_le ?_)) _ | with_reducible refine LaterW.below _ ?_ | with_reducible refine below_alloc ?_ _ | with_reducible refine below_drewN' ?_ _ | with_reducible refine Below.drew ?_))); (· exact rfl)))
        (refine stepsOk_other rfl (fun Q u lo hi w1 hw1 hd hK => ?_) ?_; · (simp only [putAll, Act.put, List.setIfInBounds_toArray, List.set_cons_zero, List.set_cons_succ, Nat.zero_add, Nat.reduceAdd] at hK ⊢; go_wp2_with fail; refine hK _ _ ?_ ?_; (· exact (by repeat (first | with_reducible exact Below.refl _ _ | with_reducible assumption | with_reducible refine Below.setCell ?_ (by dsimp only; repeat (first | with_reducible exact Nat.le_refl _ | with_reducible refine Nat.le_trans ?_ (LaterW.ok _).size | rw [World.size_alloc] | rw [World.size_setCell] | rw [World.size_drew] | with_reducible refine Nat.le_succ_of_le ?_)) _ | with_reducible refine LaterW.below _ ?_ | with_reducible refine below_alloc ?_ _ | with_reducible refine below_drewN' ?_ _ | with_reducible refine Below.drew ?_))); (· exact rfl)))
        (refine stepsOk_plain rfl (fun u lo hi w1 hw1 hd => ?_) ?_; · (refine ⟨_, .inl ⟨rfl, fun W => ?_⟩, by exact rfl⟩; simp [putAll, Act.put, List.setIfInBounds_toArray, List.set_cons_zero, List.set_cons_succ, Nat.zero_add, Nat.reduceAdd, go_sem]))
        (refine stepsOk_other rfl (fun Q u lo hi w1 hw1 hd hK => ?_) ?_; · ((have d2 := hd 2 rfl); (simp only [factAt, List.getD_cons_zero, List.getD_cons_succ] at d2); (have d3 := hd 3 rfl); (simp only [factAt, List.getD_cons_zero, List.getD_cons_succ] at d3); simp only [putAll, Act.put, List.setIfInBounds_toArray, List.set_cons_zero, List.set_cons_succ, Nat.zero_add, Nat.reduceAdd, d2, d3] at hK ⊢; go_wp2_with (go_at_call 110; (with_reducible refine (pointN_1 (HMS.out.below hw1).pts).mono ?_); rintro e w1 ⟨rfl, hb⟩; (first | (obtain ⟨x1, rfl⟩ := LaterW.of2 hb) | (obtain ⟨x1, rfl⟩ := LaterW.of hb)); clear hb); refine hK _ _ ?_ ?_; (· exact (by repeat (first | with_reducible exact Below.refl _ _ | with_reducible assumption | with_reducible refine Below.setCell ?_ (by dsimp only; repeat (first | with_reducible exact Nat.le_refl _ | with_reducible refine Nat.le_trans ?_ (LaterW.ok _).size | rw [World.size_alloc] | rw [World.size_setCell] | rw [World.size_drew] | with_reducible refine Nat.le_succ_of_le ?_)) _ | with_reducible refine LaterW.below _ ?_ | with_reducible refine below_alloc ?_ _ | with_reducible refine below_drewN' ?_ _ | with_reducible refine Below.drew ?_))); (· exact rfl)))
        (refine stepsOk_other rfl (fun Q u lo hi w1 hw1 hd hK => ?_) ?_; · ((have d4 := hd 4 rfl); (simp only [factAt, List.getD_cons_zero, List.getD_cons_succ] at d4); simp only [putAll, Act.put, List.setIfInBounds_toArray, List.set_cons_zero, List.set_cons_succ, Nat.zero_add, Nat.reduceAdd, d4] at hK ⊢; go_wp2_with (go_at_call 54; refine (HQO.out _).mono ?_; rintro r w3 ⟨a', c', rfl, q1, hb⟩); refine hK _ _ ?_ ?_; (· exact (by repeat (first | with_reducible exact Below.refl _ _ | with_reducible assumption | with_reducible refine Below.setCell ?_ (by dsimp only; repeat (first | with_reducible exact Nat.le_refl _ | with_reducible refine Nat.le_trans ?_ (LaterW.ok _).size | rw [World.size_alloc] | rw [World.size_setCell] | rw [World.size_drew] | with_reducible refine Nat.le_succ_of_le ?_)) _ | with_reducible refine LaterW.below _ ?_ | with_reducible refine below_alloc ?_ _ | with_reducible refine below_drewN' ?_ _ | with_reducible refine Below.drew ?_))); (· exact ⟨a', c', rfl, ownsRow_mono q1 (Nat.le_trans hGW hw1.size)⟩)))
        (refine stepsOk_other rfl (fun Q u lo hi w1 hw1 hd hK => ?_) ?_; · ((have d5 := hd 5 rfl); (simp only [factAt, List.getD_cons_zero, List.getD_cons_succ] at d5); (have e5 := PtOf.eq d5); (have r5 := PtOf.row d5); (generalize Exists.choose (Exists.choose_spec d5) = C5 at e5 r5); (generalize Exists.choose d5 = A5 at e5 r5); (clear d5); (rename _ = _ => d5); simp only [putAll, Act.put, List.setIfInBounds_toArray, List.set_cons_zero, List.set_cons_succ, Nat.zero_add, Nat.reduceAdd, d5] at hK ⊢; go_wp2_with fail; refine hK _ _ ?_ ?_; (· exact (by repeat (first | with_reducible exact Below.refl _ _ | with_reducible assumption | with_reducible refine Below.setCell ?_ (by dsimp only; repeat (first | with_reducible exact Nat.le_refl _ | with_reducible refine Nat.le_trans ?_ (LaterW.ok _).size | rw [World.size_alloc] | rw [World.size_setCell] | rw [World.size_drew] | with_reducible refine Nat.le_succ_of_le ?_)) _ | with_reducible refine LaterW.below _ ?_ | with_reducible refine below_alloc ?_ _ | with_reducible refine below_drewN' ?_ _ | with_reducible refine Below.drew ?_))); (· exact ⟨_, A5, C5, rfl, Own.new' _ rfl rfl, own_below r5 ((Below.refl _ _).alloc (Nat.le_refl _) _)⟩)))
        exact stepsOk_nil
      case rest =>
        (intro Q' hQ' u lo hi w1 hw1 hf hdj hsz; (have d0 := hf 0 (by decide)); (simp only [factAt, List.getD_cons_zero] at d0); (have d1 := hf 1 (by decide)); (simp only [factAt, List.getD_cons_zero, List.getD_cons_succ] at d1); (have d2 := hf 2 (by decide)); (simp only [factAt, List.getD_cons_zero, List.getD_cons_succ] at d2); (have d3 := hf 3 (by decide)); (simp only [factAt, List.getD_cons_zero, List.getD_cons_succ] at d3); (have d4 := hf 4 (by decide)); (simp only [factAt, List.getD_cons_zero, List.getD_cons_succ] at d4); (have d5 := hf 5 (by decide)); (simp only [factAt, List.getD_cons_zero, List.getD_cons_succ] at d5); (have d6 := hf 6 (by decide)); (simp only [factAt, List.getD_cons_zero, List.getD_cons_succ] at d6); (have e6 := SlOf.eq d6); (have o6 := SlOf.own d6); (have r6 := SlOf.row d6); (generalize Exists.choose (Exists.choose_spec (Exists.choose_spec d6)) = C6 at o6 r6); (generalize Exists.choose (Exists.choose_spec d6) = B6 at o6 r6); (generalize Exists.choose d6 = A6 at e6 o6); (clear d6); (rename _ = _ => d6); simp only [List.take_succ_cons, List.take_zero, List.drop_succ_cons, List.drop_zero, putAll, Act.put, List.setIfInBounds_toArray, List.set_cons_zero, List.set_cons_succ, Nat.zero_add, Nat.reduceAdd, d1, d6])
        have hms := HMS.out.below hw1
        obtain ⟨e0, e1, e2, e3, _⟩ := o6.cells
        have lt6 := o6.lt
        have hGw1 : G + 1 ≤ w1.heap.size := Nat.le_trans hGW hw1.size
        have HM1 := Lib.hid hms
        have HR6 := Lib.hid r6
        clear hms o6 r6 G3 K0 K1 hf hdj hsz d0 d2 d3 d4 d5 HMS
        go_wp2_with (at_builtin; refine wpList_append_own _ rfl (.tmp 16) (.tmp 21) 23 rfl (G + 1) 25 i0 (.agg #[.int .i64 0, .int .i64 0, .slice none 0 0, .slice none 0 0]) 4 64 Try.underlying23 hi0 hz0 hz1 hz2 rfl (by decide) kv _ _ rfl HM1.out.row ⟨A6, 0, none⟩ 1 1 [.int .i64 1, .int .i64 d, .slice B6 rq.length C6, .slice none 0 0] rfl rfl ?a11 ?a12 ?a13 ?a14 ?a15 ?_)
        case a11 =>
          intro j u hj
          match j, hj with
          | 0, hj => simp at hj; subst hj; simpa [Addr.add] using e0
          | 1, hj => simp at hj; subst hj; simpa [Addr.add] using e1
          | 2, hj => simp at hj; subst hj; simpa [Addr.add] using e2
          | 3, hj => simp at hj; subst hj; simpa [Addr.add] using e3
        case a12 => intro u hu; simp at hu; rcases hu with rfl | rfl | rfl | rfl <;> rfl
        case a13 => unfold maxLen; omega
        case a14 => omega
        case a15 => exact hGw1
        intro v1 w3 hown hgrow _
        have st := MS.step HM1.out HR6.out hgrow hown
        obtain ⟨g1, cap1, cur1, rfl, _⟩ := hown.2.resolve_left (by rintro ⟨_, h⟩; omega)
        have fz := st.1.free 3
        obtain ⟨cz0, cz1, cz2, cz3, _⟩ := st.1.cells
        have ltG := st.1.lt
        have HST := Lib.hid st.2
        clear st hown hgrow HM1 HR6 e0 e1 e2 e3 lt6
        go_wp2_with fail
        exact ⟨.inr (.inr ⟨rfl, _, _, HST.out⟩), by simp [intOf]⟩
    · obtain ⟨g1, cap1, cur1, rfl, _⟩ := hms.row.2.resolve_left (by rintro ⟨_, h⟩; cases h)
      have HMS0 := Lib.hid hms
      obtain ⟨c0, c1, _⟩ := hms.box.cells
      obtain ⟨d0, d1, d2, d3, _⟩ := hms.g.cells
      have ltB := hms.box.lt
      have ltG := hms.g.lt
      have hG2 := hms.hG
      clear hms
      go_wp2_with (first | (go_at_call 109; (with_reducible refine (numPoints_any).mono ?_); rintro e w1 ⟨rfl, hb⟩; (first | (obtain ⟨x1, rfl⟩ := LaterW.of2 hb) | (obtain ⟨x1, rfl⟩ := LaterW.of hb)); clear hb) | (refine wpList_store_mid rfl 25 (.tmp 2) (.tmp 24) rfl (w.heap.size + 1) 0 _ rfl rfl (Own.there (HMS0.out.res.later x1) (Nat.le_refl 4)) (by kernel_rfl) (by kernel_rfl) ?_))
      have hm1 := HMS0.out.below x1.ok
      have oR := Own.sets (vs := [.int .i64 4, .int .i64 d, .slice none 0 0, .slice (some ⟨g1, 0, none⟩) 2 cap1]) hm1.res rfl
      have hR := ownsRow_mono (c := w.heap.size) (own_setCells (C := w.heap.size + 1) (by omega) hm1.row 0 [.int .i64 4, .int .i64 d, .slice none 0 0, .slice (some ⟨g1, 0, none⟩) 2 cap1]) (by omega)
      have hK := KidCells.base (C := w.heap.size) (by omega) (KidCells.setCells (q := w.heap.size + 1) (by omega) 0 [.int .i64 4, .int .i64 d, .slice none 0 0, .slice (some ⟨g1, 0, none⟩) 2 cap1] hm1.kids)
      have hbl := Below.setCells (Nat.le_succ _) [.int .i64 4, .int .i64 d, .slice none 0 0, .slice (some ⟨g1, 0, none⟩) 2 cap1] 0 _ hm1.bel
      clear hm1
      generalize x1.val.setCells (w.heap.size + 1) 0 [.int .i64 4, .int .i64 d, .slice none 0 0, .slice (some ⟨g1, 0, none⟩) 2 cap1] = W9 at *
      refine ret_agg [.int .i64 4, .int .i64 d, .slice none 0 0, .slice (some ⟨g1, 0, none⟩) 2 cap1] rfl rfl rfl (by kernel_rfl) (by kernel_rfl) (oR).cells (⟨_, _, _, rfl, hR, hK, hbl⟩)
end Go.Proofs.Ytihkmkcjjlmkhaa
