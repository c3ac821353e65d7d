/- spec.New of a point. No condition. -/
import Derived.Test.YtihkmkcjjlmkhaaGeo5
import Derived.Lib.MinMax
namespace Go.Proofs.Ytihkmkcjjlmkhaa
set_option maxRecDepth 100000
open Go.ChangeShapes Go.WideShapes Go.ChangeAt Go.RowKit Go.Deep

theorem newPoint1_any {d : Int} {a : Option Addr} {n ca B : Nat} {kk : Option Addr} {nk ck : Nat} {xs : List Nat} {w : World} (ha : NumsIs w B a xs) (hB : B ≤ w.heap.size) (hn : xs.length = n) (hl : n ≤ 4000) (hca : HeadOk a n ca) :
    Calls Try.prog 15 #[vGeom 1 d a n ca kk nk ck] w fun e w' => ∃ a' ca', e = .returned (vGeom 1 (d % 4) a' (min (n / widthN (d % 4)) 1 * widthN (d % 4)) ca' none 0 0) ∧ NumsIs w' w'.heap.size a' (xs.take (min (n / widthN (d % 4)) 1 * widthN (d % 4))) ∧ HeadOk a' (min (n / widthN (d % 4)) 1 * widthN (d % 4)) ca' ∧ Fresh a' w.heap.size ∧ Below w.heap.size w w' := by
  have HA := Lib.hid ha
  have HC := Lib.hid hca
  have hca' := hca.1
  clear ha hca
  have h0 : 0 ≤ d % 4 := by omega
  have h3 : d % 4 ≤ 3 := by omega
  obtain ⟨wd, hwd⟩ : ∃ wd, widthN (d % 4) = wd := ⟨_, rfl⟩
  have HW : Hid (widthI (d % 4) = (wd : Int)) := by show _ = _; rw [← hwd]; unfold widthN widthI; split <;> (try split) <;> rfl
  have hwd3 : 2 ≤ wd ∧ wd ≤ 4 := by rw [← hwd]; unfold widthN widthI; split <;> (try split) <;> decide
  rw [hwd]
  clear hwd
  have hdiv : n / wd ≤ n := Nat.div_le_self _ _
  have hmul : min (n / wd) 1 * wd ≤ n := Nat.le_trans (Nat.mul_le_mul_right _ (Nat.min_le_left _ _)) (Nat.div_mul_le_self _ _)
  have hdiv1 : min (n / wd) 1 ≤ n := by omega
  have hmin : min ((n : Int) / (wd : Int)) 1 = ((min (n / wd) 1 : Nat) : Int) := by
    have e : ((n : Int) / (wd : Int)) = ((n / wd : Nat) : Int) := by simp
    rw [e]; omega
  have hwr : wrap64 ((n : Int) / (wd : Int)) = ((n / wd : Nat) : Int) := by
    have e : ((n : Int) / (wd : Int)) = ((n / wd : Nat) : Int) := by simp
    rw [e]
    generalize n / wd = q at *
    unfold wrap64
    omega
  go_enter Try.func15, Try.ntmps15
  go_wp2_with ((go_at_call 51; (with_reducible refine (leaf_any (r := true) rfl _).mono ?_); rintro e w1 ⟨rfl, hb⟩; (first | (obtain ⟨x1, rfl⟩ := LaterW.of2 hb) | (obtain ⟨x1, rfl⟩ := LaterW.of hb)); clear hb))
  ((first | refine wp_region_later2 (by kernel_rfl) (by kernel_rfl) ?_ | refine wp_region_later (by kernel_rfl) (by kernel_rfl) ?_); (repeat (go_big_quiet_step ((go_at_call 38; with_reducible exact Calls.later_of (width_any h0 h3 HW.out _))))); refine wpQuiet_nil ?_; rintro _ ⟨x1, rfl⟩)
  go_wp2_with fail
  try simp only [hwr]
  clear hwr hmin hdiv
  generalize hq : min (n / wd) 1 = q at *
  have hz : w.heap.size + 1 + 1 < x1.val.heap.size := by simp [go_sem]
  have o3 : Own x1.val (w.heap.size + 1 + 1) [.int .i64 1, .int .i64 (d % 4), .slice none 0 0, .slice none 0 0] := (by repeat (first | (refine Own.new' _ rfl ?_; first | with_reducible rfl | (simp; done)) | with_reducible apply Own.later | with_reducible apply Own.alloc | with_reducible apply Own.drew | with_reducible apply Own.drewN | with_reducible apply Own.other))
  have o2 : Own x1.val (w.heap.size + 1) [.int .i64 0, .int .i64 0, .slice none 0 0, .slice none 0 0] := (by repeat (first | (refine Own.new' _ rfl ?_; first | with_reducible rfl | (simp; done)) | with_reducible apply Own.later | with_reducible apply Own.alloc | with_reducible apply Own.drew | with_reducible apply Own.drewN | with_reducible apply Own.other))
  have g0 : x1.val.cell? ⟨w.heap.size + 1 + 1, 2, none⟩ = some (.slice none 0 0) := by simp [go_sem]
  have g1 : x1.val.cell? ⟨w.heap.size + 1 + 1, 1, none⟩ = some (.int .i64 (d % 4)) := by simp [go_sem]
  have g2 : x1.val.cell? ⟨w.heap.size, 2, none⟩ = some (.slice a n ca) := by simp [go_sem]
  have G0 : ∀ w', Below x1.val.heap.size x1.val w' → w'.cell? ⟨w.heap.size + 1 + 1, 2, none⟩ = some (.slice none 0 0) := fun w' h => (h.cell (p := ⟨w.heap.size + 1 + 1, 2, none⟩) hz).trans g0
  have G1 : ∀ w', Below x1.val.heap.size x1.val w' → w'.cell? ⟨w.heap.size + 1 + 1, 1, none⟩ = some (.int .i64 (d % 4)) := fun w' h => (h.cell (p := ⟨w.heap.size + 1 + 1, 1, none⟩) hz).trans g1
  have G2 : ∀ w', Below x1.val.heap.size x1.val w' → w'.cell? ⟨w.heap.size, 2, none⟩ = some (.slice a n ca) := fun w' h => (h.cell (p := ⟨w.heap.size, 2, none⟩) (by show w.heap.size < x1.val.heap.size; omega)).trans g2
  have hbel : Below w.heap.size w x1.val := (by repeat (first | with_reducible exact Below.refl _ _ | with_reducible exact HBEL.out | with_reducible assumption | with_reducible refine Below.setCell ?_ (by first | (dsimp only; omega) | (simp; try omega)) _ | with_reducible refine LaterW.below _ ?_ | with_reducible refine below_alloc ?_ _ | with_reducible refine below_drewN' ?_ _ | with_reducible refine Below.drew ?_ | with_reducible exact below_drewN _))
  clear g0 g1 g2
  generalize x1.val = W at *
  clear x1
  refine wp_region_facts 12 (fun w' => Below W.heap.size W w') [fun _ _ _ v => v = .pointer (some ⟨w.heap.size + 1 + 1, 2, none⟩), fun _ _ _ v => v = .slice none 0 0, fun _ _ _ v => v = .pointer (some ⟨w.heap.size, 2, none⟩), fun _ _ _ v => v = .slice a n ca, fun _ _ _ v => v = .int .i64 q, fun _ _ _ v => v = .pointer (some ⟨w.heap.size + 1 + 1, 1, none⟩), fun _ _ _ v => v = .int .i64 (d % 4), fun _ _ _ v => v = .int .i64 wd, fun _ _ _ v => v = .int .i64 ((q * wd : Nat) : Int), fun _ _ _ v => v = .slice a (q * wd) ca, fun w lo hi v => W.heap.size ≤ lo ∧ w.ownsRow lo 36 1 v (q * wd) ((xs.take (q * wd)).map fl), fun _ _ _ v => v = .pointer (some ⟨w.heap.size + 1 + 1, 2, none⟩)] rfl (by kernel_rfl) (Below.refl _ _).drew (fun _ _ h h' => Below.trans h (Below.mono h' h.size)) ⟨stays_val _, stays_val _, stays_val _, stays_val _, stays_val _, stays_val _, stays_val _, stays_val _, stays_val _, stays_val _, ?_, stays_val _, trivial⟩ ?steps ?rest
  case steps =>
    simp only [List.take_succ_cons, List.take_zero]
    (refine stepsOk_other rfl (fun Q u lo hi w1 hw1 hd hK => ?_) ?_; · (simp only [putAll, Act.put, List.setIfInBounds_toArray, List.set_cons_zero, List.set_cons_succ, Nat.zero_add, Nat.reduceAdd] at hK ⊢; go_wp2_with fail; refine hK _ _ ?_ ?_; (· exact (by repeat (first | with_reducible exact Below.refl _ _ | with_reducible assumption | with_reducible refine Below.setCell ?_ (by dsimp only; repeat (first | with_reducible exact Nat.le_refl _ | with_reducible refine Nat.le_trans ?_ (LaterW.ok _).size | rw [World.size_alloc] | rw [World.size_setCell] | rw [World.size_drew] | with_reducible refine Nat.le_succ_of_le ?_)) _ | with_reducible refine LaterW.below _ ?_ | with_reducible refine below_alloc ?_ _ | with_reducible refine below_drewN' ?_ _ | with_reducible refine Below.drew ?_))); (· exact rfl)))
    (refine stepsOk_other rfl (fun Q u lo hi w1 hw1 hd hK => ?_) ?_; · ((have d0 := hd 0 rfl); (simp only [factAt, List.getD_cons_zero] at d0); simp only [putAll, Act.put, List.setIfInBounds_toArray, List.set_cons_zero, List.set_cons_succ, Nat.zero_add, Nat.reduceAdd, d0] at hK ⊢; go_wp2_with fail; refine hK _ _ ?_ ?_; (· exact (by repeat (first | with_reducible exact Below.refl _ _ | with_reducible assumption | with_reducible refine Below.setCell ?_ (by dsimp only; repeat (first | with_reducible exact Nat.le_refl _ | with_reducible refine Nat.le_trans ?_ (LaterW.ok _).size | rw [World.size_alloc] | rw [World.size_setCell] | rw [World.size_drew] | with_reducible refine Nat.le_succ_of_le ?_)) _ | with_reducible refine LaterW.below _ ?_ | with_reducible refine below_alloc ?_ _ | with_reducible refine below_drewN' ?_ _ | with_reducible refine Below.drew ?_))); (· exact rfl)))
    (refine stepsOk_other rfl (fun Q u lo hi w1 hw1 hd hK => ?_) ?_; · (simp only [putAll, Act.put, List.setIfInBounds_toArray, List.set_cons_zero, List.set_cons_succ, Nat.zero_add, Nat.reduceAdd] at hK ⊢; go_wp2_with fail; refine hK _ _ ?_ ?_; (· exact (by repeat (first | with_reducible exact Below.refl _ _ | with_reducible assumption | with_reducible refine Below.setCell ?_ (by dsimp only; repeat (first | with_reducible exact Nat.le_refl _ | with_reducible refine Nat.le_trans ?_ (LaterW.ok _).size | rw [World.size_alloc] | rw [World.size_setCell] | rw [World.size_drew] | with_reducible refine Nat.le_succ_of_le ?_)) _ | with_reducible refine LaterW.below _ ?_ | with_reducible refine below_alloc ?_ _ | with_reducible refine below_drewN' ?_ _ | with_reducible refine Below.drew ?_))); (· exact rfl)))
    (refine stepsOk_other rfl (fun Q u lo hi w1 hw1 hd hK => ?_) ?_; · ((have d2 := hd 2 rfl); (simp only [factAt, List.getD_cons_zero, List.getD_cons_succ] at d2); simp only [putAll, Act.put, List.setIfInBounds_toArray, List.set_cons_zero, List.set_cons_succ, Nat.zero_add, Nat.reduceAdd, d2] at hK ⊢; go_wp2_with fail; refine hK _ _ ?_ ?_; (· exact (by repeat (first | with_reducible exact Below.refl _ _ | with_reducible assumption | with_reducible refine Below.setCell ?_ (by dsimp only; repeat (first | with_reducible exact Nat.le_refl _ | with_reducible refine Nat.le_trans ?_ (LaterW.ok _).size | rw [World.size_alloc] | rw [World.size_setCell] | rw [World.size_drew] | with_reducible refine Nat.le_succ_of_le ?_)) _ | with_reducible refine LaterW.below _ ?_ | with_reducible refine below_alloc ?_ _ | with_reducible refine below_drewN' ?_ _ | with_reducible refine Below.drew ?_))); (· exact rfl)))
    (refine stepsOk_plain rfl (fun u lo hi w1 hw1 hd => ?_) ?_; · (refine ⟨_, .inl ⟨rfl, fun W => ?_⟩, by exact rfl⟩; simp [putAll, Act.put, List.setIfInBounds_toArray, List.set_cons_zero, List.set_cons_succ, Nat.zero_add, Nat.reduceAdd, go_sem]))
    (refine stepsOk_other rfl (fun Q u lo hi w1 hw1 hd hK => ?_) ?_; · (simp only [putAll, Act.put, List.setIfInBounds_toArray, List.set_cons_zero, List.set_cons_succ, Nat.zero_add, Nat.reduceAdd] at hK ⊢; go_wp2_with fail; refine hK _ _ ?_ ?_; (· exact (by repeat (first | with_reducible exact Below.refl _ _ | with_reducible assumption | with_reducible refine Below.setCell ?_ (by dsimp only; repeat (first | with_reducible exact Nat.le_refl _ | with_reducible refine Nat.le_trans ?_ (LaterW.ok _).size | rw [World.size_alloc] | rw [World.size_setCell] | rw [World.size_drew] | with_reducible refine Nat.le_succ_of_le ?_)) _ | with_reducible refine LaterW.below _ ?_ | with_reducible refine below_alloc ?_ _ | with_reducible refine below_drewN' ?_ _ | with_reducible refine Below.drew ?_))); (· exact rfl)))
    (refine stepsOk_other rfl (fun Q u lo hi w1 hw1 hd hK => ?_) ?_; · ((have d5 := hd 5 rfl); (simp only [factAt, List.getD_cons_zero, List.getD_cons_succ] at d5); simp only [putAll, Act.put, List.setIfInBounds_toArray, List.set_cons_zero, List.set_cons_succ, Nat.zero_add, Nat.reduceAdd, d5] at hK ⊢; go_wp2_with fail; refine hK _ _ ?_ ?_; (· exact (by repeat (first | with_reducible exact Below.refl _ _ | with_reducible assumption | with_reducible refine Below.setCell ?_ (by dsimp only; repeat (first | with_reducible exact Nat.le_refl _ | with_reducible refine Nat.le_trans ?_ (LaterW.ok _).size | rw [World.size_alloc] | rw [World.size_setCell] | rw [World.size_drew] | with_reducible refine Nat.le_succ_of_le ?_)) _ | with_reducible refine LaterW.below _ ?_ | with_reducible refine below_alloc ?_ _ | with_reducible refine below_drewN' ?_ _ | with_reducible refine Below.drew ?_))); (· exact rfl)))
    (refine stepsOk_other rfl (fun Q u lo hi w1 hw1 hd hK => ?_) ?_; · ((have d6 := hd 6 rfl); (simp only [factAt, List.getD_cons_zero, List.getD_cons_succ] at d6); simp only [putAll, Act.put, List.setIfInBounds_toArray, List.set_cons_zero, List.set_cons_succ, Nat.zero_add, Nat.reduceAdd, d6] at hK ⊢; go_wp2_with (go_at_call 38; (with_reducible refine (width_any h0 h3 HW.out _).mono ?_); rintro e w1 ⟨rfl, hb⟩; (first | (obtain ⟨x1, rfl⟩ := LaterW.of2 hb) | (obtain ⟨x1, rfl⟩ := LaterW.of hb)); clear hb); refine hK _ _ ?_ ?_; (· exact (by repeat (first | with_reducible exact Below.refl _ _ | with_reducible assumption | with_reducible refine Below.setCell ?_ (by dsimp only; repeat (first | with_reducible exact Nat.le_refl _ | with_reducible refine Nat.le_trans ?_ (LaterW.ok _).size | rw [World.size_alloc] | rw [World.size_setCell] | rw [World.size_drew] | with_reducible refine Nat.le_succ_of_le ?_)) _ | with_reducible refine LaterW.below _ ?_ | with_reducible refine below_alloc ?_ _ | with_reducible refine below_drewN' ?_ _ | with_reducible refine Below.drew ?_))); (· exact rfl)))
    (refine stepsOk_other rfl (fun Q u lo hi w1 hw1 hd hK => ?_) ?_; · ((have d4 := hd 4 rfl); (simp only [factAt, List.getD_cons_zero, List.getD_cons_succ] at d4); (have d7 := hd 7 rfl); (simp only [factAt, List.getD_cons_zero, List.getD_cons_succ] at d7); simp only [putAll, Act.put, List.setIfInBounds_toArray, List.set_cons_zero, List.set_cons_succ, Nat.zero_add, Nat.reduceAdd, d4, d7] at hK ⊢; go_wp2_with fail; refine hK _ _ ?_ ?_; (· exact (by repeat (first | with_reducible exact Below.refl _ _ | with_reducible assumption | with_reducible refine Below.setCell ?_ (by dsimp only; repeat (first | with_reducible exact Nat.le_refl _ | with_reducible refine Nat.le_trans ?_ (LaterW.ok _).size | rw [World.size_alloc] | rw [World.size_setCell] | rw [World.size_drew] | with_reducible refine Nat.le_succ_of_le ?_)) _ | with_reducible refine LaterW.below _ ?_ | with_reducible refine below_alloc ?_ _ | with_reducible refine below_drewN' ?_ _ | with_reducible refine Below.drew ?_))); (· exact congrArg (Value.int .i64) (by simp))))
    (refine stepsOk_other rfl (fun Q u lo hi w1 hw1 hd hK => ?_) ?_; · ((have d3 := hd 3 rfl); (simp only [factAt, List.getD_cons_zero, List.getD_cons_succ] at d3); (have d8 := hd 8 rfl); (simp only [factAt, List.getD_cons_zero, List.getD_cons_succ] at d8); simp only [putAll, Act.put, List.setIfInBounds_toArray, List.set_cons_zero, List.set_cons_succ, Nat.zero_add, Nat.reduceAdd, d3, d8] at hK ⊢; go_wp2_with fail; refine hK _ _ ?_ ?_; (· exact (by repeat (first | with_reducible exact Below.refl _ _ | with_reducible assumption | with_reducible refine Below.setCell ?_ (by dsimp only; repeat (first | with_reducible exact Nat.le_refl _ | with_reducible refine Nat.le_trans ?_ (LaterW.ok _).size | rw [World.size_alloc] | rw [World.size_setCell] | rw [World.size_drew] | with_reducible refine Nat.le_succ_of_le ?_)) _ | with_reducible refine LaterW.below _ ?_ | with_reducible refine below_alloc ?_ _ | with_reducible refine below_drewN' ?_ _ | with_reducible refine Below.drew ?_))); (· exact rfl)))
    refine stepsOk_other rfl (fun Q u lo hi w1 hw1 hd hK => ?_) ?_
    · have d1 := hd 1 rfl
      have d9 := hd 9 rfl
      simp only [factAt, List.getD_cons_zero, List.getD_cons_succ] at d1 d9
      simp only [putAll, Act.put, List.setIfInBounds_toArray, List.set_cons_zero, List.set_cons_succ, Nat.zero_add, Nat.reduceAdd, d1, d9] at hK ⊢
      obtain ⟨i0, hi0, hz0, hz1, hz2⟩ := info_parts infoFl
      rcases a with _ | ad
      · obtain rfl : ca = 0 := HC.out.2 rfl
        have hq0 : q * wd = 0 := by omega
        rw [hq0] at hK ⊢
        refine wpList_append_own_none rfl _ _ 22 rfl w1.heap.size 36 i0 1 Try.underlying22 hi0 (.slice none 0 0) 0 [] rfl (World.ownsRow_nil _ _ _ _) rfl ?_
        exact hK _ _ (Below.refl _ _) ⟨hw1.size, by rw [List.take_zero]; exact World.ownsRow_nil _ _ _ _⟩
      · have HAw := HA.out.below (hbel.trans (hw1.mono hbel.size)) hB
        refine wpList_append_own _ rfl _ _ 22 rfl w1.heap.size 36 i0 (fl 0) 1 8 Try.underlying22 hi0 hz0 hz1 hz2 rfl (by decide) (.slice none 0 0) 0 [] rfl (World.ownsRow_nil _ _ _ _) ad (q * wd) ca ((xs.take (q * wd)).map fl) rfl ?c1 ?c2 ?c3 ?c4 ?c5 (Nat.le_refl _) ?_
        case c1 => simp; omega
        case c2 =>
          intro j u hj
          rw [List.getElem?_map, List.getElem?_take] at hj
          split at hj
          · rcases HAw with rfl | ⟨b1, o1, e1, _, c1⟩
            · simp at hj
            · cases e1
              have hj' : j < xs.length := by omega
              rw [List.getElem?_eq_getElem hj'] at hj
              simp only [Option.map_some, Option.some.injEq] at hj
              subst hj
              have := c1 j hj'
              rw [List.getElem!_eq_getElem?_getD, List.getElem?_eq_getElem hj'] at this
              rw [Addr.add_lit]
              exact this
          · simp at hj
        case c3 => intro u hu; obtain ⟨x, _, rfl⟩ := List.mem_map.1 hu; rfl
        case c4 => unfold maxLen; omega
        case c5 => omega
        intro v' w2 hown hgrow _
        rw [Nat.zero_add, List.nil_append] at hown
        exact hK _ _ (Below.grown (Below.refl _ _) hgrow (Nat.le_refl _) (fun k hk => by cases hk)) ⟨hw1.size, hown⟩
    (refine stepsOk_other rfl (fun Q u lo hi w1 hw1 hd hK => ?_) ?_; · (simp only [putAll, Act.put, List.setIfInBounds_toArray, List.set_cons_zero, List.set_cons_succ, Nat.zero_add, Nat.reduceAdd] at hK ⊢; go_wp2_with fail; refine hK _ _ ?_ ?_; (· exact (by repeat (first | with_reducible exact Below.refl _ _ | with_reducible assumption | with_reducible refine Below.setCell ?_ (by dsimp only; repeat (first | with_reducible exact Nat.le_refl _ | with_reducible refine Nat.le_trans ?_ (LaterW.ok _).size | rw [World.size_alloc] | rw [World.size_setCell] | rw [World.size_drew] | with_reducible refine Nat.le_succ_of_le ?_)) _ | with_reducible refine LaterW.below _ ?_ | with_reducible refine below_alloc ?_ _ | with_reducible refine below_drewN' ?_ _ | with_reducible refine Below.drew ?_))); (· exact rfl)))
    exact stepsOk_nil
  case rest =>
    (intro Q' hQ' u lo hi w1 hw1 hf hdj hsz; (have d0 := hf 0 (by decide)); (simp only [factAt, List.getD_cons_zero] at d0); (have d1 := hf 1 (by decide)); (simp only [factAt, List.getD_cons_zero, List.getD_cons_succ] at d1); (have d2 := hf 2 (by decide)); (simp only [factAt, List.getD_cons_zero, List.getD_cons_succ] at d2); (have d3 := hf 3 (by decide)); (simp only [factAt, List.getD_cons_zero, List.getD_cons_succ] at d3); (have d4 := hf 4 (by decide)); (simp only [factAt, List.getD_cons_zero, List.getD_cons_succ] at d4); (have d5 := hf 5 (by decide)); (simp only [factAt, List.getD_cons_zero, List.getD_cons_succ] at d5); (have d6 := hf 6 (by decide)); (simp only [factAt, List.getD_cons_zero, List.getD_cons_succ] at d6); (have d7 := hf 7 (by decide)); (simp only [factAt, List.getD_cons_zero, List.getD_cons_succ] at d7); (have d8 := hf 8 (by decide)); (simp only [factAt, List.getD_cons_zero, List.getD_cons_succ] at d8); (have d9 := hf 9 (by decide)); (simp only [factAt, List.getD_cons_zero, List.getD_cons_succ] at d9); (have d10 := hf 10 (by decide)); (simp only [factAt, List.getD_cons_zero, List.getD_cons_succ] at d10); (have d11 := hf 11 (by decide)); (simp only [factAt, List.getD_cons_zero, List.getD_cons_succ] at d11); simp only [List.take_succ_cons, List.take_zero, List.drop_succ_cons, List.drop_zero, putAll, Act.put, List.setIfInBounds_toArray, List.set_cons_zero, List.set_cons_succ, Nat.zero_add, Nat.reduceAdd, d0, d1, d2, d3, d4, d5, d6, d7, d8, d9, d11])
    have p3 := o3.below hw1 o3.lt
    have p2 := o2.below hw1 o2.lt
    obtain ⟨ge10, own10⟩ := d10
    obtain ⟨a', c', e', hnum, hhead, hbase⟩ := numsOf_own own10
    rw [e']
    have hszw := hw1.size
    obtain ⟨q0, q1, q2, q3, _⟩ := p3.cells
    obtain ⟨r0, r1, r2, r3, _⟩ := p2.cells
    have lt3 := p3.lt
    have lt2 := p2.lt
    have HP2 := Lib.hid p2
    have fz := p3.free 2
    have HN := Lib.hid hnum
    have HH := Lib.hid hhead
    have HBA := Lib.hid hbase
    have HB := Lib.hid (hbel.trans (Below.mono hw1 hbel.size))
    clear hnum hhead hbase own10 hf hdj hsz d0 d1 d2 d3 d4 d5 d6 d7 d8 d9 d11 o3 o2 p3 p2 G0 G1 G2 hbel
    go_wp2_with (refine wpList_store_mid rfl 25 (.tmp 2) (.tmp 51) rfl (w.heap.size + 1) 0 _ rfl rfl ((Own.other HP2.out (by simp) _).there (Nat.le_refl 4)) (by kernel_rfl) (by kernel_rfl) ?_)
    have oR : Own ((w1.setCell ⟨w.heap.size + 1 + 1, 2, none⟩ (.slice a' (q * wd) c')).setCells (w.heap.size + 1) 0 [.int .i64 1, .int .i64 (d % 4), .slice a' (q * wd) c', .slice none 0 0]) (w.heap.size + 1) [.int .i64 1, .int .i64 (d % 4), .slice a' (q * wd) c', .slice none 0 0] := Own.sets (Own.other HP2.out (by simp) _) rfl
    have hfin : NumsIs ((w1.setCell ⟨w.heap.size + 1 + 1, 2, none⟩ (.slice a' (q * wd) c')).setCells (w.heap.size + 1) 0 [.int .i64 1, .int .i64 (d % 4), .slice a' (q * wd) c', .slice none 0 0]) ((w1.setCell ⟨w.heap.size + 1 + 1, 2, none⟩ (.slice a' (q * wd) c')).setCells (w.heap.size + 1) 0 [.int .i64 1, .int .i64 (d % 4), .slice a' (q * wd) c', .slice none 0 0]).heap.size a' (xs.take (q * wd)) := by
      rw [size_setCells, World.size_setCell]
      refine NumsIs.setCells (NumsIs.setCell HN.out (fun p hp => ?_) _) (fun p hp => ?_) _ _
      · have := HBA.out p hp
        show w.heap.size + 1 + 1 < p.block
        omega
      · have := HBA.out p hp
        omega
    have hbl : Below w.heap.size w ((w1.setCell ⟨w.heap.size + 1 + 1, 2, none⟩ (.slice a' (q * wd) c')).setCells (w.heap.size + 1) 0 [.int .i64 1, .int .i64 (d % 4), .slice a' (q * wd) c', .slice none 0 0]) := Below.setCells (by omega) _ _ _ (Below.setCell HB.out (show w.heap.size ≤ w.heap.size + 1 + 1 by omega) _)
    generalize ((w1.setCell ⟨w.heap.size + 1 + 1, 2, none⟩ (.slice a' (q * wd) c')).setCells (w.heap.size + 1) 0 [.int .i64 1, .int .i64 (d % 4), .slice a' (q * wd) c', .slice none 0 0]) = W9 at *
    subst hq
    refine ret_agg [.int .i64 1, .int .i64 (d % 4), .slice a' (min (n / wd) 1 * wd) c', .slice none 0 0] rfl rfl rfl (by kernel_rfl) (by kernel_rfl) (oR).cells (⟨a', c', rfl, hfin, HH.out, (fun p hp => by have := HBA.out p hp; omega), hbl⟩)
  all_goals exact fun w w' l h v _ hb _ hv => ⟨hv.1, own_below hv.2 hb⟩
end Go.Proofs.Ytihkmkcjjlmkhaa
