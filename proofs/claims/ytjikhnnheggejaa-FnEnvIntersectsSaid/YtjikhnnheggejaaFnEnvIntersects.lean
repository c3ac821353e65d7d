/- FnEnvIntersects holds of every two envelopes: with finite ends they meet just if neither is empty and neither ends ahead of the other. No condition. -/
import Derived.Test.YtjikhnnheggejaaEnv4
import Derived.Test.YtjikhnnheggejaaFrame
import Derived.Test.YtjikhnnheggejaaFacts
namespace Go.Proofs.Ytjikhnnheggejaa
open Go.ChangeShapes Go.WideShapes Go.ChangeAt Go.RowKit
open Fl

@[go_sem] theorem fieldEnv (a b c d : Nat) (f : Bool) (W : World) : (Instr.field 35 (vEnv a b c d f) 1).run Try.prog W = .ok (.agg #[fl a, fl b, fl c, fl d]) W := by kernel_rfl
theorem num_le {x y : Nat} {p q : Rat} (hx : Num x p) (hy : Num y q) : leW x y = decide (p ≤ q) := by
  unfold leW
  rw [num_lt hx hy, num_eq hx hy]
  by_cases h : p < q
  · simp [h, Rat.le_of_lt h]
  · by_cases h2 : p = q
    · simp [h2]
    · have : ¬ p ≤ q := fun h3 => h (Rat.lt_of_le_of_ne h3 h2)
      simp [h, h2, this]
theorem num_ge {x y : Nat} {p q : Rat} (hx : Num x p) (hy : Num y q) : geW x y = decide (q ≤ p) := by
  unfold geW
  rw [num_gt hx hy, num_eq hx hy]
  by_cases h : q < p
  · simp [h, Rat.le_of_lt h]
  · by_cases h2 : p = q
    · simp [h2]
    · have : ¬ q ≤ p := fun h3 => h (Rat.lt_of_le_of_ne h3 (Ne.symm h2))
      simp [h, h2, this]
theorem madeW_full (f : Bool) (a b c d : Nat) : (madeW f a b c d).full = f := by
  cases f <;> simp [madeW, corners, ofStep, noEnv]
theorem made_alike {f : Bool} {a b c d : Nat} (h : fitB ⟨f, a, b, c, d⟩ = true) : AlikeEnv (genvW f a b c d) (madeW f a b c d) := by
  refine alike_fold _ _ _ ⟨rfl, fun h => by cases h⟩ ?_
  cases f
  · simp [corners]
  · simp only [fitB, Bool.not_true, Bool.false_or, finBoxB, Bool.and_eq_true] at h
    simp [corners, xyFinB, h]
theorem meet_law {f : Bool} {a b c d : Nat} {f' : Bool} {a' b' c' d' : Nat} (h : fitB ⟨f, a, b, c, d⟩ = true) (h' : fitB ⟨f', a', b', c', d'⟩ = true) {e g : EnvW} (he : madeW f a b c d = e) (hg : madeW f' a' b' c' d' = g) :
    meetW (genvW f a b c d) (genvW f' a' b' c' d') = (f && f' && leW e.a g.c && leW g.a e.c && leW e.b g.d && leW g.b e.d) := by
  have h1 := made_alike h
  have h2 := made_alike h'
  have e1 := madeW_full f a b c d
  have e2 := madeW_full f' a' b' c' d'
  rw [he] at h1 e1
  rw [hg] at h2 e2
  generalize genvW f a b c d = u at *
  generalize genvW f' a' b' c' d' = v at *
  obtain ⟨h11, h12⟩ := h1
  obtain ⟨h21, h22⟩ := h2
  unfold meetW
  rw [h11, h21, e1, e2]
  cases f
  · simp
  · cases f'
    · simp
    · obtain ⟨A, B, C, E, s⟩ := h12 (by rw [h11, e1])
      obtain ⟨A', B', C', E', s'⟩ := h22 (by rw [h21, e2])
      rw [num_le s.a s'.c, num_ge s.c s'.a, num_le s.b s'.d, num_ge s.d s'.b, num_le s.a' s'.c', num_le s'.a' s.c', num_le s.b' s'.d', num_le s'.b' s.d']
set_option maxHeartbeats 600000 in
theorem envIntersects_walk (f : Bool) (a b c d : Nat) (f' : Bool) (a' b' c' d' : Nat) (w : World) (h : [EnvV.mk f a b c d, ⟨f', a', b', c', d'⟩].all fitB = true) (hs : SmallEnvs [EnvV.mk f a b c d, ⟨f', a', b', c', d'⟩]) :
    Calls Try.prog 5 #[vEnv a b c d f, vEnv a' b' c' d' f'] w fun e w' => e = .returned (.bool true) ∧ Below w.heap.size w w' := by
  obtain ⟨⟨ea, eb, ec, ed, ef⟩, h1⟩ : ∃ e, madeW f a b c d = e := ⟨_, rfl⟩
  obtain ⟨⟨ga, gb, gc, gd, gf⟩, h2⟩ : ∃ e, madeW f' a' b' c' d' = e := ⟨_, rfl⟩
  have hq : fitB ⟨f, a, b, c, d⟩ = true ∧ fitB ⟨f', a', b', c', d'⟩ = true := by simpa using h
  have HL := Lib.hid (meet_law hq.1 hq.2 h1 h2)
  clear hq
  dsimp only at HL
  have H := Lib.hid h
  have HS := Lib.hid hs
  have H1 := Lib.hid h1
  have H2 := Lib.hid h2
  clear h hs h1 h2
  go_enter Try.func5, Try.ntmps5
  go_wp2_with fail
  refine (eFits_any (o := 0) (n := 2) (cap := 2) (es := [EnvV.mk f a b c d, ⟨f', a', b', c', d'⟩]) ?hp ?hB rfl (by simp) HS.out).mono ?_
  case hp => intro i hi; match i, hi with
    | 0, _ => simp [CellsAt, go_sem]
    | 1, _ => simp [CellsAt, go_sem]
  case hB => simp
  rw [H.out]
  rintro r w1 ⟨rfl, hb⟩
  obtain ⟨x1, rfl⟩ := LaterW.of hb
  clear hb
  go_wp2_with fail
  have g0 : x1.val.cell? ⟨w.heap.size, 0, none⟩ = some (.bool f) := by simp [go_sem]
  have g1 : x1.val.cell? ⟨w.heap.size, 1, none⟩ = some (fl a) := by simp [go_sem]
  have g2 : x1.val.cell? ⟨w.heap.size, 2, none⟩ = some (fl b) := by simp [go_sem]
  have g3 : x1.val.cell? ⟨w.heap.size, 3, none⟩ = some (fl c) := by simp [go_sem]
  have g4 : x1.val.cell? ⟨w.heap.size, 4, none⟩ = some (fl d) := by simp [go_sem]
  have k0 : x1.val.cell? ⟨w.heap.size + 1, 0, none⟩ = some (.bool f') := by simp [go_sem]
  have k1 : x1.val.cell? ⟨w.heap.size + 1, 1, none⟩ = some (fl a') := by simp [go_sem]
  have k2 : x1.val.cell? ⟨w.heap.size + 1, 2, none⟩ = some (fl b') := by simp [go_sem]
  have k3 : x1.val.cell? ⟨w.heap.size + 1, 3, none⟩ = some (fl c') := by simp [go_sem]
  have k4 : x1.val.cell? ⟨w.heap.size + 1, 4, none⟩ = some (fl d') := by simp [go_sem]
  have hbel : Below w.heap.size w x1.val := (by repeat (first | with_reducible exact Below.refl _ _ | with_reducible exact HBEL.out | with_reducible assumption | with_reducible refine Below.setCell ?_ (by first | (dsimp only; omega) | (simp; try omega)) _ | with_reducible refine LaterW.below _ ?_ | with_reducible refine below_alloc ?_ _ | with_reducible refine below_drewN' ?_ _ | with_reducible refine Below.drew ?_ | with_reducible exact below_drewN _))
  have HBEL := Lib.hid hbel
  clear hbel
  have hlt0 : w.heap.size < x1.val.heap.size := by simp [go_sem]
  have hlt : w.heap.size + 1 < x1.val.heap.size := by simp [go_sem]
  generalize x1.val = W at *
  clear x1
  have G0 : ∀ w', Below W.heap.size W w' → w'.cell? ⟨w.heap.size, 0, none⟩ = some (.bool f) := fun w' h => (h.cell (p := ⟨w.heap.size, 0, none⟩) hlt0).trans g0
  have G1 : ∀ w', Below W.heap.size W w' → w'.cell? ⟨w.heap.size, 1, none⟩ = some (fl a) := fun w' h => (h.cell (p := ⟨w.heap.size, 1, none⟩) hlt0).trans g1
  have G2 : ∀ w', Below W.heap.size W w' → w'.cell? ⟨w.heap.size, 2, none⟩ = some (fl b) := fun w' h => (h.cell (p := ⟨w.heap.size, 2, none⟩) hlt0).trans g2
  have G3 : ∀ w', Below W.heap.size W w' → w'.cell? ⟨w.heap.size, 3, none⟩ = some (fl c) := fun w' h => (h.cell (p := ⟨w.heap.size, 3, none⟩) hlt0).trans g3
  have G4 : ∀ w', Below W.heap.size W w' → w'.cell? ⟨w.heap.size, 4, none⟩ = some (fl d) := fun w' h => (h.cell (p := ⟨w.heap.size, 4, none⟩) hlt0).trans g4
  have K0 : ∀ w', Below W.heap.size W w' → w'.cell? ⟨w.heap.size + 1, 0, none⟩ = some (.bool f') := fun w' h => (h.cell (p := ⟨w.heap.size + 1, 0, none⟩) hlt).trans k0
  have K1 : ∀ w', Below W.heap.size W w' → w'.cell? ⟨w.heap.size + 1, 1, none⟩ = some (fl a') := fun w' h => (h.cell (p := ⟨w.heap.size + 1, 1, none⟩) hlt).trans k1
  have K2 : ∀ w', Below W.heap.size W w' → w'.cell? ⟨w.heap.size + 1, 2, none⟩ = some (fl b') := fun w' h => (h.cell (p := ⟨w.heap.size + 1, 2, none⟩) hlt).trans k2
  have K3 : ∀ w', Below W.heap.size W w' → w'.cell? ⟨w.heap.size + 1, 3, none⟩ = some (fl c') := fun w' h => (h.cell (p := ⟨w.heap.size + 1, 3, none⟩) hlt).trans k3
  have K4 : ∀ w', Below W.heap.size W w' → w'.cell? ⟨w.heap.size + 1, 4, none⟩ = some (fl d') := fun w' h => (h.cell (p := ⟨w.heap.size + 1, 4, none⟩) hlt).trans k4
  clear g0 g1 g2 g3 g4 k0 k1 k2 k3 k4 hlt hlt0
  refine wp_region_facts 8 (fun w' => Below W.heap.size W w') [fun _ _ _ v => v = vEnv a b c d f, fun _ _ _ v => v = vEnv ea eb ec ed ef, fun _ _ _ v => v = .agg #[fl ea, fl eb, fl ec, fl ed], fun _ _ _ v => v = vEnv a' b' c' d' f', fun _ _ _ v => v = vEnv ga gb gc gd gf, fun _ _ _ v => v = .agg #[fl ga, fl gb, fl gc, fl gd], fun w lo hi v => ∃ A, W.heap.size ≤ A ∧ lo ≤ A ∧ A < hi ∧ v = .pointer (some ⟨A, 0, none⟩) ∧ Own w A [fl 0, fl 0, fl 0, fl 0], fun w lo hi v => ∃ A, W.heap.size ≤ A ∧ lo ≤ A ∧ A < hi ∧ v = .pointer (some ⟨A, 0, none⟩) ∧ Own w A [fl 0, fl 0, fl 0, fl 0]] rfl (by kernel_rfl) (Below.refl _ _).drew (fun _ _ h h' => Below.trans h (Below.mono h' h.size)) ⟨stays_val _, stays_val _, stays_val _, stays_val _, stays_val _, stays_val _, stays_own _ _, stays_own _ _, trivial⟩ ?steps ?rest
  case steps =>
    simp only [List.take_succ_cons, List.take_zero]
    (refine stepsOk_other rfl (fun Q u lo hi w1 hw1 hd hK => ?_) ?_; · (simp only [putAll, Act.put, List.setIfInBounds_toArray, List.set_cons_zero, List.set_cons_succ, Nat.zero_add, Nat.reduceAdd] at hK ⊢; go_wp2_with fail; refine hK _ _ ?_ ?_; (· exact (by repeat (first | with_reducible exact Below.refl _ _ | with_reducible assumption | with_reducible refine Below.setCell ?_ (by dsimp only; repeat (first | with_reducible exact Nat.le_refl _ | with_reducible refine Nat.le_trans ?_ (LaterW.ok _).size | rw [World.size_alloc] | rw [World.size_setCell] | rw [World.size_drew] | with_reducible refine Nat.le_succ_of_le ?_)) _ | with_reducible refine LaterW.below _ ?_ | with_reducible refine below_alloc ?_ _ | with_reducible refine below_drewN' ?_ _ | with_reducible refine Below.drew ?_))); (· exact rfl)))
    (refine stepsOk_other rfl (fun Q u lo hi w1 hw1 hd hK => ?_) ?_; · ((have d0 := hd 0 rfl); (simp only [factAt, List.getD_cons_zero] at d0); simp only [putAll, Act.put, List.setIfInBounds_toArray, List.set_cons_zero, List.set_cons_succ, Nat.zero_add, Nat.reduceAdd, d0] at hK ⊢; go_wp2_with (go_at_call 13; (with_reducible refine (eMade_any H1.out _).mono ?_); rintro e w1 ⟨rfl, hb⟩; (first | (obtain ⟨x1, rfl⟩ := LaterW.of2 hb) | (obtain ⟨x1, rfl⟩ := LaterW.of hb)); clear hb); refine hK _ _ ?_ ?_; (· exact (by repeat (first | with_reducible exact Below.refl _ _ | with_reducible assumption | with_reducible refine Below.setCell ?_ (by dsimp only; repeat (first | with_reducible exact Nat.le_refl _ | with_reducible refine Nat.le_trans ?_ (LaterW.ok _).size | rw [World.size_alloc] | rw [World.size_setCell] | rw [World.size_drew] | with_reducible refine Nat.le_succ_of_le ?_)) _ | with_reducible refine LaterW.below _ ?_ | with_reducible refine below_alloc ?_ _ | with_reducible refine below_drewN' ?_ _ | with_reducible refine Below.drew ?_))); (· exact rfl)))
    (refine stepsOk_plain rfl (fun u lo hi w1 hw1 hd => ?_) ?_; · ((have d1 := hd 1 rfl); (simp only [factAt, List.getD_cons_zero, List.getD_cons_succ] at d1); refine ⟨_, .inl ⟨rfl, fun W => ?_⟩, by exact rfl⟩; simp [putAll, Act.put, List.setIfInBounds_toArray, List.set_cons_zero, List.set_cons_succ, Nat.zero_add, Nat.reduceAdd, d1, go_sem]))
    (refine stepsOk_other rfl (fun Q u lo hi w1 hw1 hd hK => ?_) ?_; · (simp only [putAll, Act.put, List.setIfInBounds_toArray, List.set_cons_zero, List.set_cons_succ, Nat.zero_add, Nat.reduceAdd] at hK ⊢; go_wp2_with fail; refine hK _ _ ?_ ?_; (· exact (by repeat (first | with_reducible exact Below.refl _ _ | with_reducible assumption | with_reducible refine Below.setCell ?_ (by dsimp only; repeat (first | with_reducible exact Nat.le_refl _ | with_reducible refine Nat.le_trans ?_ (LaterW.ok _).size | rw [World.size_alloc] | rw [World.size_setCell] | rw [World.size_drew] | with_reducible refine Nat.le_succ_of_le ?_)) _ | with_reducible refine LaterW.below _ ?_ | with_reducible refine below_alloc ?_ _ | with_reducible refine below_drewN' ?_ _ | with_reducible refine Below.drew ?_))); (· exact rfl)))
    (refine stepsOk_other rfl (fun Q u lo hi w1 hw1 hd hK => ?_) ?_; · ((have d3 := hd 3 rfl); (simp only [factAt, List.getD_cons_zero, List.getD_cons_succ] at d3); simp only [putAll, Act.put, List.setIfInBounds_toArray, List.set_cons_zero, List.set_cons_succ, Nat.zero_add, Nat.reduceAdd, d3] at hK ⊢; go_wp2_with (go_at_call 13; (with_reducible refine (eMade_any H2.out _).mono ?_); rintro e w1 ⟨rfl, hb⟩; (first | (obtain ⟨x1, rfl⟩ := LaterW.of2 hb) | (obtain ⟨x1, rfl⟩ := LaterW.of hb)); clear hb); refine hK _ _ ?_ ?_; (· exact (by repeat (first | with_reducible exact Below.refl _ _ | with_reducible assumption | with_reducible refine Below.setCell ?_ (by dsimp only; repeat (first | with_reducible exact Nat.le_refl _ | with_reducible refine Nat.le_trans ?_ (LaterW.ok _).size | rw [World.size_alloc] | rw [World.size_setCell] | rw [World.size_drew] | with_reducible refine Nat.le_succ_of_le ?_)) _ | with_reducible refine LaterW.below _ ?_ | with_reducible refine below_alloc ?_ _ | with_reducible refine below_drewN' ?_ _ | with_reducible refine Below.drew ?_))); (· exact rfl)))
    (refine stepsOk_plain rfl (fun u lo hi w1 hw1 hd => ?_) ?_; · ((have d4 := hd 4 rfl); (simp only [factAt, List.getD_cons_zero, List.getD_cons_succ] at d4); refine ⟨_, .inl ⟨rfl, fun W => ?_⟩, by exact rfl⟩; simp [putAll, Act.put, List.setIfInBounds_toArray, List.set_cons_zero, List.set_cons_succ, Nat.zero_add, Nat.reduceAdd, d4, go_sem]))
    (refine stepsOk_other rfl (fun Q u lo hi w1 hw1 hd hK => ?_) ?_; · (simp only [putAll, Act.put, List.setIfInBounds_toArray, List.set_cons_zero, List.set_cons_succ, Nat.zero_add, Nat.reduceAdd] at hK ⊢; go_wp2_with fail; refine hK _ _ ?_ ?_; (· exact (by repeat (first | with_reducible exact Below.refl _ _ | with_reducible assumption | with_reducible refine Below.setCell ?_ (by dsimp only; repeat (first | with_reducible exact Nat.le_refl _ | with_reducible refine Nat.le_trans ?_ (LaterW.ok _).size | rw [World.size_alloc] | rw [World.size_setCell] | rw [World.size_drew] | with_reducible refine Nat.le_succ_of_le ?_)) _ | with_reducible refine LaterW.below _ ?_ | with_reducible refine below_alloc ?_ _ | with_reducible refine below_drewN' ?_ _ | with_reducible refine Below.drew ?_))); (· exact ⟨_, hw1.size, Nat.le_refl _, by simp, rfl, Own.new' _ rfl rfl⟩)))
    (refine stepsOk_other rfl (fun Q u lo hi w1 hw1 hd hK => ?_) ?_; · (simp only [putAll, Act.put, List.setIfInBounds_toArray, List.set_cons_zero, List.set_cons_succ, Nat.zero_add, Nat.reduceAdd] at hK ⊢; go_wp2_with fail; refine hK _ _ ?_ ?_; (· exact (by repeat (first | with_reducible exact Below.refl _ _ | with_reducible assumption | with_reducible refine Below.setCell ?_ (by dsimp only; repeat (first | with_reducible exact Nat.le_refl _ | with_reducible refine Nat.le_trans ?_ (LaterW.ok _).size | rw [World.size_alloc] | rw [World.size_setCell] | rw [World.size_drew] | with_reducible refine Nat.le_succ_of_le ?_)) _ | with_reducible refine LaterW.below _ ?_ | with_reducible refine below_alloc ?_ _ | with_reducible refine below_drewN' ?_ _ | with_reducible refine Below.drew ?_))); (· exact ⟨_, hw1.size, Nat.le_refl _, by simp, rfl, Own.new' _ rfl rfl⟩)))
    exact stepsOk_nil
  case rest =>
    (intro Q' hQ' u lo hi w1 hw1 hf hdj hsz; (have d0 := hf 0 (by decide)); (simp only [factAt, List.getD_cons_zero] at d0); (have d1 := hf 1 (by decide)); (simp only [factAt, List.getD_cons_zero, List.getD_cons_succ] at d1); (have d2 := hf 2 (by decide)); (simp only [factAt, List.getD_cons_zero, List.getD_cons_succ] at d2); (have d3 := hf 3 (by decide)); (simp only [factAt, List.getD_cons_zero, List.getD_cons_succ] at d3); (have d4 := hf 4 (by decide)); (simp only [factAt, List.getD_cons_zero, List.getD_cons_succ] at d4); (have d5 := hf 5 (by decide)); (simp only [factAt, List.getD_cons_zero, List.getD_cons_succ] at d5); (have d6 := hf 6 (by decide)); (simp only [factAt, List.getD_cons_zero, List.getD_cons_succ] at d6); (obtain ⟨A6, ge6, lo6, hi6, d6, o6⟩ := d6); (have d7 := hf 7 (by decide)); (simp only [factAt, List.getD_cons_zero, List.getD_cons_succ] at d7); (obtain ⟨A7, ge7, lo7, hi7, d7, o7⟩ := d7); simp only [List.take_succ_cons, List.take_zero, List.drop_succ_cons, List.drop_zero, putAll, Act.put, List.setIfInBounds_toArray, List.set_cons_zero, List.set_cons_succ, Nat.zero_add, Nat.reduceAdd, d0, d1, d2, d3, d4, d5, d6, d7])
    have hne : A6 ≠ A7 := by
      have := hdj 6 7 (by decide) (by decide) (by decide)
      omega
    refine wpList_store_mid rfl 24 (.tmp 5) (.tmp 15) rfl A6 0 _ rfl rfl (o6.there (Nat.le_refl 4)) (by kernel_rfl) (by kernel_rfl) ?_
    have n7 := Own.othersets (vs := [fl ea, fl eb, fl ec, fl ed]) (o := 0) o7 hne
    refine wpList_store_mid rfl 24 (.tmp 6) (.tmp 18) rfl A7 0 _ rfl rfl (n7.there (Nat.le_refl 4)) (by kernel_rfl) (by kernel_rfl) ?_
    have o6' := Own.othersets (vs := [fl ga, fl gb, fl gc, fl gd]) (o := 0) (Own.sets (vs := [fl ea, fl eb, fl ec, fl ed]) o6 rfl) (Ne.symm hne)
    have o7' := Own.sets (vs := [fl ga, fl gb, fl gc, fl gd]) n7 rfl
    have hb := Below.setCells ge7 [fl ga, fl gb, fl gc, fl gd] 0 _ (Below.setCells ge6 [fl ea, fl eb, fl ec, fl ed] 0 w1 hw1)
    apply hQ'
    dsimp only [Act.put]
    generalize ((w1.setCells A6 0 [fl ea, fl eb, fl ec, fl ed]).setCells A7 0 [fl ga, fl gb, fl gc, fl gd]) = W2 at *
    have g0 := G0 W2 hb
    have k0 := K0 W2 hb
    have g1 := G1 W2 hb
    have k1 := K1 W2 hb
    have g2 := G2 W2 hb
    have k2 := K2 W2 hb
    have g3 := G3 W2 hb
    have k3 := K3 W2 hb
    have g4 := G4 W2 hb
    have k4 := K4 W2 hb
    obtain ⟨p0, p1, p2, p3, _⟩ := o6'.cells
    obtain ⟨q0, q1, q2, q3, _⟩ := o7'.cells
    simp only [Nat.zero_add, Nat.reduceAdd] at p0 p1 p2 p3 q0 q1 q2 q3
    have HB := Lib.hid (HBEL.out.trans (Below.mono hb HBEL.out.size))
    clear G0 G1 G2 G3 G4 K0 K1 K2 K3 K4 hf hdj hsz d0 d1 d2 d3 d4 d5 d6 d7 lo6 lo7 hi6 hi7 u lo hi o6' o7' hb HBEL o6 o7 n7 ge6 ge7 hw1 H HS H1 H2 hQ' Q' w1 hne
    cases f <;> cases f'
    all_goals go_wp2_with ((go_at_call 14; (with_reducible refine (envIntersects_any HL.out _).mono ?_); rintro e w1 ⟨rfl, hb⟩; (first | (obtain ⟨x1, rfl⟩ := LaterW.of2 hb) | (obtain ⟨x1, rfl⟩ := LaterW.of hb)); clear hb))
    all_goals
      go_ret
      exact ⟨ret_bool (by first | rfl | simp_all [leW]), LaterW.below _ HB.out⟩

theorem envIntersects_unfit (f : Bool) (a b c d : Nat) (f' : Bool) (a' b' c' d' : Nat) (w : World) (h : [EnvV.mk f a b c d, ⟨f', a', b', c', d'⟩].all fitB = false) (hs : SmallEnvs [EnvV.mk f a b c d, ⟨f', a', b', c', d'⟩]) :
    Calls Try.prog 5 #[vEnv a b c d f, vEnv a' b' c' d' f'] w fun e w' => e = .returned (.bool true) ∧ Below w.heap.size w w' := by
  have H := Lib.hid h
  have HS := Lib.hid hs
  clear h hs
  go_enter Try.func5, Try.ntmps5
  go_wp2_with fail
  refine (eFits_any (o := 0) (n := 2) (cap := 2) (es := [EnvV.mk f a b c d, ⟨f', a', b', c', d'⟩]) ?hp ?hB rfl (by simp) HS.out).mono ?_
  case hp => intro i hi; match i, hi with
    | 0, _ => simp [CellsAt, go_sem]
    | 1, _ => simp [CellsAt, go_sem]
  case hB => simp
  rw [H.out]
  rintro r w1 ⟨rfl, hb⟩
  obtain ⟨x1, rfl⟩ := LaterW.of hb
  clear hb
  go_wp2_with fail
  go_ret
  exact ⟨rfl, (by repeat (first | with_reducible exact Below.refl _ _ | with_reducible exact HBEL.out | with_reducible assumption | with_reducible refine Below.setCell ?_ (by first | (dsimp only; omega) | (simp; try omega)) _ | with_reducible refine LaterW.below _ ?_ | with_reducible refine below_alloc ?_ _ | with_reducible refine below_drewN' ?_ _ | with_reducible refine Below.drew ?_ | with_reducible exact below_drewN _))⟩

set_option maxRecDepth 100000 in
theorem fnEnvIntersects_lifted (os : Os) (started : os.Started) (H : Type) (enc : TypeId × Value → H) :
    ReturnsInHanded {} Try.checked os 5 .any (Rows.fnEnvIntersectsSpec.pre6 enc Try.prog Try.f5 Rows.fnEnvIntersectsRow.domain false) (Rows.fnEnvIntersectsSpec.post enc Try.prog Try.f5 false true false false) := by
  refine returnsInHanded_of_change (C := Try.checked) own started (by kernel_rfl) Try.func5
    (ChangeSpec.witness6 (enc := enc) (C := Try.checked) false ⟨#[], #[.agg #[.bool false, fl 0, fl 0, fl 0, fl 0], .agg #[.bool false, fl 0, fl 0, fl 0, fl 0]], []⟩ 8 (by kernel_rfl) (by kernel_rfl) (by kernel_rfl) (by kernel_rfl)) ?_
  intro W base args ds gs before hval0 hW _ _
  have hval : ∀ (j : Nat) t v, Try.f5.params[j]? = some t → args[j]? = some v → Value.okWide Try.prog W .any base t v := hval0
  have hW' := hW
  obtain ⟨p, q, hA0, hV, rfl, _, _⟩ := hW
  have hA : DataW.TrodAll enc Try.prog W 0 (fun _ => true) true Try.f5.params.toList args.toList ds p := hA0
  rw [Try.params5] at hA hval
  obtain ⟨v0, vs0, d0, ds0, p0, q0, hargs, rfl, rfl, h0, r0⟩ := trodAll_cons hA
  obtain ⟨v1, vs1, d1, ds1, p1, q1, rfl, rfl, rfl, h1, r1⟩ := trodAll_cons r0
  obtain ⟨rfl, rfl, rfl⟩ := trodAll_nil r1
  obtain rfl : args = #[v0, v1] := by cases args; simp_all
  obtain ⟨rfl, rfl⟩ := trodVars_none hV
  have lt0 : ∀ x ∈ p0, x.block < W.heap.size := by obtain ⟨m, hm⟩ := h0; exact DataW.trod_lt m _ _ _ hm
  have ok0 := hval 0 35 v0 rfl rfl
  have lt1 : ∀ x ∈ p1, x.block < W.heap.size := by obtain ⟨m, hm⟩ := h1; exact DataW.trod_lt m _ _ _ hm
  have ok1 := hval 1 35 v1 rfl rfl
  clear hA0 hval0
  obtain ⟨f, a, b, c, d, rfl, la, lb, lc, ld⟩ := open_env ok0
  obtain ⟨f', a', b', c', d', rfl, la', lb', lc', ld'⟩ := open_env ok1
  have hs : SmallEnvs [EnvV.mk f a b c d, ⟨f', a', b', c', d'⟩] := fun i hi => match i, hi with
    | 0, _ => ⟨la, lb, lc, ld⟩
    | 1, _ => ⟨la', lb', lc', ld'⟩
  have key : Calls Try.prog 5 #[vEnv a b c d f, vEnv a' b' c' d' f'] W fun e w' => e = .returned (.bool true) ∧ Below W.heap.size W w' := by
    cases h : [EnvV.mk f a b c d, ⟨f', a', b', c', d'⟩].all fitB
    · exact envIntersects_unfit f a b c d f' a' b' c' d' W h hs
    · exact envIntersects_walk f a b c d f' a' b' c' d' W h hs
  refine key.mono fun e W' ⟨he, bel⟩ => ?_
  subst he
  exact ⟨_, rfl, _, _, _, [], _, [], hW', trodAll_mk1 (shut_bool Try.underlying4 _), (trodAll_cons_mk (Below.trod laidOut (by kernel_rfl) (of_decide_eq_true (by kernel_rfl)) h0 bel lt0) (trodAll_cons_mk (Below.trod laidOut (by kernel_rfl) (of_decide_eq_true (by kernel_rfl)) h1 bel lt1) trodAll_mk0)), rfl, bel.frame _, fun h => by cases h⟩
theorem fnEnvIntersects_proved : Rows.FnEnvIntersectsSaid :=
  OpenClaim.holds_of_wide 5 Try.f5 rfl rfl rfl rfl rfl rfl rfl ⟨rfl, rfl, rfl, rfl, rfl⟩ rfl rfl rfl rfl rfl (by kernel_rfl) Try.func5 (by kernel_rfl)
    (of_decide_eq_true (by kernel_rfl)) (by unfold Func.isWrapper; first | (rw [if_pos (by decide +kernel)]; kernel_rfl) | (rw [if_neg (by decide +kernel)]; exact ⟨rfl, rfl⟩))
    (fun os started H enc _ => fnEnvIntersects_lifted os started H enc)
#print axioms fnEnvIntersects_proved
end Go.Proofs.Ytjikhnnheggejaa
