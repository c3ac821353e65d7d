/- FnXYMidpoint holds of every two places: whole ones have their middle at half the sums. No condition. -/
import Derived.Test.YtjikhnnheggejaaXY
import Derived.Test.YtjikhnnheggejaaFrame
namespace Go.Proofs.Ytjikhnnheggejaa
open Go.ChangeShapes Go.WideShapes Go.ChangeAt Go.RowKit
open Fl

/-- What the statement's own side reckons. -/
structure MidLaw (a b c d p q r s x y : Nat) (A B C E : Int) : Prop where
  mid : Mid a b c d p q r s
  ia : floatToIntVal .f64 a .i64 = some A
  ib : floatToIntVal .f64 b .i64 = some B
  ic : floatToIntVal .f64 c .i64 = some C
  ie : floatToIntVal .f64 d .i64 = some E
  d1 : D.div (floatOfInt .f64 (A + C)) 4611686018427387904 = some x
  d2 : D.div (floatOfInt .f64 (B + E)) 4611686018427387904 = some y
  e1 : (D.order r x == some .eq) = true
  e2 : (D.order s y == some .eq) = true
  bA : -1048576 ≤ A ∧ A ≤ 1048576
  bB : -1048576 ≤ B ∧ B ≤ 1048576
  bC : -1048576 ≤ C ∧ C ≤ 1048576
  bE : -1048576 ≤ E ∧ E ≤ 1048576

theorem num_half : Num 4602678819172646912 (1 / 2) := ⟨by decide +kernel, by decide +kernel⟩
theorem num_two : Num 4611686018427387904 2 := ⟨by decide +kernel, by decide +kernel⟩
theorem half_law {a c : Nat} {A C : Int} (ha : NumI a A) (hc : NumI c C) (bA : -1048576 ≤ A ∧ A ≤ 1048576) (bC : -1048576 ≤ C ∧ C ≤ 1048576) :
    ∃ p r x, D.add a c = some p ∧ D.mul p 4602678819172646912 = some r ∧ D.div (floatOfInt .f64 (A + C)) 4611686018427387904 = some x ∧ (D.order r x == some .eq) = true := by
  obtain ⟨p, h1, p1⟩ := add_int ha hc (by omega)
  have e1 : ((A + C : Int) : Rat) * (1 / 2) = ((A + C : Int) : Rat) / 2 := by grind
  obtain ⟨r, h3, r1⟩ := mul_exact p1 num_half (by rw [e1]; exact rep_half _ (by omega))
  have i1 : NumI (floatOfInt .f64 (A + C)) (A + C) := floatOfInt_num (A + C) (by omega)
  obtain ⟨x, h5, x1⟩ := div_exact i1 num_two (by decide) (rep_half _ (by omega))
  rw [e1] at r1
  exact ⟨p, r, x, h1, h3, h5, by rw [num_eq r1 x1]; simp⟩

theorem mid_law {a b c d : Nat} (h : [(a, b), (c, d)].all xyWholeB = true) : ∃ p q r s x y A B C E, MidLaw a b c d p q r s x y A B C E := by
  simp only [List.all_cons, List.all_nil, xyWholeB, Bool.and_eq_true] at h
  obtain ⟨⟨h1, h2⟩, ⟨h3, h4⟩, _⟩ := h
  obtain ⟨A, a1, a2⟩ := whole_spec.1 h1
  obtain ⟨B, b1, b2⟩ := whole_spec.1 h2
  obtain ⟨C, c1, c2⟩ := whole_spec.1 h3
  obtain ⟨E, e1, e2⟩ := whole_spec.1 h4
  obtain ⟨p, r, x, k1, k2, k3, k4⟩ := half_law a1 c1 a2 c2
  obtain ⟨q, s, y, l1, l2, l3, l4⟩ := half_law b1 e1 b2 e2
  exact ⟨p, q, r, s, x, y, A, B, C, E, ⟨k1, l1, k2, l2⟩, toInt_int a1 (by omega) (by omega), toInt_int b1 (by omega) (by omega), toInt_int c1 (by omega) (by omega), toInt_int e1 (by omega) (by omega), k3, l3, k4, l4, a2, b2, c2, e2⟩

theorem vWhole_two {r : Bool} {a b c d B : Nat} {w : World} (h : [(a, b), (c, d)].all xyWholeB = r) (hp : XYsAt w B 0 [(a, b), (c, d)]) :
    Calls Try.prog 10 #[.slice (some ⟨B, 0, none⟩) 2 2] w fun e w' => e = .returned (.bool r) ∧ Below w.heap.size w w' := h ▸ vWhole_any B 0 2 _ 2 w hp rfl (by simp)

theorem midpoint_walk (a b c d : Nat) (w : World) : Calls Try.prog 4 #[vXY a b, vXY c d] w fun e w' => e = .returned (.bool true) ∧ Below w.heap.size w w' := by
  cases h : [(a, b), (c, d)].all xyWholeB
  · have H := Lib.hid h
    clear h
    go_enter Try.func4, Try.ntmps4
    go_wp2_with fail
    refine (vWhole_two H.out (XYsAt.two (by go_simp) (by go_simp) (by go_simp) (by go_simp))).mono ?_
    rintro e w1 ⟨rfl, hb⟩
    obtain ⟨x1, rfl⟩ := LaterW.of hb
    clear hb
    go_wp2_with fail
    go_ret
    exact ⟨rfl, (by repeat (first | exact Below.refl _ _ | assumption | refine LaterW.below _ ?_ | refine below_alloc ?_ _ | refine below_drewN' ?_ _ | refine Below.drew ?_ | refine Below.setCell ?_ (by first | (dsimp only; omega) | (simp; try omega)) _ | exact below_drewN _))⟩
  · obtain ⟨p, q, r, s, x, y, A, B, C, E, hm⟩ := mid_law h
    have H := Lib.hid h
    clear h
    obtain ⟨mid, ia, ib, ic, ie, d1, d2, e1, e2, bA, bB, bC, bE⟩ := hm
    obtain ⟨bA1, bA2⟩ := bA
    obtain ⟨bB1, bB2⟩ := bB
    obtain ⟨bC1, bC2⟩ := bC
    obtain ⟨bE1, bE2⟩ := bE
    have MID := Lib.hid mid
    have k1 := fun W => run_convert_float_int (P := Try.prog) W 22 3 .f64 .i64 _ _ (by kernel_rfl) (by kernel_rfl) ia
    have k2 := fun W => run_convert_float_int (P := Try.prog) W 22 3 .f64 .i64 _ _ (by kernel_rfl) (by kernel_rfl) ib
    have k3 := fun W => run_convert_float_int (P := Try.prog) W 22 3 .f64 .i64 _ _ (by kernel_rfl) (by kernel_rfl) ic
    have k4 := fun W => run_convert_float_int (P := Try.prog) W 22 3 .f64 .i64 _ _ (by kernel_rfl) (by kernel_rfl) ie
    have k_d1 := fun (W : World) => run_float_arith (P := Try.prog) W .quo 22 .f64 _ _ _ d1
    have k_d2 := fun (W : World) => run_float_arith (P := Try.prog) W .quo 22 .f64 _ _ _ d2
    clear ia ib ic ie d1 d2 mid
    go_enter Try.func4, Try.ntmps4
    go_wp2_with fail
    refine (vWhole_two H.out (XYsAt.two (by go_simp) (by go_simp) (by go_simp) (by go_simp))).mono ?_
    rintro e w1 ⟨rfl, hb⟩
    obtain ⟨x1, rfl⟩ := LaterW.of hb
    clear hb
    go_wp2_with fail
    ((first | refine wp_region_later2 (by kernel_rfl) (by kernel_rfl) ?_ | refine wp_region_later (by kernel_rfl) (by kernel_rfl) ?_); (repeat (go_big_quiet_step ((go_at_call 11; with_reducible exact Calls.later_of (midpoint_any MID.out _))))); refine wpQuiet_nil ?_; rintro _ ⟨x1, rfl⟩)
    go_wp2_with fail
    go_ret
    exact ⟨rfl, (by repeat (first | exact Below.refl _ _ | assumption | refine LaterW.below _ ?_ | refine below_alloc ?_ _ | refine below_drewN' ?_ _ | refine Below.drew ?_ | refine Below.setCell ?_ (by first | (dsimp only; omega) | (simp; try omega)) _ | exact below_drewN _))⟩

set_option maxRecDepth 100000 in
theorem fnXYMidpoint_lifted (os : Os) (started : os.Started) (H : Type) (enc : TypeId × Value → H) :
    ReturnsInHanded {} Try.checked os 4 .any (Rows.fnXYMidpointSpec.pre6 enc Try.prog Try.f4 Rows.fnXYMidpointRow.domain false) (Rows.fnXYMidpointSpec.post enc Try.prog Try.f4 false true false false) := by
  refine returnsInHanded_of_change (C := Try.checked) own started (by kernel_rfl) Try.func4
    (ChangeSpec.witness6 (enc := enc) (C := Try.checked) false ⟨#[], #[.agg #[fl 0, fl 0], .agg #[fl 0, fl 0]], []⟩ 8 (by kernel_rfl) (by kernel_rfl) (by kernel_rfl) (by kernel_rfl)) ?_
  intro W base args ds gs before hval0 hW _ _
  have hval : ∀ (j : Nat) t v, Try.f4.params[j]? = some t → args[j]? = some v → Value.okWide Try.prog W .any base t v := hval0
  have hW' := hW
  obtain ⟨p, q, hA0, hV, rfl, _, _⟩ := hW
  have hA : DataW.TrodAll enc Try.prog W 0 (fun _ => true) true Try.f4.params.toList args.toList ds p := hA0
  rw [Try.params4] at hA hval
  obtain ⟨v0, vs0, d0, ds0, p0, q0, hargs, rfl, rfl, h0, r0⟩ := trodAll_cons hA
  obtain ⟨v1, vs1, d1, ds1, p1, q1, rfl, rfl, rfl, h1, r1⟩ := trodAll_cons r0
  obtain ⟨rfl, rfl, rfl⟩ := trodAll_nil r1
  obtain rfl : args = #[v0, v1] := by cases args; simp_all
  obtain ⟨rfl, rfl⟩ := trodVars_none hV
  have lt0 : ∀ x ∈ p0, x.block < W.heap.size := by obtain ⟨m, hm⟩ := h0; exact DataW.trod_lt m _ _ _ hm
  have ok0 := hval 0 30 v0 rfl rfl
  have lt1 : ∀ x ∈ p1, x.block < W.heap.size := by obtain ⟨m, hm⟩ := h1; exact DataW.trod_lt m _ _ _ hm
  have ok1 := hval 1 30 v1 rfl rfl
  clear hA0 hval0
  obtain ⟨a, b, rfl, _, _⟩ := open_xy ok0
  obtain ⟨c, d, rfl, _, _⟩ := open_xy ok1
  refine (midpoint_walk a b c d W).mono fun e W' ⟨he, bel⟩ => ?_
  subst he
  exact ⟨_, rfl, _, _, _, [], _, [], hW', trodAll_mk1 (shut_bool Try.underlying4 _), (trodAll_cons_mk (Below.trod laidOut (by kernel_rfl) (of_decide_eq_true (by kernel_rfl)) h0 bel lt0) (trodAll_cons_mk (Below.trod laidOut (by kernel_rfl) (of_decide_eq_true (by kernel_rfl)) h1 bel lt1) trodAll_mk0)), rfl, bel.frame _, fun h => by cases h⟩
theorem fnXYMidpoint_proved : Rows.FnXYMidpointSaid :=
  OpenClaim.holds_of_wide 4 Try.f4 rfl rfl rfl rfl rfl rfl rfl ⟨rfl, rfl, rfl, rfl, rfl⟩ rfl rfl rfl rfl rfl (by kernel_rfl) Try.func4 (by kernel_rfl)
    (of_decide_eq_true (by kernel_rfl)) (by unfold Func.isWrapper; first | (rw [if_pos (by decide +kernel)]; kernel_rfl) | (rw [if_neg (by decide +kernel)]; exact ⟨rfl, rfl⟩))
    (fun os started H enc _ => fnXYMidpoint_lifted os started H enc)
#print axioms fnXYMidpoint_proved
end Go.Proofs.Ytjikhnnheggejaa
