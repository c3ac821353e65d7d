/- FnEnvSizes holds of every envelope: width, height, area and center of one with whole ends are what its ends tell; of the empty one 0 and the empty point. No condition. -/
import Derived.Test.YtihkmkcjjlmkhaaSize
import Derived.Test.YtihkmkcjjlmkhaaFrame
namespace Go.Proofs.Ytihkmkcjjlmkhaa
set_option maxRecDepth 100000
open Go.ChangeShapes Go.WideShapes Go.ChangeAt Go.RowKit Go.Deep
open Fl

@[go_sem] theorem fieldEnv (a b c d : Nat) (f : Bool) (W : World) : (Instr.field 47 (vEnv a b c d f) 1).run Try.prog W = .ok (.agg #[fl a, fl b, fl c, fl d]) W := by kernel_rfl
theorem num_half : Num 4602678819172646912 (1 / 2) := ⟨by decide +kernel, by decide +kernel⟩
theorem num_two : Num 4611686018427387904 2 := ⟨by decide +kernel, by decide +kernel⟩
theorem half_law {a c : Nat} {A C : Int} (ha : NumI a A) (hc : NumI c C) (bA : -1048576 ≤ A ∧ A ≤ 1048576) (bC : -1048576 ≤ C ∧ C ≤ 1048576) :
    ∃ p r x, D.add a c = some p ∧ D.mul p 4602678819172646912 = some r ∧ D.div (floatOfInt .f64 (A + C)) 4611686018427387904 = some x ∧ (D.order r x == some .eq) = true := by
  obtain ⟨p, h1, p1⟩ := add_int ha hc (by omega)
  have e1 : ((A + C : Int) : Rat) * (1 / 2) = ((A + C : Int) : Rat) / 2 := by grind
  obtain ⟨r, h3, r1⟩ := mul_exact p1 num_half (by rw [e1]; exact rep_half _ (by omega))
  have i1 : NumI (floatOfInt .f64 (A + C)) (A + C) := floatOfInt_num (A + C) (by omega)
  obtain ⟨x, h5, x1⟩ := div_exact i1 num_two (by decide) (rep_half _ (by omega))
  rw [e1] at r1
  exact ⟨p, r, x, h1, h3, h5, by rw [num_eq r1 x1]; simp⟩
theorem rmin_int (m n : Int) : rmin (m : Rat) (n : Rat) = ((min m n : Int) : Rat) := by
  unfold rmin
  by_cases h : m < n
  · rw [if_pos (Rat.intCast_lt_intCast.2 h), Int.min_eq_left (by omega)]
  · rw [if_neg (fun h' => h (Rat.intCast_lt_intCast.1 h')), Int.min_eq_right (by omega)]
theorem rmax_int (m n : Int) : rmax (m : Rat) (n : Rat) = ((max m n : Int) : Rat) := by
  unfold rmax
  by_cases h : n < m
  · rw [if_pos (Rat.intCast_lt_intCast.2 h), Int.max_eq_left (by omega)]
  · rw [if_neg (fun h' => h (Rat.intCast_lt_intCast.1 h')), Int.max_eq_right (by omega)]
/-- What the statement's own side reckons of a full envelope. -/
structure Sizes (e g : EnvW) (z1 z2 z3 p q r s x y : Nat) (A B C E : Int) : Prop where
  ef : e.full = true
  gf : g.full = true
  ia : floatToIntVal .f64 e.a .i64 = some A
  ib : floatToIntVal .f64 e.b .i64 = some B
  ic : floatToIntVal .f64 e.c .i64 = some C
  ie : floatToIntVal .f64 e.d .i64 = some E
  s1 : D.sub g.c g.a = some z1
  s2 : D.sub g.d g.b = some z2
  s3 : D.mul z1 z2 = some z3
  o1 : (D.order z1 (floatOfInt .f64 (C - A)) == some .eq) = true
  o2 : (D.order z2 (floatOfInt .f64 (E - B)) == some .eq) = true
  o3 : (D.order z3 (floatOfInt .f64 ((C - A) * (E - B))) == some .eq) = true
  mid : Mid g.a g.b g.c g.d p q r s
  d1 : D.div (floatOfInt .f64 (A + C)) 4611686018427387904 = some x
  d2 : D.div (floatOfInt .f64 (B + E)) 4611686018427387904 = some y
  e1 : (D.order r x == some .eq) = true
  e2 : (D.order s y == some .eq) = true
  bA : -1048576 ≤ A ∧ A ≤ 1048576
  bB : -1048576 ≤ B ∧ B ≤ 1048576
  bC : -1048576 ≤ C ∧ C ≤ 1048576
  bE : -1048576 ≤ E ∧ E ≤ 1048576
  ar : -4398046511104 ≤ (C - A) * (E - B) ∧ (C - A) * (E - B) ≤ 4398046511104
theorem sizes_law {a b c d : Nat} (h : eWholeB a b c d = true) : ∃ z1 z2 z3 p q r s x y A B C E, Sizes (madeW true a b c d) (genvW true a b c d) z1 z2 z3 p q r s x y A B C E := by
  simp only [eWholeB, Bool.and_eq_true] at h
  obtain ⟨⟨⟨h1, h2⟩, h3⟩, h4⟩ := h
  obtain ⟨A, a1, a2⟩ := whole_spec.1 h1
  obtain ⟨B, b1, b2⟩ := whole_spec.1 h2
  obtain ⟨C, c1, c2⟩ := whole_spec.1 h3
  obtain ⟨E, e1, e2⟩ := whole_spec.1 h4
  have ga : NumI (gminW a c) (min A C) := by have := gminW_num a1 c1; rwa [rmin_int] at this
  have gb : NumI (gminW b d) (min B E) := by have := gminW_num b1 e1; rwa [rmin_int] at this
  have gc : NumI (gmaxW a c) (max A C) := by have := gmaxW_num a1 c1; rwa [rmax_int] at this
  have gd : NumI (gmaxW b d) (max B E) := by have := gmaxW_num b1 e1; rwa [rmax_int] at this
  have ma : NumI (madeW true a b c d).a (min A C) := by have := ltW_num c1 a1; rwa [rmin_int, Int.min_comm] at this
  have mb : NumI (madeW true a b c d).b (min B E) := by have := ltW_num e1 b1; rwa [rmin_int, Int.min_comm] at this
  have mc : NumI (madeW true a b c d).c (max A C) := by have := gtW_num c1 a1; rwa [rmax_int, Int.max_comm] at this
  have md : NumI (madeW true a b c d).d (max B E) := by have := gtW_num e1 b1; rwa [rmax_int, Int.max_comm] at this
  have bA : -1048576 ≤ min A C ∧ min A C ≤ 1048576 := by omega
  have bB : -1048576 ≤ min B E ∧ min B E ≤ 1048576 := by omega
  have bC : -1048576 ≤ max A C ∧ max A C ≤ 1048576 := by omega
  have bE : -1048576 ≤ max B E ∧ max B E ≤ 1048576 := by omega
  have dX : 0 ≤ max A C - min A C ∧ max A C - min A C ≤ 2097152 := by omega
  have dY : 0 ≤ max B E - min B E ∧ max B E - min B E ≤ 2097152 := by omega
  generalize min A C = X1 at *
  generalize min B E = Y1 at *
  generalize max A C = X2 at *
  generalize max B E = Y2 at *
  have hpr : 0 ≤ (X2 - X1) * (Y2 - Y1) ∧ (X2 - X1) * (Y2 - Y1) ≤ 4398046511104 := by
    refine ⟨Int.mul_nonneg dX.1 dY.1, ?_⟩
    have := Int.mul_le_mul dX.2 dY.2 dY.1 (by omega)
    omega
  obtain ⟨z1, s1, n1⟩ := sub_int gc ga (by omega)
  obtain ⟨z2, s2, n2⟩ := sub_int gd gb (by omega)
  obtain ⟨z3, s3, n3⟩ := mul_int n1 n2 (by omega)
  obtain ⟨p, r, x, k1, k2, k3, k4⟩ := half_law ga gc bA bC
  obtain ⟨q, s, y, l1, l2, l3, l4⟩ := half_law gb gd bB bE
  exact ⟨z1, z2, z3, p, q, r, s, x, y, X1, Y1, X2, Y2, rfl, rfl, toInt_int ma (by omega) (by omega), toInt_int mb (by omega) (by omega), toInt_int mc (by omega) (by omega), toInt_int md (by omega) (by omega), s1, s2, s3,
    eq_int n1 (floatOfInt_int _ (by omega)), eq_int n2 (floatOfInt_int _ (by omega)), eq_int n3 (floatOfInt_int _ (by omega)), ⟨k1, l1, k2, l2⟩, k3, l3, k4, l4, bA, bB, bC, bE, by omega⟩
theorem eRound_one {a b c d : Nat} {f r : Bool} {B cap : Nat} {w : World} (h : roundB ⟨f, a, b, c, d⟩ = r) (hp : CellsAt w B 0 [.bool f, fl a, fl b, fl c, fl d]) (hB : B < w.heap.size) :
    Calls Try.prog 24 #[.slice (some ⟨B, 0, none⟩) 1 cap] w fun e w' => e = .returned (.bool r) ∧ Below w.heap.size w w' := by
  have := eRound_any (o := 0) (cap := cap) (es := [⟨f, a, b, c, d⟩]) (fun i hi => by match i, hi with | 0, _ => exact hp) hB rfl (by simp)
  simpa [h] using this
theorem envSizes_unfit {f : Bool} {a b c d : Nat} (w : World) (h : roundB ⟨f, a, b, c, d⟩ = false) : Calls Try.prog 7 #[vEnv a b c d f] w fun e w' => e = .returned (.bool true) ∧ Below w.heap.size w w' := by
  have H := Lib.hid h
  clear h
  go_enter Try.func7, Try.ntmps7
  go_wp2_with fail
  refine (eRound_one H.out (by simp [CellsAt, go_sem]) (by simp)).mono ?_
  rintro e w1 ⟨rfl, hb⟩
  obtain ⟨x1, rfl⟩ := LaterW.of hb
  clear hb
  go_wp2_with fail
  go_ret
  exact ⟨rfl, (by repeat (first | with_reducible exact Below.refl _ _ | with_reducible exact HBEL.out | with_reducible assumption | with_reducible refine Below.setCell ?_ (by first | (dsimp only; omega) | (simp; try omega)) _ | with_reducible refine LaterW.below _ ?_ | with_reducible refine below_alloc ?_ _ | with_reducible refine below_drewN' ?_ _ | with_reducible refine Below.drew ?_ | with_reducible exact below_drewN _))⟩
theorem made_f {a b c d : Nat} (w : World) : Calls Try.prog 25 #[vEnv a b c d false] w fun r w' => r = .returned (vEnv 0 0 0 0 false) ∧ Below w.heap.size w w' := eMade_any (e := noEnv) rfl w
theorem num_zero0 : floatToIntVal .f64 0 .i64 = some 0 := toInt_int num_zero (by omega) (by omega)
theorem envSizes_empty {a b c d : Nat} (w : World) : Calls Try.prog 7 #[vEnv a b c d false] w fun e w' => e = .returned (.bool true) ∧ Below w.heap.size w w' := by
  have k1 := fun W => run_convert_float_int (P := Try.prog) W 36 3 .f64 .i64 _ _ (by kernel_rfl) (by kernel_rfl) num_zero0
  have o1 : D.order 0 (floatOfInt .f64 0) = some .eq := by decide +kernel
  have o2 : D.order 0 0 = some .eq := by decide +kernel
  go_enter Try.func7, Try.ntmps7
  go_wp2_with fail
  refine (eRound_one (a := a) (b := b) (c := c) (d := d) (r := true) (f := false) rfl (by simp [CellsAt, go_sem]) (by simp)).mono ?_
  rintro e w1 ⟨rfl, hb⟩
  obtain ⟨x1, rfl⟩ := LaterW.of hb
  clear hb
  go_wp2_with ((go_at_call 25; (with_reducible refine (made_f _).mono ?_); rintro e w1 ⟨rfl, hb⟩; (first | (obtain ⟨x1, rfl⟩ := LaterW.of2 hb) | (obtain ⟨x1, rfl⟩ := LaterW.of hb)); clear hb))
  rename LaterW _ => y3
  have oB := Own.alloc (w := y3.val) (B := w.heap.size) (cs := [.bool false, fl a, fl b, fl c, fl d]) (by repeat (first | (refine Own.new' _ rfl ?_; first | with_reducible rfl | (simp; done)) | with_reducible apply Own.later | with_reducible apply Own.alloc | with_reducible apply Own.drew | with_reducible apply Own.drewN | with_reducible apply Own.other)) (.cells #[fl 0, fl 0, fl 0, fl 0] 45)
  have oK : Own (y3.val.alloc (.cells #[fl 0, fl 0, fl 0, fl 0] 45)) y3.val.heap.size [fl 0, fl 0, fl 0, fl 0] := Own.new' _ rfl rfl
  have hbel : Below w.heap.size w (y3.val.alloc (.cells #[fl 0, fl 0, fl 0, fl 0] 45)) := (by repeat (first | with_reducible exact Below.refl _ _ | with_reducible exact HBEL.out | with_reducible assumption | with_reducible refine Below.setCell ?_ (by first | (dsimp only; omega) | (simp; try omega)) _ | with_reducible refine LaterW.below _ ?_ | with_reducible refine below_alloc ?_ _ | with_reducible refine below_drewN' ?_ _ | with_reducible refine Below.drew ?_ | with_reducible exact below_drewN _))
  obtain ⟨K, hK⟩ : ∃ K, K = y3.val.heap.size := ⟨_, rfl⟩
  rw [← hK] at oK ⊢
  generalize (y3.val.alloc (.cells #[fl 0, fl 0, fl 0, fl 0] 45)) = W1 at *
  clear hK y3
  obtain ⟨k0, k5, k6, k7, _⟩ := oK.cells
  obtain ⟨b0, b5, b6, b7, b8, _⟩ := oB.cells
  have ltK := oK.lt
  have ltB := oB.lt
  have HOK := Lib.hid oK
  have HOB := Lib.hid oB
  have HBEL := Lib.hid hbel
  clear oK oB hbel
  ((first | refine wp_region_later2 (by kernel_rfl) (by kernel_rfl) ?_ | refine wp_region_later (by kernel_rfl) (by kernel_rfl) ?_); (repeat (go_big_quiet_step (fail))); refine wpQuiet_nil ?_; rintro _ ⟨x1, rfl⟩)
  go_wp2_with (first | (go_at_call 26; (with_reducible refine (envWidth_f).mono ?_); rintro e w1 ⟨rfl, hb⟩; (first | (obtain ⟨x1, rfl⟩ := LaterW.of2 hb) | (obtain ⟨x1, rfl⟩ := LaterW.of hb)); clear hb) | (go_at_call 27; (with_reducible refine (envHeight_f).mono ?_); rintro e w1 ⟨rfl, hb⟩; (first | (obtain ⟨x1, rfl⟩ := LaterW.of2 hb) | (obtain ⟨x1, rfl⟩ := LaterW.of hb)); clear hb) | (go_at_call 28; (with_reducible refine (envArea_f).mono ?_); rintro e w1 ⟨rfl, hb⟩; (first | (obtain ⟨x1, rfl⟩ := LaterW.of2 hb) | (obtain ⟨x1, rfl⟩ := LaterW.of hb)); clear hb))
  have pB : Own x1.val w.heap.size [.bool false, fl a, fl b, fl c, fl d] := (by repeat (first | with_reducible exact HOB.out | with_reducible apply Own.later | with_reducible apply Own.alloc | with_reducible apply Own.drew | with_reducible apply Own.drewN))
  have hb1 : Below w.heap.size w x1.val := (by repeat (first | with_reducible exact Below.refl _ _ | with_reducible exact HBEL.out | with_reducible assumption | with_reducible refine Below.setCell ?_ (by first | (dsimp only; omega) | (simp; try omega)) _ | with_reducible refine LaterW.below _ ?_ | with_reducible refine below_alloc ?_ _ | with_reducible refine below_drewN' ?_ _ | with_reducible refine Below.drew ?_ | with_reducible exact below_drewN _))
  generalize x1.val = W2 at *
  clear x1 k0 k5 k6 k7 b0 b5 b6 b7 b8 ltK ltB
  refine envCenter_f.mono ?_
  rintro e w5 ⟨rfl, hb⟩
  have qB := pB.below hb pB.lt
  have hb2 := hb1.trans (Below.mono hb hb1.size)
  obtain ⟨b0, b5, b6, b7, b8, _⟩ := qB.cells
  have ltB := qB.lt
  have HB2 := Lib.hid hb2
  clear pB hb1 qB hb2 hb HOK HOB HBEL
  go_wp2_with fail
  go_ret
  exact ⟨rfl, Below.alloc HB2.out HB2.out.size _⟩
theorem envSizes_full {a b c d : Nat} {e g : EnvW} {z1 z2 z3 p q r s x y : Nat} {A B C E : Int} (w : World) (hr : eWholeB a b c d = true) (he : madeW true a b c d = e) (hg : genvW true a b c d = g) (hs : Sizes e g z1 z2 z3 p q r s x y A B C E) :
    Calls Try.prog 7 #[vEnv a b c d true] w fun e w' => e = .returned (.bool true) ∧ Below w.heap.size w w' := by
  obtain ⟨ea, eb, ec, ed, ef⟩ := e
  obtain ⟨hef, gf, ia, ib, ic, ie, s1, s2, s3, o1, o2, o3, mid, d1, d2, e1, e2, bA, bB, bC, bE, ar⟩ := hs
  simp only at hef ia ib ic ie
  subst hef
  have o1' : D.order z1 (floatOfInt .f64 (C - A)) = some .eq := by simpa using o1
  have o2' : D.order z2 (floatOfInt .f64 (E - B)) = some .eq := by simpa using o2
  have o3' : D.order z3 (floatOfInt .f64 ((C - A) * (E - B))) = some .eq := by simpa using o3
  clear o1 o2 o3
  obtain ⟨bA1, bA2⟩ := bA
  obtain ⟨bB1, bB2⟩ := bB
  obtain ⟨bC1, bC2⟩ := bC
  obtain ⟨bE1, bE2⟩ := bE
  obtain ⟨ar1, ar2⟩ := ar
  have HR : Hid (roundB ⟨true, a, b, c, d⟩ = true) := by show _ = _; simpa [roundB] using hr
  have HE := Lib.hid he
  have HG := Lib.hid hg
  have HGF := Lib.hid gf
  have S1 := Lib.hid s1
  have S2 := Lib.hid s2
  have S3 := Lib.hid s3
  have MID := Lib.hid mid
  have E1 := Lib.hid e1
  have E2 := Lib.hid e2
  have k1 := fun W => run_convert_float_int (P := Try.prog) W 36 3 .f64 .i64 _ _ (by kernel_rfl) (by kernel_rfl) ia
  have k2 := fun W => run_convert_float_int (P := Try.prog) W 36 3 .f64 .i64 _ _ (by kernel_rfl) (by kernel_rfl) ib
  have k3 := fun W => run_convert_float_int (P := Try.prog) W 36 3 .f64 .i64 _ _ (by kernel_rfl) (by kernel_rfl) ic
  have k4 := fun W => run_convert_float_int (P := Try.prog) W 36 3 .f64 .i64 _ _ (by kernel_rfl) (by kernel_rfl) ie
  have k_d1 := fun (W : World) => run_float_arith (P := Try.prog) W .quo 36 .f64 _ _ _ d1
  have k_d2 := fun (W : World) => run_float_arith (P := Try.prog) W .quo 36 .f64 _ _ _ d2
  clear ia ib ic ie d1 d2 mid s1 s2 s3 he hg gf hr e1 e2
  go_enter Try.func7, Try.ntmps7
  go_wp2_with fail
  refine (eRound_one HR.out (by simp [CellsAt, go_sem]) (by simp)).mono ?_
  rintro e w1 ⟨rfl, hb⟩
  obtain ⟨x1, rfl⟩ := LaterW.of hb
  clear hb
  go_wp2_with ((go_at_call 25; (with_reducible refine (eMade_any HE.out _).mono ?_); rintro e w1 ⟨rfl, hb⟩; (first | (obtain ⟨x1, rfl⟩ := LaterW.of2 hb) | (obtain ⟨x1, rfl⟩ := LaterW.of hb)); clear hb))
  rename LaterW _ => y3
  have oB := Own.alloc (w := y3.val) (B := w.heap.size) (cs := [.bool true, fl a, fl b, fl c, fl d]) (by repeat (first | (refine Own.new' _ rfl ?_; first | with_reducible rfl | (simp; done)) | with_reducible apply Own.later | with_reducible apply Own.alloc | with_reducible apply Own.drew | with_reducible apply Own.drewN | with_reducible apply Own.other)) (.cells #[fl ea, fl eb, fl ec, fl ed] 45)
  have oK : Own (y3.val.alloc (.cells #[fl ea, fl eb, fl ec, fl ed] 45)) y3.val.heap.size [fl ea, fl eb, fl ec, fl ed] := Own.new' _ rfl rfl
  have hbel : Below w.heap.size w (y3.val.alloc (.cells #[fl ea, fl eb, fl ec, fl ed] 45)) := (by repeat (first | with_reducible exact Below.refl _ _ | with_reducible exact HBEL.out | with_reducible assumption | with_reducible refine Below.setCell ?_ (by first | (dsimp only; omega) | (simp; try omega)) _ | with_reducible refine LaterW.below _ ?_ | with_reducible refine below_alloc ?_ _ | with_reducible refine below_drewN' ?_ _ | with_reducible refine Below.drew ?_ | with_reducible exact below_drewN _))
  obtain ⟨K, hK⟩ : ∃ K, K = y3.val.heap.size := ⟨_, rfl⟩
  rw [← hK] at oK ⊢
  generalize (y3.val.alloc (.cells #[fl ea, fl eb, fl ec, fl ed] 45)) = W1 at *
  clear hK y3
  obtain ⟨k0, k5, k6, k7, _⟩ := oK.cells
  obtain ⟨b0, b5, b6, b7, b8, _⟩ := oB.cells
  have ltK := oK.lt
  have ltB := oB.lt
  have HOK := Lib.hid oK
  have HOB := Lib.hid oB
  have HBEL := Lib.hid hbel
  clear oK oB hbel
  ((first | refine wp_region_later2 (by kernel_rfl) (by kernel_rfl) ?_ | refine wp_region_later (by kernel_rfl) (by kernel_rfl) ?_); (repeat (go_big_quiet_step (fail))); refine wpQuiet_nil ?_; rintro _ ⟨x1, rfl⟩)
  go_wp2_with (first | (go_at_call 26; (with_reducible refine (envWidth_t HG.out HGF.out S1.out).mono ?_); rintro e w1 ⟨rfl, hb⟩; (first | (obtain ⟨x1, rfl⟩ := LaterW.of2 hb) | (obtain ⟨x1, rfl⟩ := LaterW.of hb)); clear hb) | (go_at_call 27; (with_reducible refine (envHeight_t HG.out HGF.out S2.out).mono ?_); rintro e w1 ⟨rfl, hb⟩; (first | (obtain ⟨x1, rfl⟩ := LaterW.of2 hb) | (obtain ⟨x1, rfl⟩ := LaterW.of hb)); clear hb) | (go_at_call 28; (with_reducible refine (envArea_t HG.out HGF.out S1.out S2.out S3.out).mono ?_); rintro e w1 ⟨rfl, hb⟩; (first | (obtain ⟨x1, rfl⟩ := LaterW.of2 hb) | (obtain ⟨x1, rfl⟩ := LaterW.of hb)); clear hb))
  have pK : Own x1.val K [fl ea, fl eb, fl ec, fl ed] := (by repeat (first | with_reducible exact HOK.out | with_reducible apply Own.later | with_reducible apply Own.alloc | with_reducible apply Own.drew | with_reducible apply Own.drewN))
  have pB : Own x1.val w.heap.size [.bool true, fl a, fl b, fl c, fl d] := (by repeat (first | with_reducible exact HOB.out | with_reducible apply Own.later | with_reducible apply Own.alloc | with_reducible apply Own.drew | with_reducible apply Own.drewN))
  have hb1 : Below w.heap.size w x1.val := (by repeat (first | with_reducible exact Below.refl _ _ | with_reducible exact HBEL.out | with_reducible assumption | with_reducible refine Below.setCell ?_ (by first | (dsimp only; omega) | (simp; try omega)) _ | with_reducible refine LaterW.below _ ?_ | with_reducible refine below_alloc ?_ _ | with_reducible refine below_drewN' ?_ _ | with_reducible refine Below.drew ?_ | with_reducible exact below_drewN _))
  generalize x1.val = W2 at *
  clear x1 k0 k5 k6 k7 b0 b5 b6 b7 b8 ltK ltB
  refine (envCenter_t HG.out HGF.out MID.out).mono ?_
  rintro e w5 ⟨v, rfl, ⟨a', c', rfl, n1, h1⟩, hb⟩
  have qK := pK.below hb pK.lt
  have qB := pB.below hb pB.lt
  have hb2 := hb1.trans (Below.mono hb hb1.size)
  obtain ⟨k0, k5, k6, k7, _⟩ := qK.cells
  obtain ⟨b0, b5, b6, b7, b8, _⟩ := qB.cells
  have ltK := qK.lt
  have ltB := qB.lt
  have HN1 := Lib.hid n1
  have HH1 := Lib.hid h1
  have HB2 := Lib.hid hb2
  clear pK pB hb1 qK qB hb2 hb n1 h1 HOK HOB HBEL
  go_wp2_with fail
  have hn2 : NumsIs (w5.alloc (.cells #[.int .i64 1, .int .i64 0, .slice a' 2 c', .slice none 0 0] 25)) (w5.alloc (.cells #[.int .i64 1, .int .i64 0, .slice a' 2 c', .slice none 0 0] 25)).heap.size a' [r, s] :=
    (HN1.out.below (Below.alloc (Below.refl w5.heap.size w5) (Nat.le_refl _) _) (Nat.le_refl _)).mono (by rw [World.size_alloc]; exact Nat.le_succ _)
  refine (gPoint_any ⟨a', c', rfl, hn2, HH1.out⟩ E1.out E2.out).mono ?_
  rintro e w6 ⟨rfl, hb⟩
  obtain ⟨x1, rfl⟩ := LaterW.of hb
  have HBEL := Lib.hid HB2.out
  clear hb
  go_wp2_with fail
  go_ret
  exact ⟨rfl, LaterW.below _ (Below.alloc HB2.out HB2.out.size _)⟩

set_option maxRecDepth 100000 in
theorem fnEnvSizes_lifted (os : Os) (started : os.Started) (H : Type) (enc : TypeId × Value → H) :
    ReturnsInHanded {} Try.checked os 7 .any (Rows.fnEnvSizesSpec.pre6 enc Try.prog Try.f7 Rows.fnEnvSizesRow.domain false) (Rows.fnEnvSizesSpec.post enc Try.prog Try.f7 false true false false) := by
  refine returnsInHanded_of_change (C := Try.checked) own started (by kernel_rfl) Try.func7
    (ChangeSpec.witness6 (enc := enc) (C := Try.checked) false ⟨#[], #[.agg #[.bool false, fl 0, fl 0, fl 0, fl 0]], []⟩ 8 (by kernel_rfl) (by kernel_rfl) (by kernel_rfl) (by kernel_rfl)) ?_
  intro W base args ds gs before hval0 hW _ _
  have hval : ∀ (j : Nat) t v, Try.f7.params[j]? = some t → args[j]? = some v → Value.okWide Try.prog W .any base t v := hval0
  have hW' := hW
  obtain ⟨p, q, hA0, hV, rfl, _, _⟩ := hW
  have hA : DataW.TrodAll enc Try.prog W 0 (fun _ => true) true Try.f7.params.toList args.toList ds p := hA0
  rw [Try.params7] at hA hval
  obtain ⟨v0, vs0, d0, ds0, p0, q0, hargs, rfl, rfl, h0, r0⟩ := trodAll_cons hA
  obtain ⟨rfl, rfl, rfl⟩ := trodAll_nil r0
  obtain rfl : args = #[v0] := by cases args; simp_all
  obtain ⟨rfl, rfl⟩ := trodVars_none hV
  have lt0 : ∀ x ∈ p0, x.block < W.heap.size := by obtain ⟨m, hm⟩ := h0; exact DataW.trod_lt m _ _ _ hm
  have ok0 := hval 0 47 v0 rfl rfl
  clear hA0 hval0
  obtain ⟨f, a, b, c, d, rfl, la, lb, lc, ld⟩ := open_env ok0
  have key : Calls Try.prog 7 #[vEnv a b c d f] W fun e w' => e = .returned (.bool true) ∧ Below W.heap.size W w' := by
    cases h : roundB ⟨f, a, b, c, d⟩
    · exact envSizes_unfit W h
    · cases f
      · exact envSizes_empty W
      · have h' : eWholeB a b c d = true := by simpa [roundB] using h
        obtain ⟨z1, z2, z3, p, q, r, s, x, y, A, B, C, E, hs⟩ := sizes_law h'
        exact envSizes_full W h' rfl rfl hs
  refine key.mono fun e W' ⟨he, bel⟩ => ?_
  subst he
  exact ⟨_, rfl, _, _, _, [], _, [], hW', trodAll_mk1 (shut_bool Try.underlying4 _), (trodAll_cons_mk (Below.trod laidOut (by kernel_rfl) (of_decide_eq_true (by kernel_rfl)) h0 bel lt0) trodAll_mk0), rfl, bel.frame _, fun h => by cases h⟩
theorem fnEnvSizes_proved : Rows.FnEnvSizesSaid :=
  OpenClaim.holds_of_wide 7 Try.f7 rfl rfl rfl rfl rfl rfl rfl ⟨rfl, rfl, rfl, rfl, rfl⟩ rfl rfl rfl rfl rfl (by kernel_rfl) Try.func7 (by kernel_rfl)
    (of_decide_eq_true (by kernel_rfl)) (by unfold Func.isWrapper; first | (rw [if_pos (by decide +kernel)]; kernel_rfl) | (rw [if_neg (by decide +kernel)]; exact ⟨rfl, rfl⟩))
    (fun os started H enc _ => fnEnvSizes_lifted os started H enc)
#print axioms fnEnvSizes_proved
end Go.Proofs.Ytihkmkcjjlmkhaa
