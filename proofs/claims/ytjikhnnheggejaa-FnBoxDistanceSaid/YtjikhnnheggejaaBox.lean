/- Boxes: what laws.eWhole, laws.tBox, impl.BoxDistance, laws.tFar return. No condition. -/
import Derived.Test.YtjikhnnheggejaaNum
namespace Go.Proofs.Ytjikhnnheggejaa
open Go.ChangeShapes Go.WideShapes Go.ChangeAt Go.RowKit
open Fl

abbrev vBox (a b c d : Nat) : Value := .agg #[fl a, fl b, fl c, fl d]
def eWholeB (a b c d : Nat) : Bool := wholeB a && wholeB b && wholeB c && wholeB d
theorem eWhole_any (a b c d : Nat) (w : World) : Calls Try.prog 19 #[vBox a b c d] w fun e w' => e = .returned (.bool (eWholeB a b c d)) ∧ Below w.heap.size w w' := by
  go_enter Try.func19, Try.ntmps19
  go_wp2_with ((go_at_call 22; (with_reducible refine (gWhole_any _ _).mono ?_); rintro e w1 ⟨rfl, hb⟩; (first | (obtain ⟨x1, rfl⟩ := LaterW.of2 hb) | (obtain ⟨x1, rfl⟩ := LaterW.of hb)); clear hb))
  all_goals
    go_ret
    exact ⟨ret_bool (by unfold eWholeB; simp_all), (by repeat (first | exact Below.refl _ _ | assumption | refine LaterW.below _ ?_ | refine below_alloc ?_ _ | refine below_drewN' ?_ _ | refine Below.drew ?_ | exact below_drewN _))⟩

def boxB (a b c d : Nat) : Bool := eWholeB a b c d && (D.order a c == some .lt || D.order a c == some .eq) && (D.order b d == some .lt || D.order b d == some .eq)
theorem tBox_any (a b c d : Nat) (w : World) : Calls Try.prog 7 #[vBox a b c d] w fun e w' => e = .returned (.bool (boxB a b c d)) ∧ Below w.heap.size w w' := by
  go_enter Try.func7, Try.ntmps7
  go_wp2_with ((go_at_call 19; (with_reducible refine (eWhole_any _ _ _ _ _).mono ?_); rintro e w1 ⟨rfl, hb⟩; (first | (obtain ⟨x1, rfl⟩ := LaterW.of2 hb) | (obtain ⟨x1, rfl⟩ := LaterW.of hb)); clear hb))
  all_goals
    go_ret
    exact ⟨ret_bool (by unfold boxB; simp_all), (by repeat (first | exact Below.refl _ _ | assumption | refine LaterW.below _ ?_ | refine below_alloc ?_ _ | refine below_drewN' ?_ _ | refine Below.drew ?_ | exact below_drewN _))⟩

theorem box_any (a b c d : Nat) (w : World) : Calls Try.prog 21 #[vBox a b c d] w fun e w' => e = .returned (vBox a b c d) ∧ Below w.heap.size w w' := by
  go_enter Try.func21, Try.ntmps21
  go_wp2_with fail
  refine bodyPost_ret (v := vBox a b c d) (by simp [results, Try.results21, go_sem]) rfl ⟨rfl, ?_⟩
  exact (by repeat (first | exact Below.refl _ _ | assumption | refine LaterW.below _ ?_ | refine below_alloc ?_ _ | refine below_drewN' ?_ _ | refine Below.drew ?_ | exact below_drewN _))
/-- the larger one, as rtree's fastMax has it -/
def fmaxW (x y : Nat) : Nat := if D.order x y == some .gt then x else y
theorem fastMax_calls (x y : Nat) (w : World) : Calls Try.prog 43 #[fl x, fl y] w fun e w' => e = .returned (fl (fmaxW x y)) ∧ Below w.heap.size w w' := Calls.below_same (fastMax_any x y w)
/-- What squaredEuclideanDistance reckons. -/
structure Sed (a b c d a' b' c' d' z : Nat) (p q r s dx2 dy2 : Nat) : Prop where
  h1 : D.sub a c' = some p
  h2 : D.sub a' c = some q
  h3 : D.sub b d' = some r
  h4 : D.sub b' d = some s
  h5 : D.mul (fmaxW 0 (fmaxW p q)) (fmaxW 0 (fmaxW p q)) = some dx2
  h6 : D.mul (fmaxW 0 (fmaxW r s)) (fmaxW 0 (fmaxW r s)) = some dy2
  h7 : D.add dx2 dy2 = some z
theorem sed_any {a b c d a' b' c' d' p q r s dx2 dy2 z : Nat} (h : Sed a b c d a' b' c' d' z p q r s dx2 dy2) (w : World) :
    Calls Try.prog 34 #[vBox a b c d, vBox a' b' c' d'] w fun e w' => e = .returned (fl z) ∧ Below w.heap.size w w' := by
  obtain ⟨h1, h2, h3, h4, h5, h6, h7⟩ := h
  have k_h1 := fun (W : World) => run_float_arith (P := Try.prog) W .sub 22 .f64 _ _ _ h1
  have k_h2 := fun (W : World) => run_float_arith (P := Try.prog) W .sub 22 .f64 _ _ _ h2
  have k_h3 := fun (W : World) => run_float_arith (P := Try.prog) W .sub 22 .f64 _ _ _ h3
  have k_h4 := fun (W : World) => run_float_arith (P := Try.prog) W .sub 22 .f64 _ _ _ h4
  have k_h5 := fun (W : World) => run_float_arith (P := Try.prog) W .mul 22 .f64 _ _ _ h5
  have k_h6 := fun (W : World) => run_float_arith (P := Try.prog) W .mul 22 .f64 _ _ _ h6
  have k_h7 := fun (W : World) => run_float_arith (P := Try.prog) W .add 22 .f64 _ _ _ h7
  clear h1 h2 h3 h4 h5 h6 h7
  go_enter Try.func34, Try.ntmps34
  go_wp2_with ((go_at_call 43; (with_reducible refine (fastMax_calls _ _ _).mono ?_); rintro e w1 ⟨rfl, hb⟩; (first | (obtain ⟨x1, rfl⟩ := LaterW.of2 hb) | (obtain ⟨x1, rfl⟩ := LaterW.of hb)); clear hb))
  go_ret
  exact ⟨rfl, (by repeat (first | exact Below.refl _ _ | assumption | refine LaterW.below _ ?_ | refine below_alloc ?_ _ | refine below_drewN' ?_ _ | refine Below.drew ?_ | exact below_drewN _))⟩
theorem dsed_any {a b c d a' b' c' d' p q r s dx2 dy2 z : Nat} (h : Sed a b c d a' b' c' d' z p q r s dx2 dy2) (w : World) :
    Calls Try.prog 20 #[vBox a b c d, vBox a' b' c' d'] w fun e w' => e = .returned (fl z) ∧ Below w.heap.size w w' := by
  have H := Lib.hid h
  clear h
  go_enter Try.func20, Try.ntmps20
  go_wp2_with ((go_at_call 34; (with_reducible refine (sed_any H.out _).mono ?_); rintro e w1 ⟨rfl, hb⟩; (first | (obtain ⟨x1, rfl⟩ := LaterW.of2 hb) | (obtain ⟨x1, rfl⟩ := LaterW.of hb)); clear hb))
  go_ret
  exact ⟨rfl, (by repeat (first | exact Below.refl _ _ | assumption | refine LaterW.below _ ?_ | refine below_alloc ?_ _ | refine below_drewN' ?_ _ | refine Below.drew ?_ | exact below_drewN _))⟩
theorem boxDistance_any {a b c d a' b' c' d' p q r s dx2 dy2 z : Nat} (h : Sed a b c d a' b' c' d' z p q r s dx2 dy2) (w : World) :
    Calls Try.prog 8 #[vBox a b c d, vBox a' b' c' d'] w fun e w' => e = .returned (fl z) ∧ Below w.heap.size w w' := by
  have H := Lib.hid h
  clear h
  go_enter Try.func8, Try.ntmps8
  go_wp2_with fail
  ((first | refine wp_region_later2 (by kernel_rfl) (by kernel_rfl) ?_ | refine wp_region_later (by kernel_rfl) (by kernel_rfl) ?_); (repeat (go_big_quiet_step (first | (go_at_call 21; with_reducible exact Calls.later_of (box_any _ _ _ _ _)) | (go_at_call 20; with_reducible exact Calls.later_of (dsed_any H.out _))))); refine wpQuiet_nil ?_; rintro _ ⟨x1, rfl⟩)
  go_wp2_with fail
  go_ret
  exact ⟨rfl, (by repeat (first | exact Below.refl _ _ | assumption | refine LaterW.below _ ?_ | refine below_alloc ?_ _ | refine below_drewN' ?_ _ | refine Below.drew ?_ | exact below_drewN _))⟩

/-- the built-in max of two, of three -/
def max2W (x y : Nat) : Nat := match D.order x y with | some .lt => y | some .gt => x | _ => if (D.read x).neg then y else x
theorem run_max2 {P : Program} (x y : Nat) (w : World) (h : (D.order x y).isSome = true) : (Builtin.max2 (fl x) (fl y)).run P w = .ok (fl (max2W x y)) w := by
  have e : Builtin.max2 (fl x) (fl y) = (match D.order x y with
    | none => do pure (.float .f64 (← choose (.nanMinMax .f64 true x y)))
    | some .lt => pure (.float .f64 y)
    | some .gt => pure (.float .f64 x)
    | some .eq => pure (.float .f64 (if (D.read x).neg then y else x))) := rfl
  rw [e]; unfold max2W
  cases ho : D.order x y with
  | none => rw [ho] at h; cases h
  | some o => cases o <;> rfl
theorem run_max3 {P : Program} (ats : Array TypeId) (ty : TypeId) (x y z : Nat) (w : World) (h1 : (D.order x y).isSome = true) (h2 : (D.order (max2W x y) z).isSome = true) :
    (Builtin.max_ ats ty #[fl x, fl y, fl z]).run P w = .ok (fl (max2W (max2W x y) z)) w := by
  unfold Builtin.max_
  simp [Sem.run_bind, run_max2 x y w h1, run_max2 _ z w h2]
/-- What tFar reckons. -/
structure Far (a b c d a' b' c' d' : Nat) (p q r s : Nat) (X Y : Int) : Prop where
  h1 : D.sub a c' = some p
  h2 : D.sub a' c = some q
  h3 : D.sub b d' = some r
  h4 : D.sub b' d = some s
  m1 : (D.order 0 p).isSome = true
  m2 : (D.order (max2W 0 p) q).isSome = true
  m3 : (D.order 0 r).isSome = true
  m4 : (D.order (max2W 0 r) s).isSome = true
  x1 : floatToIntVal .f64 (max2W (max2W 0 p) q) .i64 = some X
  y1 : floatToIntVal .f64 (max2W (max2W 0 r) s) .i64 = some Y
  bx : 0 ≤ X * X
  bx' : X * X ≤ 100000000000000
  yy : 0 ≤ Y * Y
  yy' : Y * Y ≤ 100000000000000
theorem tFar_any {a b c d a' b' c' d' p q r s : Nat} {X Y : Int} (h : Far a b c d a' b' c' d' p q r s X Y) (w : World) :
    Calls Try.prog 9 #[vBox a b c d, vBox a' b' c' d'] w fun e w' => e = .returned (.int .i64 (X * X + Y * Y)) ∧ Below w.heap.size w w' := by
  obtain ⟨h1, h2, h3, h4, m1, m2, m3, m4, x1, y1, bx, bx', yy, yy'⟩ := h
  have k_h1 := fun (W : World) => run_float_arith (P := Try.prog) W .sub 22 .f64 _ _ _ h1
  have k_h2 := fun (W : World) => run_float_arith (P := Try.prog) W .sub 22 .f64 _ _ _ h2
  have k_h3 := fun (W : World) => run_float_arith (P := Try.prog) W .sub 22 .f64 _ _ _ h3
  have k_h4 := fun (W : World) => run_float_arith (P := Try.prog) W .sub 22 .f64 _ _ _ h4
  have k5 := fun (ats : Array TypeId) ty W => run_max3 (P := Try.prog) ats ty 0 p q W m1 m2
  have k6 := fun (ats : Array TypeId) ty W => run_max3 (P := Try.prog) ats ty 0 r s W m3 m4
  have k7 := fun W => run_convert_float_int (P := Try.prog) W 22 3 .f64 .i64 _ X (by kernel_rfl) (by kernel_rfl) x1
  have k8 := fun W => run_convert_float_int (P := Try.prog) W 22 3 .f64 .i64 _ Y (by kernel_rfl) (by kernel_rfl) y1
  clear h1 h2 h3 h4 m1 m2 m3 m4 x1 y1
  go_enter Try.func9, Try.ntmps9
  go_wp2_with fail
  go_ret
  exact ⟨rfl, (by repeat (first | exact Below.refl _ _ | assumption | refine LaterW.below _ ?_ | refine below_alloc ?_ _ | refine below_drewN' ?_ _ | refine Below.drew ?_ | exact below_drewN _))⟩
end Go.Proofs.Ytjikhnnheggejaa
