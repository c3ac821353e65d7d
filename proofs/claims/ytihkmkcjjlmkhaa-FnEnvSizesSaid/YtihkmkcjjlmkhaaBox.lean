/- Boxes: what laws.eWhole, laws.tBox, impl.BoxDistance, laws.tFar return. No condition. -/
import Derived.Test.YtihkmkcjjlmkhaaNum
namespace Go.Proofs.Ytihkmkcjjlmkhaa
set_option maxRecDepth 100000
open Go.ChangeShapes Go.WideShapes Go.ChangeAt Go.RowKit
open Fl

abbrev vBox (a b c d : Nat) : Value := .agg #[fl a, fl b, fl c, fl d]
def eWholeB (a b c d : Nat) : Bool := wholeB a && wholeB b && wholeB c && wholeB d
theorem eWhole_any (a b c d : Nat) (w : World) : Calls Try.prog 65 #[vBox a b c d] w fun e w' => e = .returned (.bool (eWholeB a b c d)) ∧ Below w.heap.size w w' := by
  go_enter Try.func65, Try.ntmps65
  go_wp2_with ((go_at_call 40; (with_reducible refine (gWhole_any _ _).mono ?_); rintro e w1 ⟨rfl, hb⟩; (first | (obtain ⟨x1, rfl⟩ := LaterW.of2 hb) | (obtain ⟨x1, rfl⟩ := LaterW.of hb)); clear hb))
  all_goals
    go_ret
    exact ⟨ret_bool (by unfold eWholeB; simp_all), (by repeat (first | with_reducible exact Below.refl _ _ | with_reducible exact HBEL.out | with_reducible assumption | with_reducible refine Below.setCell ?_ (by first | (dsimp only; omega) | (simp; try omega)) _ | with_reducible refine LaterW.below _ ?_ | with_reducible refine below_alloc ?_ _ | with_reducible refine below_drewN' ?_ _ | with_reducible refine Below.drew ?_ | with_reducible exact below_drewN _))⟩

def boxB (a b c d : Nat) : Bool := eWholeB a b c d && (D.order a c == some .lt || D.order a c == some .eq) && (D.order b d == some .lt || D.order b d == some .eq)
/-- the larger one, as rtree's fastMax has it -/
def fmaxW (x y : Nat) : Nat := if D.order x y == some .gt then x else y
/-- What squaredEuclideanDistance reckons. -/
structure Sed (a b c d a' b' c' d' z : Nat) (p q r s dx2 dy2 : Nat) : Prop where
  h1 : D.sub a c' = some p
  h2 : D.sub a' c = some q
  h3 : D.sub b d' = some r
  h4 : D.sub b' d = some s
  h5 : D.mul (fmaxW 0 (fmaxW p q)) (fmaxW 0 (fmaxW p q)) = some dx2
  h6 : D.mul (fmaxW 0 (fmaxW r s)) (fmaxW 0 (fmaxW r s)) = some dy2
  h7 : D.add dx2 dy2 = some z
/-- the built-in max of two, of three -/
def max2W (x y : Nat) : Nat := match D.order x y with | some .lt => y | some .gt => x | _ => if (D.read x).neg then y else x
theorem run_max2 {P : Program} (x y : Nat) (w : World) (h : (D.order x y).isSome = true) : (Builtin.max2 (fl x) (fl y)).run P w = .ok (fl (max2W x y)) w := by
  have e : Builtin.max2 (fl x) (fl y) = (match D.order x y with
    | none => do pure (.float .f64 (← choose (.nanMinMax .f64 true x y)))
    | some .lt => pure (.float .f64 y)
    | some .gt => pure (.float .f64 x)
    | some .eq => pure (.float .f64 (if (D.read x).neg then y else x))) := rfl
  rw [e]; unfold max2W
  cases ho : D.order x y with
  | none => rw [ho] at h; cases h
  | some o => cases o <;> rfl
theorem run_max3 {P : Program} (ats : Array TypeId) (ty : TypeId) (x y z : Nat) (w : World) (h1 : (D.order x y).isSome = true) (h2 : (D.order (max2W x y) z).isSome = true) :
    (Builtin.max_ ats ty #[fl x, fl y, fl z]).run P w = .ok (fl (max2W (max2W x y) z)) w := by
  unfold Builtin.max_
  simp [Sem.run_bind, run_max2 x y w h1, run_max2 _ z w h2]
/-- What tFar reckons. -/
structure Far (a b c d a' b' c' d' : Nat) (p q r s : Nat) (X Y : Int) : Prop where
  h1 : D.sub a c' = some p
  h2 : D.sub a' c = some q
  h3 : D.sub b d' = some r
  h4 : D.sub b' d = some s
  m1 : (D.order 0 p).isSome = true
  m2 : (D.order (max2W 0 p) q).isSome = true
  m3 : (D.order 0 r).isSome = true
  m4 : (D.order (max2W 0 r) s).isSome = true
  x1 : floatToIntVal .f64 (max2W (max2W 0 p) q) .i64 = some X
  y1 : floatToIntVal .f64 (max2W (max2W 0 r) s) .i64 = some Y
  bx : 0 ≤ X * X
  bx' : X * X ≤ 100000000000000
  yy : 0 ≤ Y * Y
  yy' : Y * Y ≤ 100000000000000
end Go.Proofs.Ytihkmkcjjlmkhaa
