/- spec.Width, Leaf; geom's CoordinatesType. No condition. -/
import Derived.Test.YtihkmkcjjlmkhaaGeo2
import Derived.Laws.BitsLemmas
import Derived.Laws.Bits64
namespace Go.Proofs.Ytihkmkcjjlmkhaa
set_option maxRecDepth 100000
open Go.ChangeShapes Go.WideShapes Go.ChangeAt Go.RowKit Go.Deep

theorem and3 (d : Int) : bits .and .i64 d 3 = d % 4 := by
  have h1 : bits .and .i64 d 3 = IntKind.i64.wrap ((BitVec.ofInt 64 d &&& BitVec.ofInt 64 3).toNat : Int) := rfl
  rw [h1, BitVec.toNat_and, BitVec.toNat_ofInt, BitVec.toNat_ofInt]
  have h2 : ((3 : Int) % ((2 ^ 64 : Nat) : Int)).toNat = 2 ^ 2 - 1 := by decide
  rw [h2, Nat.and_two_pow_sub_one_eq_mod]
  have h3 : (((d % ((2 ^ 64 : Nat) : Int)).toNat % 2 ^ 2 : Nat) : Int) = d % 4 := by omega
  rw [h3]
  have h4 : d % 4 = 0 ∨ d % 4 = 1 ∨ d % 4 = 2 ∨ d % 4 = 3 := by omega
  rcases h4 with h | h | h | h <;> rw [h] <;> decide
theorem width_all : ∀ d : Int, 0 ≤ d → d ≤ 3 → d = 0 ∨ d = 1 ∨ d = 2 ∨ d = 3 := by omega
def widthI (d : Int) : Int := if d = 0 then 2 else if d = 3 then 4 else 3
theorem width_any {d r : Int} (h0 : 0 ≤ d) (h3 : d ≤ 3) (hr : widthI d = r) (w : World) : Calls Try.prog 38 #[.int .i64 d] w fun e w' => e = .returned (.int .i64 r) ∧ Below w.heap.size w w' := by
  subst hr
  rcases width_all d h0 h3 with rfl | rfl | rfl | rfl
  all_goals
    go_enter Try.func38, Try.ntmps38
    go_wp2_with fail
    go_ret
    exact ⟨by kernel_rfl, (by repeat (first | with_reducible exact Below.refl _ _ | with_reducible exact HBEL.out | with_reducible assumption | with_reducible refine Below.setCell ?_ (by first | (dsimp only; omega) | (simp; try omega)) _ | with_reducible refine LaterW.below _ ?_ | with_reducible refine below_alloc ?_ _ | with_reducible refine below_drewN' ?_ _ | with_reducible refine Below.drew ?_ | with_reducible exact below_drewN _))⟩
theorem leaf_any {k : Int} {r : Bool} (hr : (decide (k = 1) || decide (k = 2)) = r) (w : World) : Calls Try.prog 51 #[.int .i64 k] w fun e w' => e = .returned (.bool r) ∧ Below w.heap.size w w' := by
  by_cases h1 : k = 1
  · subst h1
    simp at hr
    subst hr
    go_enter Try.func51, Try.ntmps51
    go_wp2_with fail
    go_ret
    exact ⟨rfl, (by repeat (first | with_reducible exact Below.refl _ _ | with_reducible exact HBEL.out | with_reducible assumption | with_reducible refine Below.setCell ?_ (by first | (dsimp only; omega) | (simp; try omega)) _ | with_reducible refine LaterW.below _ ?_ | with_reducible refine below_alloc ?_ _ | with_reducible refine below_drewN' ?_ _ | with_reducible refine Below.drew ?_ | with_reducible exact below_drewN _))⟩
  · by_cases h2 : k = 2
    · subst h2
      simp at hr
      subst hr
      go_enter Try.func51, Try.ntmps51
      go_wp2_with fail
      go_ret
      exact ⟨rfl, (by repeat (first | with_reducible exact Below.refl _ _ | with_reducible exact HBEL.out | with_reducible assumption | with_reducible refine Below.setCell ?_ (by first | (dsimp only; omega) | (simp; try omega)) _ | with_reducible refine LaterW.below _ ?_ | with_reducible refine below_alloc ?_ _ | with_reducible refine below_drewN' ?_ _ | with_reducible refine Below.drew ?_ | with_reducible exact below_drewN _))⟩
    · have hr' : r = false := by rw [← hr]; simp [h1, h2]
      subst hr'
      clear hr
      go_enter Try.func51, Try.ntmps51
      go_wp2_with fail
      go_ret
      exact ⟨ret_bool (by simp [h1, h2]), (by repeat (first | with_reducible exact Below.refl _ _ | with_reducible exact HBEL.out | with_reducible assumption | with_reducible refine Below.setCell ?_ (by first | (dsimp only; omega) | (simp; try omega)) _ | with_reducible refine LaterW.below _ ?_ | with_reducible refine below_alloc ?_ _ | with_reducible refine below_drewN' ?_ _ | with_reducible refine Below.drew ?_ | with_reducible exact below_drewN _))⟩
end Go.Proofs.Ytihkmkcjjlmkhaa
