/- FnBoxDistance: the plain law (whole numbers), and the walk of the statement's own function. No condition. -/
import Derived.Test.YtjikhnnheggejaaBox
namespace Go.Proofs.Ytjikhnnheggejaa
open Go.ChangeShapes Go.WideShapes Go.ChangeAt Go.RowKit
open Fl

theorem eWhole_spec {a b c d : Nat} (h : eWholeB a b c d = true) : ∃ A B C E : Int, NumI a A ∧ NumI b B ∧ NumI c C ∧ NumI d E ∧ (-1048576 ≤ A ∧ A ≤ 1048576) ∧ (-1048576 ≤ B ∧ B ≤ 1048576) ∧ (-1048576 ≤ C ∧ C ≤ 1048576) ∧ (-1048576 ≤ E ∧ E ≤ 1048576) := by
  unfold eWholeB at h
  simp only [Bool.and_eq_true] at h
  obtain ⟨⟨⟨h1, h2⟩, h3⟩, h4⟩ := h
  obtain ⟨A, a1, a2, a3⟩ := whole_spec.1 h1
  obtain ⟨B, b1, b2, b3⟩ := whole_spec.1 h2
  obtain ⟨C, c1, c2, c3⟩ := whole_spec.1 h3
  obtain ⟨E, e1, e2, e3⟩ := whole_spec.1 h4
  exact ⟨A, B, C, E, a1, b1, c1, e1, ⟨a2, a3⟩, ⟨b2, b3⟩, ⟨c2, c3⟩, ⟨e2, e3⟩⟩

theorem fmaxW_int {x y : Nat} {m n : Int} (hx : NumI x m) (hy : NumI y n) : NumI (fmaxW x y) (max m n) := by
  unfold fmaxW; rw [order_int hx hy]
  by_cases h : m < n
  · simp only [h, if_true]; rw [if_neg (by simp)]; rwa [Int.max_eq_right (by omega)]
  · by_cases h2 : m = n
    · subst h2; simp only [Int.lt_irrefl, if_false, if_true]; rw [if_neg (by simp)]; rwa [Int.max_self]
    · simp only [h, h2, if_false]; rw [if_pos (by simp)]; rwa [Int.max_eq_left (by omega)]
theorem max2W_int {x y : Nat} {m n : Int} (hx : NumI x m) (hy : NumI y n) : NumI (max2W x y) (max m n) := by
  unfold max2W; rw [order_int hx hy]
  by_cases h : m < n
  · simp only [h, if_true]; rwa [Int.max_eq_right (by omega)]
  · by_cases h2 : m = n
    · subst h2; simp only [Int.lt_irrefl, if_false, if_true]; split <;> rwa [Int.max_self]
    · simp only [h, h2, if_false]; rwa [Int.max_eq_left (by omega)]
theorem toInt_int {x : Nat} {n : Int} (hx : NumI x n) (h1 : -9223372036854775808 ≤ n) (h2 : n ≤ 9223372036854775807) : floatToIntVal .f64 x .i64 = some n := by
  obtain ⟨e, _⟩ := trunc_int hx
  have e' : (FloatKind.f64.decode x).toInt .zero = some n := e
  unfold floatToIntVal; rw [e']
  have l1 : IntKind.i64.min = -9223372036854775808 := by decide
  have l2 : IntKind.i64.max = 9223372036854775807 := by decide
  simp only [l1, l2]
  rw [if_pos ⟨h1, h2⟩]
theorem floatOfInt_int (n : Int) (h : n.natAbs ≤ 2 ^ 53) : NumI (floatOfInt .f64 n) n := floatOfInt_num n h
theorem order_some {x y : Nat} {m n : Int} (hx : NumI x m) (hy : NumI y n) : (D.order x y).isSome = true := by rw [order_int hx hy]; rfl
theorem eq_int {x y : Nat} {n : Int} (hx : NumI x n) (hy : NumI y n) : (D.order x y == some .eq) = true := by rw [num_eq hx hy]; simp

theorem sq_bound (n : Int) (h : n.natAbs ≤ 4194304) : 0 ≤ n * n ∧ n * n ≤ 17592186044416 := by
  have h1 : ((n.natAbs * n.natAbs : Nat) : Int) = n * n := by
    rw [← Int.natAbs_mul_self]
  have h2 : n.natAbs * n.natAbs ≤ 4194304 * 4194304 := Nat.mul_le_mul h h
  omega

theorem box_law {a b c d a' b' c' d' : Nat} (h : boxB a b c d = true) (h' : boxB a' b' c' d' = true) :
    ∃ p q r s dx2 dy2 z X Y, Sed a b c d a' b' c' d' z p q r s dx2 dy2 ∧ Far a b c d a' b' c' d' p q r s X Y ∧ (D.order z (floatOfInt .f64 (X * X + Y * Y)) == some .eq) = true := by
  unfold boxB at h h'
  simp only [Bool.and_eq_true] at h h'
  obtain ⟨A, B, C, E, ha, hb, hc, hd, ba, bb, bc, bd⟩ := eWhole_spec h.1.1
  obtain ⟨A', B', C', E', ha', hb', hc', hd', ba', bb', bc', bd'⟩ := eWhole_spec h'.1.1
  clear h h'
  obtain ⟨p, h1, p1⟩ := sub_int ha hc' (by omega)
  obtain ⟨q, h2, q1⟩ := sub_int ha' hc (by omega)
  obtain ⟨r, h3, r1⟩ := sub_int hb hd' (by omega)
  obtain ⟨s, h4, s1⟩ := sub_int hb' hd (by omega)
  have X1 := fmaxW_int num_zero (fmaxW_int p1 q1)
  have Y1 := fmaxW_int num_zero (fmaxW_int r1 s1)
  have X2 := max2W_int (max2W_int num_zero p1) q1
  have Y2 := max2W_int (max2W_int num_zero r1) s1
  have eX : max (max 0 (A - C')) (A' - C) = max 0 (max (A - C') (A' - C)) := by omega
  have eY : max (max 0 (B - E')) (B' - E) = max 0 (max (B - E') (B' - E)) := by omega
  rw [eX] at X2; rw [eY] at Y2
  have bX := sq_bound (max 0 (max (A - C') (A' - C))) (by omega)
  have bY := sq_bound (max 0 (max (B - E') (B' - E))) (by omega)
  have lX : (max 0 (max (A - C') (A' - C))).natAbs ≤ 4194304 := by omega
  have lY : (max 0 (max (B - E') (B' - E))).natAbs ≤ 4194304 := by omega
  have m1 := order_some num_zero p1
  have m2 := order_some (max2W_int num_zero p1) q1
  have m3 := order_some num_zero r1
  have m4 := order_some (max2W_int num_zero r1) s1
  generalize max 0 (max (A - C') (A' - C)) = X at *
  generalize max 0 (max (B - E') (B' - E)) = Y at *
  obtain ⟨dx2, h5, dx⟩ := mul_int X1 X1 (by omega)
  obtain ⟨dy2, h6, dy⟩ := mul_int Y1 Y1 (by omega)
  obtain ⟨z, h7, hz⟩ := add_int dx dy (by omega)
  exact ⟨p, q, r, s, dx2, dy2, z, X, Y, ⟨h1, h2, h3, h4, h5, h6, h7⟩, ⟨h1, h2, h3, h4, m1, m2, m3, m4, toInt_int X2 (by omega) (by omega), toInt_int Y2 (by omega) (by omega), bX.1, by omega, bY.1, by omega⟩,
    eq_int hz (floatOfInt_int _ (by omega))⟩

theorem tBox_is {a b c d : Nat} {r : Bool} (h : boxB a b c d = r) (w : World) : Calls Try.prog 7 #[vBox a b c d] w fun e w' => e = .returned (.bool r) ∧ Below w.heap.size w w' := h ▸ tBox_any a b c d w

theorem boxDistance_walk (a b c d a' b' c' d' : Nat) (w : World) :
    Calls Try.prog 3 #[vBox a b c d, vBox a' b' c' d'] w fun e w' => e = .returned (.bool true) ∧ Below w.heap.size w w' := by
  cases h : boxB a b c d
  · have H := Lib.hid h
    clear h
    go_enter Try.func3, Try.ntmps3
    go_wp2_with fail
    ((first | refine wp_region_later2 (by kernel_rfl) (by kernel_rfl) ?_ | refine wp_region_later (by kernel_rfl) (by kernel_rfl) ?_); (repeat (go_big_quiet_step ((go_at_call 7; with_reducible exact Calls.later_of (tBox_is H.out _))))); refine wpQuiet_nil ?_; rintro _ ⟨x1, rfl⟩)
    go_wp2_with fail
    go_ret
    exact ⟨rfl, (by repeat (first | exact Below.refl _ _ | assumption | refine LaterW.below _ ?_ | refine below_alloc ?_ _ | refine below_drewN' ?_ _ | refine Below.drew ?_ | exact below_drewN _))⟩
  · cases h' : boxB a' b' c' d'
    · have H := Lib.hid h
      have H' := Lib.hid h'
      clear h h'
      go_enter Try.func3, Try.ntmps3
      go_wp2_with fail
      ((first | refine wp_region_later2 (by kernel_rfl) (by kernel_rfl) ?_ | refine wp_region_later (by kernel_rfl) (by kernel_rfl) ?_); (repeat (go_big_quiet_step (first | (go_at_call 7; with_reducible exact Calls.later_of (tBox_is H.out _)) | (go_at_call 7; with_reducible exact Calls.later_of (tBox_is H'.out _))))); refine wpQuiet_nil ?_; rintro _ ⟨x1, rfl⟩)
      go_wp2_with fail
      go_ret
      exact ⟨rfl, (by repeat (first | exact Below.refl _ _ | assumption | refine LaterW.below _ ?_ | refine below_alloc ?_ _ | refine below_drewN' ?_ _ | refine Below.drew ?_ | exact below_drewN _))⟩
    · obtain ⟨p, q, r, s, dx2, dy2, z, X, Y, hs, hf, he⟩ := box_law h h'
      have H := Lib.hid h
      have H' := Lib.hid h'
      have Hs := Lib.hid hs
      have Hf := Lib.hid hf
      clear h h' hs hf
      go_enter Try.func3, Try.ntmps3
      go_wp2_with fail
      ((first | refine wp_region_later2 (by kernel_rfl) (by kernel_rfl) ?_ | refine wp_region_later (by kernel_rfl) (by kernel_rfl) ?_); (repeat (go_big_quiet_step (first | (go_at_call 7; with_reducible exact Calls.later_of (tBox_is H.out _)) | (go_at_call 7; with_reducible exact Calls.later_of (tBox_is H'.out _)) | (go_at_call 8; with_reducible exact Calls.later_of (boxDistance_any Hs.out _)) | (go_at_call 9; with_reducible exact Calls.later_of (tFar_any Hf.out _))))); refine wpQuiet_nil ?_; rintro _ ⟨x1, rfl⟩)
      go_wp2_with fail
      go_ret
      exact ⟨rfl, (by repeat (first | exact Below.refl _ _ | assumption | refine LaterW.below _ ?_ | refine below_alloc ?_ _ | refine below_drewN' ?_ _ | refine Below.drew ?_ | exact below_drewN _))⟩
end Go.Proofs.Ytjikhnnheggejaa
