/- What the small functions on single numbers return: math.Trunc, gWhole, gFinite, fastMax, fastMin. No condition. -/
import Derived.Test.YtihkmkcjjlmkhaaBase
namespace Go.Proofs.Ytihkmkcjjlmkhaa
set_option maxRecDepth 100000
open Go.ChangeShapes Go.WideShapes Go.ChangeAt Go.RowKit
open Fl

/-- What math.Trunc makes of a word: what it is cut to, if it is no NaN. -/
def TruncOf (x y : Nat) : Prop := (∀ s t, D.read x ≠ .nan s t) → y = D.write ((D.read x).integral .zero)

theorem archTrunc_run (x : Nat) (w : World) : ∃ y n, TruncOf x y ∧ (callFunc 116 #[.float .f64 x]).run Try.prog w = .ok (.value (.float .f64 y)) (w.drewN n) := by
  rw [run_callFunc_extern Try.func116 (by kernel_rfl) (by kernel_rfl) (by kernel_rfl) (e := Extern.MathFloor.toIntegral "math.archTrunc" .zero) (by kernel_rfl)]
  change ∃ y n, TruncOf x y ∧ (Sem.run Try.prog (match FloatKind.f64.decode x with
    | .nan s t =>
      if FloatKind.f64.format.quiet t = t then pure (Value.float .f64 x) else do
      let kept ← choose (.extern "math.Floor,Ceil,Trunc,RoundToEven.signallingNaN kept" 2)
      pure (Value.float .f64 (if kept == 1 then x else FloatKind.f64.encode (.nan s (FloatKind.f64.format.quiet t))))
    | d => pure (Value.float .f64 (FloatKind.f64.encode (d.integral .zero)))) w).andThen _ = _
  have hd : FloatKind.f64.decode x = D.read x := rfl
  rw [hd]
  cases h : D.read x with
  | nan s t =>
    simp only
    split
    · exact ⟨x, 0, fun hn => absurd h (hn s t), by simp [World.drewN_zero]⟩
    · simp only [Sem.run_bind, run_choose_drew]
      split
      · exact ⟨_, 0, fun hn => absurd h (hn s t), rfl⟩
      · exact ⟨_, 1, fun hn => absurd h (hn s t), rfl⟩
  | number s m e => exact ⟨_, 0, fun _ => by rw [h]; rfl, rfl⟩
  | infinity s => exact ⟨_, 0, fun _ => by rw [h]; rfl, rfl⟩

theorem trunc_any (x : Nat) (w : World) : Calls Try.prog 78 #[fl x] w fun e w' => ∃ y n, TruncOf x y ∧ e = .returned (fl y) ∧ w.drewN n = w' := by
  obtain ⟨y, n, hy, hrun⟩ := archTrunc_run x w
  have H := Lib.hid hy
  clear hy
  go_enter Try.func78, Try.ntmps78
  go_wp2
  go_ret
  exact ⟨y, n, H.out, rfl, rfl⟩

theorem num_c1 : Num 13920626448202203136 ((-1048576 : Int) : Rat) := ⟨by decide +kernel, by decide +kernel⟩
theorem num_c2 : Num 4697254411347427328 ((1048576 : Int) : Rat) := ⟨by decide +kernel, by decide +kernel⟩

theorem order_nan {x y : Nat} {s t} (h : D.read x = .nan s t) : D.order x y = none := by
  unfold Ieee.Format.order Ieee.Datum.order; rw [h]
theorem order_inf {x y : Nat} {s q} (h : D.read x = .infinity s) (hy : Num y q) : D.order x y = some (if s then .lt else .gt) := by
  obtain ⟨t, m, e, hy, _⟩ := hy.read
  unfold Ieee.Format.order Ieee.Datum.order; rw [h, hy]
theorem isFin_number {x : Nat} {s m e} (h : D.read x = .number s m e) : isFin x = true := by unfold isFin; rw [h]
theorem isFin_nan {x : Nat} {s t} (h : D.read x = .nan s t) : isFin x = false := by unfold isFin; rw [h]
theorem isFin_inf {x : Nat} {s} (h : D.read x = .infinity s) : isFin x = false := by unfold isFin; rw [h]

theorem whole_law {x y : Nat} (hy : TruncOf x y) :
    ((D.order x y == some .eq) && (D.order x 13920626448202203136 == some .gt || D.order x 13920626448202203136 == some .eq) && (D.order x 4697254411347427328 == some .lt || D.order x 4697254411347427328 == some .eq)) = wholeB x := by
  cases h : D.read x with
  | nan s t => rw [order_nan h, order_nan h, order_nan h]; unfold wholeB; rw [isFin_nan h]; rfl
  | infinity s => rw [order_inf h num_c1, order_inf h num_c2]; unfold wholeB; rw [isFin_inf h]; cases s <;> simp
  | number s m e =>
    have hx := num_val (isFin_number h)
    obtain ⟨v, h1, h2, h3, h4⟩ := trunc_num hx
    rw [hy (fun s t hn => by rw [h] at hn; cases hn), order_spec hx h2, order_spec hx num_c1, order_spec hx num_c2]
    rw [Bool.eq_iff_iff, whole_spec]
    generalize hq : val x = q at *
    constructor
    · intro hh
      simp only [Bool.and_eq_true, Bool.or_eq_true, beq_iff_eq, Option.some.injEq] at hh
      obtain ⟨⟨e1, e2⟩, e3⟩ := hh
      have hv : q = v := by
        split at e1 <;> try cases e1
        split at e1 <;> try cases e1
        assumption
      subst hv
      refine ⟨v, hx, ?_, ?_⟩
      · refine Rat.intCast_le_intCast.1 ?_
        rcases e2 with e2 | e2 <;> split at e2 <;> (try cases e2) <;> split at e2 <;> (try cases e2) <;> grind
      · refine Rat.intCast_le_intCast.1 ?_
        rcases e3 with e3 | e3 <;> split at e3 <;> (try cases e3) <;> (try split at e3) <;> (try cases e3) <;> grind
    · rintro ⟨n, hn, l1, l2⟩
      have hqn : q = n := by rw [← hq]; exact hn.val
      subst hqn
      obtain ⟨_, h5⟩ := trunc_int hn
      have hv : (v : Rat) = n := by rw [← h2.val, ← h5.val]
      rw [hv]
      have l1' := Rat.intCast_le_intCast.2 l1
      have l2' := Rat.intCast_le_intCast.2 l2
      simp only [Bool.and_eq_true, Bool.or_eq_true, beq_iff_eq, Option.some.injEq]
      refine ⟨⟨?_, ?_⟩, ?_⟩
      · rw [if_neg (by grind)]; simp
      · rw [if_neg (by grind)]; split <;> simp
      · by_cases hlt : ((n : Int) : Rat) < ((1048576 : Int) : Rat)
        · rw [if_pos hlt]; simp
        · rw [if_neg hlt, if_pos (by grind)]; simp

theorem gWhole_any (x : Nat) (w : World) : Calls Try.prog 40 #[fl x] w fun e w' => e = .returned (.bool (wholeB x)) ∧ Below w.heap.size w w' := by
  go_enter Try.func40, Try.ntmps40
  go_wp2_with fail
  refine (trunc_any x _).mono ?_
  rintro e w1 ⟨y, n, hy, rfl, rfl⟩
  have H := Lib.hid (whole_law hy)
  clear hy
  go_wp2
  all_goals
    go_ret
    exact ⟨ret_bool (by rw [← H.out]; simp_all), below_drewN n⟩

/-- finite -/
theorem isNaN_any (x : Nat) (w : World) : Calls Try.prog 58 #[fl x] w fun e w' => e = .returned (.bool (D.order x x != some .eq)) ∧ w = w' := by
  go_enter Try.func58, Try.ntmps58
  go_wp2
  go_ret
  exact ⟨rfl, rfl⟩
theorem float64bits_run (x : Nat) (w : World) : (callFunc 61 #[fl x]).run Try.prog w = .ok (.value (.int .u64 (x : Int))) w := by
  rw [run_callFunc_extern Try.func61 (by kernel_rfl) (by kernel_rfl) (by kernel_rfl) (e := Extern.MathFloatBits.float64bits) (by kernel_rfl)]
  rfl
theorem float64frombits_run (x : Nat) (w : World) : (callFunc 60 #[.int .u64 (x : Int)]).run Try.prog w = .ok (.value (fl x)) w := by
  rw [run_callFunc_extern Try.func60 (by kernel_rfl) (by kernel_rfl) (by kernel_rfl) (e := Extern.MathFloatBits.float64frombits) (by kernel_rfl)]
  rfl
theorem clear_sign (x : Nat) (hx : x < 2 ^ 64) : bits .andNot .u64 (x : Int) 9223372036854775808 = ((x % 2 ^ 63 : Nat) : Int) := by
  have h := u64_andNot_nat x 9223372036854775808 hx (by omega)
  rw [show (18446744073709551615 - 9223372036854775808 : Nat) = 2 ^ 63 - 1 from rfl, Nat.and_two_pow_sub_one_eq_mod] at h
  exact h
theorem abs_any (x : Nat) (w : World) (hx : x < 2 ^ 64) : Calls Try.prog 20 #[fl x] w fun e w' => e = .returned (fl (x % 2 ^ 63)) ∧ w = w' := by
  have hb := clear_sign x hx
  obtain ⟨y, hy⟩ : ∃ y, y = x % 2 ^ 63 := ⟨_, rfl⟩
  rw [← hy] at hb ⊢
  clear hy hx
  have h1 := float64bits_run x
  have h2 := float64frombits_run y
  go_enter Try.func20, Try.ntmps20
  go_wp2
  go_ret
  exact ⟨rfl, rfl⟩
theorem isInf_any (x : Nat) (w : World) (hx : x < 2 ^ 64) : Calls Try.prog 59 #[fl x, .int .i64 0] w fun e w' => e = .returned (.bool (D.order (x % 2 ^ 63) 9218868437227405311 == some .gt)) ∧ w = w' := by
  obtain ⟨y, hy⟩ : ∃ y, y = x % 2 ^ 63 := ⟨_, rfl⟩
  have ha := fun w => abs_any x w hx
  rw [← hy] at ha ⊢
  clear hx hy
  go_enter Try.func59, Try.ntmps59
  go_wp2_with fail
  refine (ha _).mono ?_
  rintro e w' ⟨rfl, rfl⟩
  go_wp2
  go_ret
  exact ⟨rfl, rfl⟩
theorem num_max : Num 9218868437227405311 (val 9218868437227405311) := ⟨by decide +kernel, rfl⟩
theorem read_mod (x : Nat) : D.read (x % 2 ^ 63) = (match D.read x with | .number _ m e => .number false m e | .infinity _ => .infinity false | .nan _ t => .nan false t) := by
  have h2 : D.signWeight = 2 ^ 63 := by decide
  unfold Ieee.Format.read
  rw [h2]
  simp only [Nat.mod_mod]
  have e1 : (x % 2 ^ 63 / 2 ^ 63 % 2 == 1) = false := by
    rw [Nat.div_eq_of_lt (Nat.mod_lt _ (by decide))]; rfl
  rw [e1]
  generalize x % 2 ^ 63 = r
  split
  · rfl
  · split
    · rfl
    · split <;> rfl
theorem fin_law (x : Nat) : (!(D.order x x != some .eq) && !(D.order (x % 2 ^ 63) 9218868437227405311 == some .gt)) = isFin x := by
  have hr := read_mod x
  cases h : D.read x with
  | nan s t => rw [order_nan h, isFin_nan h]; rfl
  | infinity s =>
    rw [h] at hr
    rw [order_inf hr num_max, isFin_inf h]; simp
  | number s m e =>
    rw [h] at hr
    have hx := num_val (isFin_number h)
    have hy := num_val (isFin_number hr)
    rw [order_spec hx hx, order_spec hy num_max, isFin_number h]
    obtain ⟨h1, h2, h3⟩ := read_bounds h
    have hv : val (x % 2 ^ 63) = (m : Rat) * p2 e := by unfold val; rw [hr]; simp [dval]
    have hm : val 9218868437227405311 = ((2 ^ 53 - 1 : Nat) : Rat) * p2 971 := by decide +kernel
    have hle : val (x % 2 ^ 63) ≤ val 9218868437227405311 := by
      rw [hv, hm]
      refine Rat.le_trans (Rat.mul_le_mul_of_nonneg_left (p2_le h3) Rat.natCast_nonneg) ?_
      refine Rat.mul_le_mul_of_nonneg_right ?_ (Rat.le_of_lt (p2_pos _))
      have : m ≤ 2 ^ 53 - 1 := by omega
      exact Rat.natCast_le_natCast.2 this
    have hlt : ¬ (val x < val x) := by grind
    rw [if_neg hlt, if_pos rfl]
    by_cases h5 : val (x % 2 ^ 63) < val 9218868437227405311
    · rw [if_pos h5]; rfl
    · rw [if_neg h5, if_pos (by grind)]; rfl
theorem gFinite_any (x : Nat) (w : World) (hx : x < 2 ^ 64) : Calls Try.prog 19 #[fl x] w fun e w' => e = .returned (.bool (isFin x)) ∧ w = w' := by
  have H := Lib.hid (fin_law x)
  have hi := fun w => isInf_any x w hx
  have Hi := Lib.hid hi
  clear hi hx
  go_enter Try.func19, Try.ntmps19
  go_wp2_with fail
  refine (isNaN_any _ _).mono ?_
  rintro e w' ⟨rfl, rfl⟩
  by_cases hn : (D.order x x != some .eq) = true
  · go_wp2
    go_ret
    exact ⟨ret_bool (by rw [← H.out]; simp_all), rfl⟩
  · go_wp2_with fail
    refine (Hi.out _).mono ?_
    rintro e w' ⟨rfl, rfl⟩
    go_wp2
    go_ret
    exact ⟨ret_bool (by rw [← H.out]; simp_all), rfl⟩
theorem gfastMax_any (x y : Nat) (w : World) : Calls Try.prog 137 #[fl x, fl y] w fun e w' => e = .returned (fl (if D.order x x != some .eq || D.order x y == some .gt then x else y)) ∧ w = w' := by
  go_enter Try.func137, Try.ntmps137
  go_wp2
  all_goals (go_ret; exact ⟨by simp_all, rfl⟩)
theorem gfastMin_any (x y : Nat) (w : World) : Calls Try.prog 136 #[fl x, fl y] w fun e w' => e = .returned (fl (if D.order x x != some .eq || D.order x y == some .lt then x else y)) ∧ w = w' := by
  go_enter Try.func136, Try.ntmps136
  go_wp2
  all_goals (go_ret; exact ⟨by simp_all, rfl⟩)
theorem toInt_int {x : Nat} {n : Int} (hx : NumI x n) (h1 : -9223372036854775808 ≤ n) (h2 : n ≤ 9223372036854775807) : floatToIntVal .f64 x .i64 = some n := by
  obtain ⟨e, _⟩ := trunc_int hx
  have e' : (FloatKind.f64.decode x).toInt .zero = some n := e
  unfold floatToIntVal; rw [e']
  have l1 : IntKind.i64.min = -9223372036854775808 := by decide
  have l2 : IntKind.i64.max = 9223372036854775807 := by decide
  simp only [l1, l2]
  rw [if_pos ⟨h1, h2⟩]
theorem floatOfInt_int (n : Int) (h : n.natAbs ≤ 2 ^ 53) : NumI (floatOfInt .f64 n) n := floatOfInt_num n h
theorem order_some {x y : Nat} {m n : Int} (hx : NumI x m) (hy : NumI y n) : (D.order x y).isSome = true := by rw [order_int hx hy]; rfl
theorem eq_int {x y : Nat} {n : Int} (hx : NumI x n) (hy : NumI y n) : (D.order x y == some .eq) = true := by rw [num_eq hx hy]; simp

end Go.Proofs.Ytihkmkcjjlmkhaa
