/- FnLerpBetween holds of every three numbers: what stands between two finite ones from -10^300 to 10^300, at 0 to 1, is not below or above both. No condition. -/
import Derived.Test.YtihkmkcjjlmkhaaLerp
import Derived.Test.YtihkmkcjjlmkhaaFrame
namespace Go.Proofs.Ytihkmkcjjlmkhaa
set_option maxRecDepth 100000
open Go.ChangeShapes Go.WideShapes Go.ChangeAt Go.RowKit
open Fl

theorem min_run {x y : Nat} {p q : Rat} (hx : Num x p) (hy : Num y q) : ∃ z r, Num z r ∧ r ≤ p ∧ r ≤ q ∧ ∀ ts t w, (Builtin.min_ ts t #[fl x, fl y]).run Try.prog w = .ok (fl z) w := by
  have ho : FloatKind.f64.format.order x y = D.order x y := rfl
  rcases ord3 hx hy with ⟨h, h'⟩ | ⟨h, h'⟩ | ⟨h, h'⟩
  · exact ⟨x, p, hx, by grind, by grind, fun ts t w => by simp [Builtin.min_, Builtin.min2, ho, h]⟩
  · cases hn : (FloatKind.f64.decode x).neg
    · exact ⟨y, q, hy, by grind, by grind, fun ts t w => by simp [Builtin.min_, Builtin.min2, ho, h, hn]⟩
    · exact ⟨x, p, hx, by grind, by grind, fun ts t w => by simp [Builtin.min_, Builtin.min2, ho, h, hn]⟩
  · exact ⟨y, q, hy, by grind, by grind, fun ts t w => by simp [Builtin.min_, Builtin.min2, ho, h]⟩
theorem max_run {x y : Nat} {p q : Rat} (hx : Num x p) (hy : Num y q) : ∃ z r, Num z r ∧ p ≤ r ∧ q ≤ r ∧ ∀ ts t w, (Builtin.max_ ts t #[fl x, fl y]).run Try.prog w = .ok (fl z) w := by
  have ho : FloatKind.f64.format.order x y = D.order x y := rfl
  rcases ord3 hx hy with ⟨h, h'⟩ | ⟨h, h'⟩ | ⟨h, h'⟩
  · exact ⟨y, q, hy, by grind, by grind, fun ts t w => by simp [Builtin.max_, Builtin.max2, ho, h]⟩
  · cases hn : (FloatKind.f64.decode x).neg
    · exact ⟨x, p, hx, by grind, by grind, fun ts t w => by simp [Builtin.max_, Builtin.max2, ho, h, hn]⟩
    · exact ⟨y, q, hy, by grind, by grind, fun ts t w => by simp [Builtin.max_, Builtin.max2, ho, h, hn]⟩
  · exact ⟨x, p, hx, by grind, by grind, fun ts t w => by simp [Builtin.max_, Builtin.max2, ho, h]⟩
theorem ge_true {x y : Nat} {p q : Rat} (hx : Num x p) (hy : Num y q) (h : q ≤ p) : (D.order x y == some .gt || D.order x y == some .eq) = true := by
  rcases ord3 hx hy with ⟨e, h'⟩ | ⟨e, _⟩ | ⟨e, _⟩
  · exact absurd h (by grind)
  · rw [e]; rfl
  · rw [e]; rfl
theorem le_true {x y : Nat} {p q : Rat} (hx : Num x p) (hy : Num y q) (h : p ≤ q) : (D.order x y == some .lt || D.order x y == some .eq) = true := by
  rcases ord3 hx hy with ⟨e, _⟩ | ⟨e, _⟩ | ⟨e, h'⟩
  · rw [e]; rfl
  · rw [e]; rfl
  · exact absurd h (by grind)

def smallF (x : Nat) : Bool := !(D.order (x % 2 ^ 63) 9094988921128908188 == some .gt)
def unitF (t : Nat) : Bool := (D.order t 0 == some .gt || D.order t 0 == some .eq) && (D.order t 4607182418800017408 == some .lt || D.order t 4607182418800017408 == some .eq)
theorem smallF_law {x : Nat} (hf : isFin x = true) (h : smallF x = true) : val x ≤ e300 ∧ -e300 ≤ val x := by
  have hx := num_val hf
  obtain ⟨s, m, e, hr, hv⟩ := hx.read
  have hm := read_mod x
  rw [hr] at hm
  have hy := num_val (isFin_number hm)
  have e1 : val (x % 2 ^ 63) = m * p2 e := by unfold val; rw [hm]; simp [dval]
  have h0 : 0 ≤ (m : Rat) * p2 e := Rat.mul_nonneg Rat.natCast_nonneg (Rat.le_of_lt (p2_pos _))
  have h2 : val (x % 2 ^ 63) ≤ e300 := by
    rcases ord3 hy num_e300 with ⟨_, h'⟩ | ⟨_, h'⟩ | ⟨e, _⟩
    · grind
    · grind
    · unfold smallF at h; rw [e] at h; simp at h
  rw [e1] at h2
  cases s
  · simp at hv; grind
  · simp at hv; grind
theorem unitF_law {t : Nat} (h : unitF t = true) : ∃ T, Num t T ∧ 0 ≤ T ∧ T ≤ 1 := by
  unfold unitF at h
  simp only [Bool.and_eq_true] at h
  cases hr : D.read t with
  | nan s k => rw [order_nan hr] at h; simp at h
  | infinity s => rw [order_inf hr num_zeroQ, order_inf hr num_one] at h; cases s <;> simp at h
  | number s m e =>
    have ht := num_val (isFin_number hr)
    refine ⟨val t, ht, ?_, ?_⟩
    · rcases ord3 ht num_zeroQ with ⟨e, h'⟩ | ⟨e, h'⟩ | ⟨e, h'⟩
      · rw [e] at h; simp at h
      · grind
      · grind
    · rcases ord3 ht num_one with ⟨e, h'⟩ | ⟨e, h'⟩ | ⟨e, h'⟩
      · grind
      · grind
      · rw [e] at h; simp at h

theorem lerpBetween_unfit (a b t : Nat) (w : World) (la : a < 2 ^ 64) (lb : b < 2 ^ 64) (h : (isFin a && isFin b && smallF a && smallF b && unitF t) = false) :
    Calls Try.prog 5 #[fl a, fl b, fl t] w fun e w' => e = .returned (.bool true) ∧ Below w.heap.size w w' := by
  have H := Lib.hid h
  have LA := Lib.hid la
  have LB := Lib.hid lb
  clear h la lb
  go_enter Try.func5, Try.ntmps5
  go_wp2_with (first | (go_at_call 19; (with_reducible refine (Calls.below_same (gFinite_any _ _ LA.out)).mono ?_); rintro e w1 ⟨rfl, hb⟩; (first | (obtain ⟨x1, rfl⟩ := LaterW.of2 hb) | (obtain ⟨x1, rfl⟩ := LaterW.of hb)); clear hb) | (go_at_call 19; (with_reducible refine (Calls.below_same (gFinite_any _ _ LB.out)).mono ?_); rintro e w1 ⟨rfl, hb⟩; (first | (obtain ⟨x1, rfl⟩ := LaterW.of2 hb) | (obtain ⟨x1, rfl⟩ := LaterW.of hb)); clear hb) | (go_at_call 20; (with_reducible refine (Calls.below_same (abs_any _ _ LA.out)).mono ?_); rintro e w1 ⟨rfl, hb⟩; (first | (obtain ⟨x1, rfl⟩ := LaterW.of2 hb) | (obtain ⟨x1, rfl⟩ := LaterW.of hb)); clear hb) | (go_at_call 20; (with_reducible refine (Calls.below_same (abs_any _ _ LB.out)).mono ?_); rintro e w1 ⟨rfl, hb⟩; (first | (obtain ⟨x1, rfl⟩ := LaterW.of2 hb) | (obtain ⟨x1, rfl⟩ := LaterW.of hb)); clear hb))
  all_goals first
    | (go_ret
       exact ⟨rfl, (by repeat (first | with_reducible exact Below.refl _ _ | with_reducible exact HBEL.out | with_reducible assumption | with_reducible refine Below.setCell ?_ (by first | (dsimp only; omega) | (simp; try omega)) _ | with_reducible refine LaterW.below _ ?_ | with_reducible refine below_alloc ?_ _ | with_reducible refine below_drewN' ?_ _ | with_reducible refine Below.drew ?_ | with_reducible exact below_drewN _))⟩)
    | (exfalso
       have := H.out
       simp_all [smallF, unitF]
       done)
set_option maxHeartbeats 400000 in
theorem lerpBetween_walk (a b t : Nat) (w : World) (la : a < 2 ^ 64) (lb : b < 2 ^ 64) (h : (isFin a && isFin b && smallF a && smallF b && unitF t) = true) :
    Calls Try.prog 5 #[fl a, fl b, fl t] w fun e w' => e = .returned (.bool true) ∧ Below w.heap.size w w' := by
  have LA := Lib.hid la
  have LB := Lib.hid lb
  simp only [Bool.and_eq_true] at h
  obtain ⟨⟨⟨⟨f1, f2⟩, f3⟩, f4⟩, f5⟩ := h
  obtain ⟨T, ht, h0, h1⟩ := unitF_law f5
  have HL := Lib.hid (fun w => implLerp_any (num_val f1) (num_val f2) ht h0 h1 (smallF_law f1 f3) (smallF_law f2 f4) w)
  obtain ⟨mn, M, hmn, q1, q2, kmn⟩ := min_run (num_val f1) (num_val f2)
  obtain ⟨mx, X, hmx, r1, r2, kmx⟩ := max_run (num_val f1) (num_val f2)
  have HQ := Lib.hid (And.intro hmn (And.intro hmx (And.intro q1 (And.intro q2 (And.intro r1 r2)))))
  clear hmn hmx q1 q2 r1 r2 ht h0 h1 la lb
  have c1 : (D.order (a % 2 ^ 63) 9094988921128908188 == some .gt) = false := by simpa [smallF] using f3
  have c2 : (D.order (b % 2 ^ 63) 9094988921128908188 == some .gt) = false := by simpa [smallF] using f4
  obtain ⟨c3, c4⟩ : (D.order t 0 == some .gt || D.order t 0 == some .eq) = true ∧ (D.order t 4607182418800017408 == some .lt || D.order t 4607182418800017408 == some .eq) = true := by simpa [unitF] using f5
  clear f3 f4 f5
  go_enter Try.func5, Try.ntmps5
  go_wp2_with (first | (go_at_call 19; (with_reducible refine (Calls.below_same (gFinite_any _ _ LA.out)).mono ?_); rintro e w1 ⟨rfl, hb⟩; (first | (obtain ⟨x1, rfl⟩ := LaterW.of2 hb) | (obtain ⟨x1, rfl⟩ := LaterW.of hb)); clear hb) | (go_at_call 19; (with_reducible refine (Calls.below_same (gFinite_any _ _ LB.out)).mono ?_); rintro e w1 ⟨rfl, hb⟩; (first | (obtain ⟨x1, rfl⟩ := LaterW.of2 hb) | (obtain ⟨x1, rfl⟩ := LaterW.of hb)); clear hb) | (go_at_call 20; (with_reducible refine (Calls.below_same (abs_any _ _ LA.out)).mono ?_); rintro e w1 ⟨rfl, hb⟩; (first | (obtain ⟨x1, rfl⟩ := LaterW.of2 hb) | (obtain ⟨x1, rfl⟩ := LaterW.of hb)); clear hb) | (go_at_call 20; (with_reducible refine (Calls.below_same (abs_any _ _ LB.out)).mono ?_); rintro e w1 ⟨rfl, hb⟩; (first | (obtain ⟨x1, rfl⟩ := LaterW.of2 hb) | (obtain ⟨x1, rfl⟩ := LaterW.of hb)); clear hb))
  refine (HL.out _).mono ?_
  rintro e w1 ⟨z, R, rfl, hz, hr, rfl⟩
  obtain ⟨hmn, hmx, q1, q2, r1, r2⟩ := HQ.out
  have d1 := ge_true hz hmn (by rcases hr.1 with h | h <;> grind)
  have d2 := le_true hz hmx (by rcases hr.2 with h | h <;> grind)
  clear hz hr hmn hmx q1 q2 r1 r2 HQ HL
  go_wp2_with fail
  go_ret
  exact ⟨rfl, (by repeat (first | with_reducible exact Below.refl _ _ | with_reducible exact HBEL.out | with_reducible assumption | with_reducible refine Below.setCell ?_ (by first | (dsimp only; omega) | (simp; try omega)) _ | with_reducible refine LaterW.below _ ?_ | with_reducible refine below_alloc ?_ _ | with_reducible refine below_drewN' ?_ _ | with_reducible refine Below.drew ?_ | with_reducible exact below_drewN _))⟩
theorem open_float {w : World} {r : Reach} {base : Nat} {v : Value} (h : Value.okWide Try.prog w r base 36 v) : ∃ a, v = fl a ∧ a < 2 ^ 64 := by
  simp only [Value.okWide, Try.underlying36] at h
  exact cell_float Try.underlying36 h

set_option maxRecDepth 100000 in
theorem fnLerpBetween_lifted (os : Os) (started : os.Started) (H : Type) (enc : TypeId × Value → H) :
    ReturnsInHanded {} Try.checked os 5 .any (Rows.fnLerpBetweenSpec.pre6 enc Try.prog Try.f5 Rows.fnLerpBetweenRow.domain false) (Rows.fnLerpBetweenSpec.post enc Try.prog Try.f5 false true false false) := by
  refine returnsInHanded_of_change (C := Try.checked) own started (by kernel_rfl) Try.func5
    (ChangeSpec.witness6 (enc := enc) (C := Try.checked) false ⟨#[], #[fl 0, fl 0, fl 0], []⟩ 8 (by kernel_rfl) (by kernel_rfl) (by kernel_rfl) (by kernel_rfl)) ?_
  intro W base args ds gs before hval0 hW _ _
  have hval : ∀ (j : Nat) t v, Try.f5.params[j]? = some t → args[j]? = some v → Value.okWide Try.prog W .any base t v := hval0
  have hW' := hW
  obtain ⟨p, q, hA0, hV, rfl, _, _⟩ := hW
  have hA : DataW.TrodAll enc Try.prog W 0 (fun _ => true) true Try.f5.params.toList args.toList ds p := hA0
  rw [Try.params5] at hA hval
  obtain ⟨v0, vs0, d0, ds0, p0, q0, hargs, rfl, rfl, h0, r0⟩ := trodAll_cons hA
  obtain ⟨v1, vs1, d1, ds1, p1, q1, rfl, rfl, rfl, h1, r1⟩ := trodAll_cons r0
  obtain ⟨v2, vs2, d2, ds2, p2, q2, rfl, rfl, rfl, h2, r2⟩ := trodAll_cons r1
  obtain ⟨rfl, rfl, rfl⟩ := trodAll_nil r2
  obtain rfl : args = #[v0, v1, v2] := by cases args; simp_all
  obtain ⟨rfl, rfl⟩ := trodVars_none hV
  have lt0 : ∀ x ∈ p0, x.block < W.heap.size := by obtain ⟨m, hm⟩ := h0; exact DataW.trod_lt m _ _ _ hm
  have ok0 := hval 0 36 v0 rfl rfl
  have lt1 : ∀ x ∈ p1, x.block < W.heap.size := by obtain ⟨m, hm⟩ := h1; exact DataW.trod_lt m _ _ _ hm
  have ok1 := hval 1 36 v1 rfl rfl
  have lt2 : ∀ x ∈ p2, x.block < W.heap.size := by obtain ⟨m, hm⟩ := h2; exact DataW.trod_lt m _ _ _ hm
  have ok2 := hval 2 36 v2 rfl rfl
  clear hA0 hval0
  obtain ⟨a, rfl, la⟩ := open_float ok0
  obtain ⟨b, rfl, lb⟩ := open_float ok1
  obtain ⟨t, rfl, _⟩ := open_float ok2
  have key : Calls Try.prog 5 #[fl a, fl b, fl t] W fun e w' => e = .returned (.bool true) ∧ Below W.heap.size W w' := by
    cases h : (isFin a && isFin b && smallF a && smallF b && unitF t)
    · exact lerpBetween_unfit a b t W la lb h
    · exact lerpBetween_walk a b t W la lb h
  refine key.mono fun e W' ⟨he, bel⟩ => ?_
  subst he
  exact ⟨_, rfl, _, _, _, [], _, [], hW', trodAll_mk1 (shut_bool Try.underlying4 _), (trodAll_cons_mk (Below.trod laidOut (by kernel_rfl) (of_decide_eq_true (by kernel_rfl)) h0 bel lt0) (trodAll_cons_mk (Below.trod laidOut (by kernel_rfl) (of_decide_eq_true (by kernel_rfl)) h1 bel lt1) (trodAll_cons_mk (Below.trod laidOut (by kernel_rfl) (of_decide_eq_true (by kernel_rfl)) h2 bel lt2) trodAll_mk0))), rfl, bel.frame _, fun h => by cases h⟩
theorem fnLerpBetween_proved : Rows.FnLerpBetweenSaid :=
  OpenClaim.holds_of_wide 5 Try.f5 rfl rfl rfl rfl rfl rfl rfl ⟨rfl, rfl, rfl, rfl, rfl⟩ rfl rfl rfl rfl rfl (by kernel_rfl) Try.func5 (by kernel_rfl)
    (of_decide_eq_true (by kernel_rfl)) (by unfold Func.isWrapper; first | (rw [if_pos (by decide +kernel)]; kernel_rfl) | (rw [if_neg (by decide +kernel)]; exact ⟨rfl, rfl⟩))
    (fun os started H enc _ => fnLerpBetween_lifted os started H enc)
#print axioms fnLerpBetween_proved
end Go.Proofs.Ytihkmkcjjlmkhaa
