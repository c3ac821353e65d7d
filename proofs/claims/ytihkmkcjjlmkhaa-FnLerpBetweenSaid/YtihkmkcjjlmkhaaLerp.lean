/- geom.lerp: what it returns lies between its two ends. No condition. -/
import Derived.Test.YtihkmkcjjlmkhaaNum
import Derived.Test.YtihkmkcjjlmkhaaRound
namespace Go.Proofs.Ytihkmkcjjlmkhaa
set_option maxRecDepth 100000
open Go.ChangeShapes Go.WideShapes Go.ChangeAt Go.RowKit
open Fl

theorem ord3 {x y : Nat} {p q : Rat} (hx : Num x p) (hy : Num y q) : (D.order x y = some .lt ∧ p < q) ∨ (D.order x y = some .eq ∧ p = q) ∨ (D.order x y = some .gt ∧ q < p) := by
  rw [order_spec hx hy]
  by_cases h : p < q
  · exact .inl ⟨by rw [if_pos h], h⟩
  · by_cases h2 : p = q
    · exact .inr (.inl ⟨by rw [if_neg h, if_pos h2], h2⟩)
    · exact .inr (.inr ⟨by rw [if_neg h, if_neg h2], by grind⟩)
theorem num_one : Num 4607182418800017408 1 := ⟨by decide +kernel, by decide +kernel⟩
theorem num_zeroQ : Num 0 0 := ⟨by decide +kernel, by decide +kernel⟩
/-- The greatest float64. -/
def topQ : Rat := ((2 ^ 53 - 1 : Nat) : Rat) * p2 971
theorem rep_top : Rep topQ := ⟨2 ^ 53 - 1, 971, by unfold topQ; rfl, by decide, by decide, by decide⟩
def e300 : Rat := val 9094988921128908188
theorem e300_top : e300 + e300 ≤ topQ := by decide +kernel
theorem num_e300 : Num 9094988921128908188 e300 := ⟨by decide +kernel, rfl⟩

/-- math.Max and Min of finite numbers: one of the two, and which. -/
def pickW (neg : Bool) (win : Ordering) (a b : Ieee.Datum) (x y : Nat) : Nat :=
  if a == .infinity neg || b == .infinity neg then FloatKind.f64.encode (.infinity neg) else if a.isNaN || b.isNaN then 0x7FF8000000000001
  else if a.isZero && b.isZero then (if a.neg == neg then x else y) else if a.order b == some win then x else y
theorem pickW_fin {x y : Nat} {p q : Rat} (hx : Num x p) (hy : Num y q) (neg : Bool) (win : Ordering) : (pickW neg win (D.read x) (D.read y) x y = x ∧ (p = q ∨ D.order x y = some win)) ∨ (pickW neg win (D.read x) (D.read y) x y = y ∧ (p = q ∨ D.order x y ≠ some win)) := by
  obtain ⟨s, m, e, hr, _⟩ := hx.read
  obtain ⟨t, n, k, hs, _⟩ := hy.read
  have ho : (Ieee.Datum.number s m e).order (.number t n k) = D.order x y := by unfold Ieee.Format.order; rw [hr, hs]
  have hz : (Ieee.Datum.number s m e).isZero = true → (Ieee.Datum.number t n k).isZero = true → p = q := by
    intro h1 h2
    have z1 : m = 0 := by cases m with | zero => rfl | succ m => simp [Ieee.Datum.isZero] at h1
    have z2 : n = 0 := by cases n with | zero => rfl | succ n => simp [Ieee.Datum.isZero] at h2
    rw [← hx.val, ← hy.val]
    unfold val
    rw [hr, hs, z1, z2]
    simp [dval]
  unfold pickW
  rw [hr, hs, ho]
  have i1 : ((Ieee.Datum.number s m e) == (.infinity neg)) = false := rfl
  have i2 : ((Ieee.Datum.number t n k) == (.infinity neg)) = false := rfl
  have i3 : (Ieee.Datum.number s m e).isNaN = false := rfl
  have i4 : (Ieee.Datum.number t n k).isNaN = false := rfl
  rw [i1, i2, i3, i4]
  simp only [Bool.or_self, Bool.false_eq_true, if_false]
  by_cases h1 : ((Ieee.Datum.number s m e).isZero && (Ieee.Datum.number t n k).isZero) = true
  · rw [if_pos h1]
    rw [Bool.and_eq_true] at h1
    have := hz h1.1 h1.2
    split
    · exact .inl ⟨rfl, .inl this⟩
    · exact .inr ⟨rfl, .inl this⟩
  · rw [if_neg h1]
    by_cases h2 : D.order x y = some win
    · rw [h2, if_pos (by simp)]; exact .inl ⟨rfl, .inr rfl⟩
    · rw [if_neg (by simpa using h2)]; exact .inr ⟨rfl, .inr h2⟩
theorem max_any {x y : Nat} {p q : Rat} (hx : Num x p) (hy : Num y q) (w : World) : Calls Try.prog 122 #[fl x, fl y] w fun e w' => ∃ z r, Num z r ∧ p ≤ r ∧ q ≤ r ∧ (r = p ∨ r = q) ∧ e = .returned (fl z) ∧ w = w' := by
  obtain ⟨z, hz⟩ : ∃ z, pickW false .gt (D.read x) (D.read y) x y = z := ⟨_, rfl⟩
  have hrun : ∀ w, (callFunc 131 #[fl x, fl y]).run Try.prog w = .ok (.value (fl z)) w := by
    intro w
    rw [run_callFunc_extern Try.func131 (by kernel_rfl) (by kernel_rfl) (by kernel_rfl) (e := Extern.MathDim.pick "math.archMax" false .gt) (by kernel_rfl), ← hz]
    rfl
  have h := pickW_fin hx hy false .gt
  rw [hz] at h
  have key : ∃ r, Num z r ∧ p ≤ r ∧ q ≤ r ∧ (r = p ∨ r = q) := by
    rcases h with ⟨rfl, h⟩ | ⟨rfl, h⟩
    · refine ⟨p, hx, by grind, ?_, .inl rfl⟩
      rcases h with h | h
      · grind
      · rcases ord3 hx hy with ⟨h3, h4⟩ | ⟨h3, h4⟩ | ⟨h3, h4⟩ <;> grind
    · refine ⟨q, hy, ?_, by grind, .inr rfl⟩
      rcases h with h | h
      · grind
      · rcases ord3 hx hy with ⟨h3, h4⟩ | ⟨h3, h4⟩ | ⟨h3, h4⟩ <;> grind
  clear h hz
  obtain ⟨r, k1, k2, k3, k4⟩ := key
  have H := Lib.hid (And.intro k1 (And.intro k2 (And.intro k3 k4)))
  clear k1 k2 k3 k4 hx hy
  go_enter Try.func122, Try.ntmps122
  go_wp2
  go_ret
  exact ⟨z, r, H.out.1, H.out.2.1, H.out.2.2.1, H.out.2.2.2, rfl, rfl⟩
theorem min_any {x y : Nat} {p q : Rat} (hx : Num x p) (hy : Num y q) (w : World) : Calls Try.prog 123 #[fl x, fl y] w fun e w' => ∃ z r, Num z r ∧ r ≤ p ∧ r ≤ q ∧ (r = p ∨ r = q) ∧ e = .returned (fl z) ∧ w = w' := by
  obtain ⟨z, hz⟩ : ∃ z, pickW true .lt (D.read x) (D.read y) x y = z := ⟨_, rfl⟩
  have hrun : ∀ w, (callFunc 133 #[fl x, fl y]).run Try.prog w = .ok (.value (fl z)) w := by
    intro w
    rw [run_callFunc_extern Try.func133 (by kernel_rfl) (by kernel_rfl) (by kernel_rfl) (e := Extern.MathDim.pick "math.archMin" true .lt) (by kernel_rfl), ← hz]
    rfl
  have h := pickW_fin hx hy true .lt
  rw [hz] at h
  have key : ∃ r, Num z r ∧ r ≤ p ∧ r ≤ q ∧ (r = p ∨ r = q) := by
    rcases h with ⟨rfl, h⟩ | ⟨rfl, h⟩
    · refine ⟨p, hx, by grind, ?_, .inl rfl⟩
      rcases h with h | h
      · grind
      · rcases ord3 hx hy with ⟨h3, h4⟩ | ⟨h3, h4⟩ | ⟨h3, h4⟩ <;> grind
    · refine ⟨q, hy, ?_, by grind, .inr rfl⟩
      rcases h with h | h
      · grind
      · rcases ord3 hx hy with ⟨h3, h4⟩ | ⟨h3, h4⟩ | ⟨h3, h4⟩ <;> grind
  clear h hz
  obtain ⟨r, k1, k2, k3, k4⟩ := key
  have H := Lib.hid (And.intro k1 (And.intro k2 (And.intro k3 k4)))
  clear k1 k2 k3 k4 hx hy
  go_enter Try.func123, Try.ntmps123
  go_wp2
  go_ret
  exact ⟨z, r, H.out.1, H.out.2.1, H.out.2.2.1, H.out.2.2.2, rfl, rfl⟩

/-- What lies between a and b. -/
def Btw (p q r : Rat) : Prop := (p ≤ r ∨ q ≤ r) ∧ (r ≤ p ∨ r ≤ q)
theorem mul_sign {t b q T : Rat} (_ : t = T) (h0 : 0 ≤ T) (h1 : T ≤ 1) (_ : b = q) : (0 ≤ q → 0 ≤ T * q ∧ T * q ≤ q) ∧ (q ≤ 0 → q ≤ T * q ∧ T * q ≤ 0) := by
  constructor
  · intro h
    have := Rat.mul_le_mul_of_nonneg_right h1 h
    rw [Rat.one_mul] at this
    exact ⟨Rat.mul_nonneg h0 h, this⟩
  · intro h
    have h' : 0 ≤ -q := by grind
    have h2 := Rat.mul_le_mul_of_nonneg_right h1 h'
    have h3 := Rat.mul_nonneg h0 h'
    rw [Rat.one_mul, Rat.mul_neg] at h2
    rw [Rat.mul_neg] at h3
    constructor <;> grind
/-- a number of 0 to 1 times another one -/
theorem frac_mul {t x : Nat} {T X : Rat} (ht : Num t T) (hx : Num x X) (h0 : 0 ≤ T) (h1 : T ≤ 1) : ∃ z r, D.mul t x = some z ∧ Num z r ∧ (0 ≤ X → 0 ≤ r ∧ r ≤ X) ∧ (X ≤ 0 → X ≤ r ∧ r ≤ 0) := by
  have k := mul_sign (b := X) rfl h0 h1 rfl
  rcases (Rat.le_total : 0 ≤ X ∨ X ≤ 0) with h | h
  · obtain ⟨z, r, e, hz, l1, l2⟩ := mul_mono ht hx rep_zero hx.rep (k.1 h).1 (k.1 h).2
    exact ⟨z, r, e, hz, fun _ => ⟨l1, l2⟩, fun h' => by grind⟩
  · obtain ⟨z, r, e, hz, l1, l2⟩ := mul_mono ht hx hx.rep rep_zero (k.2 h).1 (k.2 h).2
    exact ⟨z, r, e, hz, fun h' => by grind, fun _ => ⟨l1, l2⟩⟩
theorem mixed_law {a b t : Nat} {A B T : Rat} (ha : Num a A) (hb : Num b B) (ht : Num t T) (h0 : 0 ≤ T) (h1 : T ≤ 1) (hm : (A ≤ 0 ∧ 0 ≤ B) ∨ (0 ≤ A ∧ B ≤ 0)) :
    ∃ m s n x r, D.mul t b = some m ∧ D.sub 4607182418800017408 t = some s ∧ D.mul s a = some n ∧ D.add m n = some x ∧ Num x r ∧ Btw A B r := by
  obtain ⟨m, M, e1, hm1, p1, p2⟩ := frac_mul ht hb h0 h1
  obtain ⟨s, S, e2, hs, q1, q2⟩ := sub_mono num_one ht rep_zero num_one.rep (by grind) (by grind)
  obtain ⟨n, N, e3, hn, r1, r2⟩ := frac_mul hs ha q1 q2
  rcases hm with ⟨g1, g2⟩ | ⟨g1, g2⟩
  · have := p1 g2
    have := r2 g1
    obtain ⟨x, r, e4, hx, l1, l2⟩ := add_mono hm1 hn ha.rep hb.rep (by grind) (by grind)
    exact ⟨m, s, n, x, r, e1, e2, e3, e4, hx, .inl l1, .inr l2⟩
  · have := p2 g2
    have := r1 g1
    obtain ⟨x, r, e4, hx, l1, l2⟩ := add_mono hm1 hn hb.rep ha.rep (by grind) (by grind)
    exact ⟨m, s, n, x, r, e1, e2, e3, e4, hx, .inr l1, .inl l2⟩
theorem same_law {a b t : Nat} {A B T : Rat} (ha : Num a A) (hb : Num b B) (ht : Num t T) (h0 : 0 ≤ T) (h1 : T ≤ 1) (hm : (A < 0 ∧ B < 0) ∨ (0 < A ∧ 0 < B)) (bA : A ≤ e300 ∧ -e300 ≤ A) (bB : B ≤ e300 ∧ -e300 ≤ B) :
    ∃ s m x r, D.sub b a = some s ∧ D.mul t s = some m ∧ D.add a m = some x ∧ Num x r ∧ (A < B → A ≤ r) ∧ (B ≤ A → r ≤ A) := by
  have hE := num_e300.rep
  have hE' := hE.neg
  have hT := e300_top
  have hE0 : 0 ≤ e300 := by decide +kernel
  by_cases h : A < B
  · obtain ⟨s, S, e1, hs, l1, l2⟩ := sub_mono hb ha rep_zero hE (by grind) (by grind)
    obtain ⟨m, M, e2, hm1, p1, _⟩ := frac_mul ht hs h0 h1
    have p1 := p1 l1
    obtain ⟨x, r, e3, hx, q1, q2⟩ := add_mono ha hm1 ha.rep rep_top (by grind) (by grind)
    exact ⟨s, m, x, r, e1, e2, e3, hx, fun _ => q1, fun h' => by grind⟩
  · obtain ⟨s, S, e1, hs, l1, l2⟩ := sub_mono hb ha hE' rep_zero (by grind) (by grind)
    obtain ⟨m, M, e2, hm1, _, p1⟩ := frac_mul ht hs h0 h1
    have p1 := p1 l2
    obtain ⟨x, r, e3, hx, q1, q2⟩ := add_mono ha hm1 rep_top.neg ha.rep (by grind) (by grind)
    exact ⟨s, m, x, r, e1, e2, e3, hx, fun h' => absurd h' h, fun _ => q2⟩

def mixedB (o1 o2 : Ordering) : Bool := (o1 != .gt && o2 != .lt) || (o1 != .lt && o2 != .gt)
theorem lerp_mixed {a b t m s n x : Nat} {o1 o2 : Ordering} (h1 : D.order a 0 = some o1) (h2 : D.order b 0 = some o2) (hm : mixedB o1 o2 = true) (e1 : D.mul t b = some m) (e2 : D.sub 4607182418800017408 t = some s) (e3 : D.mul s a = some n) (e4 : D.add m n = some x) (w : World) :
    Calls Try.prog 95 #[fl a, fl b, fl t] w fun e w' => e = .returned (fl x) ∧ w = w' := by
  have k_e1 := fun (W : World) => run_float_arith (P := Try.prog) W .mul 36 .f64 _ _ _ e1
  have k_e2 := fun (W : World) => run_float_arith (P := Try.prog) W .sub 36 .f64 _ _ _ e2
  have k_e3 := fun (W : World) => run_float_arith (P := Try.prog) W .mul 36 .f64 _ _ _ e3
  have k_e4 := fun (W : World) => run_float_arith (P := Try.prog) W .add 36 .f64 _ _ _ e4
  clear e1 e2 e3 e4
  cases o1 <;> cases o2 <;> try (cases hm; done)
  all_goals
    clear hm
    go_enter Try.func95, Try.ntmps95
    go_wp2
    go_ret
    exact ⟨rfl, rfl⟩
theorem lerp_one {a b t : Nat} {o1 o2 : Ordering} (h1 : D.order a 0 = some o1) (h2 : D.order b 0 = some o2) (hm : mixedB o1 o2 = false) (h3 : D.order t 4607182418800017408 = some .eq) (w : World) :
    Calls Try.prog 95 #[fl a, fl b, fl t] w fun e w' => e = .returned (fl b) ∧ w = w' := by
  cases o1 <;> cases o2 <;> try (cases hm; done)
  all_goals
    clear hm
    go_enter Try.func95, Try.ntmps95
    go_wp2
    go_ret
    exact ⟨rfl, rfl⟩
theorem lerp_same {a b t s m x : Nat} {o1 o2 o4 : Ordering} {B X : Rat} (h1 : D.order a 0 = some o1) (h2 : D.order b 0 = some o2) (hm : mixedB o1 o2 = false) (h3 : D.order t 4607182418800017408 = some .lt) (h4 : D.order b a = some o4) (e1 : D.sub b a = some s) (e2 : D.mul t s = some m) (e3 : D.add a m = some x) (hb : Num b B) (hx : Num x X) (w : World) :
    Calls Try.prog 95 #[fl a, fl b, fl t] w fun e w' => ∃ z r, e = .returned (fl z) ∧ Num z r ∧ (r = B ∨ r = X) ∧ (o4 = .gt → r ≤ B) ∧ (o4 ≠ .gt → B ≤ r) ∧ w = w' := by
  have k_e1 := fun (W : World) => run_float_arith (P := Try.prog) W .sub 36 .f64 _ _ _ e1
  have k_e2 := fun (W : World) => run_float_arith (P := Try.prog) W .mul 36 .f64 _ _ _ e2
  have k_e3 := fun (W : World) => run_float_arith (P := Try.prog) W .add 36 .f64 _ _ _ e3
  clear e1 e2 e3
  have HB := Lib.hid hb
  have HX := Lib.hid hx
  clear hb hx
  cases o1 <;> cases o2 <;> try (cases hm; done)
  all_goals
    clear hm
    cases o4
    · go_enter Try.func95, Try.ntmps95
      go_wp2_with fail
      refine (max_any HB.out HX.out _).mono ?_
      rintro e w1 ⟨z, r, q1, q2, q3, q4, rfl, rfl⟩
      have Q := Lib.hid (And.intro q1 (And.intro q2 (And.intro q3 q4)))
      clear q1 q2 q3 q4
      go_wp2
      go_ret
      exact ⟨z, r, rfl, Q.out.1, Q.out.2.2.2, nofun, fun _ => Q.out.2.1, rfl⟩
    · go_enter Try.func95, Try.ntmps95
      go_wp2_with fail
      refine (max_any HB.out HX.out _).mono ?_
      rintro e w1 ⟨z, r, q1, q2, q3, q4, rfl, rfl⟩
      have Q := Lib.hid (And.intro q1 (And.intro q2 (And.intro q3 q4)))
      clear q1 q2 q3 q4
      go_wp2
      go_ret
      exact ⟨z, r, rfl, Q.out.1, Q.out.2.2.2, nofun, fun _ => Q.out.2.1, rfl⟩
    · go_enter Try.func95, Try.ntmps95
      go_wp2_with fail
      refine (min_any HB.out HX.out _).mono ?_
      rintro e w1 ⟨z, r, q1, q2, q3, q4, rfl, rfl⟩
      have Q := Lib.hid (And.intro q1 (And.intro q2 (And.intro q3 q4)))
      clear q1 q2 q3 q4
      go_wp2
      go_ret
      exact ⟨z, r, rfl, Q.out.1, Q.out.2.2.2, fun _ => Q.out.2.1, fun h => absurd rfl h, rfl⟩
theorem lerp_any {a b t : Nat} {A B T : Rat} (ha : Num a A) (hb : Num b B) (ht : Num t T) (h0 : 0 ≤ T) (h1 : T ≤ 1) (bA : A ≤ e300 ∧ -e300 ≤ A) (bB : B ≤ e300 ∧ -e300 ≤ B) (w : World) :
    Calls Try.prog 95 #[fl a, fl b, fl t] w fun e w' => ∃ z r, e = .returned (fl z) ∧ Num z r ∧ Btw A B r ∧ w = w' := by
  obtain ⟨o1, h1o, h1'⟩ : ∃ o, D.order a 0 = some o ∧ (o ≠ .gt → A ≤ 0) ∧ (o ≠ .lt → 0 ≤ A) ∧ (o = .lt → A < 0) ∧ (o = .gt → 0 < A) := by
    rcases ord3 ha num_zeroQ with ⟨e, h⟩ | ⟨e, h⟩ | ⟨e, h⟩ <;> refine ⟨_, e, ?_⟩ <;> simp <;> grind
  obtain ⟨o2, h2o, h2'⟩ : ∃ o, D.order b 0 = some o ∧ (o ≠ .gt → B ≤ 0) ∧ (o ≠ .lt → 0 ≤ B) ∧ (o = .lt → B < 0) ∧ (o = .gt → 0 < B) := by
    rcases ord3 hb num_zeroQ with ⟨e, h⟩ | ⟨e, h⟩ | ⟨e, h⟩ <;> refine ⟨_, e, ?_⟩ <;> simp <;> grind
  cases hmx : mixedB o1 o2
  · have hs : (A < 0 ∧ B < 0) ∨ (0 < A ∧ 0 < B) := by
      cases o1 <;> cases o2 <;> first | (cases hmx; done) | (simp at h1' h2'; grind)
    rcases ord3 ht num_one with ⟨e, h⟩ | ⟨e, h⟩ | ⟨e, h⟩
    · obtain ⟨s, m, x, r, e1, e2, e3, hx, l1, l2⟩ := same_law ha hb ht h0 h1 hs bA bB
      obtain ⟨o4, e4, h4⟩ : ∃ o, D.order b a = some o ∧ (o = .gt → A < B) ∧ (o ≠ .gt → B ≤ A) := by
        rcases ord3 hb ha with ⟨e, h⟩ | ⟨e, h⟩ | ⟨e, h⟩ <;> refine ⟨_, e, ?_⟩ <;> simp <;> grind
      refine (lerp_same h1o h2o hmx e e4 e1 e2 e3 hb hx w).mono ?_
      rintro ee w1 ⟨z, r', e5, hz, q1, q2, q3, rfl⟩
      refine ⟨z, r', e5, hz, ?_, rfl⟩
      by_cases h : o4 = .gt
      · have := q2 h
        have := l1 (h4.1 h)
        have := h4.1 h
        exact ⟨.inl (by grind), .inr (by grind)⟩
      · have := q3 h
        have := l2 (h4.2 h)
        have := h4.2 h
        exact ⟨.inr (by grind), .inl (by grind)⟩
    · refine (lerp_one h1o h2o hmx e w).mono ?_
      rintro ee w1 ⟨e5, rfl⟩
      exact ⟨b, B, e5, hb, ⟨.inr (by grind), .inr (by grind)⟩, rfl⟩
    · exact absurd h1 (by grind)
  · have hs : (A ≤ 0 ∧ 0 ≤ B) ∨ (0 ≤ A ∧ B ≤ 0) := by
      cases o1 <;> cases o2 <;> first | (cases hmx; done) | (simp at h1' h2'; grind)
    obtain ⟨m, s, n, x, r, e1, e2, e3, e4, hx, hr⟩ := mixed_law ha hb ht h0 h1 hs
    refine (lerp_mixed h1o h2o hmx e1 e2 e3 e4 w).mono ?_
    rintro ee w1 ⟨e5, rfl⟩
    exact ⟨x, r, e5, hx, hr, rfl⟩
theorem doorLerp_any {a b t : Nat} {A B T : Rat} (ha : Num a A) (hb : Num b B) (ht : Num t T) (h0 : 0 ≤ T) (h1 : T ≤ 1) (bA : A ≤ e300 ∧ -e300 ≤ A) (bB : B ≤ e300 ∧ -e300 ≤ B) (w : World) :
    Calls Try.prog 62 #[fl a, fl b, fl t] w fun e w' => ∃ z r, e = .returned (fl z) ∧ Num z r ∧ Btw A B r ∧ w = w' := by
  have H := Lib.hid (fun w => lerp_any ha hb ht h0 h1 bA bB w)
  clear ha hb ht h0 h1 bA bB
  go_enter Try.func62, Try.ntmps62
  go_wp2_with fail
  refine (H.out _).mono ?_
  rintro e w1 ⟨z, r, rfl, hz, hr, rfl⟩
  have Q := Lib.hid (And.intro hz hr)
  clear hz hr
  go_wp2
  go_ret
  exact ⟨z, r, rfl, Q.out.1, Q.out.2, rfl⟩
theorem implLerp_any {a b t : Nat} {A B T : Rat} (ha : Num a A) (hb : Num b B) (ht : Num t T) (h0 : 0 ≤ T) (h1 : T ≤ 1) (bA : A ≤ e300 ∧ -e300 ≤ A) (bB : B ≤ e300 ∧ -e300 ≤ B) (w : World) :
    Calls Try.prog 21 #[fl a, fl b, fl t] w fun e w' => ∃ z r, e = .returned (fl z) ∧ Num z r ∧ Btw A B r ∧ w = w' := by
  have H := Lib.hid (fun w => doorLerp_any ha hb ht h0 h1 bA bB w)
  clear ha hb ht h0 h1 bA bB
  go_enter Try.func21, Try.ntmps21
  go_wp2_with fail
  refine (H.out _).mono ?_
  rintro e w1 ⟨z, r, rfl, hz, hr, rfl⟩
  have Q := Lib.hid (And.intro hz hr)
  clear hz hr
  go_wp2
  go_ret
  exact ⟨z, r, rfl, Q.out.1, Q.out.2, rfl⟩
end Go.Proofs.Ytihkmkcjjlmkhaa
