/- Rounding of float64 keeps order: a result stays between any two float64 numbers that the exact result is between. No condition. -/
import Derived.Test.YtihkmkcjjlmkhaaFloat
namespace Go.Proofs.Ytihkmkcjjlmkhaa.Fl
open Ieee

theorem cut_floor (neg : Bool) (n d : Nat) : Toward.even.cut neg n d = n / 2 ^ d ∨ Toward.even.cut neg n d = n / 2 ^ d + 1 := by
  rcases Nat.le_total d (n.log2 + 2) with h | h
  · unfold Toward.cut
    rw [Nat.min_eq_left h, Nat.shiftLeft_eq, Nat.one_mul]
    simp only
    generalize (decide (2 ^ d < 2 * (n % 2 ^ d)) || (2 ^ d == 2 * (n % 2 ^ d) && n / 2 ^ d % 2 == 1)) = b
    cases b
    · left; rfl
    · right; rfl
  · have hn : n < 2 ^ (n.log2 + 1) := Nat.lt_log2_self
    have h1 : n < 2 ^ d := Nat.lt_of_lt_of_le hn (Nat.pow_le_pow_right (by decide) (by omega))
    have e2 : 2 ^ (n.log2 + 2) = 2 * 2 ^ (n.log2 + 1) := by rw [Nat.pow_succ, Nat.pow_succ]; omega
    left
    unfold Toward.cut
    rw [Nat.min_eq_right h, Nat.shiftLeft_eq, Nat.one_mul, Nat.div_eq_of_lt h1, e2]
    have l1 : n < 2 * 2 ^ (n.log2 + 1) := by omega
    simp only [Nat.div_eq_of_lt l1, Nat.mod_eq_of_lt l1]
    have c1 : ¬ (2 * 2 ^ (n.log2 + 1) < 2 * n) := by omega
    simp [c1]
theorem cut_low {neg : Bool} {n d A : Nat} (h : A * 2 ^ d ≤ n) : A ≤ Toward.even.cut neg n d := by
  have : A ≤ n / 2 ^ d := (Nat.le_div_iff_mul_le (Nat.two_pow_pos d)).2 h
  rcases cut_floor neg n d with e | e <;> omega
theorem cut_high {neg : Bool} {n d A : Nat} (h : n ≤ A * 2 ^ d) : Toward.even.cut neg n d ≤ A := by
  rcases Nat.lt_or_ge (n / 2 ^ d) A with h1 | h1
  · rcases cut_floor neg n d with e | e <;> omega
  · have h2 : A * 2 ^ d ≤ n := (Nat.le_div_iff_mul_le (Nat.two_pow_pos d)).1 h1
    obtain rfl : n = A * 2 ^ d := by omega
    rcases Nat.eq_zero_or_pos A with rfl | h0
    · rw [Nat.zero_mul]
      rcases cut_floor neg 0 d with e | e
      · rw [e]; simp
      · exfalso
        unfold Toward.cut at e
        simp at e
    · rw [cut_exact neg A d h0]; exact Nat.le_refl _

theorem nearest_mono (neg : Bool) (mag : Nat) (place : Int) (hm : mag ≠ 0) (H : Nat) (kh : Int) (hH : H < 2 ^ 53) (hk : kh ≤ 971) (hle : (mag : Rat) * p2 place ≤ H * p2 kh) :
    ∃ N e, D.read (D.nearest neg mag place) = .number neg N e ∧ (∀ (L : Nat) kl, L < 2 ^ 53 → -1074 ≤ kl → (L : Rat) * p2 kl ≤ mag * p2 place → (L : Rat) * p2 kl ≤ N * p2 e) ∧ (∀ (U : Nat) ku, U < 2 ^ 53 → -1074 ≤ ku → (mag : Rat) * p2 place ≤ U * p2 ku → (N : Rat) * p2 e ≤ U * p2 ku) := by
  have hL1 : 2 ^ mag.log2 ≤ mag := Nat.log2_self_le hm
  have hL2 : mag < 2 ^ (mag.log2 + 1) := Nat.lt_log2_self
  have f1 : p2 (mag.log2 + place) ≤ mag * p2 place := by
    rw [p2_add, p2_nat]
    exact Rat.mul_le_mul_of_nonneg_right (by exact_mod_cast hL1) (Rat.le_of_lt (p2_pos _))
  have f2 : mag * p2 place < p2 ((mag.log2 : Int) + 1 + place) := by
    rw [p2_add, show ((mag.log2 : Int) + 1) = ((mag.log2 + 1 : Nat) : Int) by omega, p2_nat]
    exact Rat.mul_lt_mul_of_pos_right (by exact_mod_cast hL2) (p2_pos _)
  have small : ∀ (M : Nat) (k : Int), M < 2 ^ 53 → (M : Rat) * p2 k < p2 (53 + k) := by
    intro M k hM
    rw [p2_add, show (53 : Int) = ((53 : Nat) : Int) from rfl, p2_nat]
    exact Rat.mul_lt_mul_of_pos_right (by exact_mod_cast hM) (p2_pos _)
  have g1 : (mag.log2 : Int) + place < 53 + kh := p2_lt_iff.1 (Std.lt_of_le_of_lt f1 (Std.lt_of_le_of_lt hle (small H kh hH)))
  generalize hlast : max (place + mag.log2 - 52) (-1074) = last
  -- what is cut, as a rational number
  obtain ⟨n, d, en, hnd, hcutd⟩ : ∃ n d : Nat, (n : Rat) * p2 last = mag * p2 place * p2 d ∧ mag <<< (place - last).toNat = n ∧ (last - place).toNat = d := by
    refine ⟨_, _, ?_, rfl, rfl⟩
    rcases Int.le_total last place with hp | hp
    · obtain ⟨j, rfl⟩ := Int.le.dest hp
      rw [show (last - (last + (j : Int))).toNat = 0 by omega, show (last + (j : Int) - last).toNat = j by omega, Nat.shiftLeft_eq, Rat.natCast_mul, p2_add, ← p2_nat j, show ((0 : Nat) : Int) = 0 from rfl, p2_zero]; grind
    · obtain ⟨j, rfl⟩ := Int.le.dest hp
      rw [show (place + (j : Int) - place).toNat = j by omega, show (place - (place + (j : Int))).toNat = 0 by omega, Nat.shiftLeft_zero, p2_add]; grind
  have low : ∀ A : Nat, (A : Rat) * p2 last ≤ mag * p2 place → A ≤ Toward.even.cut neg n d := by
    intro A hA
    refine cut_low (cast_le (p2_pos last) ?_)
    rw [en, Rat.natCast_mul, ← p2_nat]
    have := Rat.mul_le_mul_of_nonneg_right hA (Rat.le_of_lt (p2_pos d))
    grind
  have high : ∀ A : Nat, mag * p2 place ≤ (A : Rat) * p2 last → Toward.even.cut neg n d ≤ A := by
    intro A hA
    refine cut_high (cast_le (p2_pos last) ?_)
    rw [en, Rat.natCast_mul, ← p2_nat]
    have := Rat.mul_le_mul_of_nonneg_right hA (Rat.le_of_lt (p2_pos d))
    grind
  have hN53 : Toward.even.cut neg n d ≤ 2 ^ 53 := by
    refine high _ ?_
    rw [← p2_nat, ← p2_add]
    exact Rat.le_trans (Rat.le_of_lt f2) (p2_le (by omega))
  have hN52 : -1074 < last → 2 ^ 52 ≤ Toward.even.cut neg n d := fun hl => by
    refine low _ ?_
    rw [← p2_nat, ← p2_add]
    exact Rat.le_trans (p2_le (by omega)) f1
  have grid : ∀ (M : Nat) (k : Int), last ≤ k → ∃ A : Nat, (M : Rat) * p2 k = A * p2 last := by
    intro M k hk
    obtain ⟨j, rfl⟩ := Int.le.dest hk
    exact ⟨M * 2 ^ j, by rw [p2_add, p2_nat, Rat.natCast_mul]; grind⟩
  have up : ∀ (U : Nat) ku, U < 2 ^ 53 → -1074 ≤ ku → (mag : Rat) * p2 place ≤ U * p2 ku → ((Toward.even.cut neg n d : Nat) : Rat) * p2 last ≤ U * p2 ku := by
    intro U ku hU hku h
    rcases Int.le_total last ku with hk | hk
    · obtain ⟨A, hA⟩ := grid U ku hk
      rw [hA] at h ⊢
      exact Rat.mul_le_mul_of_nonneg_right (by exact_mod_cast high A h) (Rat.le_of_lt (p2_pos _))
    · rcases Int.lt_or_eq_of_le hk with hk | rfl
      · exfalso
        have := p2_lt_iff.1 (Std.lt_of_le_of_lt f1 (Std.lt_of_le_of_lt h (small U ku hU)))
        omega
      · exact Rat.mul_le_mul_of_nonneg_right (by exact_mod_cast high U h) (Rat.le_of_lt (p2_pos _))
  have dn : ∀ (L : Nat) kl, L < 2 ^ 53 → -1074 ≤ kl → (L : Rat) * p2 kl ≤ mag * p2 place → (L : Rat) * p2 kl ≤ ((Toward.even.cut neg n d : Nat) : Rat) * p2 last := by
    intro L kl hL hkl h
    rcases Int.le_total last kl with hk | hk
    · obtain ⟨A, hA⟩ := grid L kl hk
      rw [hA] at h ⊢
      exact Rat.mul_le_mul_of_nonneg_right (by exact_mod_cast low A h) (Rat.le_of_lt (p2_pos _))
    · rcases Int.lt_or_eq_of_le hk with hk | rfl
      · have h1 := hN52 (by omega)
        have h2 : p2 (52 + last) ≤ ((Toward.even.cut neg n d : Nat) : Rat) * p2 last := by
          rw [p2_add, show (52 : Int) = ((52 : Nat) : Int) from rfl, p2_nat]
          exact Rat.mul_le_mul_of_nonneg_right (by exact_mod_cast h1) (Rat.le_of_lt (p2_pos _))
        exact Rat.le_trans (Rat.le_of_lt (small L kl hL)) (Rat.le_trans (p2_le (by omega)) h2)
      · exact Rat.mul_le_mul_of_nonneg_right (by exact_mod_cast low L h) (Rat.le_of_lt (p2_pos _))
  have hlo : -1074 ≤ last := by omega
  have hinf : D.infRung = 2047 * 2 ^ 52 := by decide
  have h4 : D.leastPlace = -1074 := by decide
  have h5 : ((D.fractionBits : Nat) : Int) = 52 := by decide
  have h3 : D.binade = 2 ^ 52 := by decide
  have hword : D.nearest neg mag place = D.word neg (min ((last - -1074).toNat * 2 ^ 52 + Toward.even.cut neg n d) (2047 * 2 ^ 52)) := by
    unfold Format.nearest
    rw [if_neg hm, h4, h5, h3, hinf, hlast]
    dsimp only
    rw [hnd, hcutd]
  generalize Toward.even.cut neg n d = c at *
  have hc1024 : (c : Rat) * p2 last < p2 1024 := by
    rcases Int.le_total (-1074) kh with h | h
    · exact Std.lt_of_le_of_lt (up H kh hH h hle) (Std.lt_of_lt_of_le (small H kh hH) (p2_le (by omega)))
    · have : last = -1074 := by omega
      subst this
      have h1 : (c : Rat) * p2 (-1074) ≤ ((2 ^ 53 : Nat) : Rat) * p2 (-1074) := Rat.mul_le_mul_of_nonneg_right (by exact_mod_cast hN53) (Rat.le_of_lt (p2_pos _))
      rw [← p2_nat, ← p2_add] at h1
      exact Std.lt_of_le_of_lt h1 (p2_lt (by omega))
  have pw : ∀ j : Nat, 2 ^ j ≤ c → (j : Int) + last < 1024 := by
    intro j hj
    refine p2_lt_iff.1 (Std.lt_of_le_of_lt ?_ hc1024)
    rw [p2_add, p2_nat]
    exact Rat.mul_le_mul_of_nonneg_right (by exact_mod_cast hj) (Rat.le_of_lt (p2_pos _))
  rcases Nat.lt_or_eq_of_le hN53 with hc | hc
  · have hr : (last - -1074).toNat * 2 ^ 52 + c < D.infRung := by
      rw [hinf]
      rcases Int.lt_or_eq_of_le hlo with hl | hl
      · have := pw 52 (hN52 hl)
        omega
      · omega
    refine ⟨c, last, ?_, dn, up⟩
    rw [hword, ← hinf, Nat.min_eq_left (Nat.le_of_lt hr), read_rung neg _ c hc (fun h => hN52 (by omega)) hr]
    congr 1
    omega
  · subst hc
    have hl := pw 53 (Nat.le_refl _)
    have hr : ((last - -1074).toNat + 1) * 2 ^ 52 + 2 ^ 52 < D.infRung := by
      rw [hinf]; omega
    have ev : ((2 ^ 52 : Nat) : Rat) * p2 (last + 1) = ((2 ^ 53 : Nat) : Rat) * p2 last := by
      rw [← p2_nat, ← p2_nat, ← p2_add, ← p2_add]; congr 1; omega
    refine ⟨2 ^ 52, last + 1, ?_, ?_, ?_⟩
    · rw [hword, ← hinf, show (last - -1074).toNat * 2 ^ 52 + 2 ^ 53 = ((last - -1074).toNat + 1) * 2 ^ 52 + 2 ^ 52 by omega, Nat.min_eq_left (Nat.le_of_lt hr), read_rung neg _ (2 ^ 52) (by decide) (fun _ => Nat.le_refl _) hr]
      congr 1
      omega
    · rw [ev]; exact dn
    · rw [ev]; exact up

theorem Rep.neg {q : Rat} (h : Rep q) : Rep (-q) := by
  obtain ⟨M, k, rfl, h1, h2, h3⟩ := h
  exact ⟨-M, k, by rw [Rat.intCast_neg, Rat.neg_mul], by omega, h2, h3⟩
theorem rep_zero : Rep 0 := ⟨0, 0, by simp, by decide, by decide, by decide⟩
theorem Rep.nat {q : Rat} (h : Rep q) (h0 : 0 ≤ q) : ∃ (M : Nat) (k : Int), q = M * p2 k ∧ M < 2 ^ 53 ∧ -1074 ≤ k ∧ k ≤ 971 := by
  obtain ⟨M, k, rfl, h1, h2, h3⟩ := h
  have hp := p2_pos k
  have hM : 0 ≤ M := by
    rcases Int.lt_or_le M 0 with h | h
    · exfalso
      have h' : (M : Rat) < 0 := by exact_mod_cast h
      have := Rat.mul_lt_mul_of_pos_right h' hp
      rw [Rat.zero_mul] at this
      grind
    · exact h
  obtain ⟨n, rfl⟩ := Int.eq_ofNat_of_zero_le hM
  exact ⟨n, k, by simp [Rat.intCast_natCast], by omega, h2, h3⟩

/-- The word of a number between two float64 numbers is between them. -/
theorem write_mono (b : Bool) (k : Nat) (e : Int) {lo hi : Rat} (hlo : Rep lo) (hhi : Rep hi) (h1 : lo ≤ dval (.number b k e)) (h2 : dval (.number b k e) ≤ hi) :
    ∃ r, Num (D.write (.number b k e)) r ∧ lo ≤ r ∧ r ≤ hi := by
  by_cases hk : k = 0
  · subst hk
    have : D.read (D.write (.number b 0 e)) = .number b 0 (-1074) := by
      unfold Format.write Format.nearest
      simp only [if_true]
      rw [read_word b 0 (by decide)]; simp
    refine ⟨0, ⟨by unfold isFin; rw [this], ?_⟩, ?_, ?_⟩
    · unfold val; rw [this]; simp [dval]
    · simpa [dval] using h1
    · simpa [dval] using h2
  · have hp := p2_pos e
    have hk0 : (0 : Rat) < k := by exact_mod_cast Nat.pos_of_ne_zero hk
    have hpos : 0 < (k : Rat) * p2 e := Rat.mul_pos hk0 hp
    cases b
    · have hv : dval (.number false k e) = k * p2 e := by simp [dval]
      rw [hv] at h1 h2
      obtain ⟨H, kh, eh, hH, hh1, hh2⟩ := hhi.nat (by grind)
      rw [eh] at h2
      obtain ⟨N, e', hr, dn, up⟩ := nearest_mono false k e hk H kh hH hh2 h2
      have hN0 : (0 : Rat) ≤ N * p2 e' := Rat.mul_nonneg Rat.natCast_nonneg (Rat.le_of_lt (p2_pos _))
      refine ⟨N * p2 e', ⟨by unfold isFin Format.write; rw [hr], by unfold val Format.write; rw [hr]; simp [dval]⟩, ?_, ?_⟩
      · rcases (Rat.le_total : lo ≤ 0 ∨ 0 ≤ lo) with h0 | h0
        · exact Rat.le_trans h0 hN0
        · obtain ⟨L, kl, el, hL, hl1, hl2⟩ := hlo.nat h0
          rw [el] at h1 ⊢
          exact dn L kl hL hl1 h1
      · rw [eh]; exact up H kh hH hh1 h2
    · have hv : dval (.number true k e) = -(k * p2 e) := by simp [dval]; grind
      rw [hv] at h1 h2
      have hlo' := hlo.neg
      have hhi' := hhi.neg
      obtain ⟨H, kh, eh, hH, hh1, hh2⟩ := hlo'.nat (by grind)
      have h1' : (k : Rat) * p2 e ≤ H * p2 kh := by rw [← eh]; grind
      obtain ⟨N, e', hr, dn, up⟩ := nearest_mono true k e hk H kh hH hh2 h1'
      have hN0 : (0 : Rat) ≤ N * p2 e' := Rat.mul_nonneg Rat.natCast_nonneg (Rat.le_of_lt (p2_pos _))
      refine ⟨-(N * p2 e'), ⟨by unfold isFin Format.write; rw [hr], by unfold val Format.write; rw [hr]; simp [dval]; grind⟩, ?_, ?_⟩
      · have := up H kh hH hh1 h1'
        rw [← eh] at this
        grind
      · rcases (Rat.le_total : 0 ≤ hi ∨ hi ≤ 0) with h0 | h0
        · grind
        · obtain ⟨L, kl, el, hL, hl1, hl2⟩ := hhi'.nat (by grind)
          have := dn L kl hL hl1 (by rw [← el]; grind)
          rw [← el] at this
          grind
theorem add_mono {x y : Nat} {p q lo hi : Rat} (hx : Num x p) (hy : Num y q) (hlo : Rep lo) (hhi : Rep hi) (h1 : lo ≤ p + q) (h2 : p + q ≤ hi) : ∃ z r, D.add x y = some z ∧ Num z r ∧ lo ≤ r ∧ r ≤ hi := by
  obtain ⟨s, m, i, ex, rfl⟩ := hx.read
  obtain ⟨t, n, j, ey, rfl⟩ := hy.read
  obtain ⟨b, k, e, h3, h4⟩ := sum_val s m i t n j
  have h5 : dval (.number s m i) + dval (.number t n j) = (if s then -(m : Rat) else m) * p2 i + (if t then -(n : Rat) else n) * p2 j := rfl
  rw [h5] at h4
  rw [← h4] at h1 h2
  obtain ⟨r, hr, g1, g2⟩ := write_mono b k e hlo hhi h1 h2
  refine ⟨_, r, ?_, hr, g1, g2⟩
  unfold Format.add
  rw [ex, ey, h3]
  rfl
theorem sub_mono {x y : Nat} {p q lo hi : Rat} (hx : Num x p) (hy : Num y q) (hlo : Rep lo) (hhi : Rep hi) (h1 : lo ≤ p - q) (h2 : p - q ≤ hi) : ∃ z r, D.sub x y = some z ∧ Num z r ∧ lo ≤ r ∧ r ≤ hi := by
  obtain ⟨s, m, i, ex, rfl⟩ := hx.read
  obtain ⟨t, n, j, ey, rfl⟩ := hy.read
  obtain ⟨b, k, e, h3, h4⟩ := sum_val s m i (!t) n j
  have h5 : dval (.number s m i) + dval (.number (!t) n j) = (if s then -(m : Rat) else m) * p2 i - (if t then -(n : Rat) else n) * p2 j := by
    simp only [dval]; cases t <;> simp <;> grind
  rw [h5] at h4
  rw [← h4] at h1 h2
  obtain ⟨r, hr, g1, g2⟩ := write_mono b k e hlo hhi h1 h2
  refine ⟨_, r, ?_, hr, g1, g2⟩
  unfold Format.sub
  rw [ex, ey, Datum.opposite, h3]
  rfl
theorem mul_mono {x y : Nat} {p q lo hi : Rat} (hx : Num x p) (hy : Num y q) (hlo : Rep lo) (hhi : Rep hi) (h1 : lo ≤ p * q) (h2 : p * q ≤ hi) : ∃ z r, D.mul x y = some z ∧ Num z r ∧ lo ≤ r ∧ r ≤ hi := by
  obtain ⟨s, m, i, ex, rfl⟩ := hx.read
  obtain ⟨t, n, j, ey, rfl⟩ := hy.read
  obtain ⟨h3, h4⟩ := product_val s m i t n j
  have h5 : dval (.number s m i) * dval (.number t n j) = (if s then -(m : Rat) else m) * p2 i * ((if t then -(n : Rat) else n) * p2 j) := rfl
  rw [h5] at h4
  rw [← h4] at h1 h2
  obtain ⟨r, hr, g1, g2⟩ := write_mono _ _ _ hlo hhi h1 h2
  refine ⟨_, r, ?_, hr, g1, g2⟩
  unfold Format.mul
  rw [ex, ey, h3]
  rfl
end Go.Proofs.Ytihkmkcjjlmkhaa.Fl
