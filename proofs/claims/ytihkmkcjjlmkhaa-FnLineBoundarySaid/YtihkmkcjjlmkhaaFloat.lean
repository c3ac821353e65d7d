/- Words of float64 as rational numbers: exact sums, differences, products; order; whole numbers. No condition. -/
import Ieee.Arith
namespace Go.Proofs.Ytihkmkcjjlmkhaa.Fl
open Ieee

/-- powers of two -/
def p2 (e : Int) : Rat := (2 : Rat) ^ e
theorem p2_add (a b : Int) : p2 (a + b) = p2 a * p2 b := Rat.zpow_add (by decide) a b
theorem p2_pos (a : Int) : 0 < p2 a := Rat.zpow_pos (by decide)
theorem p2_zero : p2 0 = 1 := Rat.zpow_zero 2
theorem p2_nat (n : Nat) : p2 n = ((2 ^ n : Nat) : Rat) := by
  induction n with
  | zero => rfl
  | succ n ih =>
    have h1 : p2 1 = 2 := by decide +kernel
    rw [Int.natCast_add, p2_add, ih, Nat.pow_succ, Rat.natCast_mul, show ((1 : Nat) : Int) = 1 from rfl, h1]; rfl
theorem p2_ge_one (n : Nat) : 1 ≤ p2 n := by
  rw [p2_nat]; exact_mod_cast Nat.one_le_two_pow
theorem p2_le {a b : Int} (h : a ≤ b) : p2 a ≤ p2 b := by
  obtain ⟨n, rfl⟩ := Int.le.dest h
  rw [p2_add]
  have h1 := p2_ge_one n
  have h2 := Rat.mul_le_mul_of_nonneg_left h1 (Rat.le_of_lt (p2_pos a))
  rwa [Rat.mul_one] at h2
theorem p2_lt {a b : Int} (h : a < b) : p2 a < p2 b := by
  have h1 := p2_le (a := a + 1) (b := b) h
  have h2 := p2_add a 1
  have h3 : p2 1 = 2 := by decide +kernel
  have h4 := p2_pos a
  rw [h2, h3] at h1
  grind
theorem p2_le_iff {a b : Int} : p2 a ≤ p2 b ↔ a ≤ b :=
  ⟨fun h => by
    rcases Int.lt_or_le b a with h' | h'
    · have := p2_lt h'; grind
    · exact h', p2_le⟩
theorem p2_lt_iff {a b : Int} : p2 a < p2 b ↔ a < b :=
  ⟨fun h => by
    rcases Int.lt_or_le a b with h' | h'
    · exact h'
    · have := p2_le h'; grind, p2_lt⟩

def dval : Datum → Rat
  | .number s m e => (if s then -(m : Rat) else m) * p2 e
  | _ => 0

abbrev D := Ieee.double
def isFin (x : Nat) : Bool := match D.read x with | .number .. => true | _ => false
def val (x : Nat) : Rat := dval (D.read x)
/-- the word x is finite and stands for q -/
structure Num (x : Nat) (q : Rat) : Prop where
  fin : isFin x = true
  val : val x = q

theorem Num.read {x q} (h : Num x q) : ∃ s m e, D.read x = .number s m e ∧ (if s then -(m : Rat) else m) * p2 e = q := by
  obtain ⟨h1, h2⟩ := h
  unfold isFin at h1; unfold Fl.val at h2
  split at h1
  · rename_i s m e he; rw [he] at h2; exact ⟨s, m, e, he, h2⟩
  · cases h1

theorem signed_val (s : Bool) (m : Nat) (i base : Int) (h : base ≤ i) : ((signed s m (i - base).toNat : Int) : Rat) * p2 base = (if s then -(m : Rat) else m) * p2 i := by
  obtain ⟨n, rfl⟩ := Int.le.dest h
  have e : (base + (n : Int) - base).toNat = n := by omega
  rw [e, p2_add, p2_nat]
  have hs : ((signed s m n : Int) : Rat) = (if s then -(m : Rat) else m) * ((2 ^ n : Nat) : Rat) := by
    unfold signed
    cases s <;> simp [Nat.shiftLeft_eq, Rat.intCast_natCast, Rat.neg_mul]
  rw [hs]; grind

theorem mulp2_lt {a b p : Rat} (hp : 0 < p) : a * p < b * p ↔ a < b := Rat.mul_lt_mul_right hp
theorem order_spec {x y : Nat} {p q : Rat} (hx : Num x p) (hy : Num y q) : D.order x y = some (if p < q then .lt else if p = q then .eq else .gt) := by
  obtain ⟨s, m, i, ex, rfl⟩ := hx.read
  obtain ⟨t, n, j, ey, rfl⟩ := hy.read
  unfold Format.order Datum.order
  rw [ex, ey]
  simp only
  have h1 := signed_val s m i (min i j) (Int.min_le_left ..)
  have h2 := signed_val t n j (min i j) (Int.min_le_right ..)
  rw [← h1, ← h2]
  have hp := p2_pos (min i j)
  generalize signed s m (i - min i j).toNat = a
  generalize signed t n (j - min i j).toNat = b
  generalize p2 (min i j) = pp at hp
  congr 1
  simp only [mulp2_lt hp]
  have e2 : ((a : Rat) * pp = (b : Rat) * pp) ↔ a = b := by
    constructor
    · intro h
      have h' : (a : Rat) = b := by
        have := congrArg (· * pp⁻¹) h
        simp only [Rat.mul_assoc, Rat.mul_inv_cancel _ (Rat.ne_of_gt hp), Rat.mul_one] at this
        exact this
      exact_mod_cast h'
    · rintro rfl; rfl
  simp only [Rat.intCast_lt_intCast, e2]
  simp only [compare, compareOfLessAndEq]

theorem opposite_val (d : Datum) : dval d.opposite = - dval d := by
  cases d <;> simp [Datum.opposite, dval]
  rename_i s m e
  cases s <;> simp <;> grind

/-- exact sum -/
theorem sum_val (s : Bool) (m : Nat) (i : Int) (t : Bool) (n : Nat) (j : Int) :
    ∃ b k e, (Datum.number s m i).sum (.number t n j) = some (.number b k e) ∧ dval (.number b k e) = dval (.number s m i) + dval (.number t n j) := by
  refine ⟨_, _, _, rfl, ?_⟩
  have h1 := signed_val s m i (min i j) (Int.min_le_left ..)
  have h2 := signed_val t n j (min i j) (Int.min_le_right ..)
  simp only [dval]
  rw [← h1, ← h2]
  generalize signed s m (i - min i j).toNat = a
  generalize signed t n (j - min i j).toNat = b
  have e : (if (if a + b = 0 then (s && t) else decide (a + b < 0)) = true then -(((a + b).natAbs : Nat) : Rat) else ((a + b).natAbs : Nat)) = (((a + b : Int)) : Rat) := by
    by_cases h0 : a + b = 0
    · simp [h0]
    · rw [if_neg h0]
      by_cases hn : a + b < 0
      · simp only [hn, decide_true, if_true]
        have : ((a + b).natAbs : Int) = -(a + b) := by omega
        have h : (((a + b).natAbs : Nat) : Rat) = ((-(a + b) : Int) : Rat) := by rw [← this]; rfl
        rw [h]; simp
      · simp only [hn, decide_false, Bool.false_eq_true, if_false]
        have : ((a + b).natAbs : Int) = (a + b) := by omega
        have h : (((a + b).natAbs : Nat) : Rat) = ((a + b : Int) : Rat) := by rw [← this]; rfl
        rw [h]
  rw [e]; simp [Rat.intCast_add]; grind

theorem product_val (s : Bool) (m : Nat) (i : Int) (t : Bool) (n : Nat) (j : Int) :
    (Datum.number s m i).product (.number t n j) = some (.number (s ^^ t) (m * n) (i + j)) ∧ dval (.number (s ^^ t) (m * n) (i + j)) = dval (.number s m i) * dval (.number t n j) := by
  refine ⟨rfl, ?_⟩
  simp only [dval, p2_add, Rat.natCast_mul]
  cases s <;> cases t <;> simp <;> grind

/-! ### write -/
theorem read_word (neg : Bool) (rung : Nat) (h : rung < D.infRung) : D.read (D.word neg rung) =
    if rung < 2 ^ 52 then .number neg rung (-1074) else .number neg (2 ^ 52 + rung % 2 ^ 52) (-1074 + (rung / 2 ^ 52 - 1 : Nat)) := by
  have h1 : D.infRung = 2047 * 2 ^ 52 := by decide
  have h2 : D.signWeight = 2 ^ 63 := by decide
  have h3 : D.binade = 2 ^ 52 := by decide
  have h4 : D.leastPlace = -1074 := by decide
  unfold Format.read Format.word
  rw [h1] at h
  rw [h1, h2, h3, h4]
  have e1 : (if neg = true then 2 ^ 63 + rung else rung) % 2 ^ 63 = rung := by cases neg <;> simp <;> omega
  have e2 : ((if neg = true then 2 ^ 63 + rung else rung) / 2 ^ 63 % 2 == 1) = neg := by cases neg <;> simp <;> omega
  simp only [e1, e2, h, if_true]

/-- the number e binades up with N in the last place: its rung reads as it -/
theorem read_rung (neg : Bool) (e N : Nat) (hN : N < 2 ^ 53) (he : 0 < e → 2 ^ 52 ≤ N) (hr : e * 2 ^ 52 + N < D.infRung) :
    D.read (D.word neg (e * 2 ^ 52 + N)) = .number neg N (-1074 + e) := by
  rw [read_word neg _ hr]
  by_cases h : e * 2 ^ 52 + N < 2 ^ 52
  · rw [if_pos h]
    obtain rfl : e = 0 := by omega
    simp
  · rw [if_neg h]
    have hN' : 2 ^ 52 ≤ N := by
      rcases Nat.eq_zero_or_pos e with rfl | h'
      · omega
      · exact he h'
    have e1 : (e * 2 ^ 52 + N) / 2 ^ 52 = e + 1 := by omega
    have e2 : (e * 2 ^ 52 + N) % 2 ^ 52 = N - 2 ^ 52 := by omega
    have e3 : 2 ^ 52 + (N - 2 ^ 52) = N := by omega
    have e4 : (-1074 + ((e + 1 - 1 : Nat) : Int)) = -1074 + e := by omega
    rw [e1, e2, e3, e4]

theorem cut_exact (neg : Bool) (N d : Nat) (hN : 0 < N) : Toward.even.cut neg (N * 2 ^ d) d = N := by
  have hl : d ≤ (N * 2 ^ d).log2 := by
    rw [Nat.le_log2 (by have := Nat.two_pow_pos d; exact Nat.mul_ne_zero (by omega) (by omega))]
    exact Nat.le_mul_of_pos_left _ hN
  have hm : min d ((N * 2 ^ d).log2 + 2) = d := by omega
  unfold Toward.cut
  rw [hm]
  have hg : 1 <<< d = 2 ^ d := by rw [Nat.shiftLeft_eq, Nat.one_mul]
  have hp := Nat.two_pow_pos d
  simp only [hg, Nat.mul_div_cancel N hp, Nat.mul_mod_left]
  have h1 : ¬ (2 ^ d < 2 * 0) := by omega
  have h2 : (2 ^ d == 2 * 0) = false := by simp
  simp [h2]

theorem cast_eq {a b : Nat} {p : Rat} (hp : 0 < p) (h : (a : Rat) * p = b * p) : a = b := by
  have h' : (a : Rat) = b := by
    have := congrArg (· * p⁻¹) h
    simp only [Rat.mul_assoc, Rat.mul_inv_cancel _ (Rat.ne_of_gt hp), Rat.mul_one] at this
    exact this
  exact_mod_cast h'
theorem cast_lt {a b : Nat} {p : Rat} (hp : 0 < p) (h : (a : Rat) * p < b * p) : a < b := by
  have h' : (a : Rat) < b := (Rat.mul_lt_mul_right hp).1 h
  exact_mod_cast h'
theorem cast_le {a b : Nat} {p : Rat} (hp : 0 < p) (h : (a : Rat) * p ≤ b * p) : a ≤ b := by
  have h' : (a : Rat) ≤ b := Rat.le_of_mul_le_mul_right h hp
  exact_mod_cast h'

theorem nearest_exact (neg : Bool) (mag : Nat) (place : Int) (hm : mag ≠ 0) (M : Nat) (k : Int) (h : (mag : Rat) * p2 place = M * p2 k) (hM : M < 2 ^ 53) (hk : -1074 ≤ k) (hk' : k ≤ 971) :
    ∃ N e, D.read (D.nearest neg mag place) = .number neg N e ∧ (N : Rat) * p2 e = mag * p2 place := by
  have hL1 : 2 ^ mag.log2 ≤ mag := Nat.log2_self_le hm
  have hL2 : mag < 2 ^ (mag.log2 + 1) := Nat.lt_log2_self
  have f1 : p2 (mag.log2 + place) ≤ mag * p2 place := by
    rw [p2_add, p2_nat]
    exact Rat.mul_le_mul_of_nonneg_right (by exact_mod_cast hL1) (Rat.le_of_lt (p2_pos _))
  have f2 : mag * p2 place < p2 ((mag.log2 : Int) + 1 + place) := by
    rw [p2_add, show ((mag.log2 : Int) + 1) = ((mag.log2 + 1 : Nat) : Int) by omega, p2_nat]
    exact Rat.mul_lt_mul_of_pos_right (by exact_mod_cast hL2) (p2_pos _)
  have f3 : mag * p2 place < p2 (53 + k) := by
    rw [h, p2_add, show (53 : Int) = ((53 : Nat) : Int) from rfl, p2_nat]
    exact Rat.mul_lt_mul_of_pos_right (by exact_mod_cast hM) (p2_pos _)
  generalize hlast : max (place + mag.log2 - 52) (-1074) = last
  have g1 : (mag.log2 : Int) + place < 53 + k := p2_lt_iff.1 (Std.lt_of_le_of_lt f1 f3)
  -- a whole number of last places
  have hN : ∃ N : Nat, mag * p2 place = N * p2 last := by
    obtain ⟨n, rfl⟩ := Int.le.dest (show last ≤ k by omega)
    refine ⟨M * 2 ^ n, ?_⟩
    rw [h, p2_add, p2_nat, Rat.natCast_mul]; grind
  obtain ⟨N, hN⟩ := hN
  have hNpos : 0 < N := by
    rcases Nat.eq_zero_or_pos N with rfl | h'
    · exfalso
      have h0 : (0 : Rat) < mag * p2 place := Rat.mul_pos (by exact_mod_cast Nat.pos_of_ne_zero hm) (p2_pos _)
      rw [hN] at h0; simp at h0
    · exact h'
  have hN53 : N < 2 ^ 53 := by
    refine cast_lt (p2_pos last) ?_
    rw [← hN, ← p2_nat, ← p2_add]
    exact Std.lt_of_lt_of_le f2 (p2_le (by omega))
  have hN52 : -1074 < last → 2 ^ 52 ≤ N := fun hl => by
    refine cast_le (p2_pos last) ?_
    rw [← hN, ← p2_nat, ← p2_add]
    exact Rat.le_trans (p2_le (by omega)) f1
  have hcut : Toward.even.cut neg (mag <<< (place - last).toNat) (last - place).toNat = N := by
    rcases Int.le_total last place with hp | hp
    · obtain ⟨n, rfl⟩ := Int.le.dest hp
      have e : mag <<< (last + (n : Int) - last).toNat = N := by
        rw [Nat.shiftLeft_eq]
        refine cast_eq (p2_pos last) ?_
        rw [← hN, p2_add, p2_nat, Rat.natCast_mul, show (last + (n : Int) - last).toNat = n by omega]; grind
      rw [e, show (last - (last + (n : Int))).toNat = 0 by omega]
      have := cut_exact neg N 0 hNpos
      simpa using this
    · obtain ⟨n, rfl⟩ := Int.le.dest hp
      have e : mag <<< (place - (place + (n : Int))).toNat = N * 2 ^ n := by
        rw [show (place - (place + (n : Int))).toNat = 0 by omega, Nat.shiftLeft_zero]
        refine cast_eq (p2_pos place) ?_
        rw [hN, p2_add, p2_nat, Rat.natCast_mul]; grind
      rw [e, show (place + (n : Int) - place).toNat = n by omega]
      exact cut_exact neg N n hNpos
  have hlo : -1074 ≤ last := by omega
  have hhi : last ≤ 971 := by omega
  have hinf : D.infRung = 2047 * 2 ^ 52 := by decide
  have hr : (last - -1074).toNat * 2 ^ 52 + N < D.infRung := by
    rw [hinf]; omega
  refine ⟨N, last, ?_, hN.symm⟩
  unfold Format.nearest
  rw [if_neg hm]
  have h4 : D.leastPlace = -1074 := by decide
  have h5 : ((D.fractionBits : Nat) : Int) = 52 := by decide
  have h3 : D.binade = 2 ^ 52 := by decide
  rw [h4, h5, h3, hlast]
  simp only [hcut]
  rw [Nat.min_eq_left (Nat.le_of_lt hr), read_rung neg _ N hN53 (fun h => hN52 (by omega)) hr]
  congr 1
  omega

/-- q is a float64 -/
def Rep (q : Rat) : Prop := ∃ (M k : Int), q = M * p2 k ∧ M.natAbs < 2 ^ 53 ∧ -1074 ≤ k ∧ k ≤ 971

theorem read_bounds {x : Nat} {s m e} (h : D.read x = .number s m e) : m < 2 ^ 53 ∧ -1074 ≤ e ∧ e ≤ 971 := by
  have h1 : D.infRung = 2047 * 2 ^ 52 := by decide
  have h2 : D.signWeight = 2 ^ 63 := by decide
  have h3 : D.binade = 2 ^ 52 := by decide
  have h4 : D.leastPlace = -1074 := by decide
  unfold Format.read at h
  rw [h1, h2, h3, h4] at h
  simp only at h
  generalize x % 2 ^ 63 = r at h
  split at h
  · injection h with _ h5 h6; subst h5; subst h6; omega
  · split at h
    · injection h with _ h5 h6; subst h5; subst h6; omega
    · split at h <;> cases h

theorem Num.rep {x q} (h : Num x q) : Rep q := by
  obtain ⟨s, m, e, hr, rfl⟩ := h.read
  obtain ⟨h1, h2, h3⟩ := read_bounds hr
  refine ⟨if s then -(m : Int) else m, e, ?_, ?_, h2, h3⟩
  · cases s <;> simp [Rat.intCast_natCast]
  · cases s <;> simp <;> omega

theorem write_exact (b : Bool) (k : Nat) (e : Int) (h : Rep (dval (.number b k e))) : Num (D.write (.number b k e)) (dval (.number b k e)) := by
  obtain ⟨M, kk, hq, hM, h1, h2⟩ := h
  by_cases hk : k = 0
  · subst hk
    have : D.read (D.write (.number b 0 e)) = .number b 0 (-1074) := by
      unfold Format.write Format.nearest
      simp only [if_true]
      rw [read_word b 0 (by decide)]; simp
    refine ⟨by unfold isFin; rw [this], ?_⟩
    unfold val; rw [this]; simp [dval]
  · have hab : (k : Rat) * p2 e = (M.natAbs : Nat) * p2 kk := by
      simp only [dval] at hq
      have hp := p2_pos e
      have hp2 := p2_pos kk
      have hk0 : (0 : Rat) < k := by exact_mod_cast Nat.pos_of_ne_zero hk
      have hpos : 0 < (k : Rat) * p2 e := Rat.mul_pos hk0 hp
      rcases Int.le_total 0 M with hM0 | hM0
      · have eM : ((M.natAbs : Nat) : Rat) = (M : Rat) := by
          have : ((M.natAbs : Nat) : Int) = M := by omega
          exact_mod_cast this
        rw [eM]
        have hM' : (0 : Rat) ≤ M := by exact_mod_cast hM0
        have := Rat.mul_nonneg hM' (Rat.le_of_lt hp2)
        cases b
        · simpa using hq
        · simp at hq; grind
      · have eM : ((M.natAbs : Nat) : Rat) = -(M : Rat) := by
          have : ((M.natAbs : Nat) : Int) = -M := by omega
          exact_mod_cast this
        rw [eM]
        have hM' : (0 : Rat) ≤ -M := by exact_mod_cast (by omega : 0 ≤ -M)
        have := Rat.mul_nonneg hM' (Rat.le_of_lt hp2)
        cases b
        · simp at hq; grind
        · simp at hq; grind
    obtain ⟨N, e', hr, hv⟩ := nearest_exact b k e hk M.natAbs kk hab hM h1 h2
    refine ⟨by unfold isFin Format.write; rw [hr], ?_⟩
    unfold val Format.write; rw [hr]
    simp only [dval]
    cases b <;> simp <;> grind

theorem add_exact {x y : Nat} {p q : Rat} (hx : Num x p) (hy : Num y q) (h : Rep (p + q)) : ∃ z, D.add x y = some z ∧ Num z (p + q) := by
  obtain ⟨s, m, i, ex, rfl⟩ := hx.read
  obtain ⟨t, n, j, ey, rfl⟩ := hy.read
  obtain ⟨b, k, e, h1, h2⟩ := sum_val s m i t n j
  simp only [dval] at h2
  unfold Format.add
  rw [ex, ey, h1]
  refine ⟨_, rfl, ?_⟩
  have := write_exact b k e (by simp only [dval]; rw [h2]; exact h)
  simp only [dval] at this
  rwa [h2] at this
theorem sub_exact {x y : Nat} {p q : Rat} (hx : Num x p) (hy : Num y q) (h : Rep (p - q)) : ∃ z, D.sub x y = some z ∧ Num z (p - q) := by
  obtain ⟨s, m, i, ex, rfl⟩ := hx.read
  obtain ⟨t, n, j, ey, rfl⟩ := hy.read
  obtain ⟨b, k, e, h1, h2⟩ := sum_val s m i (!t) n j
  have h3 := opposite_val (.number t n j)
  simp only [dval, Datum.opposite] at h2 h3
  unfold Format.sub
  rw [ex, ey, Datum.opposite, h1]
  refine ⟨_, rfl, ?_⟩
  rw [h3, ← Rat.sub_eq_add_neg] at h2
  have := write_exact b k e (by simp only [dval]; rw [h2]; exact h)
  simp only [dval] at this
  rwa [h2] at this
theorem mul_exact {x y : Nat} {p q : Rat} (hx : Num x p) (hy : Num y q) (h : Rep (p * q)) : ∃ z, D.mul x y = some z ∧ Num z (p * q) := by
  obtain ⟨s, m, i, ex, rfl⟩ := hx.read
  obtain ⟨t, n, j, ey, rfl⟩ := hy.read
  obtain ⟨h1, h2⟩ := product_val s m i t n j
  simp only [dval] at h2
  unfold Format.mul
  rw [ex, ey, h1]
  refine ⟨_, rfl, ?_⟩
  have := write_exact (s ^^ t) (m * n) (i + j) (by simp only [dval]; rw [h2]; exact h)
  simp only [dval] at this
  rwa [h2] at this

theorem sgn_abs (s : Bool) (m : Nat) (e : Int) (M : Int) (k : Int) (h : (if s then -(m : Rat) else m) * p2 e = M * p2 k) : (m : Rat) * p2 e = (M.natAbs : Nat) * p2 k := by
  have hp := p2_pos e
  have hp2 := p2_pos k
  have hm : (0 : Rat) ≤ m := Rat.natCast_nonneg
  have h0 := Rat.mul_nonneg hm (Rat.le_of_lt hp)
  rcases Int.le_total 0 M with hM0 | hM0
  · have eM : ((M.natAbs : Nat) : Rat) = (M : Rat) := by
      have : ((M.natAbs : Nat) : Int) = M := by omega
      exact_mod_cast this
    have hM' : (0 : Rat) ≤ M := by exact_mod_cast hM0
    have := Rat.mul_nonneg hM' (Rat.le_of_lt hp2)
    rw [eM]
    cases s
    · simpa using h
    · simp at h; grind
  · have eM : ((M.natAbs : Nat) : Rat) = -(M : Rat) := by
      have : ((M.natAbs : Nat) : Int) = -M := by omega
      exact_mod_cast this
    have hM' : (0 : Rat) ≤ -M := by exact_mod_cast (by omega : 0 ≤ -M)
    have := Rat.mul_nonneg hM' (Rat.le_of_lt hp2)
    rw [eM]
    cases s
    · simp at h; grind
    · simp at h; grind

/-- an exact quotient -/
theorem div_exact {x y : Nat} {p q : Rat} (hx : Num x p) (hy : Num y q) (hq : q ≠ 0) (h : Rep (p / q)) : ∃ z, D.div x y = some z ∧ Num z (p / q) := by
  obtain ⟨s, m, i, ex, hp⟩ := hx.read
  obtain ⟨t, n, j, ey, hqv⟩ := hy.read
  have hn : n ≠ 0 := by
    rintro rfl
    apply hq; rw [← hqv]; cases t <;> simp
  have hmb := (read_bounds ex).1
  have hdig : D.fractionBits + 2 = 54 := by decide
  unfold Format.div
  rw [ex, ey, hdig]
  simp only [Datum.quotient, if_neg hn, Option.map_some]
  refine ⟨_, rfl, ?_⟩
  obtain ⟨M, k, hM, hMb, hk1, hk2⟩ := h
  generalize hmore : 54 + n.log2 - m.log2 = more
  -- the value of what is written
  have hnR : (0 : Rat) < n := by exact_mod_cast Nat.pos_of_ne_zero hn
  have hpj := p2_pos j
  have hpi := p2_pos i
  have habs : (m : Rat) * p2 i = ((M.natAbs : Nat) : Rat) * p2 k * ((n : Rat) * p2 j) := by
    have h1 : p = (M * p2 k) * q := by rw [← hM, Rat.div_mul_cancel hq]
    rw [← hp, ← hqv] at h1
    have h2 : (if s ^^ t then -(m : Rat) else m) * p2 i = (M : Rat) * (p2 k * ((n : Rat) * p2 j)) := by
      cases s <;> cases t <;> simp at h1 ⊢ <;> grind
    have hpos : 0 < p2 k * ((n : Rat) * p2 j) := Rat.mul_pos (p2_pos k) (Rat.mul_pos hnR hpj)
    rw [Rat.mul_assoc]
    generalize p2 k * ((n : Rat) * p2 j) = c at *
    have hm0 : (0 : Rat) ≤ m := Rat.natCast_nonneg
    have h0 := Rat.mul_nonneg hm0 (Rat.le_of_lt hpi)
    rcases Int.le_total 0 M with hM0 | hM0
    · have eM : ((M.natAbs : Nat) : Rat) = (M : Rat) := by
        have : ((M.natAbs : Nat) : Int) = M := by omega
        exact_mod_cast this
      have hM' : (0 : Rat) ≤ M := by exact_mod_cast hM0
      have := Rat.mul_nonneg hM' (Rat.le_of_lt hpos)
      rw [eM]
      cases hst : (s ^^ t) <;> rw [hst] at h2 <;> simp at h2 <;> grind
    · have eM : ((M.natAbs : Nat) : Rat) = -(M : Rat) := by
        have : ((M.natAbs : Nat) : Int) = -M := by omega
        exact_mod_cast this
      have hM' : (0 : Rat) ≤ -M := by exact_mod_cast (by omega : 0 ≤ -M)
      have := Rat.mul_nonneg hM' (Rat.le_of_lt hpos)
      rw [eM]
      cases hst : (s ^^ t) <;> rw [hst] at h2 <;> simp at h2 <;> grind
  have hdvd : (m <<< more) % n = 0 := by
    rw [Nat.shiftLeft_eq]
    by_cases hm : m = 0
    · subst hm; simp
    · have hL1 : 2 ^ m.log2 ≤ m := Nat.log2_self_le hm
      have hlm : m.log2 < 53 := (Nat.log2_lt hm).2 hmb
      have hn2 : n < 2 ^ (n.log2 + 1) := Nat.lt_log2_self
      -- m * 2^more = M * n * 2^E
      have g1 : p2 (m.log2 + i) ≤ (m : Rat) * p2 i := by
        rw [p2_add, p2_nat]
        exact Rat.mul_le_mul_of_nonneg_right (by exact_mod_cast hL1) (Rat.le_of_lt hpi)
      have hMn : M.natAbs * n < 2 ^ (54 + n.log2) := by
        have : M.natAbs * n ≤ M.natAbs * 2 ^ (n.log2 + 1) := Nat.mul_le_mul_left _ (Nat.le_of_lt hn2)
        have h3 : M.natAbs * 2 ^ (n.log2 + 1) < 2 ^ 53 * 2 ^ (n.log2 + 1) := Nat.mul_lt_mul_of_pos_right hMb (Nat.two_pow_pos _)
        rw [← Nat.pow_add] at h3
        have h4 : 53 + (n.log2 + 1) = 54 + n.log2 := by omega
        rw [h4] at h3
        omega
      have g2 : ((M.natAbs : Nat) : Rat) * p2 k * ((n : Rat) * p2 j) < p2 ((54 + n.log2 : Nat) + (k + j)) := by
        rw [p2_add, p2_nat, p2_add k j]
        have h5 : ((M.natAbs : Nat) : Rat) * p2 k * ((n : Rat) * p2 j) = ((M.natAbs * n : Nat) : Rat) * (p2 k * p2 j) := by
          rw [Rat.natCast_mul]; grind
        rw [h5]
        exact Rat.mul_lt_mul_of_pos_right (by exact_mod_cast hMn) (Rat.mul_pos (p2_pos k) hpj)
      rw [← habs] at g2
      have g3 := p2_lt_iff.1 (Std.lt_of_le_of_lt g1 g2)
      have hE : 0 ≤ k + j - i + more := by omega
      obtain ⟨E, hE'⟩ := Int.eq_ofNat_of_zero_le hE
      have key : m * 2 ^ more = M.natAbs * n * 2 ^ E := by
        refine cast_eq hpi ?_
        have : (more : Int) + i = k + j + ((more : Int) - (k + j - i)) := by omega
        rw [Rat.natCast_mul, Rat.natCast_mul, Rat.natCast_mul, ← p2_nat, ← p2_nat, ← hE']
        have h6 : p2 (k + j - i + more) * p2 i = p2 k * p2 j * p2 more := by
          rw [← p2_add, ← p2_add, ← p2_add]; congr 1; omega
        have h7 : (m : Rat) * p2 more * p2 i = ((m : Rat) * p2 i) * p2 more := by grind
        rw [h7, habs, Rat.mul_assoc _ (p2 (k + j - i + more)) (p2 i), h6]; grind
      rw [key, Nat.mul_assoc, Nat.mul_comm n, ← Nat.mul_assoc]
      exact Nat.mul_mod_left _ _
  have hval : dval (.number (s ^^ t) (2 * (m <<< more / n) + (m <<< more % n != 0).toNat) (i - j - more - 1)) = p / q := by
    rw [hdvd]
    have h1 : m <<< more / n * n = m <<< more := Nat.div_mul_cancel (Nat.dvd_of_mod_eq_zero hdvd)
    have h2 : ((m <<< more / n : Nat) : Rat) * n = m * p2 more := by
      rw [← Rat.natCast_mul, h1, Nat.shiftLeft_eq, Rat.natCast_mul, p2_nat]
    have h3 : p2 (i - j - more - 1) * p2 more * p2 j * 2 = p2 i := by
      have : (2 : Rat) = p2 1 := by decide +kernel
      rw [this, ← p2_add, ← p2_add, ← p2_add]; congr 1; omega
    have hqq : p / q * q = p := Rat.div_mul_cancel hq
    have goal : dval (.number (s ^^ t) (2 * (m <<< more / n) + ((0 : Nat) != 0).toNat) (i - j - more - 1)) * q = p := by
      rw [← hp, ← hqv]
      simp only [dval, bne_self_eq_false, Bool.toNat_false, Nat.add_zero, Rat.natCast_mul]
      generalize ((m <<< more / n : Nat) : Rat) = A at *
      generalize p2 (i - j - more - 1) = u at *
      generalize p2 more = v at *
      have h4 : 2 * A * u * ((n : Rat) * p2 j) = m * p2 i := by
        rw [← h3]
        have : 2 * A * u * ((n : Rat) * p2 j) = (A * n) * (u * p2 j * 2) := by grind
        rw [this, h2]; grind
      have h2' : ((2 : Nat) : Rat) = 2 := rfl
      cases s <;> cases t <;> simp [h2'] <;> grind
    have : dval (.number (s ^^ t) (2 * (m <<< more / n) + ((0 : Nat) != 0).toNat) (i - j - more - 1)) * q = p / q * q := by rw [goal, hqq]
    have := congrArg (· * q⁻¹) this
    simpa only [Rat.mul_assoc, Rat.mul_inv_cancel _ hq, Rat.mul_one] using this
  have := write_exact (s ^^ t) (2 * (m <<< more / n) + (m <<< more % n != 0).toNat) (i - j - more - 1) (by rw [hval]; exact ⟨M, k, hM, hMb, hk1, hk2⟩)
  rwa [hval] at this

theorem rep_scaled (n : Int) (k : Int) (h : n.natAbs ≤ 2 ^ 53) (h1 : -1074 ≤ k) (h2 : k ≤ 970) : Rep (n * p2 k) := by
  by_cases he : n.natAbs < 2 ^ 53
  · exact ⟨n, k, rfl, he, h1, by omega⟩
  · have h3 : p2 1 = 2 := by decide +kernel
    refine ⟨if n < 0 then -2 ^ 52 else 2 ^ 52, k + 1, ?_, by split <;> omega, by omega, by omega⟩
    rw [p2_add, h3]
    have : n = (if n < 0 then -2 ^ 52 else 2 ^ 52) * 2 := by split <;> omega
    have h' : (n : Rat) = ((if n < 0 then -2 ^ 52 else 2 ^ 52 : Int) : Rat) * 2 := by exact_mod_cast this
    rw [h']; grind
theorem rep_int (n : Int) (h : n.natAbs ≤ 2 ^ 53) : Rep n := by
  have := rep_scaled n 0 h (by omega) (by omega)
  rwa [p2_zero, Rat.mul_one] at this
theorem rep_half (n : Int) (h : n.natAbs ≤ 2 ^ 53) : Rep (n / 2) := by
  have := rep_scaled n (-1) h (by omega) (by omega)
  rw [show p2 (-1) = 1 / 2 by decide +kernel] at this
  have e : (n : Rat) / 2 = n * (1 / 2) := by grind
  rwa [e]

/-! ### whole numbers, int to float and back -/
theorem floatOfInt_num (n : Int) (h : n.natAbs ≤ 2 ^ 53) : Num (D.write (.number (n < 0) n.natAbs 0)) n := by
  have e : dval (.number (n < 0) n.natAbs 0) = n := by
    simp only [dval, p2_zero, Rat.mul_one]
    by_cases hn : n < 0
    · simp only [hn, decide_true, if_true]
      have : ((n.natAbs : Nat) : Int) = -n := by omega
      have h' : ((n.natAbs : Nat) : Rat) = ((-n : Int) : Rat) := by rw [← this]; rfl
      rw [h']; simp
    · simp only [hn, decide_false, Bool.false_eq_true, if_false]
      have : ((n.natAbs : Nat) : Int) = n := by omega
      have h' : ((n.natAbs : Nat) : Rat) = ((n : Int) : Rat) := by rw [← this]; rfl
      rw [h']
  have := write_exact (decide (n < 0)) n.natAbs 0 (by rw [e]; exact rep_int n h)
  rwa [e] at this

/-- cut towards zero -/
theorem cut_zero (neg : Bool) (n d : Nat) : Toward.zero.cut neg n d = n / 2 ^ d := by
  unfold Toward.cut
  simp only [Bool.toNat_false, Nat.add_zero]
  rw [Nat.shiftLeft_eq, Nat.one_mul]
  by_cases h : d ≤ n.log2 + 2
  · rw [Nat.min_eq_left h]
  · rw [Nat.min_eq_right (by omega)]
    have h1 : n < 2 ^ (n.log2 + 1) := Nat.lt_log2_self
    have h2 : 2 ^ (n.log2 + 1) ≤ 2 ^ (n.log2 + 2) := Nat.pow_le_pow_right (by omega) (by omega)
    have h3 : 2 ^ (n.log2 + 2) ≤ 2 ^ d := Nat.pow_le_pow_right (by omega) (by omega)
    rw [Nat.div_eq_of_lt (by omega), Nat.div_eq_of_lt (by omega)]

/-- the whole part towards zero of a number -/
def wholeOf (s : Bool) (m : Nat) (e : Int) : Int := signed s ((m <<< e.toNat) / 2 ^ (-e).toNat) 0
theorem integral_zero (s : Bool) (m : Nat) (e : Int) : (Datum.number s m e).integral .zero = .number s ((m <<< e.toNat) / 2 ^ (-e).toNat) 0 := by
  simp only [Datum.integral, cut_zero]
theorem toInt_zero (s : Bool) (m : Nat) (e : Int) : (Datum.number s m e).toInt .zero = some (wholeOf s m e) := by
  unfold Datum.toInt; rw [integral_zero]; rfl
theorem wholeOf_val (s : Bool) (m : Nat) (e : Int) : ∃ r : Rat, 0 ≤ r ∧ r < 1 ∧ dval (.number s m e) = (if s then -((((m <<< e.toNat) / 2 ^ (-e).toNat : Nat) : Rat) + r) else (((m <<< e.toNat) / 2 ^ (-e).toNat : Nat) : Rat) + r) := by
  rcases Int.le_total 0 e with h0 | h0
  · obtain ⟨k, rfl⟩ := Int.le.dest h0
    have e1 : (0 + (k : Int)).toNat = k := by omega
    have e2 : (-(0 + (k : Int))).toNat = 0 := by omega
    refine ⟨0, by decide, by decide, ?_⟩
    rw [e1, e2, Int.zero_add, dval, p2_nat]
    cases s <;> simp [Nat.shiftLeft_eq, Rat.neg_mul] <;> grind
  · obtain ⟨k, hk⟩ := Int.le.dest h0
    have e1 : e.toNat = 0 := by omega
    have e2 : (-e).toNat = k := by omega
    have e3 : e = -(k : Int) := by omega
    have hp : p2 e * p2 k = 1 := by rw [← p2_add, e3, Int.add_left_neg, p2_zero]
    rw [e1, e2, Nat.shiftLeft_zero]
    have hb := Nat.two_pow_pos k
    have hdm := Nat.div_add_mod m (2 ^ k)
    have hlt := Nat.mod_lt m hb
    refine ⟨((m % 2 ^ k : Nat) : Rat) * p2 e, ?_, ?_, ?_⟩
    · exact Rat.mul_nonneg Rat.natCast_nonneg (Rat.le_of_lt (p2_pos e))
    · rw [← hp, p2_nat, Rat.mul_comm (p2 e)]
      exact Rat.mul_lt_mul_of_pos_right (by exact_mod_cast hlt) (p2_pos e)
    · have : (m : Rat) * p2 e = ((m / 2 ^ k : Nat) : Rat) + ((m % 2 ^ k : Nat) : Rat) * p2 e := by
        have h1 : (m : Rat) = ((2 ^ k : Nat) : Rat) * ((m / 2 ^ k : Nat) : Rat) + ((m % 2 ^ k : Nat) : Rat) := by exact_mod_cast hdm.symm
        rw [← p2_nat] at h1
        generalize ((m / 2 ^ k : Nat) : Rat) = A at *
        generalize ((m % 2 ^ k : Nat) : Rat) = B at *
        rw [h1]; grind
      simp only [dval]
      cases s <;> simp <;> grind

/-- what a finite number is cut to -/
theorem trunc_num {x : Nat} {q : Rat} (h : Num x q) : ∃ v : Int, (D.read x).toInt .zero = some v ∧ Num (D.write ((D.read x).integral .zero)) v ∧ (0 ≤ q → v ≤ q ∧ q < v + 1) ∧ (q ≤ 0 → (v : Rat) - 1 < q ∧ q ≤ v) := by
  obtain ⟨s, m, e, hr, hq⟩ := h.read
  obtain ⟨hm, he1, he2⟩ := read_bounds hr
  have hq' : dval (.number s m e) = q := hq
  obtain ⟨r, hr0, hr1, hv⟩ := wholeOf_val s m e
  rw [hq'] at hv
  have hd : dval (.number s ((m <<< e.toNat) / 2 ^ (-e).toNat) 0) = (wholeOf s m e : Rat) := by
    unfold wholeOf
    simp only [dval, p2_zero, signed, Rat.mul_one]
    generalize (m <<< e.toNat) / 2 ^ (-e).toNat = A
    cases s <;> simp [Rat.intCast_natCast]
  refine ⟨wholeOf s m e, by rw [hr, toInt_zero], ?_, ?_⟩
  · rw [hr, integral_zero]
    rw [← hd]
    refine write_exact _ _ _ ?_
    rcases Int.le_total 0 e with h0 | h0
    · have : (-e).toNat = 0 := by omega
      rw [this]
      refine ⟨if s then -(m : Int) else m, e, ?_, ?_, he1, he2⟩
      · simp only [dval, p2_zero]
        obtain ⟨k, rfl⟩ := Int.le.dest h0
        rw [show (0 + (k : Int)).toNat = k by omega, Int.zero_add, p2_nat]
        cases s <;> simp [Nat.shiftLeft_eq, Rat.intCast_natCast, Rat.neg_mul]
      · cases s <;> simp <;> omega
    · have : e.toNat = 0 := by omega
      rw [this, Nat.shiftLeft_zero]
      have hle : m / 2 ^ (-e).toNat ≤ m := Nat.div_le_self _ _
      generalize m / 2 ^ (-e).toNat = A at *
      refine ⟨if s then -(A : Int) else (A : Nat), 0, ?_, ?_, by omega, by omega⟩
      · simp only [dval, p2_zero]
        cases s <;> simp [Rat.intCast_natCast]
      · cases s <;> simp <;> omega
  · have hw : (wholeOf s m e : Rat) = (if s then -(((m <<< e.toNat) / 2 ^ (-e).toNat : Nat) : Rat) else (((m <<< e.toNat) / 2 ^ (-e).toNat : Nat) : Rat)) := by
      unfold wholeOf signed
      generalize (m <<< e.toNat) / 2 ^ (-e).toNat = A
      cases s <;> simp [Rat.intCast_natCast]
    have hn : (0 : Rat) ≤ (((m <<< e.toNat) / 2 ^ (-e).toNat : Nat) : Rat) := Rat.natCast_nonneg
    rw [hw]
    generalize (((m <<< e.toNat) / 2 ^ (-e).toNat : Nat) : Rat) = A at *
    subst hv
    cases s <;> simp <;> constructor <;> intro h <;> grind

theorem trunc_int {x : Nat} {n : Int} (h : Num x n) : (D.read x).toInt .zero = some n ∧ Num (D.write ((D.read x).integral .zero)) n := by
  obtain ⟨v, h1, h2, h3, h4⟩ := trunc_num h
  have : v = n := by
    rcases Int.le_total 0 n with h0 | h0
    · obtain ⟨a, b⟩ := h3 (by exact_mod_cast h0)
      have a' : v ≤ n := by exact_mod_cast a
      have b' : n < v + 1 := by exact_mod_cast b
      omega
    · obtain ⟨a, b⟩ := h4 (by exact_mod_cast h0)
      have b' : n ≤ v := by exact_mod_cast b
      have a' : v - 1 < n := by
        have : (((v - 1 : Int)) : Rat) < n := by simpa [Rat.intCast_sub] using a
        exact_mod_cast this
      omega
  subst this; exact ⟨h1, h2⟩

/-- whole, from -2^20 to 2^20 -/
def wholeB (x : Nat) : Bool := isFin x && decide ((val x).den = 1) && decide (((-1048576 : Int) : Rat) ≤ val x) && decide (val x ≤ ((1048576 : Int) : Rat))
theorem num_val {x : Nat} (h : isFin x = true) : Num x (val x) := ⟨h, rfl⟩
theorem whole_spec {x : Nat} : wholeB x = true ↔ ∃ n : Int, Num x n ∧ -1048576 ≤ n ∧ n ≤ 1048576 := by
  unfold wholeB
  simp only [Bool.and_eq_true, decide_eq_true_eq]
  constructor
  · rintro ⟨⟨⟨h1, h2⟩, h3⟩, h4⟩
    have e : val x = ((val x).num : Rat) := by
      apply Rat.ext <;> simp [h2]
    refine ⟨(val x).num, ⟨h1, e⟩, ?_, ?_⟩
    · rw [e] at h3; exact Rat.intCast_le_intCast.1 h3
    · rw [e] at h4; exact Rat.intCast_le_intCast.1 h4
  · rintro ⟨n, ⟨h1, h2⟩, h3, h4⟩
    rw [h2]
    exact ⟨⟨⟨h1, rfl⟩, Rat.intCast_le_intCast.2 h3⟩, Rat.intCast_le_intCast.2 h4⟩
/-! ### whole numbers -/
abbrev NumI (x : Nat) (n : Int) : Prop := Num x (n : Rat)
theorem add_int {x y : Nat} {m n : Int} (hx : NumI x m) (hy : NumI y n) (h : (m + n).natAbs ≤ 2 ^ 53) : ∃ z, D.add x y = some z ∧ NumI z (m + n) := by
  have := add_exact hx hy (by rw [← Rat.intCast_add]; exact rep_int _ h)
  rwa [← Rat.intCast_add] at this
theorem sub_int {x y : Nat} {m n : Int} (hx : NumI x m) (hy : NumI y n) (h : (m - n).natAbs ≤ 2 ^ 53) : ∃ z, D.sub x y = some z ∧ NumI z (m - n) := by
  have := sub_exact hx hy (by rw [← Rat.intCast_sub]; exact rep_int _ h)
  rwa [← Rat.intCast_sub] at this
theorem mul_int {x y : Nat} {m n : Int} (hx : NumI x m) (hy : NumI y n) (h : (m * n).natAbs ≤ 2 ^ 53) : ∃ z, D.mul x y = some z ∧ NumI z (m * n) := by
  have := mul_exact hx hy (by rw [← Rat.intCast_mul]; exact rep_int _ h)
  rwa [← Rat.intCast_mul] at this
theorem order_int {x y : Nat} {m n : Int} (hx : NumI x m) (hy : NumI y n) : D.order x y = some (if m < n then .lt else if m = n then .eq else .gt) := by
  rw [order_spec hx hy]
  simp only [Rat.intCast_lt_intCast, Rat.intCast_inj]
theorem num_zero : NumI 0 0 := ⟨by decide +kernel, by decide +kernel⟩
theorem num_eq {x y : Nat} {p q : Rat} (hx : Num x p) (hy : Num y q) : (D.order x y == some .eq) = decide (p = q) := by
  rw [order_spec hx hy]
  by_cases h : p < q
  · have : p ≠ q := by grind
    simp [h, this]
  · by_cases h2 : p = q <;> simp [h, h2]
theorem num_lt {x y : Nat} {p q : Rat} (hx : Num x p) (hy : Num y q) : (D.order x y == some .lt) = decide (p < q) := by
  rw [order_spec hx hy]
  by_cases h : p < q
  · simp [h]
  · by_cases h2 : p = q <;> simp [h, h2]
theorem num_gt {x y : Nat} {p q : Rat} (hx : Num x p) (hy : Num y q) : (D.order x y == some .gt) = decide (q < p) := by
  rw [order_spec hx hy]
  by_cases h : p < q
  · have : ¬ q < p := by grind
    simp [h, this]
  · by_cases h2 : p = q
    · have : ¬ q < p := by grind
      simp [h2]
    · have : q < p := by grind
      simp [h, h2, this]
end Go.Proofs.Ytihkmkcjjlmkhaa.Fl
