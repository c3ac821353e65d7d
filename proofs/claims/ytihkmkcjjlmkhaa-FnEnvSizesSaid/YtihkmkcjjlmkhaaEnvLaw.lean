/- The least box: geom's and the statements' own agree (plain law); laws.eEqual. No condition. -/
import Derived.Test.YtihkmkcjjlmkhaaEnv3
namespace Go.Proofs.Ytihkmkcjjlmkhaa
set_option maxRecDepth 100000
open Go.ChangeShapes Go.WideShapes Go.ChangeAt Go.RowKit
open Fl

def rmin (p q : Rat) : Rat := if p < q then p else q
def rmax (p q : Rat) : Rat := if q < p then p else q
theorem rmin_comm (p q : Rat) : rmin p q = rmin q p := by unfold rmin; split <;> split <;> grind
theorem rmax_comm (p q : Rat) : rmax p q = rmax q p := by unfold rmax; split <;> split <;> grind
theorem gminW_num {x y : Nat} {p q : Rat} (hx : Num x p) (hy : Num y q) : Num (gminW x y) (rmin p q) := by
  unfold gminW rmin
  have h1 : (D.order x x == some .eq) = true := by rw [num_eq hx hx]; simp
  have h2 : (D.order x x != some .eq) = false := by simpa [bne] using h1
  rw [h2, num_lt hx hy]
  by_cases h : p < q <;> simp [h, hx, hy]
theorem gmaxW_num {x y : Nat} {p q : Rat} (hx : Num x p) (hy : Num y q) : Num (gmaxW x y) (rmax p q) := by
  unfold gmaxW rmax
  have h1 : (D.order x x == some .eq) = true := by rw [num_eq hx hx]; simp
  have h2 : (D.order x x != some .eq) = false := by simpa [bne] using h1
  rw [h2, num_gt hx hy]
  by_cases h : q < p <;> simp [h, hx, hy]
theorem ltW_num {x y : Nat} {p q : Rat} (hx : Num x p) (hy : Num y q) : Num (if D.order x y == some .lt then x else y) (rmin p q) := by
  rw [num_lt hx hy]; unfold rmin
  by_cases h : p < q <;> simp [h, hx, hy]
theorem gtW_num {x y : Nat} {p q : Rat} (hx : Num x p) (hy : Num y q) : Num (if D.order x y == some .gt then x else y) (rmax p q) := by
  rw [num_gt hx hy]; unfold rmax
  by_cases h : q < p <;> simp [h, hx, hy]

/-- Two envelopes stand for one: both empty, or ends of the same values. -/
structure SameEnv (e f : EnvW) (A B C E : Rat) : Prop where
  a : Num e.a A
  a' : Num f.a A
  b : Num e.b B
  b' : Num f.b B
  c : Num e.c C
  c' : Num f.c C
  d : Num e.d E
  d' : Num f.d E
def AlikeEnv (e f : EnvW) : Prop := e.full = f.full ∧ (e.full = true → ∃ A B C E, SameEnv e f A B C E)
theorem alike_step {e f : EnvW} {p : Nat × Nat} (h : AlikeEnv e f) (hp : xyFinB p = true) : AlikeEnv (expW e p) (ofStep f p) := by
  obtain ⟨h1, h2⟩ := h
  unfold xyFinB at hp
  simp only [Bool.and_eq_true] at hp
  have px := num_val hp.1
  have py := num_val hp.2
  unfold expW ofStep
  cases hf : e.full
  · rw [← h1, hf]
    exact ⟨rfl, fun _ => ⟨_, _, _, _, ⟨px, px, py, py, px, px, py, py⟩⟩⟩
  · obtain ⟨A, B, C, E, s⟩ := h2 hf
    rw [← h1, hf]
    refine ⟨rfl, fun _ => ⟨rmin A (val p.1), rmin B (val p.2), rmax C (val p.1), rmax E (val p.2), ⟨gminW_num s.a px, ?_, gminW_num s.b py, ?_, gmaxW_num s.c px, ?_, gmaxW_num s.d py, ?_⟩⟩⟩
    · rw [rmin_comm]; exact ltW_num px s.a'
    · rw [rmin_comm]; exact ltW_num py s.b'
    · rw [rmax_comm]; exact gtW_num px s.c'
    · rw [rmax_comm]; exact gtW_num py s.d'
theorem alike_fold : ∀ (ps : List (Nat × Nat)) (e f : EnvW), AlikeEnv e f → ps.all xyFinB = true → AlikeEnv (ps.foldl expW e) (ps.foldl ofStep f)
  | [], _, _, h, _ => h
  | p :: r, e, f, h, hp => by
    simp only [List.all_cons, Bool.and_eq_true] at hp
    exact alike_fold r _ _ (alike_step h hp.1) hp.2
def eEqualB (e f : EnvW) : Bool := if !e.full || !f.full then e.full == f.full else (D.order e.a f.a == some .eq) && (D.order e.b f.b == some .eq) && (D.order e.c f.c == some .eq) && (D.order e.d f.d == some .eq)
theorem newEnvelope_law {ps : List (Nat × Nat)} (h : ps.all xyFinB = true) : eEqualB (plainW (ps.foldl expW noEnv)) (ps.foldl ofStep noEnv) = true := by
  have := alike_fold ps noEnv noEnv ⟨rfl, fun h => by cases h⟩ h
  generalize ps.foldl expW noEnv = e at *
  generalize ps.foldl ofStep noEnv = f at *
  obtain ⟨h1, h2⟩ := this
  unfold eEqualB plainW
  cases hf : e.full
  · rw [hf] at h1
    simp [← h1, noEnv]
  · obtain ⟨A, B, C, E, s⟩ := h2 hf
    rw [hf] at h1
    simp [hf, ← h1]
    exact ⟨⟨⟨by have := num_eq s.a s.a'; simpa using this, by have := num_eq s.b s.b'; simpa using this⟩, by have := num_eq s.c s.c'; simpa using this⟩, by have := num_eq s.d s.d'; simpa using this⟩

@[go_sem] theorem stoodBox : Try.prog.stoodInHeld 45 = false := by kernel_rfl
@[go_sem] theorem guardBox : Try.prog.eqGuardType Try.prog.depth 45 = false := by kernel_rfl
@[go_sem ↓] theorem eqBox (W : World) (a b c d a' b' c' d' : Nat) : (binOp .eql 45 (.agg #[fl a, fl b, fl c, fl d]) (.agg #[fl a', fl b', fl c', fl d'])).run Try.prog W =
    .ok (.bool ((D.order a a' == some .eq) && (D.order b b' == some .eq) && (D.order c c' == some .eq) && (D.order d d' == some .eq))) W := by
  by_cases h1 : D.order a a' = some .eq <;> by_cases h2 : D.order b b' = some .eq <;> by_cases h3 : D.order c c' = some .eq <;> by_cases h4 : D.order d d' = some .eq <;> simp [go_sem, h1, h2, h3, h4]
end Go.Proofs.Ytihkmkcjjlmkhaa
