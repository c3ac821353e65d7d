/- What the statements' frame wants: arguments opened by their shape, read again behind the call. No condition. -/
import Derived.Test.YtihkmkcjjlmkhaaBase
import Derived.OpenShut
import Derived.ShutString
import Derived.ChangeOld
import Derived.Below
namespace Go.Proofs.Ytihkmkcjjlmkhaa
set_option maxRecDepth 100000
open Go.ChangeShapes Go.WideShapes Go.ChangeAt Go.RowKit

theorem own : ownKnob Try.prog.godebug = none := by kernel_rfl
theorem laidOut : laidOutB Try.prog = true := by kernel_rfl

section
variable {w : World} {r : Reach} {base : Nat} {t : TypeId} {v : Value}
/-- A struct by value: its cells, each of its type. -/
theorem okWide_cells {fs : Array Field} {n : Nat} {ts : List TypeId} (ht : Try.prog.underlying t = some (.struct fs)) (hn : Try.prog.cellsOf t = n) (hts : Try.prog.cellTypes Try.prog.depth t = some ts)
    (h : Value.okWide Try.prog w r base t v) : ∃ cs : List Value, v = .agg cs.toArray ∧ cs.length = n ∧ ∀ i x, cs[i]? = some x → ∃ u, ts[i % ts.length]? = some u ∧ Cell.okWide Try.prog w r base u x := by
  simp only [Value.okWide, ht] at h
  obtain ⟨cs, rfl, h2, ts', h3, _, h5⟩ := h
  rw [hts] at h3
  cases h3
  exact ⟨cs.toList, by simp, by simpa using h2.trans hn, fun i x hx => h5 i x (by simpa using hx)⟩
theorem cell_float {u : TypeId} {x : Value} (hu : Try.prog.underlying u = some (.float .f64)) (h : Cell.okWide Try.prog w r base u x) : ∃ b, x = fl b ∧ b < 2 ^ 64 := by
  simp only [Cell.okWide, hu] at h
  cases x <;> simp_all [Cell.ok, FloatKind.has]
theorem cell_bool {u : TypeId} {x : Value} (hu : Try.prog.underlying u = some .bool) (h : Cell.okWide Try.prog w r base u x) : ∃ b, x = .bool b := by
  simp only [Cell.okWide, hu] at h
  cases x <;> simp_all [Cell.ok]
theorem cell_int {u : TypeId} {x : Value} (hu : Try.prog.underlying u = some (.int .i64)) (h : Cell.okWide Try.prog w r base u x) : ∃ b : Int, x = .int .i64 b ∧ IntKind.i64.has b := by
  simp only [Cell.okWide, hu] at h
  cases x <;> simp_all [Cell.ok]
theorem list4 {cs : List Value} (h : cs.length = 4) : ∃ a b c d, cs = [a, b, c, d] := by
  match cs, h with
  | [a, b, c, d], _ => exact ⟨a, b, c, d, rfl⟩
theorem list2 {cs : List Value} (h : cs.length = 2) : ∃ a b, cs = [a, b] := by
  match cs, h with
  | [a, b], _ => exact ⟨a, b, rfl⟩
theorem list5 {cs : List Value} (h : cs.length = 5) : ∃ a b c d e, cs = [a, b, c, d, e] := by
  match cs, h with
  | [a, b, c, d, e], _ => exact ⟨a, b, c, d, e, rfl⟩
/-- impl.Box, by value -/
theorem open_box (h : Value.okWide Try.prog w r base 45 v) : ∃ a b c d, v = .agg #[fl a, fl b, fl c, fl d] ∧ a < 2 ^ 64 ∧ b < 2 ^ 64 ∧ c < 2 ^ 64 ∧ d < 2 ^ 64 := by
  obtain ⟨cs, rfl, hn, hc⟩ := okWide_cells (n := 4) (ts := [36, 36, 36, 36]) Try.underlying45 (by kernel_rfl) (by kernel_rfl) h
  obtain ⟨a, b, c, d, rfl⟩ := list4 hn
  obtain ⟨u0, e0, h0⟩ := hc 0 a rfl
  obtain ⟨u1, e1, h1⟩ := hc 1 b rfl
  obtain ⟨u2, e2, h2⟩ := hc 2 c rfl
  obtain ⟨u3, e3, h3⟩ := hc 3 d rfl
  cases e0; cases e1; cases e2; cases e3
  obtain ⟨a, rfl, la⟩ := cell_float Try.underlying36 h0
  obtain ⟨b, rfl, lb⟩ := cell_float Try.underlying36 h1
  obtain ⟨c, rfl, lc⟩ := cell_float Try.underlying36 h2
  obtain ⟨d, rfl, ld⟩ := cell_float Try.underlying36 h3
  exact ⟨a, b, c, d, rfl, la, lb, lc, ld⟩
/-- impl.XY, by value -/
theorem open_xy (h : Value.okWide Try.prog w r base 130 v) : ∃ a b, v = .agg #[fl a, fl b] ∧ a < 2 ^ 64 ∧ b < 2 ^ 64 := by
  obtain ⟨cs, rfl, hn, hc⟩ := okWide_cells (n := 2) (ts := [36, 36]) Try.underlying130 (by kernel_rfl) (by kernel_rfl) h
  obtain ⟨a, b, rfl⟩ := list2 hn
  obtain ⟨u0, e0, h0⟩ := hc 0 a rfl
  obtain ⟨u1, e1, h1⟩ := hc 1 b rfl
  cases e0; cases e1
  obtain ⟨a, rfl, la⟩ := cell_float Try.underlying36 h0
  obtain ⟨b, rfl, lb⟩ := cell_float Try.underlying36 h1
  exact ⟨a, b, rfl, la, lb⟩
/-- impl.Env, by value -/
theorem open_env (h : Value.okWide Try.prog w r base 47 v) : ∃ f a b c d, v = .agg #[.bool f, fl a, fl b, fl c, fl d] ∧ a < 2 ^ 64 ∧ b < 2 ^ 64 ∧ c < 2 ^ 64 ∧ d < 2 ^ 64 := by
  obtain ⟨cs, rfl, hn, hc⟩ := okWide_cells (n := 5) (ts := [4, 36, 36, 36, 36]) Try.underlying47 (by kernel_rfl) (by kernel_rfl) h
  obtain ⟨f, a, b, c, d, rfl⟩ := list5 hn
  obtain ⟨uf, ef, hf⟩ := hc 0 f rfl
  obtain ⟨u0, e0, h0⟩ := hc 1 a rfl
  obtain ⟨u1, e1, h1⟩ := hc 2 b rfl
  obtain ⟨u2, e2, h2⟩ := hc 3 c rfl
  obtain ⟨u3, e3, h3⟩ := hc 4 d rfl
  cases ef; cases e0; cases e1; cases e2; cases e3
  obtain ⟨f, rfl⟩ := cell_bool Try.underlying4 hf
  obtain ⟨a, rfl, la⟩ := cell_float Try.underlying36 h0
  obtain ⟨b, rfl, lb⟩ := cell_float Try.underlying36 h1
  obtain ⟨c, rfl, lc⟩ := cell_float Try.underlying36 h2
  obtain ⟨d, rfl, ld⟩ := cell_float Try.underlying36 h3
  exact ⟨f, a, b, c, d, rfl, la, lb, lc, ld⟩
end
end Go.Proofs.Ytihkmkcjjlmkhaa
