/- Lists of places copied (impl.xys), the least box around places as the statements have it (laws.eOf). No condition. -/
import Derived.Test.YtihkmkcjjlmkhaaEnv
namespace Go.Proofs.Ytihkmkcjjlmkhaa
set_option maxRecDepth 100000
open Go.ChangeShapes Go.WideShapes Go.ChangeAt Go.RowKit
open Fl

/-- A slice's value and the places that it stands for: nil and none, or places in a block. -/
def IsXYs (w : World) (a : Option Addr) (ps : List (Nat × Nat)) : Prop := ps = [] ∨ ∃ b o, a = some ⟨b, o, none⟩ ∧ XYsAt w b o ps ∧ b < w.heap.size
theorem IsXYs.below {w w' : World} {a : Option Addr} {ps : List (Nat × Nat)} (h : IsXYs w a ps) (hb : Below w.heap.size w w') : IsXYs w' a ps := by
  rcases h with h | ⟨b, o, h1, h2, h3⟩
  · exact .inl h
  · exact .inr ⟨b, o, h1, h2.below hb h3, Nat.lt_of_lt_of_le h3 hb.size⟩

def xyCells (ps : List (Nat × Nat)) : List Value := ps.flatMap fun p => [fl p.1, fl p.2]
theorem xyCells_length (ps : List (Nat × Nat)) : (xyCells ps).length = ps.length * 2 := by
  induction ps with
  | nil => rfl
  | cons p r ih => simp [xyCells] at ih ⊢; omega
theorem xyCells_append (a b : List (Nat × Nat)) : xyCells (a ++ b) = xyCells a ++ xyCells b := by simp [xyCells]
theorem set_pair (A Z : List Value) (x y u v : Value) {n : Nat} (hn : n = A.length) : ((A ++ x :: y :: Z).set n u).set (n + 1) v = A ++ u :: v :: Z := by
  subst hn
  rw [List.set_append_right _ _ (Nat.le_refl _), List.set_append_right _ _ (by omega)]
  simp
theorem replicate_two (n : Nat) : List.replicate ((n + 1) * 2) (fl 0) = fl 0 :: fl 0 :: List.replicate (n * 2) (fl 0) := by
  rw [show (n + 1) * 2 = n * 2 + 1 + 1 by omega, List.replicate_succ, List.replicate_succ]
theorem xys_of_own {w : World} {B : Nat} {ps : List (Nat × Nat)} (h : Own w B (xyCells ps)) : XYsAt w B 0 ps := by
  have key : ∀ (ps : List (Nat × Nat)) (i : Nat), i < ps.length → (xyCells ps)[i * 2]? = some (fl (ps.getD i (0, 0)).1) ∧ (xyCells ps)[i * 2 + 1]? = some (fl (ps.getD i (0, 0)).2) := by
    intro ps
    induction ps with
    | nil => intro i hi; simp at hi
    | cons p r ih =>
      intro i hi
      cases i with
      | zero => exact ⟨rfl, rfl⟩
      | succ i =>
        have := ih i (by simpa using hi)
        have e : xyCells (p :: r) = fl p.1 :: fl p.2 :: xyCells r := rfl
        rw [e, show (i + 1) * 2 = i * 2 + 1 + 1 by omega, show i * 2 + 1 + 1 + 1 = (i * 2 + 1) + 1 + 1 by omega]
        simpa using this
  intro i hi
  obtain ⟨h1, h2⟩ := key ps i hi
  exact ⟨by have := h.cells.get _ _ h1; simpa using this, by have := h.cells.get _ _ h2; simpa [Nat.add_assoc] using this⟩
theorem madeCells_fl (n : Nat) : madeCells #[fl 0, fl 0] n = (List.replicate n (fl 0)).toArray := by
  apply Array.ext
  · simp [size_madeCells]
  · intro i h1 h2
    simp only [madeCells, Array.getElem_map, Array.getElem_range]
    have : i % 2 = 0 ∨ i % 2 = 1 := by omega
    simp
    rcases this with h | h <;> rw [h] <;> rfl

theorem infoXY : (Try.prog.info? 78).map (fun i => (i.zero, i.size, i.bytes)) = some (some (.agg #[fl 0, fl 0]), 2, 16) := by kernel_rfl
theorem make_xys (n : Nat) (hn : n ≤ 1000000) (W : World) : (Instr.makeSlice 145 (.int .i64 (n : Int)) (.int .i64 (n : Int))).run Try.prog W = .ok (.slice (some ⟨W.heap.size, 0, none⟩) n n) (W.alloc (.cells (List.replicate (n * 2) (fl 0)).toArray 78)) := by
  obtain ⟨i, hi, hz, hs, hb⟩ := info_parts infoXY
  have h := run_make (P := Try.prog) W 145 78 i (.agg #[fl 0, fl 0]) Try.underlying145 hi hz .i64 .i64 n n (by omega) (by omega) (by rw [hb]; omega) (by omega)
  simp only [Int.toNat_natCast, hs] at h
  rw [h]
  have : (Value.agg #[fl 0, fl 0]).cells = #[fl 0, fl 0] := rfl
  rw [this, madeCells_fl]

/-- impl.xys: a new array of the same places. -/
def NewXYs (w : World) (ps : List (Nat × Nat)) (r : Ending) (w' : World) : Prop := ∃ B, r = .returned (.slice (some ⟨B, 0, none⟩) ps.length ps.length) ∧ Own w' B (xyCells ps) ∧ w.heap.size ≤ B
end Go.Proofs.Ytihkmkcjjlmkhaa
