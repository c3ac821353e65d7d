/- Places: laws.vWhole, geom.XY's Add, Scale, Midpoint, impl.XYMidpoint. No condition. -/
import Derived.Test.YtihkmkcjjlmkhaaNum
namespace Go.Proofs.Ytihkmkcjjlmkhaa
set_option maxRecDepth 100000
open Go.ChangeShapes Go.WideShapes Go.ChangeAt Go.RowKit
open Fl

abbrev vXY (a b : Nat) : Value := .agg #[fl a, fl b]
/-- Places lie in a block from an offset on. -/
def XYsAt (w : World) (b o : Nat) (ps : List (Nat × Nat)) : Prop := ∀ i, i < ps.length → w.cell? ⟨b, o + i * 2, none⟩ = some (fl (ps.getD i (0, 0)).1) ∧ w.cell? ⟨b, o + i * 2 + 1, none⟩ = some (fl (ps.getD i (0, 0)).2)
@[go_sem] theorem stoodXY : Try.prog.stoodInHeld 130 = false := by kernel_rfl
@[go_sem] theorem guardXY : Try.prog.eqGuardType Try.prog.depth 130 = false := by kernel_rfl
@[go_sem ↓] theorem eqXY (W : World) (a b c d : Nat) : (binOp .eql 130 (vXY a b) (vXY c d)).run Try.prog W = .ok (.bool ((D.order a c == some .eq) && (D.order b d == some .eq))) W := by
  by_cases h1 : D.order a c = some .eq <;> by_cases h2 : D.order b d = some .eq <;> simp [go_sem, h1, h2]
theorem XYsAt.later {w : World} {b o : Nat} {ps : List (Nat × Nat)} (h : XYsAt w b o ps) (x : LaterW w) : XYsAt x.val b o ps := fun i hi => by
  obtain ⟨h1, h2⟩ := h i hi
  exact ⟨by rw [x.ok.cell (World.block_lt_of_cell? _ _ h1)]; exact h1, by rw [x.ok.cell (World.block_lt_of_cell? _ _ h2)]; exact h2⟩
theorem all_take_succ {α : Type} {P : α → Bool} {ps : List α} {k : Nat} (h : k < ps.length) (ha : (ps.take k).all P = true) (hp : P ps[k] = true) : (ps.take (k + 1)).all P = true := by
  rw [List.take_succ_eq_append_getElem h, List.all_append, ha]; simp [hp]
theorem all_false_at {α : Type} {P : α → Bool} {ps : List α} {k : Nat} (h : k < ps.length) (hp : P ps[k] = false) : ps.all P = false := by
  rw [List.all_eq_false]; exact ⟨ps[k], List.getElem_mem h, by simp [hp]⟩
theorem XYsAt.two {w : World} {b o x y z t : Nat} (h1 : w.cell? ⟨b, o, none⟩ = some (fl x)) (h2 : w.cell? ⟨b, o + 1, none⟩ = some (fl y)) (h3 : w.cell? ⟨b, o + 2, none⟩ = some (fl z)) (h4 : w.cell? ⟨b, o + 3, none⟩ = some (fl t)) : XYsAt w b o [(x, y), (z, t)] := by
  intro i hi
  match i, hi with
  | 0, _ => exact ⟨h1, h2⟩
  | 1, _ => exact ⟨h3, h4⟩
def xyWholeB (p : Nat × Nat) : Bool := wholeB p.1 && wholeB p.2

theorem xyAdd_any {a b c d p q : Nat} (h1 : D.add a c = some p) (h2 : D.add b d = some q) (w : World) :
    Calls Try.prog 99 #[vXY a b, vXY c d] w fun e w' => e = .returned (vXY p q) ∧ Below w.heap.size w w' := by
  have k_h1 := fun (W : World) => run_float_arith (P := Try.prog) W .add 36 .f64 _ _ _ h1
  have k_h2 := fun (W : World) => run_float_arith (P := Try.prog) W .add 36 .f64 _ _ _ h2
  clear h1 h2
  go_enter Try.func99, Try.ntmps99
  go_wp2_with fail
  refine ret_agg [fl p, fl q] rfl rfl rfl (by kernel_rfl) (by kernel_rfl) (by simp [CellsAt, go_sem]) ⟨rfl, ?_⟩
  exact (by repeat (first | with_reducible exact Below.refl _ _ | with_reducible exact HBEL.out | with_reducible assumption | with_reducible refine Below.setCell ?_ (by first | (dsimp only; omega) | (simp; try omega)) _ | with_reducible refine LaterW.below _ ?_ | with_reducible refine below_alloc ?_ _ | with_reducible refine below_drewN' ?_ _ | with_reducible refine Below.drew ?_ | with_reducible exact below_drewN _))
theorem xyScale_any {a b s p q : Nat} (h1 : D.mul a s = some p) (h2 : D.mul b s = some q) (w : World) :
    Calls Try.prog 100 #[vXY a b, fl s] w fun e w' => e = .returned (vXY p q) ∧ Below w.heap.size w w' := by
  have k_h1 := fun (W : World) => run_float_arith (P := Try.prog) W .mul 36 .f64 _ _ _ h1
  have k_h2 := fun (W : World) => run_float_arith (P := Try.prog) W .mul 36 .f64 _ _ _ h2
  clear h1 h2
  go_enter Try.func100, Try.ntmps100
  go_wp2_with fail
  refine ret_agg [fl p, fl q] rfl rfl rfl (by kernel_rfl) (by kernel_rfl) (by simp [CellsAt, go_sem]) ⟨rfl, ?_⟩
  exact (by repeat (first | with_reducible exact Below.refl _ _ | with_reducible exact HBEL.out | with_reducible assumption | with_reducible refine Below.setCell ?_ (by first | (dsimp only; omega) | (simp; try omega)) _ | with_reducible refine LaterW.below _ ?_ | with_reducible refine below_alloc ?_ _ | with_reducible refine below_drewN' ?_ _ | with_reducible refine Below.drew ?_ | with_reducible exact below_drewN _))
/-- What Midpoint reckons (0.5 is the word 4602678819172646912). -/
structure Mid (a b c d p q r s : Nat) : Prop where
  h1 : D.add a c = some p
  h2 : D.add b d = some q
  h3 : D.mul p 4602678819172646912 = some r
  h4 : D.mul q 4602678819172646912 = some s
end Go.Proofs.Ytihkmkcjjlmkhaa
