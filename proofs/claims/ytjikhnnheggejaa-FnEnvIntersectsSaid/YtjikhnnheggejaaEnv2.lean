/- Lists of places copied (impl.xys), the least box around places as the statements have it (laws.eOf). No condition. -/
import Derived.Test.YtjikhnnheggejaaEnv
namespace Go.Proofs.Ytjikhnnheggejaa
open Go.ChangeShapes Go.WideShapes Go.ChangeAt Go.RowKit
open Fl

/-- A slice's value and the places that it stands for: nil and none, or places in a block. -/
def IsXYs (w : World) (a : Option Addr) (ps : List (Nat × Nat)) : Prop := ps = [] ∨ ∃ b o, a = some ⟨b, o, none⟩ ∧ XYsAt w b o ps ∧ b < w.heap.size
theorem IsXYs.below {w w' : World} {a : Option Addr} {ps : List (Nat × Nat)} (h : IsXYs w a ps) (hb : Below w.heap.size w w') : IsXYs w' a ps := by
  rcases h with h | ⟨b, o, h1, h2, h3⟩
  · exact .inl h
  · exact .inr ⟨b, o, h1, h2.below hb h3, Nat.lt_of_lt_of_le h3 hb.size⟩

def xyCells (ps : List (Nat × Nat)) : List Value := ps.flatMap fun p => [fl p.1, fl p.2]
theorem xyCells_length (ps : List (Nat × Nat)) : (xyCells ps).length = ps.length * 2 := by
  induction ps with
  | nil => rfl
  | cons p r ih => simp [xyCells] at ih ⊢; omega
theorem xyCells_append (a b : List (Nat × Nat)) : xyCells (a ++ b) = xyCells a ++ xyCells b := by simp [xyCells]
theorem set_pair (A Z : List Value) (x y u v : Value) {n : Nat} (hn : n = A.length) : ((A ++ x :: y :: Z).set n u).set (n + 1) v = A ++ u :: v :: Z := by
  subst hn
  rw [List.set_append_right _ _ (Nat.le_refl _), List.set_append_right _ _ (by omega)]
  simp
theorem replicate_two (n : Nat) : List.replicate ((n + 1) * 2) (fl 0) = fl 0 :: fl 0 :: List.replicate (n * 2) (fl 0) := by
  rw [show (n + 1) * 2 = n * 2 + 1 + 1 by omega, List.replicate_succ, List.replicate_succ]
theorem xys_of_own {w : World} {B : Nat} {ps : List (Nat × Nat)} (h : Own w B (xyCells ps)) : XYsAt w B 0 ps := by
  have key : ∀ (ps : List (Nat × Nat)) (i : Nat), i < ps.length → (xyCells ps)[i * 2]? = some (fl (ps.getD i (0, 0)).1) ∧ (xyCells ps)[i * 2 + 1]? = some (fl (ps.getD i (0, 0)).2) := by
    intro ps
    induction ps with
    | nil => intro i hi; simp at hi
    | cons p r ih =>
      intro i hi
      cases i with
      | zero => exact ⟨rfl, rfl⟩
      | succ i =>
        have := ih i (by simpa using hi)
        have e : xyCells (p :: r) = fl p.1 :: fl p.2 :: xyCells r := rfl
        rw [e, show (i + 1) * 2 = i * 2 + 1 + 1 by omega, show i * 2 + 1 + 1 + 1 = (i * 2 + 1) + 1 + 1 by omega]
        simpa using this
  intro i hi
  obtain ⟨h1, h2⟩ := key ps i hi
  exact ⟨by have := h.cells.get _ _ h1; simpa using this, by have := h.cells.get _ _ h2; simpa [Nat.add_assoc] using this⟩
theorem madeCells_fl (n : Nat) : madeCells #[fl 0, fl 0] n = (List.replicate n (fl 0)).toArray := by
  apply Array.ext
  · simp [size_madeCells]
  · intro i h1 h2
    simp only [madeCells, Array.getElem_map, Array.getElem_range]
    have : i % 2 = 0 ∨ i % 2 = 1 := by omega
    simp
    rcases this with h | h <;> rw [h] <;> rfl

theorem infoXY : (Try.prog.info? 47).map (fun i => (i.zero, i.size, i.bytes)) = some (some (.agg #[fl 0, fl 0]), 2, 16) := by kernel_rfl
theorem make_xys (n : Nat) (hn : n ≤ 1000000) (W : World) : (Instr.makeSlice 58 (.int .i64 (n : Int)) (.int .i64 (n : Int))).run Try.prog W = .ok (.slice (some ⟨W.heap.size, 0, none⟩) n n) (W.alloc (.cells (List.replicate (n * 2) (fl 0)).toArray 47)) := by
  obtain ⟨i, hi, hz, hs, hb⟩ := info_parts infoXY
  have h := run_make (P := Try.prog) W 58 47 i (.agg #[fl 0, fl 0]) Try.underlying58 hi hz .i64 .i64 n n (by omega) (by omega) (by rw [hb]; omega) (by omega)
  simp only [Int.toNat_natCast, hs] at h
  rw [h]
  have : (Value.agg #[fl 0, fl 0]).cells = #[fl 0, fl 0] := rfl
  rw [this, madeCells_fl]

/-- impl.xys: a new array of the same places. -/
def NewXYs (w : World) (ps : List (Nat × Nat)) (r : Ending) (w' : World) : Prop := ∃ B, r = .returned (.slice (some ⟨B, 0, none⟩) ps.length ps.length) ∧ Own w' B (xyCells ps) ∧ w.heap.size ≤ B
theorem xys_any {a : Option Addr} {n cap : Nat} {ps : List (Nat × Nat)} {w : World} (hp : IsXYs w a ps) (hn : ps.length = n) (hm : ps.length ≤ 1000000) :
    Calls Try.prog 33 #[.slice a n cap] w fun r w' => NewXYs w ps r w' ∧ Below w.heap.size w w' := by
  subst hn
  have HP := Lib.hid hp
  clear hp
  have hmk := make_xys ps.length hm
  go_enter Try.func33, Try.ntmps33
  go_wp2_with fail
  go_loopw [4, 11] (fun _ i wr => ∃ k : Nat, k ≤ ps.length ∧ i = .int .i64 k ∧ Below w.heap.size w wr ∧ Own wr w.heap.size (xyCells (ps.take k) ++ List.replicate ((ps.length - k) * 2) (fl 0))) (fun _ i _ => ps.length - (intOf i).toNat)
  case atStart => exact ⟨0, Nat.zero_le _, rfl, (by repeat (first | with_reducible exact Below.refl _ _ | with_reducible exact HBEL.out | with_reducible assumption | with_reducible refine Below.setCell ?_ (by first | (dsimp only; omega) | (simp; try omega)) _ | with_reducible refine LaterW.below _ ?_ | with_reducible refine below_alloc ?_ _ | with_reducible refine below_drewN' ?_ _ | with_reducible refine Below.drew ?_ | with_reducible exact below_drewN _)), by simp [xyCells]; exact Own.new' _ (by simp) rfl⟩
  case round =>
    obtain ⟨k, hk, rfl, hbel, hB⟩ := hrel
    have HBEL := Lib.hid hbel
    have HB := Lib.hid hB
    clear hbel hB
    have hsz := HB.out.lt
    have hf := HB.out.free
    by_cases hlt : k < ps.length
    · obtain ⟨b, o, rfl, hX, hb⟩ : ∃ b o, a = some ⟨b, o, none⟩ ∧ XYsAt w b o ps ∧ b < w.heap.size := by
        rcases HP.out with h | h
        · rw [h] at hlt; simp at hlt
        · exact h
      obtain ⟨c1, c2⟩ := (hX.below HBEL.out hb) k hlt
      have hblt : b < wr.heap.size := Nat.lt_of_lt_of_le hb HBEL.out.size
      have hg : ps.getD k (0, 0) = ps[k] := by simp [hlt]
      rw [hg] at c1 c2
      clear hg hX
      have HE : Hid (xyCells (ps.take (k + 1)) ++ List.replicate ((ps.length - (k + 1)) * 2) (fl 0) = xyCells (ps.take k) ++ fl ps[k].1 :: fl ps[k].2 :: List.replicate ((ps.length - (k + 1)) * 2) (fl 0)) := by
        rw [List.take_succ_eq_append_getElem hlt, xyCells_append, List.append_assoc]; rfl
      have HB2 : Hid (Own wr w.heap.size (xyCells (ps.take k) ++ fl 0 :: fl 0 :: List.replicate ((ps.length - (k + 1)) * 2) (fl 0))) := by
        have := HB.out
        rw [show ps.length - k = (ps.length - (k + 1)) + 1 by omega, replicate_two] at this
        exact this
      have HL : Hid (k * 2 = (xyCells (ps.take k)).length) := by show k * 2 = _; rw [xyCells_length, List.length_take]; omega
      have z1 : wr.cell? ⟨w.heap.size, k * 2, none⟩ = some (fl 0) := by
        have := HB2.out.cells.get (k * 2) (fl 0) (by rw [HL.out]; simp)
        simpa using this
      have z2 : wr.cell? ⟨w.heap.size, k * 2 + 1, none⟩ = some (fl 0) := by
        have := HB2.out.cells.get (k * 2 + 1) (fl 0) (by rw [HL.out]; simp)
        simpa using this
      generalize ps[k].1 = px at *
      generalize ps[k].2 = py at *
      go_wp2_with ((go_at_call 24; (with_reducible refine (xy_any _ _ _).mono ?_); rintro e w1 ⟨rfl, hb⟩; (first | (obtain ⟨x1, rfl⟩ := LaterW.of2 hb) | (obtain ⟨x1, rfl⟩ := LaterW.of hb)); clear hb))
      refine ⟨⟨k + 1, by omega, by go_num, (by repeat (first | with_reducible exact Below.refl _ _ | with_reducible exact HBEL.out | with_reducible assumption | with_reducible refine Below.setCell ?_ (by first | (dsimp only; omega) | (simp; try omega)) _ | with_reducible refine LaterW.below _ ?_ | with_reducible refine below_alloc ?_ _ | with_reducible refine below_drewN' ?_ _ | with_reducible refine Below.drew ?_ | with_reducible exact below_drewN _)), ?_⟩, by simp [intOf]; omega⟩
      rw [HE.out, ← set_pair _ _ (fl 0) (fl 0) _ _ HL.out]
      exact (((HB2.out.alloc _).later _).set _ (by rw [HL.out]; simp) _).set _ (by rw [HL.out]; simp) _
    · have HB3 : Hid (Own wr w.heap.size (xyCells ps)) := by
        have := HB.out
        rw [List.take_of_length_le (by omega), show ps.length - k = 0 by omega] at this
        simp at this
        exact this
      go_wp2_with fail
      go_ret
      exact ⟨⟨_, rfl, HB3.out, Nat.le_refl _⟩, (by repeat (first | with_reducible exact Below.refl _ _ | with_reducible exact HBEL.out | with_reducible assumption | with_reducible refine Below.setCell ?_ (by first | (dsimp only; omega) | (simp; try omega)) _ | with_reducible refine LaterW.below _ ?_ | with_reducible refine below_alloc ?_ _ | with_reducible refine below_drewN' ?_ _ | with_reducible refine Below.drew ?_ | with_reducible exact below_drewN _))⟩
end Go.Proofs.Ytjikhnnheggejaa
