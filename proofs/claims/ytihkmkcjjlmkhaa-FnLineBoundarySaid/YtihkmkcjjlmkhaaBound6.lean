/- Plain facts of a line's ends: for FnLineBoundary. No condition. -/
import Derived.Test.YtihkmkcjjlmkhaaBound5
namespace Go.Proofs.Ytihkmkcjjlmkhaa
set_option maxRecDepth 100000
open Go.ChangeShapes Go.WideShapes Go.ChangeAt Go.RowKit Go.Deep
open Fl

theorem row_first {xs : List Nat} {d : Int} {wd : Nat} (h0 : 0 ≤ d) (h3 : d ≤ 3) (hwd : widthN d = wd) (hl : wd ≤ xs.length) : placeRow d (placeAt xs d 0) = xs.take wd := by
  have := take_step (xs := xs) h0 h3 (k := 0) (by omega)
  simp only [Nat.zero_mul, Nat.zero_add, List.take_zero, List.nil_append] at this
  rw [← this, hwd]
theorem row_last {xs : List Nat} {d : Int} {wd q la : Nat} (h0 : 0 ≤ d) (h3 : d ≤ 3) (hwd : widthN d = wd) (hq : (q - 1) * wd = la) (hl : la + wd = xs.length) : placeRow d (placeAt xs d (q - 1)) = xs.drop la := by
  have := take_step (xs := xs) h0 h3 (k := q - 1) (by rw [hwd, hq]; omega)
  rw [hwd, hq, hl, List.take_length] at this
  have h2 : (xs.take la ++ placeRow d (placeAt xs d (q - 1))).drop la = xs.drop la := congrArg (fun l => l.drop la) this.symm
  have hlen : (xs.take la).length = la := by simp; omega
  rw [List.drop_append, hlen, Nat.sub_self, List.drop_zero, List.drop_eq_nil_of_le (Nat.le_of_eq hlen), List.nil_append] at h2
  exact h2
theorem closedB_ends {xs : List Nat} {d : Int} {wd q la : Nat} (hwd : widthN d = wd) (hq : (q - 1) * wd = la) (hq0 : q ≠ 0) : closedB xs d q = ((D.order xs[0]! xs[la]! == some .eq) && (D.order xs[1]! xs[la + 1]! == some .eq)) := by
  unfold closedB
  rw [show decide (q ≠ 0) = true from by simp [hq0], Bool.true_and]
  simp only [placeAt, hwd, hq, Nat.zero_mul, Nat.zero_add]
theorem NumsIs.take {w : World} {B : Nat} {a : Option Addr} {xs : List Nat} (h : NumsIs w B a xs) (k : Nat) : NumsIs w B a (xs.take k) := by
  rcases h with h | ⟨b, o, h1, h2, h3⟩
  · exact .inl (by rw [h]; simp)
  · refine .inr ⟨b, o, h1, h2, fun i hi => ?_⟩
    rw [List.length_take] at hi
    rw [h3 i (by omega), List.getElem!_eq_getElem?_getD, List.getElem!_eq_getElem?_getD, List.getElem?_take_of_lt (by omega)]
theorem NumsIs.drop {w : World} {B b o : Nat} {xs : List Nat} (h : NumsIs w B (some ⟨b, o, none⟩) xs) (k : Nat) : NumsIs w B (some ⟨b, o + k, none⟩) (xs.drop k) := by
  rcases h with h | ⟨b', o', h1, h2, h3⟩
  · exact .inl (by rw [h]; simp)
  · cases h1
    refine .inr ⟨b, o + k, rfl, h2, fun i hi => ?_⟩
    rw [List.length_drop] at hi
    rw [Nat.add_assoc, h3 (k + i) (by omega), List.getElem!_eq_getElem?_getD, List.getElem!_eq_getElem?_getD, List.getElem?_drop]
theorem kidGeom {w : World} {C : Nat} {d : Int} {a : Option Addr} {c : Nat} {r : List Nat} (h0 : 0 ≤ d) (h3 : d ≤ 3) (hr : ∀ x ∈ r, x < 2 ^ 64) (hl : r.length ≤ 4000) (h : w.ownsRow C 36 1 (.slice a r.length c) r.length (r.map fl)) : GeomIs w w.heap.size 1 (.mk 1 d r []) [.int .i64 1, .int .i64 d, .slice a r.length c, .slice none 0 0] := by
  obtain ⟨a', c', e, q1, q2, _⟩ := numsOf_own h
  cases e
  exact leafIs 0 (has_small (by omega) (by omega)) (has_small (by omega) (by omega)) hr rfl hl q1 q2
theorem kids_two {w : World} {C : Nat} {d : Int} {k2 : Option Addr} {c2 : Nat} {cs : List Value} {r0 r1 : List Nat} (h0 : 0 ≤ d) (h3 : d ≤ 3) (x0 : ∀ x ∈ r0, x < 2 ^ 64) (x1 : ∀ x ∈ r1, x < 2 ^ 64) (l0 : r0.length ≤ 4000) (l1 : r1.length ≤ 4000)
    (ho : w.ownsRow C 25 4 (.slice k2 2 c2) 2 cs) (hk : KidCells w C d [r0, r1] cs) : KidsIs w w.heap.size 1 k2 [.mk 1 d r0 [], .mk 1 d r1 []] := by
  obtain ⟨a0, q0, cs', rfl, o0, a1, q1, cs2, rfl, o1, rfl⟩ := hk
  obtain ⟨_, h2⟩ := ho
  rcases h2 with ⟨_, e⟩ | ⟨g, cap, cur, e1, e2, e3, e4, e5, e6, e7⟩
  · cases e
  · cases e1
    obtain ⟨hlt, _⟩ := Array.getElem?_eq_some_iff.1 e3
    have key : ∀ i v, ([.int .i64 1, .int .i64 d, .slice a0 r0.length q0, .slice none 0 0] ++ ([.int .i64 1, .int .i64 d, .slice a1 r1.length q1, .slice none 0 0] ++ []) : List Value)[i]? = some v → w.cell? ⟨g, i, none⟩ = some v := fun i v hi => by
      have hi8 : i < 8 := (List.getElem?_eq_some_iff.1 hi).1
      have := congrArg (fun l => l[i]?) e7
      simp only [List.getElem?_take_of_lt (show i < 2 * 4 by omega), Array.getElem?_toList] at this
      rw [hi] at this
      unfold World.cell?
      simp only [e3, Option.isSome_none, Bool.false_eq_true, if_false, this]
    refine .inr ⟨g, 0, rfl, hlt, fun i hi => ?_⟩
    match i, hi with
    | 0, _ => exact ⟨_, CellsAt.of (cs := [.int .i64 1, .int .i64 d, .slice a0 r0.length q0, .slice none 0 0]) (fun j v hj => by
        have hj4 : j < 4 := (List.getElem?_eq_some_iff.1 hj).1
        exact key _ _ (by rw [List.getElem?_append_left (by simp; omega)]; simpa using hj)), kidGeom h0 h3 x0 l0 o0⟩
    | 1, _ => exact ⟨_, CellsAt.of (cs := [.int .i64 1, .int .i64 d, .slice a1 r1.length q1, .slice none 0 0]) (fun j v hj => by
        have hj4 : j < 4 := (List.getElem?_eq_some_iff.1 hj).1
        exact key _ _ (by rw [List.getElem?_append_right (by simp)]; simpa using hj)), kidGeom h0 h3 x1 l1 o1⟩
theorem kids_own {w : World} {B : Nat} {d : Int} {r0 r1 : List Nat} {a0 a1 : Option Addr} {c0 c1 : Nat} {A : Nat} (ho : Own w A [.int .i64 1, .int .i64 d, .slice a0 r0.length c0, .slice none 0 0, .int .i64 1, .int .i64 d, .slice a1 r1.length c1, .slice none 0 0]) (hB : A < B)
    (g0 : GeomIs w B 1 (.mk 1 d r0 []) [.int .i64 1, .int .i64 d, .slice a0 r0.length c0, .slice none 0 0]) (g1 : GeomIs w B 1 (.mk 1 d r1 []) [.int .i64 1, .int .i64 d, .slice a1 r1.length c1, .slice none 0 0]) : KidsIs w B 1 (some ⟨A, 0, none⟩) [.mk 1 d r0 [], .mk 1 d r1 []] := by
  obtain ⟨q0, q1, q2, q3, q4, q5, q6, q7, _⟩ := ho.cells
  refine .inr ⟨A, 0, rfl, hB, fun i hi => ?_⟩
  match i, hi with
  | 0, _ => exact ⟨[.int .i64 1, .int .i64 d, .slice a0 r0.length c0, .slice none 0 0], by show _ ∧ _; exact ⟨q0, q1, q2, q3, trivial⟩, g0⟩
  | 1, _ => exact ⟨[.int .i64 1, .int .i64 d, .slice a1 r1.length c1, .slice none 0 0], by show _ ∧ _; exact ⟨q4, q5, q6, q7, trivial⟩, g1⟩
end Go.Proofs.Ytihkmkcjjlmkhaa
