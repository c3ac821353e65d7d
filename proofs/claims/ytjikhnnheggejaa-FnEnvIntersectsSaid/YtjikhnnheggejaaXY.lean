/- Places: laws.vWhole, geom.XY's Add, Scale, Midpoint, impl.XYMidpoint. No condition. -/
import Derived.Test.YtjikhnnheggejaaNum
namespace Go.Proofs.Ytjikhnnheggejaa
open Go.ChangeShapes Go.WideShapes Go.ChangeAt Go.RowKit
open Fl

abbrev vXY (a b : Nat) : Value := .agg #[fl a, fl b]
/-- Places lie in a block from an offset on. -/
def XYsAt (w : World) (b o : Nat) (ps : List (Nat × Nat)) : Prop := ∀ i, i < ps.length → w.cell? ⟨b, o + i * 2, none⟩ = some (fl (ps.getD i (0, 0)).1) ∧ w.cell? ⟨b, o + i * 2 + 1, none⟩ = some (fl (ps.getD i (0, 0)).2)
@[go_sem] theorem stoodXY : Try.prog.stoodInHeld 30 = false := by kernel_rfl
@[go_sem] theorem guardXY : Try.prog.eqGuardType Try.prog.depth 30 = false := by kernel_rfl
@[go_sem ↓] theorem eqXY (W : World) (a b c d : Nat) : (binOp .eql 30 (vXY a b) (vXY c d)).run Try.prog W = .ok (.bool ((D.order a c == some .eq) && (D.order b d == some .eq))) W := by
  by_cases h1 : D.order a c = some .eq <;> by_cases h2 : D.order b d = some .eq <;> simp [go_sem, h1, h2]
theorem XYsAt.later {w : World} {b o : Nat} {ps : List (Nat × Nat)} (h : XYsAt w b o ps) (x : LaterW w) : XYsAt x.val b o ps := fun i hi => by
  obtain ⟨h1, h2⟩ := h i hi
  exact ⟨by rw [x.ok.cell (World.block_lt_of_cell? _ _ h1)]; exact h1, by rw [x.ok.cell (World.block_lt_of_cell? _ _ h2)]; exact h2⟩
theorem all_take_succ {α : Type} {P : α → Bool} {ps : List α} {k : Nat} (h : k < ps.length) (ha : (ps.take k).all P = true) (hp : P ps[k] = true) : (ps.take (k + 1)).all P = true := by
  rw [List.take_succ_eq_append_getElem h, List.all_append, ha]; simp [hp]
theorem all_false_at {α : Type} {P : α → Bool} {ps : List α} {k : Nat} (h : k < ps.length) (hp : P ps[k] = false) : ps.all P = false := by
  rw [List.all_eq_false]; exact ⟨ps[k], List.getElem_mem h, by simp [hp]⟩
theorem XYsAt.two {w : World} {b o x y z t : Nat} (h1 : w.cell? ⟨b, o, none⟩ = some (fl x)) (h2 : w.cell? ⟨b, o + 1, none⟩ = some (fl y)) (h3 : w.cell? ⟨b, o + 2, none⟩ = some (fl z)) (h4 : w.cell? ⟨b, o + 3, none⟩ = some (fl t)) : XYsAt w b o [(x, y), (z, t)] := by
  intro i hi
  match i, hi with
  | 0, _ => exact ⟨h1, h2⟩
  | 1, _ => exact ⟨h3, h4⟩
def xyWholeB (p : Nat × Nat) : Bool := wholeB p.1 && wholeB p.2

theorem vWhole_any (b o n : Nat) (ps : List (Nat × Nat)) (cap : Nat) (w : World) (hp : XYsAt w b o ps) (hn : ps.length = n) (hm : ps.length ≤ 1000000) :
    Calls Try.prog 10 #[.slice (some ⟨b, o, none⟩) n cap] w fun e w' => e = .returned (.bool (ps.all xyWholeB)) ∧ Below w.heap.size w w' := by
  subst hn
  have HP := Lib.hid hp
  clear hp
  go_enter Try.func10, Try.ntmps10
  go_wp2_with fail
  go_loopw [7] (fun i wr => ∃ k : Nat, k ≤ ps.length ∧ i = .int .i64 k ∧ (ps.take k).all xyWholeB = true ∧ ∃ x : LaterW w, wr = x.val) (fun i _ => ps.length - (intOf i).toNat)
  case atStart => exact ⟨0, Nat.zero_le _, rfl, rfl, ⟨w, Below.refl _ _⟩, by unfold LaterW.val; rfl⟩
  case round =>
    obtain ⟨k, hk, rfl, hall, x, rfl⟩ := hrel
    by_cases hlt : k < ps.length
    · obtain ⟨c1, c2⟩ := (HP.out.later x) k hlt
      have HA := Lib.hid hall
      clear hall
      go_wp2_with ((go_at_call 22; (with_reducible refine (gWhole_any _ _).mono ?_); rintro e w1 ⟨rfl, hb⟩; (first | (obtain ⟨x1, rfl⟩ := LaterW.of2 hb) | (obtain ⟨x1, rfl⟩ := LaterW.of hb)); clear hb))
      all_goals first
        | (refine ⟨⟨k + 1, by omega, by go_num, all_take_succ hlt HA.out (by simp_all [xyWholeB]), LaterW.of (by repeat (first | with_reducible exact Below.refl _ _ | with_reducible exact HBEL.out | with_reducible assumption | with_reducible refine Below.setCell ?_ (by first | (dsimp only; omega) | (simp; try omega)) _ | with_reducible refine LaterW.below _ ?_ | with_reducible refine below_alloc ?_ _ | with_reducible refine below_drewN' ?_ _ | with_reducible refine Below.drew ?_ | with_reducible exact below_drewN _))⟩, by simp [intOf]; omega⟩)
        | (go_ret
           exact ⟨ret_bool (all_false_at hlt (by simp_all [xyWholeB])).symm, (by repeat (first | with_reducible exact Below.refl _ _ | with_reducible exact HBEL.out | with_reducible assumption | with_reducible refine Below.setCell ?_ (by first | (dsimp only; omega) | (simp; try omega)) _ | with_reducible refine LaterW.below _ ?_ | with_reducible refine below_alloc ?_ _ | with_reducible refine below_drewN' ?_ _ | with_reducible refine Below.drew ?_ | with_reducible exact below_drewN _))⟩)
    · have HA := Lib.hid hall
      clear hall
      go_wp2_with fail
      go_ret
      exact ⟨ret_bool (by have h := HA.out; rw [List.take_of_length_le (by omega)] at h; exact h.symm), (by repeat (first | with_reducible exact Below.refl _ _ | with_reducible exact HBEL.out | with_reducible assumption | with_reducible refine Below.setCell ?_ (by first | (dsimp only; omega) | (simp; try omega)) _ | with_reducible refine LaterW.below _ ?_ | with_reducible refine below_alloc ?_ _ | with_reducible refine below_drewN' ?_ _ | with_reducible refine Below.drew ?_ | with_reducible exact below_drewN _))⟩

theorem xyAdd_any {a b c d p q : Nat} (h1 : D.add a c = some p) (h2 : D.add b d = some q) (w : World) :
    Calls Try.prog 36 #[vXY a b, vXY c d] w fun e w' => e = .returned (vXY p q) ∧ Below w.heap.size w w' := by
  have k_h1 := fun (W : World) => run_float_arith (P := Try.prog) W .add 22 .f64 _ _ _ h1
  have k_h2 := fun (W : World) => run_float_arith (P := Try.prog) W .add 22 .f64 _ _ _ h2
  clear h1 h2
  go_enter Try.func36, Try.ntmps36
  go_wp2_with fail
  refine ret_agg [fl p, fl q] rfl rfl rfl (by kernel_rfl) (by kernel_rfl) (by simp [CellsAt, go_sem]) ⟨rfl, ?_⟩
  exact (by repeat (first | with_reducible exact Below.refl _ _ | with_reducible exact HBEL.out | with_reducible assumption | with_reducible refine Below.setCell ?_ (by first | (dsimp only; omega) | (simp; try omega)) _ | with_reducible refine LaterW.below _ ?_ | with_reducible refine below_alloc ?_ _ | with_reducible refine below_drewN' ?_ _ | with_reducible refine Below.drew ?_ | with_reducible exact below_drewN _))
theorem xyScale_any {a b s p q : Nat} (h1 : D.mul a s = some p) (h2 : D.mul b s = some q) (w : World) :
    Calls Try.prog 37 #[vXY a b, fl s] w fun e w' => e = .returned (vXY p q) ∧ Below w.heap.size w w' := by
  have k_h1 := fun (W : World) => run_float_arith (P := Try.prog) W .mul 22 .f64 _ _ _ h1
  have k_h2 := fun (W : World) => run_float_arith (P := Try.prog) W .mul 22 .f64 _ _ _ h2
  clear h1 h2
  go_enter Try.func37, Try.ntmps37
  go_wp2_with fail
  refine ret_agg [fl p, fl q] rfl rfl rfl (by kernel_rfl) (by kernel_rfl) (by simp [CellsAt, go_sem]) ⟨rfl, ?_⟩
  exact (by repeat (first | with_reducible exact Below.refl _ _ | with_reducible exact HBEL.out | with_reducible assumption | with_reducible refine Below.setCell ?_ (by first | (dsimp only; omega) | (simp; try omega)) _ | with_reducible refine LaterW.below _ ?_ | with_reducible refine below_alloc ?_ _ | with_reducible refine below_drewN' ?_ _ | with_reducible refine Below.drew ?_ | with_reducible exact below_drewN _))
theorem xy_any (a b : Nat) (w : World) : Calls Try.prog 24 #[vXY a b] w fun e w' => e = .returned (vXY a b) ∧ Below w.heap.size w w' := by
  go_enter Try.func24, Try.ntmps24
  go_wp2_with fail
  refine ret_agg [fl a, fl b] rfl rfl rfl (by kernel_rfl) (by kernel_rfl) (by simp [CellsAt, go_sem]) ⟨rfl, ?_⟩
  exact (by repeat (first | with_reducible exact Below.refl _ _ | with_reducible exact HBEL.out | with_reducible assumption | with_reducible refine Below.setCell ?_ (by first | (dsimp only; omega) | (simp; try omega)) _ | with_reducible refine LaterW.below _ ?_ | with_reducible refine below_alloc ?_ _ | with_reducible refine below_drewN' ?_ _ | with_reducible refine Below.drew ?_ | with_reducible exact below_drewN _))
theorem plainXY_any (a b : Nat) (w : World) : Calls Try.prog 23 #[vXY a b] w fun e w' => e = .returned (vXY a b) ∧ Below w.heap.size w w' := by
  go_enter Try.func23, Try.ntmps23
  go_wp2_with fail
  refine ret_agg [fl a, fl b] rfl rfl rfl (by kernel_rfl) (by kernel_rfl) (by simp [CellsAt, go_sem]) ⟨rfl, ?_⟩
  exact (by repeat (first | with_reducible exact Below.refl _ _ | with_reducible exact HBEL.out | with_reducible assumption | with_reducible refine Below.setCell ?_ (by first | (dsimp only; omega) | (simp; try omega)) _ | with_reducible refine LaterW.below _ ?_ | with_reducible refine below_alloc ?_ _ | with_reducible refine below_drewN' ?_ _ | with_reducible refine Below.drew ?_ | with_reducible exact below_drewN _))
/-- What Midpoint reckons (0.5 is the word 4602678819172646912). -/
structure Mid (a b c d p q r s : Nat) : Prop where
  h1 : D.add a c = some p
  h2 : D.add b d = some q
  h3 : D.mul p 4602678819172646912 = some r
  h4 : D.mul q 4602678819172646912 = some s
theorem xyMidpoint_any {a b c d p q r s : Nat} (h : Mid a b c d p q r s) (w : World) :
    Calls Try.prog 25 #[vXY a b, vXY c d] w fun e w' => e = .returned (vXY r s) ∧ Below w.heap.size w w' := by
  have h1 := Lib.hid h.h1
  have h2 := Lib.hid h.h2
  have h3 := Lib.hid h.h3
  have h4 := Lib.hid h.h4
  clear h
  go_enter Try.func25, Try.ntmps25
  go_wp2_with (first | (go_at_call 36; (with_reducible refine (xyAdd_any h1.out h2.out _).mono ?_); rintro e w1 ⟨rfl, hb⟩; (first | (obtain ⟨x1, rfl⟩ := LaterW.of2 hb) | (obtain ⟨x1, rfl⟩ := LaterW.of hb)); clear hb) | (go_at_call 37; (with_reducible refine (xyScale_any h3.out h4.out _).mono ?_); rintro e w1 ⟨rfl, hb⟩; (first | (obtain ⟨x1, rfl⟩ := LaterW.of2 hb) | (obtain ⟨x1, rfl⟩ := LaterW.of hb)); clear hb))
  refine ret_agg [fl r, fl s] rfl rfl rfl (by kernel_rfl) (by kernel_rfl) (by simp [CellsAt, go_sem]) ⟨rfl, ?_⟩
  exact (by repeat (first | with_reducible exact Below.refl _ _ | with_reducible exact HBEL.out | with_reducible assumption | with_reducible refine Below.setCell ?_ (by first | (dsimp only; omega) | (simp; try omega)) _ | with_reducible refine LaterW.below _ ?_ | with_reducible refine below_alloc ?_ _ | with_reducible refine below_drewN' ?_ _ | with_reducible refine Below.drew ?_ | with_reducible exact below_drewN _))
theorem midpoint_any {a b c d p q r s : Nat} (h : Mid a b c d p q r s) (w : World) :
    Calls Try.prog 11 #[vXY a b, vXY c d] w fun e w' => e = .returned (vXY r s) ∧ Below w.heap.size w w' := by
  have H := Lib.hid h
  clear h
  go_enter Try.func11, Try.ntmps11
  go_wp2_with fail
  ((first | refine wp_region_laterlast2 rfl rfl (by kernel_rfl) (by kernel_rfl) (by kernel_rfl) ?_ | refine wp_region_laterlast rfl rfl (by kernel_rfl) (by kernel_rfl) (by kernel_rfl) ?_); (simp only [List.length_cons, List.length_nil, Nat.reduceAdd, List.take_succ_cons, List.take_zero]); (repeat (go_big_quiet_step (first | (go_at_call 24; with_reducible exact Calls.later_of (xy_any _ _ _)) | (go_at_call 25; with_reducible exact Calls.later_of (xyMidpoint_any H.out _)) | (go_at_call 23; with_reducible exact Calls.later_of (plainXY_any _ _ _))))); refine wpQuiet_nil ?_; rintro _ ⟨x1, rfl⟩)
  go_wp2_with fail
  refine ret_agg [fl r, fl s] rfl rfl rfl (by kernel_rfl) (by kernel_rfl) (by simp [CellsAt, go_sem]) ⟨rfl, ?_⟩
  exact (by repeat (first | with_reducible exact Below.refl _ _ | with_reducible exact HBEL.out | with_reducible assumption | with_reducible refine Below.setCell ?_ (by first | (dsimp only; omega) | (simp; try omega)) _ | with_reducible refine LaterW.below _ ?_ | with_reducible refine below_alloc ?_ _ | with_reducible refine below_drewN' ?_ _ | with_reducible refine Below.drew ?_ | with_reducible exact below_drewN _))
end Go.Proofs.Ytjikhnnheggejaa
