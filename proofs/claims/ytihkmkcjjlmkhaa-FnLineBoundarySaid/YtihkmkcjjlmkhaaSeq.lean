/- Sequences of numbers: their small functions. No condition. -/
import Derived.Test.YtihkmkcjjlmkhaaGeo5
namespace Go.Proofs.Ytihkmkcjjlmkhaa
set_option maxRecDepth 100000
open Go.ChangeShapes Go.WideShapes Go.ChangeAt Go.RowKit Go.Deep

abbrev vSeq (d : Int) (a : Option Addr) (n c : Nat) : Value := .agg #[.int .u8 d, .slice a n c]
@[go_sem] theorem indexW0 (W : World) : (Instr.index 142 (.agg #[.int .i64 2, .int .i64 3, .int .i64 3, .int .i64 4]) (.int .u8 0)).run Try.prog W = .ok (.int .i64 2) W := by kernel_rfl
@[go_sem] theorem indexW1 (W : World) : (Instr.index 142 (.agg #[.int .i64 2, .int .i64 3, .int .i64 3, .int .i64 4]) (.int .u8 1)).run Try.prog W = .ok (.int .i64 3) W := by kernel_rfl
@[go_sem] theorem indexW2 (W : World) : (Instr.index 142 (.agg #[.int .i64 2, .int .i64 3, .int .i64 3, .int .i64 4]) (.int .u8 2)).run Try.prog W = .ok (.int .i64 3) W := by kernel_rfl
@[go_sem] theorem indexW3 (W : World) : (Instr.index 142 (.agg #[.int .i64 2, .int .i64 3, .int .i64 3, .int .i64 4]) (.int .u8 3)).run Try.prog W = .ok (.int .i64 4) W := by kernel_rfl
theorem dimension_any {d r : Int} (h0 : 0 ≤ d) (h3 : d ≤ 3) (hr : widthI d = r) (w : World) : Calls Try.prog 90 #[.int .u8 d] w fun e w' => e = .returned (.int .i64 r) ∧ Below w.heap.size w w' := by
  subst hr
  rcases width_all d h0 h3 with rfl | rfl | rfl | rfl
  all_goals
    go_enter Try.func90, Try.ntmps90
    go_wp2_with fail
    go_ret
    exact ⟨rfl, (by repeat (first | with_reducible exact Below.refl _ _ | with_reducible exact HBEL.out | with_reducible assumption | with_reducible refine Below.setCell ?_ (by first | (dsimp only; omega) | (simp; try omega)) _ | with_reducible refine LaterW.below _ ?_ | with_reducible refine below_alloc ?_ _ | with_reducible refine below_drewN' ?_ _ | with_reducible refine Below.drew ?_ | with_reducible exact below_drewN _))⟩
def has3 (d : Int) : Bool := decide (d = 1) || decide (d = 3)
def hasM (d : Int) : Bool := decide (d = 2) || decide (d = 3)
theorem is3D_any {d : Int} {r : Bool} (h0 : 0 ≤ d) (h3 : d ≤ 3) (hr : has3 d = r) (w : World) : Calls Try.prog 86 #[.int .u8 d] w fun e w' => e = .returned (.bool r) ∧ Below w.heap.size w w' := by
  subst hr
  rcases width_all d h0 h3 with rfl | rfl | rfl | rfl
  all_goals
    go_enter Try.func86, Try.ntmps86
    go_wp2_with fail
    go_ret
    exact ⟨ret_bool (by decide), (by repeat (first | with_reducible exact Below.refl _ _ | with_reducible exact HBEL.out | with_reducible assumption | with_reducible refine Below.setCell ?_ (by first | (dsimp only; omega) | (simp; try omega)) _ | with_reducible refine LaterW.below _ ?_ | with_reducible refine below_alloc ?_ _ | with_reducible refine below_drewN' ?_ _ | with_reducible refine Below.drew ?_ | with_reducible exact below_drewN _))⟩
theorem isMeasured_any {d : Int} {r : Bool} (h0 : 0 ≤ d) (h3 : d ≤ 3) (hr : hasM d = r) (w : World) : Calls Try.prog 87 #[.int .u8 d] w fun e w' => e = .returned (.bool r) ∧ Below w.heap.size w w' := by
  subst hr
  rcases width_all d h0 h3 with rfl | rfl | rfl | rfl
  all_goals
    go_enter Try.func87, Try.ntmps87
    go_wp2_with fail
    go_ret
    exact ⟨ret_bool (by decide), (by repeat (first | with_reducible exact Below.refl _ _ | with_reducible exact HBEL.out | with_reducible assumption | with_reducible refine Below.setCell ?_ (by first | (dsimp only; omega) | (simp; try omega)) _ | with_reducible refine LaterW.below _ ?_ | with_reducible refine below_alloc ?_ _ | with_reducible refine below_drewN' ?_ _ | with_reducible refine Below.drew ?_ | with_reducible exact below_drewN _))⟩
theorem dimOf_any (d : Int) (w : World) : Calls Try.prog 57 #[.int .i64 d] w fun e w' => e = .returned (.int .u8 (d % 4)) ∧ Below w.heap.size w w' := by
  have hw : IntKind.u8.wrap (d % 4) = d % 4 := by unfold IntKind.wrap; simp [IntKind.signed, IntKind.bits]; omega
  go_enter Try.func57, Try.ntmps57
  go_wp2_with fail
  go_ret
  exact ⟨rfl, (by repeat (first | with_reducible exact Below.refl _ _ | with_reducible exact HBEL.out | with_reducible assumption | with_reducible refine Below.setCell ?_ (by first | (dsimp only; omega) | (simp; try omega)) _ | with_reducible refine LaterW.below _ ?_ | with_reducible refine below_alloc ?_ _ | with_reducible refine below_drewN' ?_ _ | with_reducible refine Below.drew ?_ | with_reducible exact below_drewN _))⟩
theorem seqType_any (d : Int) (a : Option Addr) (n c : Nat) (w : World) : Calls Try.prog 83 #[vSeq d a n c] w fun e w' => e = .returned (.int .u8 d) ∧ Below w.heap.size w w' := by
  go_enter Try.func83, Try.ntmps83
  go_wp2_with fail
  go_ret
  exact ⟨rfl, (by repeat (first | with_reducible exact Below.refl _ _ | with_reducible exact HBEL.out | with_reducible assumption | with_reducible refine Below.setCell ?_ (by first | (dsimp only; omega) | (simp; try omega)) _ | with_reducible refine LaterW.below _ ?_ | with_reducible refine below_alloc ?_ _ | with_reducible refine below_drewN' ?_ _ | with_reducible refine Below.drew ?_ | with_reducible exact below_drewN _))⟩
theorem seqLength_any {d : Int} {a : Option Addr} {n c : Nat} (h0 : 0 ≤ d) (h3 : d ≤ 3) {q : Nat} (hq : n / widthN d = q) (hn : n ≤ 4000) (w : World) : Calls Try.prog 84 #[vSeq d a n c] w fun e w' => e = .returned (.int .i64 q) ∧ Below w.heap.size w w' := by
  obtain ⟨wd, hwd⟩ : ∃ wd, widthN d = wd := ⟨_, rfl⟩
  have HW : Hid (widthI d = (wd : Int)) := by show _ = _; rw [← hwd]; unfold widthN widthI; split <;> (try split) <;> rfl
  have hwd3 : 2 ≤ wd ∧ wd ≤ 4 := by rw [← hwd]; unfold widthN widthI; split <;> (try split) <;> decide
  rw [hwd] at hq
  clear hwd
  have hdiv : n / wd ≤ n := Nat.div_le_self _ _
  have hwr : wrap64 ((n : Int) / (wd : Int)) = (q : Int) := by
    have e : ((n : Int) / (wd : Int)) = ((n / wd : Nat) : Int) := by simp
    rw [e, hq]
    rw [hq] at hdiv
    unfold wrap64
    omega
  clear hdiv hq
  go_enter Try.func84, Try.ntmps84
  go_wp2_with fail
  ((first | refine wp_region_later2 (by kernel_rfl) (by kernel_rfl) ?_ | refine wp_region_later (by kernel_rfl) (by kernel_rfl) ?_); (repeat (go_big_quiet_step ((go_at_call 90; with_reducible exact Calls.later_of (dimension_any h0 h3 HW.out _))))); refine wpQuiet_nil ?_; rintro _ ⟨x1, rfl⟩)
  go_wp2_with fail
  go_ret
  exact ⟨by simp [hwr], (by repeat (first | with_reducible exact Below.refl _ _ | with_reducible exact HBEL.out | with_reducible assumption | with_reducible refine Below.setCell ?_ (by first | (dsimp only; omega) | (simp; try omega)) _ | with_reducible refine LaterW.below _ ?_ | with_reducible refine below_alloc ?_ _ | with_reducible refine below_drewN' ?_ _ | with_reducible refine Below.drew ?_ | with_reducible exact below_drewN _))⟩
theorem newSequence_any {d : Int} {a : Option Addr} {n : Nat} (h0 : 0 ≤ d) (h3 : d ≤ 3) (hq : n % widthN d = 0) (w : World) : Calls Try.prog 106 #[.slice a n n, .int .u8 d] w fun e w' => e = .returned (vSeq d a n n) ∧ Below w.heap.size w w' := by
  obtain ⟨wd, hwd⟩ : ∃ wd, widthN d = wd := ⟨_, rfl⟩
  have HW : Hid (widthI d = (wd : Int)) := by show _ = _; rw [← hwd]; unfold widthN widthI; split <;> (try split) <;> rfl
  have hwd3 : 2 ≤ wd ∧ wd ≤ 4 := by rw [← hwd]; unfold widthN widthI; split <;> (try split) <;> decide
  rw [hwd] at hq
  clear hwd
  have hwr : ((n : Int).tmod (wd : Int)) = 0 := by
    rw [← Int.ofNat_tmod, hq]; rfl
  go_enter Try.func106, Try.ntmps106
  go_wp2_with ((go_at_call 90; (with_reducible refine (dimension_any h0 h3 HW.out _).mono ?_); rintro e w1 ⟨rfl, hb⟩; (first | (obtain ⟨x1, rfl⟩ := LaterW.of2 hb) | (obtain ⟨x1, rfl⟩ := LaterW.of hb)); clear hb))
  refine ret_agg [.int .u8 d, .slice a n n] rfl rfl rfl (by kernel_rfl) (by kernel_rfl) (by simp [CellsAt, go_sem]) ⟨rfl, ?_⟩
  exact (by repeat (first | with_reducible exact Below.refl _ _ | with_reducible exact HBEL.out | with_reducible assumption | with_reducible refine Below.setCell ?_ (by first | (dsimp only; omega) | (simp; try omega)) _ | with_reducible refine LaterW.below _ ?_ | with_reducible refine below_alloc ?_ _ | with_reducible refine below_drewN' ?_ _ | with_reducible refine Below.drew ?_ | with_reducible exact below_drewN _))
theorem newLineString_any (d : Int) (a : Option Addr) (n c : Nat) (w : World) : Calls Try.prog 88 #[vSeq d a n c] w fun e w' => e = .returned (vSeq d a n c) ∧ Below w.heap.size w w' := by
  go_enter Try.func88, Try.ntmps88
  go_wp2_with fail
  refine ret_agg [.int .u8 d, .slice a n c] rfl rfl rfl (by kernel_rfl) (by kernel_rfl) (by simp [CellsAt, go_sem]) ⟨rfl, ?_⟩
  exact (by repeat (first | with_reducible exact Below.refl _ _ | with_reducible exact HBEL.out | with_reducible assumption | with_reducible refine Below.setCell ?_ (by first | (dsimp only; omega) | (simp; try omega)) _ | with_reducible refine LaterW.below _ ?_ | with_reducible refine below_alloc ?_ _ | with_reducible refine below_drewN' ?_ _ | with_reducible refine Below.drew ?_ | with_reducible exact below_drewN _))
theorem coordinates_any (d : Int) (a : Option Addr) (n c : Nat) (w : World) : Calls Try.prog 49 #[vSeq d a n c] w fun e w' => e = .returned (vSeq d a n c) ∧ Below w.heap.size w w' := by
  go_enter Try.func49, Try.ntmps49
  go_wp2_with fail
  refine ret_agg [.int .u8 d, .slice a n c] rfl rfl rfl (by kernel_rfl) (by kernel_rfl) (by simp [CellsAt, go_sem]) ⟨rfl, ?_⟩
  exact (by repeat (first | with_reducible exact Below.refl _ _ | with_reducible exact HBEL.out | with_reducible assumption | with_reducible refine Below.setCell ?_ (by first | (dsimp only; omega) | (simp; try omega)) _ | with_reducible refine LaterW.below _ ?_ | with_reducible refine below_alloc ?_ _ | with_reducible refine below_drewN' ?_ _ | with_reducible refine Below.drew ?_ | with_reducible exact below_drewN _))
end Go.Proofs.Ytihkmkcjjlmkhaa
