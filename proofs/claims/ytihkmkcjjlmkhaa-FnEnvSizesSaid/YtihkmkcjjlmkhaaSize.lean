/- Width, Height, Area, Center of envelopes; laws.eRound, gPoint. No condition. -/
import Derived.Test.YtihkmkcjjlmkhaaForce
import Derived.Test.YtihkmkcjjlmkhaaEnv4
import Derived.Test.YtihkmkcjjlmkhaaBox
namespace Go.Proofs.Ytihkmkcjjlmkhaa
set_option maxRecDepth 100000
open Go.ChangeShapes Go.WideShapes Go.ChangeAt Go.RowKit Go.Deep
open Fl

def roundB (e : EnvV) : Bool := !e.f || eWholeB e.a e.b e.c e.d
theorem eRound_any {B o n cap : Nat} {es : List EnvV} {w : World} (hp : EnvsAt w B o es) (hB : B < w.heap.size) (hn : es.length = n) (hm : es.length ≤ 1000000) :
    Calls Try.prog 24 #[.slice (some ⟨B, o, none⟩) n cap] w fun e w' => e = .returned (.bool (es.all roundB)) ∧ Below w.heap.size w w' := by
  subst hn
  have HP := Lib.hid hp
  clear hp
  go_enter Try.func24, Try.ntmps24
  go_wp2_with fail
  go_loopw [7] (fun i wr => ∃ k : Nat, k ≤ es.length ∧ i = .int .i64 k ∧ (es.take k).all roundB = true ∧ ∃ x : LaterW w, wr = x.val) (fun i _ => es.length - (intOf i).toNat)
  case atStart => exact ⟨0, Nat.zero_le _, rfl, rfl, LaterW.of (Below.refl _ _)⟩
  case round =>
    obtain ⟨k, hk, rfl, hall, x, rfl⟩ := hrel
    have HA := Lib.hid hall
    clear hall
    by_cases hlt : k < es.length
    · have hc := (HP.out k hlt).mono (w' := x.val) (fun j => x.ok.cell (p := ⟨B, j, none⟩) hB)
      have HF : Hid (roundB es[k]! = roundB es[k]) := by show roundB es[k]! = roundB es[k]; rw [getElem!_pos es k hlt]
      rw [show roundB es[k]! = (!es[k]!.f || eWholeB es[k]!.a es[k]!.b es[k]!.c es[k]!.d) from rfl] at HF
      generalize es[k]!.f = f at *
      generalize es[k]!.a = a at *
      generalize es[k]!.b = b at *
      generalize es[k]!.c = c at *
      generalize es[k]!.d = d at *
      simp only [CellsAt] at hc
      obtain ⟨c0, c1, c2, c3, c4, _⟩ := hc
      go_wp2_with ((go_at_call 65; (with_reducible refine (eWhole_any _ _ _ _ _).mono ?_); rintro e w1 ⟨rfl, hb⟩; (first | (obtain ⟨x1, rfl⟩ := LaterW.of2 hb) | (obtain ⟨x1, rfl⟩ := LaterW.of hb)); clear hb))
      all_goals first
        | (refine ⟨⟨k + 1, by omega, by go_num, all_take_succ hlt HA.out (by rw [← HF.out]; simp_all), LaterW.of (by repeat (first | with_reducible exact Below.refl _ _ | with_reducible exact HBEL.out | with_reducible assumption | with_reducible refine Below.setCell ?_ (by first | (dsimp only; omega) | (simp; try omega)) _ | with_reducible refine LaterW.below _ ?_ | with_reducible refine below_alloc ?_ _ | with_reducible refine below_drewN' ?_ _ | with_reducible refine Below.drew ?_ | with_reducible exact below_drewN _))⟩, by simp [intOf]; omega⟩)
        | (go_ret
           exact ⟨ret_bool (all_false_at hlt (by rw [← HF.out]; simp_all)).symm, (by repeat (first | with_reducible exact Below.refl _ _ | with_reducible exact HBEL.out | with_reducible assumption | with_reducible refine Below.setCell ?_ (by first | (dsimp only; omega) | (simp; try omega)) _ | with_reducible refine LaterW.below _ ?_ | with_reducible refine below_alloc ?_ _ | with_reducible refine below_drewN' ?_ _ | with_reducible refine Below.drew ?_ | with_reducible exact below_drewN _))⟩)
    · go_wp2_with fail
      go_ret
      exact ⟨ret_bool (by have h := HA.out; rw [List.take_of_length_le (by omega)] at h; exact h.symm), (by repeat (first | with_reducible exact Below.refl _ _ | with_reducible exact HBEL.out | with_reducible assumption | with_reducible refine Below.setCell ?_ (by first | (dsimp only; omega) | (simp; try omega)) _ | with_reducible refine LaterW.below _ ?_ | with_reducible refine below_alloc ?_ _ | with_reducible refine below_drewN' ?_ _ | with_reducible refine Below.drew ?_ | with_reducible exact below_drewN _))⟩
section
variable {a b c d z z1 z2 : Nat} {w : World}
theorem width_t (h : D.sub c a = some z) : Calls Try.prog 69 #[vGEnv a b c d true] w fun e w' => e = .returned (fl z) ∧ Below w.heap.size w w' := by
  have k_h := fun (W : World) => run_float_arith (P := Try.prog) W .sub 36 .f64 _ _ _ h
  clear h
  go_enter Try.func69, Try.ntmps69
  go_wp2_with ((go_at_call 98; (with_reducible refine (isEmpty_t _ _ _ _ _).mono ?_); rintro e w1 ⟨rfl, hb⟩; (first | (obtain ⟨x1, rfl⟩ := LaterW.of2 hb) | (obtain ⟨x1, rfl⟩ := LaterW.of hb)); clear hb))
  go_ret
  exact ⟨rfl, (by repeat (first | with_reducible exact Below.refl _ _ | with_reducible exact HBEL.out | with_reducible assumption | with_reducible refine Below.setCell ?_ (by first | (dsimp only; omega) | (simp; try omega)) _ | with_reducible refine LaterW.below _ ?_ | with_reducible refine below_alloc ?_ _ | with_reducible refine below_drewN' ?_ _ | with_reducible refine Below.drew ?_ | with_reducible exact below_drewN _))⟩
theorem width_f : Calls Try.prog 69 #[vGEnv a b c d false] w fun e w' => e = .returned (fl 0) ∧ Below w.heap.size w w' := by
  go_enter Try.func69, Try.ntmps69
  go_wp2_with ((go_at_call 98; (with_reducible refine (isEmpty_f _ _ _ _ _).mono ?_); rintro e w1 ⟨rfl, hb⟩; (first | (obtain ⟨x1, rfl⟩ := LaterW.of2 hb) | (obtain ⟨x1, rfl⟩ := LaterW.of hb)); clear hb))
  go_ret
  exact ⟨rfl, (by repeat (first | with_reducible exact Below.refl _ _ | with_reducible exact HBEL.out | with_reducible assumption | with_reducible refine Below.setCell ?_ (by first | (dsimp only; omega) | (simp; try omega)) _ | with_reducible refine LaterW.below _ ?_ | with_reducible refine below_alloc ?_ _ | with_reducible refine below_drewN' ?_ _ | with_reducible refine Below.drew ?_ | with_reducible exact below_drewN _))⟩
theorem height_t (h : D.sub d b = some z) : Calls Try.prog 70 #[vGEnv a b c d true] w fun e w' => e = .returned (fl z) ∧ Below w.heap.size w w' := by
  have k_h := fun (W : World) => run_float_arith (P := Try.prog) W .sub 36 .f64 _ _ _ h
  clear h
  go_enter Try.func70, Try.ntmps70
  go_wp2_with ((go_at_call 98; (with_reducible refine (isEmpty_t _ _ _ _ _).mono ?_); rintro e w1 ⟨rfl, hb⟩; (first | (obtain ⟨x1, rfl⟩ := LaterW.of2 hb) | (obtain ⟨x1, rfl⟩ := LaterW.of hb)); clear hb))
  go_ret
  exact ⟨rfl, (by repeat (first | with_reducible exact Below.refl _ _ | with_reducible exact HBEL.out | with_reducible assumption | with_reducible refine Below.setCell ?_ (by first | (dsimp only; omega) | (simp; try omega)) _ | with_reducible refine LaterW.below _ ?_ | with_reducible refine below_alloc ?_ _ | with_reducible refine below_drewN' ?_ _ | with_reducible refine Below.drew ?_ | with_reducible exact below_drewN _))⟩
theorem height_f : Calls Try.prog 70 #[vGEnv a b c d false] w fun e w' => e = .returned (fl 0) ∧ Below w.heap.size w w' := by
  go_enter Try.func70, Try.ntmps70
  go_wp2_with ((go_at_call 98; (with_reducible refine (isEmpty_f _ _ _ _ _).mono ?_); rintro e w1 ⟨rfl, hb⟩; (first | (obtain ⟨x1, rfl⟩ := LaterW.of2 hb) | (obtain ⟨x1, rfl⟩ := LaterW.of hb)); clear hb))
  go_ret
  exact ⟨rfl, (by repeat (first | with_reducible exact Below.refl _ _ | with_reducible exact HBEL.out | with_reducible assumption | with_reducible refine Below.setCell ?_ (by first | (dsimp only; omega) | (simp; try omega)) _ | with_reducible refine LaterW.below _ ?_ | with_reducible refine below_alloc ?_ _ | with_reducible refine below_drewN' ?_ _ | with_reducible refine Below.drew ?_ | with_reducible exact below_drewN _))⟩
theorem area_t (h1 : D.sub c a = some z1) (h2 : D.sub d b = some z2) (h3 : D.mul z1 z2 = some z) : Calls Try.prog 71 #[vGEnv a b c d true] w fun e w' => e = .returned (fl z) ∧ Below w.heap.size w w' := by
  have k_h1 := fun (W : World) => run_float_arith (P := Try.prog) W .sub 36 .f64 _ _ _ h1
  have k_h2 := fun (W : World) => run_float_arith (P := Try.prog) W .sub 36 .f64 _ _ _ h2
  have k_h3 := fun (W : World) => run_float_arith (P := Try.prog) W .mul 36 .f64 _ _ _ h3
  clear h1 h2 h3
  go_enter Try.func71, Try.ntmps71
  go_wp2_with ((go_at_call 98; (with_reducible refine (isEmpty_t _ _ _ _ _).mono ?_); rintro e w1 ⟨rfl, hb⟩; (first | (obtain ⟨x1, rfl⟩ := LaterW.of2 hb) | (obtain ⟨x1, rfl⟩ := LaterW.of hb)); clear hb))
  go_ret
  exact ⟨rfl, (by repeat (first | with_reducible exact Below.refl _ _ | with_reducible exact HBEL.out | with_reducible assumption | with_reducible refine Below.setCell ?_ (by first | (dsimp only; omega) | (simp; try omega)) _ | with_reducible refine LaterW.below _ ?_ | with_reducible refine below_alloc ?_ _ | with_reducible refine below_drewN' ?_ _ | with_reducible refine Below.drew ?_ | with_reducible exact below_drewN _))⟩
theorem area_f : Calls Try.prog 71 #[vGEnv a b c d false] w fun e w' => e = .returned (fl 0) ∧ Below w.heap.size w w' := by
  go_enter Try.func71, Try.ntmps71
  go_wp2_with ((go_at_call 98; (with_reducible refine (isEmpty_f _ _ _ _ _).mono ?_); rintro e w1 ⟨rfl, hb⟩; (first | (obtain ⟨x1, rfl⟩ := LaterW.of2 hb) | (obtain ⟨x1, rfl⟩ := LaterW.of hb)); clear hb))
  go_ret
  exact ⟨rfl, (by repeat (first | with_reducible exact Below.refl _ _ | with_reducible exact HBEL.out | with_reducible assumption | with_reducible refine Below.setCell ?_ (by first | (dsimp only; omega) | (simp; try omega)) _ | with_reducible refine LaterW.below _ ?_ | with_reducible refine below_alloc ?_ _ | with_reducible refine below_drewN' ?_ _ | with_reducible refine Below.drew ?_ | with_reducible exact below_drewN _))⟩
theorem asPoint_any (x y : Nat) : Calls Try.prog 101 #[vXY x y] w fun e w' => e = .returned (vP ⟨x, y, 0, 0⟩ 0 true) ∧ Below w.heap.size w w' := by
  go_enter Try.func101, Try.ntmps101
  go_wp2_with ((go_at_call 94; (with_reducible refine (newPoint_any ⟨x, y, 0, 0⟩ _ _).mono ?_); rintro e w1 ⟨rfl, hb⟩; (first | (obtain ⟨x1, rfl⟩ := LaterW.of2 hb) | (obtain ⟨x1, rfl⟩ := LaterW.of hb)); clear hb))
  refine ret_agg [fl x, fl y, fl 0, fl 0, .int .u8 0, .bool true] rfl rfl rfl (by kernel_rfl) (by kernel_rfl) (by simp [CellsAt, go_sem]) ⟨rfl, ?_⟩
  exact (by repeat (first | with_reducible exact Below.refl _ _ | with_reducible exact HBEL.out | with_reducible assumption | with_reducible refine Below.setCell ?_ (by first | (dsimp only; omega) | (simp; try omega)) _ | with_reducible refine LaterW.below _ ?_ | with_reducible refine below_alloc ?_ _ | with_reducible refine below_drewN' ?_ _ | with_reducible refine Below.drew ?_ | with_reducible exact below_drewN _))
theorem center_f : Calls Try.prog 72 #[vGEnv a b c d false] w fun e w' => e = .returned (vP noPl 0 false) ∧ Below w.heap.size w w' := by
  go_enter Try.func72, Try.ntmps72
  go_wp2_with ((go_at_call 98; (with_reducible refine (isEmpty_f _ _ _ _ _).mono ?_); rintro e w1 ⟨rfl, hb⟩; (first | (obtain ⟨x1, rfl⟩ := LaterW.of2 hb) | (obtain ⟨x1, rfl⟩ := LaterW.of hb)); clear hb))
  refine ret_agg [fl 0, fl 0, fl 0, fl 0, .int .u8 0, .bool false] rfl rfl rfl (by kernel_rfl) (by kernel_rfl) (by simp [CellsAt, go_sem]) ⟨rfl, ?_⟩
  exact (by repeat (first | with_reducible exact Below.refl _ _ | with_reducible exact HBEL.out | with_reducible assumption | with_reducible refine Below.setCell ?_ (by first | (dsimp only; omega) | (simp; try omega)) _ | with_reducible refine LaterW.below _ ?_ | with_reducible refine below_alloc ?_ _ | with_reducible refine below_drewN' ?_ _ | with_reducible refine Below.drew ?_ | with_reducible exact below_drewN _))
theorem center_t {p q r s : Nat} (h : Mid a b c d p q r s) : Calls Try.prog 72 #[vGEnv a b c d true] w fun e w' => e = .returned (vP ⟨r, s, 0, 0⟩ 0 true) ∧ Below w.heap.size w w' := by
  have h1 := Lib.hid h.h1
  have h2 := Lib.hid h.h2
  have h3 := Lib.hid h.h3
  have h4 := Lib.hid h.h4
  clear h
  go_enter Try.func72, Try.ntmps72
  go_wp2_with (first | (go_at_call 98; (with_reducible refine (isEmpty_t _ _ _ _ _).mono ?_); rintro e w1 ⟨rfl, hb⟩; (first | (obtain ⟨x1, rfl⟩ := LaterW.of2 hb) | (obtain ⟨x1, rfl⟩ := LaterW.of hb)); clear hb) | (go_at_call 99; (with_reducible refine (xyAdd_any h1.out h2.out _).mono ?_); rintro e w1 ⟨rfl, hb⟩; (first | (obtain ⟨x1, rfl⟩ := LaterW.of2 hb) | (obtain ⟨x1, rfl⟩ := LaterW.of hb)); clear hb) | (go_at_call 100; (with_reducible refine (xyScale_any h3.out h4.out _).mono ?_); rintro e w1 ⟨rfl, hb⟩; (first | (obtain ⟨x1, rfl⟩ := LaterW.of2 hb) | (obtain ⟨x1, rfl⟩ := LaterW.of hb)); clear hb) | (go_at_call 101; (with_reducible refine (asPoint_any _ _).mono ?_); rintro e w1 ⟨rfl, hb⟩; (first | (obtain ⟨x1, rfl⟩ := LaterW.of2 hb) | (obtain ⟨x1, rfl⟩ := LaterW.of hb)); clear hb))
  refine ret_agg [fl r, fl s, fl 0, fl 0, .int .u8 0, .bool true] rfl rfl rfl (by kernel_rfl) (by kernel_rfl) (by simp [CellsAt, go_sem]) ⟨rfl, ?_⟩
  exact (by repeat (first | with_reducible exact Below.refl _ _ | with_reducible exact HBEL.out | with_reducible assumption | with_reducible refine Below.setCell ?_ (by first | (dsimp only; omega) | (simp; try omega)) _ | with_reducible refine LaterW.below _ ?_ | with_reducible refine below_alloc ?_ _ | with_reducible refine below_drewN' ?_ _ | with_reducible refine Below.drew ?_ | with_reducible exact below_drewN _))
theorem envWidth_t {e : EnvW} {f : Bool} (h : genvW f a b c d = e) (hf : e.full = true) (hz : D.sub e.c e.a = some z) : Calls Try.prog 26 #[vEnv a b c d f] w fun e w' => e = .returned (fl z) ∧ Below w.heap.size w w' := by
  have H := Lib.hid h
  have HZ := Lib.hid hz
  clear h hz
  go_enter Try.func26, Try.ntmps26
  go_wp2_with (first | (go_at_call 68; (with_reducible refine (envelope_any H.out _).mono ?_); rintro e w1 ⟨rfl, hb⟩; (first | (obtain ⟨x1, rfl⟩ := LaterW.of2 hb) | (obtain ⟨x1, rfl⟩ := LaterW.of hb)); clear hb) | (go_at_call 69; (with_reducible refine (width_t HZ.out).mono ?_); rintro e w1 ⟨rfl, hb⟩; (first | (obtain ⟨x1, rfl⟩ := LaterW.of2 hb) | (obtain ⟨x1, rfl⟩ := LaterW.of hb)); clear hb))
  go_ret
  exact ⟨rfl, (by repeat (first | with_reducible exact Below.refl _ _ | with_reducible exact HBEL.out | with_reducible assumption | with_reducible refine Below.setCell ?_ (by first | (dsimp only; omega) | (simp; try omega)) _ | with_reducible refine LaterW.below _ ?_ | with_reducible refine below_alloc ?_ _ | with_reducible refine below_drewN' ?_ _ | with_reducible refine Below.drew ?_ | with_reducible exact below_drewN _))⟩
theorem envHeight_t {e : EnvW} {f : Bool} (h : genvW f a b c d = e) (hf : e.full = true) (hz : D.sub e.d e.b = some z) : Calls Try.prog 27 #[vEnv a b c d f] w fun e w' => e = .returned (fl z) ∧ Below w.heap.size w w' := by
  have H := Lib.hid h
  have HZ := Lib.hid hz
  clear h hz
  go_enter Try.func27, Try.ntmps27
  go_wp2_with (first | (go_at_call 68; (with_reducible refine (envelope_any H.out _).mono ?_); rintro e w1 ⟨rfl, hb⟩; (first | (obtain ⟨x1, rfl⟩ := LaterW.of2 hb) | (obtain ⟨x1, rfl⟩ := LaterW.of hb)); clear hb) | (go_at_call 70; (with_reducible refine (height_t HZ.out).mono ?_); rintro e w1 ⟨rfl, hb⟩; (first | (obtain ⟨x1, rfl⟩ := LaterW.of2 hb) | (obtain ⟨x1, rfl⟩ := LaterW.of hb)); clear hb))
  go_ret
  exact ⟨rfl, (by repeat (first | with_reducible exact Below.refl _ _ | with_reducible exact HBEL.out | with_reducible assumption | with_reducible refine Below.setCell ?_ (by first | (dsimp only; omega) | (simp; try omega)) _ | with_reducible refine LaterW.below _ ?_ | with_reducible refine below_alloc ?_ _ | with_reducible refine below_drewN' ?_ _ | with_reducible refine Below.drew ?_ | with_reducible exact below_drewN _))⟩
theorem envArea_t {e : EnvW} {f : Bool} (h : genvW f a b c d = e) (hf : e.full = true) (h1 : D.sub e.c e.a = some z1) (h2 : D.sub e.d e.b = some z2) (h3 : D.mul z1 z2 = some z) : Calls Try.prog 28 #[vEnv a b c d f] w fun e w' => e = .returned (fl z) ∧ Below w.heap.size w w' := by
  have H := Lib.hid h
  have H1 := Lib.hid h1
  have H2 := Lib.hid h2
  have H3 := Lib.hid h3
  clear h h1 h2 h3
  go_enter Try.func28, Try.ntmps28
  go_wp2_with (first | (go_at_call 68; (with_reducible refine (envelope_any H.out _).mono ?_); rintro e w1 ⟨rfl, hb⟩; (first | (obtain ⟨x1, rfl⟩ := LaterW.of2 hb) | (obtain ⟨x1, rfl⟩ := LaterW.of hb)); clear hb) | (go_at_call 71; (with_reducible refine (area_t H1.out H2.out H3.out).mono ?_); rintro e w1 ⟨rfl, hb⟩; (first | (obtain ⟨x1, rfl⟩ := LaterW.of2 hb) | (obtain ⟨x1, rfl⟩ := LaterW.of hb)); clear hb))
  go_ret
  exact ⟨rfl, (by repeat (first | with_reducible exact Below.refl _ _ | with_reducible exact HBEL.out | with_reducible assumption | with_reducible refine Below.setCell ?_ (by first | (dsimp only; omega) | (simp; try omega)) _ | with_reducible refine LaterW.below _ ?_ | with_reducible refine below_alloc ?_ _ | with_reducible refine below_drewN' ?_ _ | with_reducible refine Below.drew ?_ | with_reducible exact below_drewN _))⟩
theorem envelope_f : Calls Try.prog 68 #[vEnv a b c d false] w fun r w' => r = .returned (vGEnv 0 0 0 0 false) ∧ Below w.heap.size w w' := envelope_any (e := noEnv) rfl w
theorem envWidth_f : Calls Try.prog 26 #[vEnv a b c d false] w fun e w' => e = .returned (fl 0) ∧ Below w.heap.size w w' := by
  go_enter Try.func26, Try.ntmps26
  go_wp2_with (first | (go_at_call 68; (with_reducible refine (envelope_f).mono ?_); rintro e w1 ⟨rfl, hb⟩; (first | (obtain ⟨x1, rfl⟩ := LaterW.of2 hb) | (obtain ⟨x1, rfl⟩ := LaterW.of hb)); clear hb) | (go_at_call 69; (with_reducible refine (width_f).mono ?_); rintro e w1 ⟨rfl, hb⟩; (first | (obtain ⟨x1, rfl⟩ := LaterW.of2 hb) | (obtain ⟨x1, rfl⟩ := LaterW.of hb)); clear hb))
  go_ret
  exact ⟨rfl, (by repeat (first | with_reducible exact Below.refl _ _ | with_reducible exact HBEL.out | with_reducible assumption | with_reducible refine Below.setCell ?_ (by first | (dsimp only; omega) | (simp; try omega)) _ | with_reducible refine LaterW.below _ ?_ | with_reducible refine below_alloc ?_ _ | with_reducible refine below_drewN' ?_ _ | with_reducible refine Below.drew ?_ | with_reducible exact below_drewN _))⟩
theorem envHeight_f : Calls Try.prog 27 #[vEnv a b c d false] w fun e w' => e = .returned (fl 0) ∧ Below w.heap.size w w' := by
  go_enter Try.func27, Try.ntmps27
  go_wp2_with (first | (go_at_call 68; (with_reducible refine (envelope_f).mono ?_); rintro e w1 ⟨rfl, hb⟩; (first | (obtain ⟨x1, rfl⟩ := LaterW.of2 hb) | (obtain ⟨x1, rfl⟩ := LaterW.of hb)); clear hb) | (go_at_call 70; (with_reducible refine (height_f).mono ?_); rintro e w1 ⟨rfl, hb⟩; (first | (obtain ⟨x1, rfl⟩ := LaterW.of2 hb) | (obtain ⟨x1, rfl⟩ := LaterW.of hb)); clear hb))
  go_ret
  exact ⟨rfl, (by repeat (first | with_reducible exact Below.refl _ _ | with_reducible exact HBEL.out | with_reducible assumption | with_reducible refine Below.setCell ?_ (by first | (dsimp only; omega) | (simp; try omega)) _ | with_reducible refine LaterW.below _ ?_ | with_reducible refine below_alloc ?_ _ | with_reducible refine below_drewN' ?_ _ | with_reducible refine Below.drew ?_ | with_reducible exact below_drewN _))⟩
theorem envArea_f : Calls Try.prog 28 #[vEnv a b c d false] w fun e w' => e = .returned (fl 0) ∧ Below w.heap.size w w' := by
  go_enter Try.func28, Try.ntmps28
  go_wp2_with (first | (go_at_call 68; (with_reducible refine (envelope_f).mono ?_); rintro e w1 ⟨rfl, hb⟩; (first | (obtain ⟨x1, rfl⟩ := LaterW.of2 hb) | (obtain ⟨x1, rfl⟩ := LaterW.of hb)); clear hb) | (go_at_call 71; (with_reducible refine (area_f).mono ?_); rintro e w1 ⟨rfl, hb⟩; (first | (obtain ⟨x1, rfl⟩ := LaterW.of2 hb) | (obtain ⟨x1, rfl⟩ := LaterW.of hb)); clear hb))
  go_ret
  exact ⟨rfl, (by repeat (first | with_reducible exact Below.refl _ _ | with_reducible exact HBEL.out | with_reducible assumption | with_reducible refine Below.setCell ?_ (by first | (dsimp only; omega) | (simp; try omega)) _ | with_reducible refine LaterW.below _ ?_ | with_reducible refine below_alloc ?_ _ | with_reducible refine below_drewN' ?_ _ | with_reducible refine Below.drew ?_ | with_reducible exact below_drewN _))⟩
theorem envCenter_f : Calls Try.prog 29 #[vEnv a b c d false] w fun e w' => e = .returned (vGeom 1 0 none 0 0 none 0 0) ∧ Below w.heap.size w w' := by
  go_enter Try.func29, Try.ntmps29
  go_wp2_with (first | (go_at_call 68; (with_reducible refine (envelope_f).mono ?_); rintro e w1 ⟨rfl, hb⟩; (first | (obtain ⟨x1, rfl⟩ := LaterW.of2 hb) | (obtain ⟨x1, rfl⟩ := LaterW.of hb)); clear hb) | (go_at_call 72; (with_reducible refine (center_f).mono ?_); rintro e w1 ⟨rfl, hb⟩; (first | (obtain ⟨x1, rfl⟩ := LaterW.of2 hb) | (obtain ⟨x1, rfl⟩ := LaterW.of hb)); clear hb) | (go_at_call 54; (with_reducible refine (plainPoint_empty noPl (by decide) (by decide) _).mono ?_); rintro e w1 ⟨rfl, hb⟩; (first | (obtain ⟨x1, rfl⟩ := LaterW.of2 hb) | (obtain ⟨x1, rfl⟩ := LaterW.of hb)); clear hb))
  refine ret_agg [.int .i64 1, .int .i64 0, .slice none 0 0, .slice none 0 0] rfl rfl rfl (by kernel_rfl) (by kernel_rfl) (by simp [CellsAt, go_sem]) ⟨rfl, ?_⟩
  exact (by repeat (first | with_reducible exact Below.refl _ _ | with_reducible exact HBEL.out | with_reducible assumption | with_reducible refine Below.setCell ?_ (by first | (dsimp only; omega) | (simp; try omega)) _ | with_reducible refine LaterW.below _ ?_ | with_reducible refine below_alloc ?_ _ | with_reducible refine below_drewN' ?_ _ | with_reducible refine Below.drew ?_ | with_reducible exact below_drewN _))
theorem envCenter_t {e : EnvW} {f : Bool} {p q r s : Nat} (h : genvW f a b c d = e) (hf : e.full = true) (hm : Mid e.a e.b e.c e.d p q r s) : Calls Try.prog 29 #[vEnv a b c d f] w fun e w' => ∃ v, e = .returned v ∧ LineOf 1 0 2 [r, s] w' v ∧ Below w.heap.size w w' := by
  have H := Lib.hid h
  have HM := Lib.hid hm
  clear h hm
  go_enter Try.func29, Try.ntmps29
  go_wp2_with (first | (go_at_call 68; (with_reducible refine (envelope_any H.out _).mono ?_); rintro e w1 ⟨rfl, hb⟩; (first | (obtain ⟨x1, rfl⟩ := LaterW.of2 hb) | (obtain ⟨x1, rfl⟩ := LaterW.of hb)); clear hb) | (go_at_call 72; (with_reducible refine (center_t HM.out).mono ?_); rintro e w1 ⟨rfl, hb⟩; (first | (obtain ⟨x1, rfl⟩ := LaterW.of2 hb) | (obtain ⟨x1, rfl⟩ := LaterW.of hb)); clear hb))
  have o2 : Own x1.val (w.heap.size + 1) [.int .i64 0, .int .i64 0, .slice none 0 0, .slice none 0 0] := (by repeat (first | (refine Own.new' _ rfl ?_; first | with_reducible rfl | (simp; done)) | with_reducible apply Own.later | with_reducible apply Own.alloc | with_reducible apply Own.drew | with_reducible apply Own.drewN | with_reducible apply Own.other))
  have hbel : Below w.heap.size w x1.val := (by repeat (first | with_reducible exact Below.refl _ _ | with_reducible exact HBEL.out | with_reducible assumption | with_reducible refine Below.setCell ?_ (by first | (dsimp only; omega) | (simp; try omega)) _ | with_reducible refine LaterW.below _ ?_ | with_reducible refine below_alloc ?_ _ | with_reducible refine below_drewN' ?_ _ | with_reducible refine Below.drew ?_ | with_reducible exact below_drewN _))
  have lt2 := o2.lt
  generalize x1.val = W at *
  clear x1
  refine (plainPoint_full ⟨r, s, 0, 0⟩ (d := 0) (by decide) (by decide) _).mono ?_
  rintro e2 w2 ⟨a', c', rfl, hnum, hhead, hfr, hb⟩
  have HN : Hid (NumsIs w2 w2.heap.size a' [r, s]) := hnum
  have HH : Hid (HeadOk a' 2 c') := hhead
  have HF := Lib.hid hfr
  have HO := Lib.hid (o2.below hb o2.lt)
  have HB := Lib.hid (hbel.trans (Below.mono hb hbel.size))
  clear hnum hhead hfr hb hbel o2
  have hw2 : widthN 0 = 2 := rfl
  go_wp2_with (refine wpList_store_mid rfl 25 (.tmp 2) (.tmp 6) rfl (w.heap.size + 1) 0 _ rfl rfl (Own.there HO.out (Nat.le_refl 4)) (by kernel_rfl) (by kernel_rfl) ?_)
  have oR := Own.sets (vs := [.int .i64 1, .int .i64 0, .slice a' 2 c', .slice none 0 0]) HO.out rfl
  have hR : NumsIs (w2.setCells (w.heap.size + 1) 0 [.int .i64 1, .int .i64 0, .slice a' 2 c', .slice none 0 0]) (w2.setCells (w.heap.size + 1) 0 [.int .i64 1, .int .i64 0, .slice a' 2 c', .slice none 0 0]).heap.size a' [r, s] := by
    rw [size_setCells]
    exact NumsIs.setCells HN.out (fun p hp => by have := HF.out p hp; omega) _ _
  have hbl := Below.setCells (Nat.le_succ _) [.int .i64 1, .int .i64 0, .slice a' 2 c', .slice none 0 0] 0 _ HB.out
  generalize w2.setCells (w.heap.size + 1) 0 [.int .i64 1, .int .i64 0, .slice a' 2 c', .slice none 0 0] = W9 at *
  refine ret_agg [.int .i64 1, .int .i64 0, .slice a' 2 c', .slice none 0 0] rfl rfl rfl (by kernel_rfl) (by kernel_rfl) (oR).cells (⟨_, rfl, ⟨a', c', rfl, hR, HH.out⟩, hbl⟩)
theorem gPoint_any {r s x y : Nat} {v : Value} (hv : LineOf 1 0 2 [r, s] w v) (h1 : (D.order r x == some .eq) = true) (h2 : (D.order s y == some .eq) = true) : Calls Try.prog 30 #[v, fl x, fl y] w fun e w' => e = .returned (.bool true) ∧ Below w.heap.size w w' := by
  obtain ⟨a, c, rfl, hn, hh⟩ := hv
  obtain ⟨b1, o1, rfl, l1, c1⟩ := hn.resolve_left (by simp)
  have q0 : w.cell? ⟨b1, o1, none⟩ = some (fl r) := c1 0 (by simp)
  have q1 : w.cell? ⟨b1, o1 + 1, none⟩ = some (fl s) := c1 1 (by simp)
  clear c1 hn
  go_enter Try.func30, Try.ntmps30
  go_wp2_with fail
  go_ret
  exact ⟨rfl, (by repeat (first | with_reducible exact Below.refl _ _ | with_reducible exact HBEL.out | with_reducible assumption | with_reducible refine Below.setCell ?_ (by first | (dsimp only; omega) | (simp; try omega)) _ | with_reducible refine LaterW.below _ ?_ | with_reducible refine below_alloc ?_ _ | with_reducible refine below_drewN' ?_ _ | with_reducible refine Below.drew ?_ | with_reducible exact below_drewN _))⟩
end
end Go.Proofs.Ytihkmkcjjlmkhaa
