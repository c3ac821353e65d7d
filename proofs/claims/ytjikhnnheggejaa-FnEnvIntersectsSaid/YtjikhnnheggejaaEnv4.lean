/- Envelopes made of corners: laws.eCorners, eMade, eFits, impl.envelope, geom's Intersects, impl.EnvIntersects. No condition. -/
import Derived.Test.YtjikhnnheggejaaEnvLaw
namespace Go.Proofs.Ytjikhnnheggejaa
open Go.ChangeShapes Go.WideShapes Go.ChangeAt Go.RowKit
open Fl

def corners (f : Bool) (a b c d : Nat) : List (Nat × Nat) := if f then [(a, b), (c, d)] else []
def MadeXYs (ps : List (Nat × Nat)) (r : Ending) (w' : World) : Prop := ∃ q, r = .returned (.slice q ps.length ps.length) ∧ IsXYs w' q ps
theorem eCorners_any (f : Bool) (a b c d : Nat) (w : World) : Calls Try.prog 27 #[vEnv a b c d f] w fun r w' => MadeXYs (corners f a b c d) r w' ∧ Below w.heap.size w w' := by
  cases f
  · go_enter Try.func27, Try.ntmps27
    go_wp2_with fail
    go_ret
    exact ⟨⟨none, rfl, .inl rfl⟩, (by repeat (first | with_reducible exact Below.refl _ _ | with_reducible exact HBEL.out | with_reducible assumption | with_reducible refine Below.setCell ?_ (by first | (dsimp only; omega) | (simp; try omega)) _ | with_reducible refine LaterW.below _ ?_ | with_reducible refine below_alloc ?_ _ | with_reducible refine below_drewN' ?_ _ | with_reducible refine Below.drew ?_ | with_reducible exact below_drewN _))⟩
  · go_enter Try.func27, Try.ntmps27
    go_wp2_with fail
    go_ret
    refine ⟨⟨_, rfl, .inr ⟨_, 0, rfl, XYsAt.two ?_ ?_ ?_ ?_, ?_⟩⟩, (by repeat (first | with_reducible exact Below.refl _ _ | with_reducible exact HBEL.out | with_reducible assumption | with_reducible refine Below.setCell ?_ (by first | (dsimp only; omega) | (simp; try omega)) _ | with_reducible refine LaterW.below _ ?_ | with_reducible refine below_alloc ?_ _ | with_reducible refine below_drewN' ?_ _ | with_reducible refine Below.drew ?_ | with_reducible exact below_drewN _))⟩ <;> simp [go_sem]
def madeW (f : Bool) (a b c d : Nat) : EnvW := (corners f a b c d).foldl ofStep noEnv
theorem corners_len (f : Bool) (a b c d : Nat) : (corners f a b c d).length ≤ 1000000 := by cases f <;> simp [corners]
theorem eMade_any {f : Bool} {a b c d : Nat} {e : EnvW} (h : madeW f a b c d = e) (w : World) : Calls Try.prog 13 #[vEnv a b c d f] w fun r w' => r = .returned (vEnv e.a e.b e.c e.d e.full) ∧ Below w.heap.size w w' := by
  have H : Hid ((corners f a b c d).foldl ofStep noEnv = e) := h
  clear h
  go_enter Try.func13, Try.ntmps13
  go_wp2_with fail
  refine (eCorners_any f a b c d _).mono ?_
  rintro r w1 ⟨⟨q, rfl, hq⟩, hb⟩
  obtain ⟨x1, rfl⟩ := LaterW.of hb
  have HQ := Lib.hid hq
  clear hb hq
  go_wp2_with fail
  refine (eOf_any HQ.out rfl (corners_len _ _ _ _ _) H.out).mono ?_
  rintro r w1 ⟨rfl, hb⟩
  obtain ⟨x2, rfl⟩ := LaterW.of2 hb
  clear hb
  go_wp2_with fail
  refine ret_agg [.bool e.full, fl e.a, fl e.b, fl e.c, fl e.d] rfl rfl rfl (by kernel_rfl) (by kernel_rfl) (by simp [CellsAt, go_sem]) ⟨rfl, ?_⟩
  exact (by repeat (first | with_reducible exact Below.refl _ _ | with_reducible exact HBEL.out | with_reducible assumption | with_reducible refine Below.setCell ?_ (by first | (dsimp only; omega) | (simp; try omega)) _ | with_reducible refine LaterW.below _ ?_ | with_reducible refine below_alloc ?_ _ | with_reducible refine below_drewN' ?_ _ | with_reducible refine Below.drew ?_ | with_reducible exact below_drewN _))
def genvW (f : Bool) (a b c d : Nat) : EnvW := (corners f a b c d).foldl expW noEnv
theorem envelope_any {f : Bool} {a b c d : Nat} {e : EnvW} (h : genvW f a b c d = e) (w : World) : Calls Try.prog 28 #[vEnv a b c d f] w fun r w' => r = .returned (vGEnv e.a e.b e.c e.d e.full) ∧ Below w.heap.size w w' := by
  cases f
  · subst h
    go_enter Try.func28, Try.ntmps28
    go_wp2_with fail
    refine ret_agg [fl 0, fl 0, fl 0, fl 0, .bool false] rfl rfl rfl (by kernel_rfl) (by kernel_rfl) (by simp [CellsAt, go_sem]) ⟨rfl, ?_⟩
    exact (by repeat (first | with_reducible exact Below.refl _ _ | with_reducible exact HBEL.out | with_reducible assumption | with_reducible refine Below.setCell ?_ (by first | (dsimp only; omega) | (simp; try omega)) _ | with_reducible refine LaterW.below _ ?_ | with_reducible refine below_alloc ?_ _ | with_reducible refine below_drewN' ?_ _ | with_reducible refine Below.drew ?_ | with_reducible exact below_drewN _))
  · have H : Hid ([(a, b), (c, d)].foldl expW noEnv = e) := h
    clear h
    go_enter Try.func28, Try.ntmps28
    go_wp2_with fail
    refine (newEnvelope_loop (ps := [(a, b), (c, d)]) (XYsAt.two (by simp [go_sem]) (by simp [go_sem]) (by simp [go_sem]) (by simp [go_sem])) rfl (by simp) (by simp) H.out).mono ?_
    rintro r w1 ⟨rfl, hb⟩
    obtain ⟨x2, rfl⟩ := LaterW.of hb
    clear hb
    go_wp2_with fail
    refine ret_agg [fl e.a, fl e.b, fl e.c, fl e.d, .bool e.full] rfl rfl rfl (by kernel_rfl) (by kernel_rfl) (by simp [CellsAt, go_sem]) ⟨rfl, ?_⟩
    exact (by repeat (first | with_reducible exact Below.refl _ _ | with_reducible exact HBEL.out | with_reducible assumption | with_reducible refine Below.setCell ?_ (by first | (dsimp only; omega) | (simp; try omega)) _ | with_reducible refine LaterW.below _ ?_ | with_reducible refine below_alloc ?_ _ | with_reducible refine below_drewN' ?_ _ | with_reducible refine Below.drew ?_ | with_reducible exact below_drewN _))
/-- x <= y, x >= y on words. -/
def leW (x y : Nat) : Bool := D.order x y == some .lt || D.order x y == some .eq
def geW (x y : Nat) : Bool := D.order x y == some .gt || D.order x y == some .eq
def meetW (e f : EnvW) : Bool := e.full && f.full && leW e.a f.c && geW e.c f.a && leW e.b f.d && geW e.d f.b
theorem intersects_any {a b c d a' b' c' d' : Nat} {f f' r : Bool} (h : meetW ⟨a, b, c, d, f⟩ ⟨a', b', c', d', f'⟩ = r) (w : World) : Calls Try.prog 29 #[vGEnv a b c d f, vGEnv a' b' c' d' f'] w fun e w' => e = .returned (.bool r) ∧ Below w.heap.size w w' := by
  have H := Lib.hid h
  clear h
  cases f <;> cases f'
  all_goals
    go_enter Try.func29, Try.ntmps29
    go_wp2_with (first | (go_at_call 38; (with_reducible refine (isEmpty_f _ _ _ _ _).mono ?_); rintro e w1 ⟨rfl, hb⟩; (first | (obtain ⟨x1, rfl⟩ := LaterW.of2 hb) | (obtain ⟨x1, rfl⟩ := LaterW.of hb)); clear hb) | (go_at_call 38; (with_reducible refine (isEmpty_t _ _ _ _ _).mono ?_); rintro e w1 ⟨rfl, hb⟩; (first | (obtain ⟨x1, rfl⟩ := LaterW.of2 hb) | (obtain ⟨x1, rfl⟩ := LaterW.of hb)); clear hb))
    all_goals
      go_ret
      exact ⟨ret_bool (by rw [← H.out]; simp_all [meetW, leW, geW]), (by repeat (first | with_reducible exact Below.refl _ _ | with_reducible exact HBEL.out | with_reducible assumption | with_reducible refine Below.setCell ?_ (by first | (dsimp only; omega) | (simp; try omega)) _ | with_reducible refine LaterW.below _ ?_ | with_reducible refine below_alloc ?_ _ | with_reducible refine below_drewN' ?_ _ | with_reducible refine Below.drew ?_ | with_reducible exact below_drewN _))⟩
theorem envIntersects_any {a b c d a' b' c' d' : Nat} {f f' r : Bool} (h : meetW (genvW f a b c d) (genvW f' a' b' c' d') = r) (w : World) : Calls Try.prog 14 #[vEnv a b c d f, vEnv a' b' c' d' f'] w fun e w' => e = .returned (.bool r) ∧ Below w.heap.size w w' := by
  obtain ⟨⟨ea, eb, ec, ed, ef⟩, h1⟩ : ∃ e, genvW f a b c d = e := ⟨_, rfl⟩
  obtain ⟨⟨ga, gb, gc, gd, gf⟩, h2⟩ : ∃ e, genvW f' a' b' c' d' = e := ⟨_, rfl⟩
  rw [h1, h2] at h
  have H := Lib.hid h
  have H1 := Lib.hid h1
  have H2 := Lib.hid h2
  clear h h1 h2
  go_enter Try.func14, Try.ntmps14
  go_wp2_with fail
  ((first | refine wp_region_later2 (by kernel_rfl) (by kernel_rfl) ?_ | refine wp_region_later (by kernel_rfl) (by kernel_rfl) ?_); (repeat (go_big_quiet_step (first | (go_at_call 28; with_reducible exact Calls.later_of (envelope_any H1.out _)) | (go_at_call 28; with_reducible exact Calls.later_of (envelope_any H2.out _)) | (go_at_call 29; with_reducible exact Calls.later_of (intersects_any H.out _))))); refine wpQuiet_nil ?_; rintro _ ⟨x1, rfl⟩)
  go_wp2_with fail
  go_ret
  exact ⟨rfl, (by repeat (first | with_reducible exact Below.refl _ _ | with_reducible exact HBEL.out | with_reducible assumption | with_reducible refine Below.setCell ?_ (by first | (dsimp only; omega) | (simp; try omega)) _ | with_reducible refine LaterW.below _ ?_ | with_reducible refine below_alloc ?_ _ | with_reducible refine below_drewN' ?_ _ | with_reducible refine Below.drew ?_ | with_reducible exact below_drewN _))⟩

/-- Envelopes one behind the other in a block. -/
structure EnvV where
  f : Bool
  a : Nat
  b : Nat
  c : Nat
  d : Nat
deriving Inhabited
def EnvsAt (w : World) (B o : Nat) (es : List EnvV) : Prop := ∀ i, i < es.length → CellsAt w B (o + i * 5) [.bool es[i]!.f, fl es[i]!.a, fl es[i]!.b, fl es[i]!.c, fl es[i]!.d]
def fitB (e : EnvV) : Bool := !e.f || finBoxB e.a e.b e.c e.d
def SmallEnvs (es : List EnvV) : Prop := ∀ i, i < es.length → es[i]!.a < 2 ^ 64 ∧ es[i]!.b < 2 ^ 64 ∧ es[i]!.c < 2 ^ 64 ∧ es[i]!.d < 2 ^ 64
theorem eFits_any {B o n cap : Nat} {es : List EnvV} {w : World} (hp : EnvsAt w B o es) (hB : B < w.heap.size) (hn : es.length = n) (hm : es.length ≤ 1000000) (hw : SmallEnvs es) :
    Calls Try.prog 12 #[.slice (some ⟨B, o, none⟩) n cap] w fun e w' => e = .returned (.bool (es.all fitB)) ∧ Below w.heap.size w w' := by
  subst hn
  have HP := Lib.hid hp
  have HW := Lib.hid hw
  clear hp hw
  go_enter Try.func12, Try.ntmps12
  go_wp2_with fail
  go_loopw [7] (fun i wr => ∃ k : Nat, k ≤ es.length ∧ i = .int .i64 k ∧ (es.take k).all fitB = true ∧ ∃ x : LaterW w, wr = x.val) (fun i _ => es.length - (intOf i).toNat)
  case atStart => exact ⟨0, Nat.zero_le _, rfl, rfl, LaterW.of (Below.refl _ _)⟩
  case round =>
    obtain ⟨k, hk, rfl, hall, x, rfl⟩ := hrel
    have HA := Lib.hid hall
    clear hall
    by_cases hlt : k < es.length
    · have hc := (HP.out k hlt).mono (w' := x.val) (fun j => x.ok.cell (p := ⟨B, j, none⟩) hB)
      obtain ⟨l1, l2, l3, l4⟩ := HW.out k hlt
      have L1 := Lib.hid l1
      have L2 := Lib.hid l2
      have L3 := Lib.hid l3
      have L4 := Lib.hid l4
      clear l1 l2 l3 l4
      have HF : Hid (fitB es[k]! = fitB es[k]) := by show fitB es[k]! = fitB es[k]; rw [getElem!_pos es k hlt]
      rw [show fitB es[k]! = (!es[k]!.f || finBoxB es[k]!.a es[k]!.b es[k]!.c es[k]!.d) from rfl] at HF
      generalize es[k]!.f = f at *
      generalize es[k]!.a = a at *
      generalize es[k]!.b = b at *
      generalize es[k]!.c = c at *
      generalize es[k]!.d = d at *
      simp only [CellsAt] at hc
      obtain ⟨c0, c1, c2, c3, c4, _⟩ := hc
      go_wp2_with ((go_at_call 26; (with_reducible refine (eFinite_any L1.out L2.out L3.out L4.out _).mono ?_); rintro e w1 ⟨rfl, hb⟩; (first | (obtain ⟨x1, rfl⟩ := LaterW.of2 hb) | (obtain ⟨x1, rfl⟩ := LaterW.of hb)); clear hb))
      all_goals first
        | (refine ⟨⟨k + 1, by omega, by go_num, all_take_succ hlt HA.out (by rw [← HF.out]; simp_all), LaterW.of (by repeat (first | with_reducible exact Below.refl _ _ | with_reducible exact HBEL.out | with_reducible assumption | with_reducible refine Below.setCell ?_ (by first | (dsimp only; omega) | (simp; try omega)) _ | with_reducible refine LaterW.below _ ?_ | with_reducible refine below_alloc ?_ _ | with_reducible refine below_drewN' ?_ _ | with_reducible refine Below.drew ?_ | with_reducible exact below_drewN _))⟩, by simp [intOf]; omega⟩)
        | (go_ret
           exact ⟨ret_bool (all_false_at hlt (by rw [← HF.out]; simp_all)).symm, (by repeat (first | with_reducible exact Below.refl _ _ | with_reducible exact HBEL.out | with_reducible assumption | with_reducible refine Below.setCell ?_ (by first | (dsimp only; omega) | (simp; try omega)) _ | with_reducible refine LaterW.below _ ?_ | with_reducible refine below_alloc ?_ _ | with_reducible refine below_drewN' ?_ _ | with_reducible refine Below.drew ?_ | with_reducible exact below_drewN _))⟩)
    · go_wp2_with fail
      go_ret
      exact ⟨ret_bool (by have h := HA.out; rw [List.take_of_length_le (by omega)] at h; exact h.symm), (by repeat (first | with_reducible exact Below.refl _ _ | with_reducible exact HBEL.out | with_reducible assumption | with_reducible refine Below.setCell ?_ (by first | (dsimp only; omega) | (simp; try omega)) _ | with_reducible refine LaterW.below _ ?_ | with_reducible refine below_alloc ?_ _ | with_reducible refine below_drewN' ?_ _ | with_reducible refine Below.drew ?_ | with_reducible exact below_drewN _))⟩
end Go.Proofs.Ytjikhnnheggejaa
