/- Envelopes made of corners: laws.eCorners, eMade, eFits, impl.envelope, geom's Intersects, impl.EnvIntersects. No condition. -/
import Derived.Test.YtihkmkcjjlmkhaaEnvLaw
namespace Go.Proofs.Ytihkmkcjjlmkhaa
set_option maxRecDepth 100000
open Go.ChangeShapes Go.WideShapes Go.ChangeAt Go.RowKit
open Fl

def corners (f : Bool) (a b c d : Nat) : List (Nat × Nat) := if f then [(a, b), (c, d)] else []
def MadeXYs (ps : List (Nat × Nat)) (r : Ending) (w' : World) : Prop := ∃ q, r = .returned (.slice q ps.length ps.length) ∧ IsXYs w' q ps
theorem eCorners_any (f : Bool) (a b c d : Nat) (w : World) : Calls Try.prog 67 #[vEnv a b c d f] w fun r w' => MadeXYs (corners f a b c d) r w' ∧ Below w.heap.size w w' := by
  cases f
  · go_enter Try.func67, Try.ntmps67
    go_wp2_with fail
    go_ret
    exact ⟨⟨none, rfl, .inl rfl⟩, (by repeat (first | with_reducible exact Below.refl _ _ | with_reducible exact HBEL.out | with_reducible assumption | with_reducible refine Below.setCell ?_ (by first | (dsimp only; omega) | (simp; try omega)) _ | with_reducible refine LaterW.below _ ?_ | with_reducible refine below_alloc ?_ _ | with_reducible refine below_drewN' ?_ _ | with_reducible refine Below.drew ?_ | with_reducible exact below_drewN _))⟩
  · go_enter Try.func67, Try.ntmps67
    go_wp2_with fail
    go_ret
    refine ⟨⟨_, rfl, .inr ⟨_, 0, rfl, XYsAt.two ?_ ?_ ?_ ?_, ?_⟩⟩, (by repeat (first | with_reducible exact Below.refl _ _ | with_reducible exact HBEL.out | with_reducible assumption | with_reducible refine Below.setCell ?_ (by first | (dsimp only; omega) | (simp; try omega)) _ | with_reducible refine LaterW.below _ ?_ | with_reducible refine below_alloc ?_ _ | with_reducible refine below_drewN' ?_ _ | with_reducible refine Below.drew ?_ | with_reducible exact below_drewN _))⟩ <;> simp [go_sem]
def madeW (f : Bool) (a b c d : Nat) : EnvW := (corners f a b c d).foldl ofStep noEnv
theorem corners_len (f : Bool) (a b c d : Nat) : (corners f a b c d).length ≤ 1000000 := by cases f <;> simp [corners]
theorem eMade_any {f : Bool} {a b c d : Nat} {e : EnvW} (h : madeW f a b c d = e) (w : World) : Calls Try.prog 25 #[vEnv a b c d f] w fun r w' => r = .returned (vEnv e.a e.b e.c e.d e.full) ∧ Below w.heap.size w w' := by
  have H : Hid ((corners f a b c d).foldl ofStep noEnv = e) := h
  clear h
  go_enter Try.func25, Try.ntmps25
  go_wp2_with fail
  refine (eCorners_any f a b c d _).mono ?_
  rintro r w1 ⟨⟨q, rfl, hq⟩, hb⟩
  obtain ⟨x1, rfl⟩ := LaterW.of hb
  have HQ := Lib.hid hq
  clear hb hq
  go_wp2_with fail
  refine (eOf_any HQ.out rfl (corners_len _ _ _ _ _) H.out).mono ?_
  rintro r w1 ⟨rfl, hb⟩
  obtain ⟨x2, rfl⟩ := LaterW.of2 hb
  clear hb
  go_wp2_with fail
  refine ret_agg [.bool e.full, fl e.a, fl e.b, fl e.c, fl e.d] rfl rfl rfl (by kernel_rfl) (by kernel_rfl) (by simp [CellsAt, go_sem]) ⟨rfl, ?_⟩
  exact (by repeat (first | with_reducible exact Below.refl _ _ | with_reducible exact HBEL.out | with_reducible assumption | with_reducible refine Below.setCell ?_ (by first | (dsimp only; omega) | (simp; try omega)) _ | with_reducible refine LaterW.below _ ?_ | with_reducible refine below_alloc ?_ _ | with_reducible refine below_drewN' ?_ _ | with_reducible refine Below.drew ?_ | with_reducible exact below_drewN _))
def genvW (f : Bool) (a b c d : Nat) : EnvW := (corners f a b c d).foldl expW noEnv
theorem envelope_any {f : Bool} {a b c d : Nat} {e : EnvW} (h : genvW f a b c d = e) (w : World) : Calls Try.prog 68 #[vEnv a b c d f] w fun r w' => r = .returned (vGEnv e.a e.b e.c e.d e.full) ∧ Below w.heap.size w w' := by
  cases f
  · subst h
    go_enter Try.func68, Try.ntmps68
    go_wp2_with fail
    refine ret_agg [fl 0, fl 0, fl 0, fl 0, .bool false] rfl rfl rfl (by kernel_rfl) (by kernel_rfl) (by simp [CellsAt, go_sem]) ⟨rfl, ?_⟩
    exact (by repeat (first | with_reducible exact Below.refl _ _ | with_reducible exact HBEL.out | with_reducible assumption | with_reducible refine Below.setCell ?_ (by first | (dsimp only; omega) | (simp; try omega)) _ | with_reducible refine LaterW.below _ ?_ | with_reducible refine below_alloc ?_ _ | with_reducible refine below_drewN' ?_ _ | with_reducible refine Below.drew ?_ | with_reducible exact below_drewN _))
  · have H : Hid ([(a, b), (c, d)].foldl expW noEnv = e) := h
    clear h
    go_enter Try.func68, Try.ntmps68
    go_wp2_with fail
    refine (newEnvelope_loop (ps := [(a, b), (c, d)]) (XYsAt.two (by simp [go_sem]) (by simp [go_sem]) (by simp [go_sem]) (by simp [go_sem])) rfl (by simp) (by simp) H.out).mono ?_
    rintro r w1 ⟨rfl, hb⟩
    obtain ⟨x2, rfl⟩ := LaterW.of hb
    clear hb
    go_wp2_with fail
    refine ret_agg [fl e.a, fl e.b, fl e.c, fl e.d, .bool e.full] rfl rfl rfl (by kernel_rfl) (by kernel_rfl) (by simp [CellsAt, go_sem]) ⟨rfl, ?_⟩
    exact (by repeat (first | with_reducible exact Below.refl _ _ | with_reducible exact HBEL.out | with_reducible assumption | with_reducible refine Below.setCell ?_ (by first | (dsimp only; omega) | (simp; try omega)) _ | with_reducible refine LaterW.below _ ?_ | with_reducible refine below_alloc ?_ _ | with_reducible refine below_drewN' ?_ _ | with_reducible refine Below.drew ?_ | with_reducible exact below_drewN _))
/-- x <= y, x >= y on words. -/
def leW (x y : Nat) : Bool := D.order x y == some .lt || D.order x y == some .eq
def geW (x y : Nat) : Bool := D.order x y == some .gt || D.order x y == some .eq
def meetW (e f : EnvW) : Bool := e.full && f.full && leW e.a f.c && geW e.c f.a && leW e.b f.d && geW e.d f.b
/-- Envelopes one behind the other in a block. -/
structure EnvV where
  f : Bool
  a : Nat
  b : Nat
  c : Nat
  d : Nat
deriving Inhabited
def EnvsAt (w : World) (B o : Nat) (es : List EnvV) : Prop := ∀ i, i < es.length → CellsAt w B (o + i * 5) [.bool es[i]!.f, fl es[i]!.a, fl es[i]!.b, fl es[i]!.c, fl es[i]!.d]
def fitB (e : EnvV) : Bool := !e.f || finBoxB e.a e.b e.c e.d
def SmallEnvs (es : List EnvV) : Prop := ∀ i, i < es.length → es[i]!.a < 2 ^ 64 ∧ es[i]!.b < 2 ^ 64 ∧ es[i]!.c < 2 ^ 64 ∧ es[i]!.d < 2 ^ 64
end Go.Proofs.Ytihkmkcjjlmkhaa
