/- Envelopes: what laws.eFinite, eFits, eList, eOf, eEqual and geom's NewEnvelope, ExpandToIncludeXY, MinMaxXYs, Intersects, impl's xys, envelope, plainEnvelope return. No condition. -/
import Derived.Test.YtihkmkcjjlmkhaaXY
namespace Go.Proofs.Ytihkmkcjjlmkhaa
set_option maxRecDepth 100000
open Go.ChangeShapes Go.WideShapes Go.ChangeAt Go.RowKit
open Fl

theorem gFinite_calls {x : Nat} (hx : x < 2 ^ 64) (w : World) : Calls Try.prog 19 #[fl x] w fun e w' => e = .returned (.bool (isFin x)) ∧ Below w.heap.size w w' := Calls.below_same (gFinite_any x w hx)
def finBoxB (a b c d : Nat) : Bool := isFin a && isFin b && isFin c && isFin d
/-- Below keeps places. -/
theorem XYsAt.below {B : Nat} {w w' : World} {b o : Nat} {ps : List (Nat × Nat)} (h : XYsAt w b o ps) (hB : Below B w w') (hb : b < B) : XYsAt w' b o ps := fun i hi => by
  obtain ⟨h1, h2⟩ := h i hi
  exact ⟨by rw [hB.cell hb]; exact h1, by rw [hB.cell hb]; exact h2⟩
def xyFinB (p : Nat × Nat) : Bool := isFin p.1 && isFin p.2
/-- geom's fastMin, fastMax on words. -/
def gminW (x y : Nat) : Nat := if D.order x x != some .eq || D.order x y == some .lt then x else y
def gmaxW (x y : Nat) : Nat := if D.order x x != some .eq || D.order x y == some .gt then x else y
theorem gfastMin_calls (x y : Nat) (w : World) : Calls Try.prog 136 #[fl x, fl y] w fun e w' => e = .returned (fl (gminW x y)) ∧ Below w.heap.size w w' := Calls.below_same (gfastMin_any x y w)
theorem gfastMax_calls (x y : Nat) (w : World) : Calls Try.prog 137 #[fl x, fl y] w fun e w' => e = .returned (fl (gmaxW x y)) ∧ Below w.heap.size w w' := Calls.below_same (gfastMax_any x y w)

abbrev vGEnv (a b c d : Nat) (f : Bool) : Value := .agg #[fl a, fl b, fl c, fl d, .bool f]
abbrev vEnv (a b c d : Nat) (f : Bool) : Value := .agg #[.bool f, fl a, fl b, fl c, fl d]
theorem isEmpty_any (a b c d : Nat) (f : Bool) (w : World) : Calls Try.prog 98 #[vGEnv a b c d f] w fun r w' => r = .returned (.bool (!f)) ∧ Below w.heap.size w w' := by
  go_enter Try.func98, Try.ntmps98
  go_wp2_with fail
  go_ret
  exact ⟨rfl, (by repeat (first | with_reducible exact Below.refl _ _ | with_reducible exact HBEL.out | with_reducible assumption | with_reducible refine Below.setCell ?_ (by first | (dsimp only; omega) | (simp; try omega)) _ | with_reducible refine LaterW.below _ ?_ | with_reducible refine below_alloc ?_ _ | with_reducible refine below_drewN' ?_ _ | with_reducible refine Below.drew ?_ | with_reducible exact below_drewN _))⟩
theorem isEmpty_f (a b c d : Nat) (w : World) : Calls Try.prog 98 #[vGEnv a b c d false] w fun r w' => r = .returned (.bool true) ∧ Below w.heap.size w w' := isEmpty_any a b c d false w
theorem isEmpty_t (a b c d : Nat) (w : World) : Calls Try.prog 98 #[vGEnv a b c d true] w fun r w' => r = .returned (.bool false) ∧ Below w.heap.size w w' := isEmpty_any a b c d true w
theorem newUnchecked_any (a b c d : Nat) (w : World) : Calls Try.prog 135 #[vXY a b, vXY c d] w fun r w' => r = .returned (vGEnv a b c d true) ∧ Below w.heap.size w w' := by
  go_enter Try.func135, Try.ntmps135
  go_wp2_with fail
  refine ret_agg [fl a, fl b, fl c, fl d, .bool true] rfl rfl rfl (by kernel_rfl) (by kernel_rfl) (by simp [CellsAt, go_sem]) ⟨rfl, ?_⟩
  exact (by repeat (first | with_reducible exact Below.refl _ _ | with_reducible exact HBEL.out | with_reducible assumption | with_reducible refine Below.setCell ?_ (by first | (dsimp only; omega) | (simp; try omega)) _ | with_reducible refine LaterW.below _ ?_ | with_reducible refine below_alloc ?_ _ | with_reducible refine below_drewN' ?_ _ | with_reducible refine Below.drew ?_ | with_reducible exact below_drewN _))
theorem expand_f (a b c d x y : Nat) (w : World) : Calls Try.prog 125 #[vGEnv a b c d false, vXY x y] w fun r w' => r = .returned (vGEnv x y x y true) ∧ Below w.heap.size w w' := by
  go_enter Try.func125, Try.ntmps125
  go_wp2_with (first | (go_at_call 98; (with_reducible refine (isEmpty_f _ _ _ _ _).mono ?_); rintro e w1 ⟨rfl, hb⟩; (first | (obtain ⟨x1, rfl⟩ := LaterW.of2 hb) | (obtain ⟨x1, rfl⟩ := LaterW.of hb)); clear hb) | (go_at_call 135; (with_reducible refine (newUnchecked_any _ _ _ _ _).mono ?_); rintro e w1 ⟨rfl, hb⟩; (first | (obtain ⟨x1, rfl⟩ := LaterW.of2 hb) | (obtain ⟨x1, rfl⟩ := LaterW.of hb)); clear hb))
  refine ret_agg [fl x, fl y, fl x, fl y, .bool true] rfl rfl rfl (by kernel_rfl) (by kernel_rfl) (by simp [CellsAt, go_sem]) ⟨rfl, ?_⟩
  exact (by repeat (first | with_reducible exact Below.refl _ _ | with_reducible exact HBEL.out | with_reducible assumption | with_reducible refine Below.setCell ?_ (by first | (dsimp only; omega) | (simp; try omega)) _ | with_reducible refine LaterW.below _ ?_ | with_reducible refine below_alloc ?_ _ | with_reducible refine below_drewN' ?_ _ | with_reducible refine Below.drew ?_ | with_reducible exact below_drewN _))
theorem expand_t (a b c d x y : Nat) (w : World) : Calls Try.prog 125 #[vGEnv a b c d true, vXY x y] w fun r w' => r = .returned (vGEnv (gminW a x) (gminW b y) (gmaxW c x) (gmaxW d y) true) ∧ Below w.heap.size w w' := by
  go_enter Try.func125, Try.ntmps125
  go_wp2_with (first | (go_at_call 98; (with_reducible refine (isEmpty_t _ _ _ _ _).mono ?_); rintro e w1 ⟨rfl, hb⟩; (first | (obtain ⟨x1, rfl⟩ := LaterW.of2 hb) | (obtain ⟨x1, rfl⟩ := LaterW.of hb)); clear hb))
  ((first | refine wp_region_laterlast2 rfl rfl (by kernel_rfl) (by kernel_rfl) (by kernel_rfl) ?_ | refine wp_region_laterlast rfl rfl (by kernel_rfl) (by kernel_rfl) (by kernel_rfl) ?_); (simp only [List.length_cons, List.length_nil, Nat.reduceAdd, List.take_succ_cons, List.take_zero]); (repeat (go_big_quiet_step (first | (go_at_call 136; with_reducible exact Calls.later_of (gfastMin_calls _ _ _)) | (go_at_call 137; with_reducible exact Calls.later_of (gfastMax_calls _ _ _)) | (go_at_call 135; with_reducible exact Calls.later_of (newUnchecked_any _ _ _ _ _))))); refine wpQuiet_nil ?_; rintro _ ⟨x1, rfl⟩)
  go_wp2_with fail
  refine ret_agg [fl (gminW a x), fl (gminW b y), fl (gmaxW c x), fl (gmaxW d y), .bool true] rfl rfl rfl (by kernel_rfl) (by kernel_rfl) (by simp [CellsAt, go_sem]) ⟨rfl, ?_⟩
  exact (by repeat (first | with_reducible exact Below.refl _ _ | with_reducible exact HBEL.out | with_reducible assumption | with_reducible refine Below.setCell ?_ (by first | (dsimp only; omega) | (simp; try omega)) _ | with_reducible refine LaterW.below _ ?_ | with_reducible refine below_alloc ?_ _ | with_reducible refine below_drewN' ?_ _ | with_reducible refine Below.drew ?_ | with_reducible exact below_drewN _))
/-- An envelope: four words and whether there is anything. -/
structure EnvW where
  a : Nat
  b : Nat
  c : Nat
  d : Nat
  full : Bool
def expW (e : EnvW) (p : Nat × Nat) : EnvW := if e.full then ⟨gminW e.a p.1, gminW e.b p.2, gmaxW e.c p.1, gmaxW e.d p.2, true⟩ else ⟨p.1, p.2, p.1, p.2, true⟩
theorem expand_any {a b c d x y : Nat} {f : Bool} {e' : EnvW} (h : expW ⟨a, b, c, d, f⟩ (x, y) = e') (w : World) : Calls Try.prog 125 #[vGEnv a b c d f, vXY x y] w fun r w' => r = .returned (vGEnv e'.a e'.b e'.c e'.d e'.full) ∧ Below w.heap.size w w' := by
  subst h
  cases f
  · exact expand_f a b c d x y w
  · exact expand_t a b c d x y w

abbrev gcells (e : EnvW) : List Value := [fl e.a, fl e.b, fl e.c, fl e.d, .bool e.full]
def noEnv : EnvW := ⟨0, 0, 0, 0, false⟩
theorem newEnvelope_loop {b o n cap : Nat} {ps : List (Nat × Nat)} {w : World} (hp : XYsAt w b o ps) (hn : ps.length = n) (hm : ps.length ≤ 1000000) (hb : b < w.heap.size) {e : EnvW} (he : ps.foldl expW noEnv = e) :
    Calls Try.prog 97 #[.slice (some ⟨b, o, none⟩) n cap] w fun r w' => r = .returned (vGEnv e.a e.b e.c e.d e.full) ∧ Below w.heap.size w w' := by
  subst hn
  have HP := Lib.hid hp
  have HE := Lib.hid he
  clear hp he
  go_enter Try.func97, Try.ntmps97
  go_wp2_with fail
  go_loopw [8] (fun i wr => ∃ k : Nat, k ≤ ps.length ∧ i = .int .i64 k ∧ Below w.heap.size w wr ∧ Own wr w.heap.size (gcells noEnv) ∧ Own wr (w.heap.size + 1) (gcells ((ps.take k).foldl expW noEnv))) (fun i _ => ps.length - (intOf i).toNat)
  case atStart => exact ⟨0, Nat.zero_le _, rfl, (by repeat (first | with_reducible exact Below.refl _ _ | with_reducible exact HBEL.out | with_reducible assumption | with_reducible refine Below.setCell ?_ (by first | (dsimp only; omega) | (simp; try omega)) _ | with_reducible refine LaterW.below _ ?_ | with_reducible refine below_alloc ?_ _ | with_reducible refine below_drewN' ?_ _ | with_reducible refine Below.drew ?_ | with_reducible exact below_drewN _)), (Own.new' _ rfl rfl).alloc _, Own.new' _ rfl (by simp)⟩
  case round =>
    obtain ⟨k, hk, rfl, hbel, hR, hB⟩ := hrel
    have HBEL := Lib.hid hbel
    have HR := Lib.hid hR
    have HB := Lib.hid hB
    clear hbel hR hB
    have hsz := HB.out.lt
    have hsz0 := HR.out.lt
    have hf := HB.out.free
    by_cases hlt : k < ps.length
    · obtain ⟨c1, c2⟩ := (HP.out.below HBEL.out hb) k hlt
      have hblt : b < wr.heap.size := Nat.lt_of_lt_of_le hb HBEL.out.size
      obtain ⟨e1, hE1⟩ : ∃ e1, (ps.take (k + 1)).foldl expW noEnv = e1 := ⟨_, rfl⟩
      have HX : Hid (expW ((ps.take k).foldl expW noEnv) ps[k] = e1) := by
        rw [← hE1, List.take_succ_eq_append_getElem hlt, List.foldl_append]; rfl
      have HE1 := Lib.hid hE1
      clear hE1
      generalize (ps.take k).foldl expW noEnv = e0 at HB HX
      obtain ⟨x0, x1, x2, x3, f0⟩ := e0
      have hc := HB.out.cells
      simp only [CellsAt] at hc
      obtain ⟨d0, d1, d2, d3, d4, _⟩ := hc
      have hg : ps.getD k (0, 0) = ps[k] := by simp [hlt]
      rw [hg] at c1 c2
      clear hg
      obtain ⟨px, py, hpp⟩ : ∃ px py, ps[k] = (px, py) := ⟨_, _, rfl⟩
      rw [hpp] at c1 c2 HX
      clear hpp
      go_wp2_with ((go_at_call 125; (with_reducible refine (expand_any HX.out _).mono ?_); rintro e w1 ⟨rfl, hb⟩; (first | (obtain ⟨x1, rfl⟩ := LaterW.of2 hb) | (obtain ⟨x1, rfl⟩ := LaterW.of hb)); clear hb))
      refine ⟨⟨k + 1, by omega, by go_num, (by repeat (first | with_reducible exact Below.refl _ _ | with_reducible exact HBEL.out | with_reducible assumption | with_reducible refine Below.setCell ?_ (by first | (dsimp only; omega) | (simp; try omega)) _ | with_reducible refine LaterW.below _ ?_ | with_reducible refine below_alloc ?_ _ | with_reducible refine below_drewN' ?_ _ | with_reducible refine Below.drew ?_ | with_reducible exact below_drewN _)), ?_, ?_⟩, by simp [intOf]; omega⟩
      · exact ((((((HR.out.alloc _).later _).other (by simp) _).other (by simp) _).other (by simp) _).other (by simp) _).other (by simp) _
      · rw [HE1.out]
        exact ((((((HB.out.alloc _).later _).set 0 (by simp) _).set 1 (by simp) _).set 2 (by simp) _).set 3 (by simp) _).set 4 (by simp) _
    · have hE := HE.out
      rw [← List.take_of_length_le (show ps.length ≤ k by omega)] at hE
      rw [hE] at HB
      have hc := HB.out.cells
      simp only [CellsAt] at hc
      obtain ⟨d0, d1, d2, d3, d4, _⟩ := hc
      have hr := HR.out.cells
      simp only [CellsAt, noEnv] at hr
      obtain ⟨r0, r1, r2, r3, r4, _⟩ := hr
      have hfr := HR.out.free
      go_wp2_with fail
      refine ret_agg [fl e.a, fl e.b, fl e.c, fl e.d, .bool e.full] rfl rfl rfl (by kernel_rfl) (by kernel_rfl) (((((HR.out.set 0 (by simp) _).set 1 (by simp) _).set 2 (by simp) _).set 3 (by simp) _).set 4 (by simp) _).cells ⟨rfl, ?_⟩
      exact (by repeat (first | with_reducible exact Below.refl _ _ | with_reducible exact HBEL.out | with_reducible assumption | with_reducible refine Below.setCell ?_ (by first | (dsimp only; omega) | (simp; try omega)) _ | with_reducible refine LaterW.below _ ?_ | with_reducible refine below_alloc ?_ _ | with_reducible refine below_drewN' ?_ _ | with_reducible refine Below.drew ?_ | with_reducible exact below_drewN _))
end Go.Proofs.Ytihkmkcjjlmkhaa
