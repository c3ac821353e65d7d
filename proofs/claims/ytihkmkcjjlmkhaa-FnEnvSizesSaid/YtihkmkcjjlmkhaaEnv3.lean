/- The least box around places as the statements have it (laws.eOf), geom's MinMaxXYs, impl's plainEnvelope, NewEnvelope, laws.eEqual. No condition. -/
import Derived.Test.YtihkmkcjjlmkhaaEnv2
import Derived.RegionTactic
import Derived.ChangeAlike
namespace Go.Proofs.Ytihkmkcjjlmkhaa
set_option maxRecDepth 100000
open Go.ChangeShapes Go.WideShapes Go.ChangeAt Go.RowKit
open Fl

theorem Own.cast {w : World} {B : Nat} {cs cs' : List Value} (h : Own w B cs) (e : cs = cs') : Own w B cs' := e ▸ h
/-- What plainEnvelope hands back of an envelope: zeros, if it is empty. -/
def plainW (e : EnvW) : EnvW := if e.full then e else noEnv
/-- geom.NewEnvelope over an array of one's own making. -/
theorem newEnvelope_own {B n : Nat} {ps : List (Nat × Nat)} {w : World} (h : Own w B (xyCells ps)) (hn : ps.length = n) (hm : ps.length ≤ 1000000) {e : EnvW} (he : ps.foldl expW noEnv = e) :
    Calls Try.prog 97 #[.slice (some ⟨B, 0, none⟩) n n] w fun r w' => r = .returned (vGEnv e.a e.b e.c e.d e.full) ∧ Below w.heap.size w w' :=
  newEnvelope_loop (xys_of_own h) hn hm h.lt he
/-- The statements' own least box. -/
def ofStep (e : EnvW) (p : Nat × Nat) : EnvW := if e.full then ⟨if D.order p.1 e.a == some .lt then p.1 else e.a, if D.order p.2 e.b == some .lt then p.2 else e.b, if D.order p.1 e.c == some .gt then p.1 else e.c, if D.order p.2 e.d == some .gt then p.2 else e.d, true⟩ else ⟨p.1, p.2, p.1, p.2, true⟩
abbrev ecells (e : EnvW) : List Value := [.bool e.full, fl e.a, fl e.b, fl e.c, fl e.d]
set_option maxHeartbeats 1000000 in
theorem eOf_any {a : Option Addr} {n cap : Nat} {ps : List (Nat × Nat)} {w : World} (hp : IsXYs w a ps) (hn : ps.length = n) (hm : ps.length ≤ 1000000) {e : EnvW} (he : ps.foldl ofStep noEnv = e) :
    Calls Try.prog 66 #[.slice a n cap] w fun r w' => r = .returned (vEnv e.a e.b e.c e.d e.full) ∧ Below w.heap.size w w' := by
  subst hn
  have HP := Lib.hid hp
  have HE := Lib.hid he
  clear hp he
  go_enter Try.func66, Try.ntmps66
  go_wp2_with fail
  go_loopw [8] (fun i wr => ∃ k : Nat, k ≤ ps.length ∧ i = .int .i64 k ∧ Below w.heap.size w wr ∧ Own wr w.heap.size (ecells noEnv) ∧ Own wr (w.heap.size + 1) (ecells ((ps.take k).foldl ofStep noEnv))) (fun i _ => ps.length - (intOf i).toNat)
  case atStart => exact ⟨0, Nat.zero_le _, rfl, (by repeat (first | with_reducible exact Below.refl _ _ | with_reducible exact HBEL.out | with_reducible assumption | with_reducible refine Below.setCell ?_ (by first | (dsimp only; omega) | (simp; try omega)) _ | with_reducible refine LaterW.below _ ?_ | with_reducible refine below_alloc ?_ _ | with_reducible refine below_drewN' ?_ _ | with_reducible refine Below.drew ?_ | with_reducible exact below_drewN _)), (Own.new' _ rfl rfl).alloc _, Own.new' _ rfl (by simp)⟩
  case round =>
    obtain ⟨k, hk, rfl, hbel, hR, hB⟩ := hrel
    have HBEL := Lib.hid hbel
    have HR := Lib.hid hR
    have HB := Lib.hid hB
    clear hbel hR hB
    have hsz := HB.out.lt
    have hsz0 := HR.out.lt
    have hf := HB.out.free
    by_cases hlt : k < ps.length
    · obtain ⟨b, o, rfl, hX, hb⟩ : ∃ b o, a = some ⟨b, o, none⟩ ∧ XYsAt w b o ps ∧ b < w.heap.size := by
        rcases HP.out with h | h
        · rw [h] at hlt; simp at hlt
        · exact h
      obtain ⟨c1, c2⟩ := (hX.below HBEL.out hb) k hlt
      have hblt : b < wr.heap.size := Nat.lt_of_lt_of_le hb HBEL.out.size
      obtain ⟨e1, hE1⟩ : ∃ e1, (ps.take (k + 1)).foldl ofStep noEnv = e1 := ⟨_, rfl⟩
      have HX : Hid (ofStep ((ps.take k).foldl ofStep noEnv) ps[k] = e1) := by
        rw [← hE1, List.take_succ_eq_append_getElem hlt, List.foldl_append]; rfl
      have HE1 := Lib.hid hE1
      clear hE1 hX
      generalize (ps.take k).foldl ofStep noEnv = e0 at HB HX
      obtain ⟨x0, x1, x2, x3, f0⟩ := e0
      have hc := HB.out.cells
      simp only [CellsAt] at hc
      obtain ⟨d0, d1, d2, d3, d4, _⟩ := hc
      have hg : ps.getD k (0, 0) = ps[k] := by simp [hlt]
      rw [hg] at c1 c2
      clear hg
      obtain ⟨px, py, hpp⟩ : ∃ px py, ps[k] = (px, py) := ⟨_, _, rfl⟩
      rw [hpp] at c1 c2 HX
      clear hpp
      cases f0
      · go_wp2_with fail
        refine ⟨⟨k + 1, by omega, by go_num, (by repeat (first | with_reducible exact Below.refl _ _ | with_reducible exact HBEL.out | with_reducible assumption | with_reducible refine Below.setCell ?_ (by first | (dsimp only; omega) | (simp; try omega)) _ | with_reducible refine LaterW.below _ ?_ | with_reducible refine below_alloc ?_ _ | with_reducible refine below_drewN' ?_ _ | with_reducible refine Below.drew ?_ | with_reducible exact below_drewN _)), ?_, ?_⟩, by simp [intOf]; omega⟩
        · exact (by apply Own.cast; (repeat (first | with_reducible exact HR.out | with_reducible apply Own.alloc | with_reducible apply Own.later | with_reducible apply Own.drew | with_reducible apply Own.drewN | with_reducible apply Own.set | with_reducible apply Own.other)); (all_goals first | (simp; done) | (simp; omega) | rfl))
        · rw [HE1.out, ← HX.out]
          exact (by apply Own.cast; (repeat (first | with_reducible exact HB.out | with_reducible apply Own.alloc | with_reducible apply Own.later | with_reducible apply Own.drew | with_reducible apply Own.drewN | with_reducible apply Own.set | with_reducible apply Own.other)); (all_goals first | (simp; done) | (simp; omega) | rfl))
      · go_wp2_with fail
        all_goals
          refine ⟨⟨k + 1, by omega, by go_num, (by repeat (first | with_reducible exact Below.refl _ _ | with_reducible exact HBEL.out | with_reducible assumption | with_reducible refine Below.setCell ?_ (by first | (dsimp only; omega) | (simp; try omega)) _ | with_reducible refine LaterW.below _ ?_ | with_reducible refine below_alloc ?_ _ | with_reducible refine below_drewN' ?_ _ | with_reducible refine Below.drew ?_ | with_reducible exact below_drewN _)), ?_, ?_⟩, by simp [intOf]; omega⟩
          · exact (by apply Own.cast; (repeat (first | with_reducible exact HR.out | with_reducible apply Own.alloc | with_reducible apply Own.later | with_reducible apply Own.drew | with_reducible apply Own.drewN | with_reducible apply Own.set | with_reducible apply Own.other)); (all_goals first | (simp; done) | (simp; omega) | rfl))
          · rw [HE1.out, ← HX.out]
            exact (by apply Own.cast; (repeat (first | with_reducible exact HB.out | with_reducible apply Own.alloc | with_reducible apply Own.later | with_reducible apply Own.drew | with_reducible apply Own.drewN | with_reducible apply Own.set | with_reducible apply Own.other)); (all_goals first | (simp; done) | (simp; omega) | (simp_all [ofStep])))
    · have hE := HE.out
      rw [← List.take_of_length_le (show ps.length ≤ k by omega)] at hE
      rw [hE] at HB
      have hc := HB.out.cells
      simp only [CellsAt] at hc
      obtain ⟨d0, d1, d2, d3, d4, _⟩ := hc
      have hr := HR.out.cells
      simp only [CellsAt, noEnv] at hr
      obtain ⟨r0, r1, r2, r3, r4, _⟩ := hr
      have hfr := HR.out.free
      go_wp2_with fail
      refine ret_agg [.bool e.full, fl e.a, fl e.b, fl e.c, fl e.d] rfl rfl rfl (by kernel_rfl) (by kernel_rfl) (((((HR.out.set 0 (by simp) _).set 1 (by simp) _).set 2 (by simp) _).set 3 (by simp) _).set 4 (by simp) _).cells ⟨rfl, ?_⟩
      exact (by repeat (first | with_reducible exact Below.refl _ _ | with_reducible exact HBEL.out | with_reducible assumption | with_reducible refine Below.setCell ?_ (by first | (dsimp only; omega) | (simp; try omega)) _ | with_reducible refine LaterW.below _ ?_ | with_reducible refine below_alloc ?_ _ | with_reducible refine below_drewN' ?_ _ | with_reducible refine Below.drew ?_ | with_reducible exact below_drewN _))
end Go.Proofs.Ytihkmkcjjlmkhaa
