/- FnNewEnvelope holds of every list of places: geom's least box around up to 2000 finite ones is that of the statement. No condition. -/
import Derived.Test.YtjikhnnheggejaaEnvLaw
import Derived.Test.YtjikhnnheggejaaFrame
import Derived.Deep.Slices
import Derived.Deep.Fields
namespace Go.Proofs.Ytjikhnnheggejaa
open Go.ChangeShapes Go.WideShapes Go.ChangeAt Go.RowKit Go.Deep
open Fl

section
variable {H : Type} {enc : TypeId × Value → H} {w : World} {base : Nat} {spare : Nat → Bool} {held : Bool}
theorem trod_fl {fuel : Nat} {cs : List Value} {x : DataW H × List MemPlace} (h : DataW.trod enc Try.prog w base spare held fuel 22 cs = some x) (hl : cs.length = 1) : ∃ b, cs = [fl b] ∧ b < 2 ^ 64 := by
  match cs, hl with
  | [c], _ =>
    cases fuel with
    | zero => simp [DataW.trod] at h
    | succ n =>
      simp only [DataW.trod, Try.underlying22] at h
      cases c <;> simp_all [Lit.wf]

theorem trod_xy {fuel : Nat} {cs : List Value} {x : DataW H × List MemPlace} (h : DataW.trod enc Try.prog w base spare held fuel 30 cs = some x) : ∃ a b, cs = [fl a, fl b] ∧ a < 2 ^ 64 ∧ b < 2 ^ 64 := by
  obtain ⟨y0, y1, n, _, hl, h0, h1⟩ := trod_struct2 Try.underlying30 h
  have e2 : Try.prog.cellsOf 30 = 2 := by kernel_rfl
  have e1 : Try.prog.cellsOf 22 = 1 := by kernel_rfl
  rw [e2] at hl
  match cs, hl with
  | [c, d], _ =>
    rw [e1] at h0 h1
    obtain ⟨a, ha, la⟩ := trod_fl h0 rfl
    obtain ⟨b, hb, lb⟩ := trod_fl h1 rfl
    simp at ha hb
    subst ha; subst hb
    exact ⟨a, b, rfl, la, lb⟩
theorem open_xys {fuel : Nat} {a : Option Addr} {len cap : Nat} {x : DataW H × List MemPlace} (h : DataW.trod enc Try.prog w base spare held fuel 39 [.slice a len cap] = some x) :
    ∃ ps, IsXYs w a ps ∧ ps.length = len ∧ len ≤ 9223372036854775807 ∧ ∀ i, i < ps.length → ps[i]!.1 < 2 ^ 64 ∧ ps[i]!.2 < 2 ^ 64 := by
  have e2 : Try.prog.cellsOf 30 = 2 := by kernel_rfl
  rcases open_slice Try.underlying39 h with ⟨hc, _⟩ | ⟨p, l, c, m, n, Dd, Pl, hc, hb, hl, hm, hmm, hx, hi⟩
  · simp at hc
    obtain ⟨rfl, rfl, rfl⟩ := hc
    exact ⟨[], .inl rfl, rfl, by omega, by simp⟩
  · simp at hc
    obtain ⟨rfl, rfl, rfl⟩ := hc
    have hlm : len ≤ m := by rw [hmm]; split <;> omega
    by_cases h0 : len = 0
    · exact ⟨[], .inl rfl, by simp [h0], by omega, by simp⟩
    rw [e2] at hi
    have key : ∀ i, i < len → ∃ q : Nat × Nat, w.cell? (p.add (i * 2)) = some (fl q.1) ∧ w.cell? ((p.add (i * 2)).add 1) = some (fl q.2) ∧ q.1 < 2 ^ 64 ∧ q.2 < 2 ^ 64 := by
      intro i hlt
      obtain ⟨cs', hcs, ht⟩ := hi i (by omega)
      obtain ⟨q1, q2, rfl, l1, l2⟩ := trod_xy ht
      obtain ⟨_, _, hat⟩ := World.cells?_some hcs
      exact ⟨(q1, q2), by simpa [Addr.add_zero'] using hat 0 (by omega), by simpa using hat 1 (by omega), l1, l2⟩
    obtain ⟨q0, hq0, _⟩ := key 0 (by omega)
    obtain ⟨b, o, sp⟩ := p
    have hq0' : w.cell? ⟨b, o, sp⟩ = some (fl q0.1) := by simpa [Addr.add_zero'] using hq0
    have hsp : sp = none := World.cell?_spot hq0'
    subst hsp
    have key' : ∀ i, i < len → ∃ q : Nat × Nat, w.cell? ⟨b, o + i * 2, none⟩ = some (fl q.1) ∧ w.cell? ⟨b, o + i * 2 + 1, none⟩ = some (fl q.2) ∧ q.1 < 2 ^ 64 ∧ q.2 < 2 ^ 64 := by
      intro i hlt
      obtain ⟨q, k1, k2, k3⟩ := key i hlt
      rw [Addr.add_lit] at k1 k2
      rw [Addr.add_lit] at k2
      exact ⟨q, k1, k2, k3⟩
    obtain ⟨f, hf⟩ : ∃ f : Nat → Nat × Nat, ∀ i, i < len → w.cell? ⟨b, o + i * 2, none⟩ = some (fl (f i).1) ∧ w.cell? ⟨b, o + i * 2 + 1, none⟩ = some (fl (f i).2) ∧ (f i).1 < 2 ^ 64 ∧ (f i).2 < 2 ^ 64 :=
      ⟨fun i => if h : i < len then (key' i h).choose else (0, 0), fun i hi => by simp only [hi, dif_pos]; exact (key' i hi).choose_spec⟩
    refine ⟨(List.range len).map f, .inr ⟨b, o, rfl, ?_, ?_⟩, by simp, by unfold maxLen at hm; omega, ?_⟩
    · intro i hlt
      have hlt' : i < len := by simpa using hlt
      obtain ⟨k1, k2, _⟩ := hf i hlt'
      simp only [List.getD_eq_getElem?_getD, List.getElem?_map, List.getElem?_range hlt', Option.map_some, Option.getD_some]
      exact ⟨k1, k2⟩
    · exact World.block_lt_of_cell? _ _ hq0'
    · intro i hlt
      have hlt' : i < len := by simpa using hlt
      obtain ⟨_, _, k3, k4⟩ := hf i hlt'
      rw [getElem!_pos (List.map f (List.range len)) i hlt]
      simp only [List.getElem_map, List.getElem_range]
      exact ⟨k3, k4⟩
end

/-- laws.eList over any list. -/
def eListB (ps : List (Nat × Nat)) : Bool := decide (ps.length ≤ 2000) && ps.all xyFinB
theorem eList_all {a : Option Addr} {n cap : Nat} {ps : List (Nat × Nat)} {w : World} {r : Bool} (hp : IsXYs w a ps) (hn : ps.length = n) (hN : n ≤ 2147483647) (hw : ∀ i, i < ps.length → ps[i]!.1 < 2 ^ 64 ∧ ps[i]!.2 < 2 ^ 64) (hr : eListB ps = r) :
    Calls Try.prog 15 #[.slice a n cap] w fun e w' => e = .returned (.bool r) ∧ Below w.heap.size w w' := by
  by_cases h : ps.length ≤ 2000
  · rcases hp with rfl | ⟨b, o, rfl, hX, hb⟩
    · have HR := Lib.hid hr
      subst hn
      clear hw h hr hN
      go_enter Try.func15, Try.ntmps15
      go_wp2_with fail
      go_loopw [10] (fun i wr => i = .int .i64 0 ∧ wr = w) (fun i _ => 0)
      case atStart => exact ⟨rfl, rfl⟩
      case round =>
        obtain ⟨rfl, rfl⟩ := hrel
        go_wp2_with fail
        go_ret
        exact ⟨ret_bool (by rw [← HR.out]; rfl), Below.refl _ _⟩
    · have := eList_any (cap := cap) hX hn h hw
      refine this.mono fun e w' ⟨h1, h2⟩ => ⟨?_, h2⟩
      rw [h1, ← hr]; unfold eListB; simp [h]
  · have HR := Lib.hid hr
    have H1 : Hid (r = false) := by show r = false; rw [← hr]; unfold eListB; simp [h]
    have hn' : 2000 < n := by omega
    clear hr hw hp hn h
    go_enter Try.func15, Try.ntmps15
    go_wp2_with fail
    go_ret
    exact ⟨ret_bool H1.out.symm, (by repeat (first | with_reducible exact Below.refl _ _ | with_reducible exact HBEL.out | with_reducible assumption | with_reducible refine Below.setCell ?_ (by first | (dsimp only; omega) | (simp; try omega)) _ | with_reducible refine LaterW.below _ ?_ | with_reducible refine below_alloc ?_ _ | with_reducible refine below_drewN' ?_ _ | with_reducible refine Below.drew ?_ | with_reducible exact below_drewN _))⟩

theorem newEnvelope_walk {a : Option Addr} {n cap : Nat} {ps : List (Nat × Nat)} {w : World} (hp : IsXYs w a ps) (hn : ps.length = n) (hm : n ≤ 9223372036854775807) (hw : ∀ i, i < ps.length → ps[i]!.1 < 2 ^ 64 ∧ ps[i]!.2 < 2 ^ 64) :
    Calls Try.prog 6 #[.slice a n cap] w fun r w' => r = .returned (.bool true) ∧ Below w.heap.size w w' := by
  by_cases hN : n ≤ 2147483647
  · cases hl : eListB ps
    · have HL := Lib.hid (eList_all (cap := cap) hp hn hN hw hl)
      clear hp hw hl hn
      go_enter Try.func6, Try.ntmps6
      go_wp2_with ((go_at_call 15; (with_reducible refine (HL.out).mono ?_); rintro e w1 ⟨rfl, hb⟩; (first | (obtain ⟨x1, rfl⟩ := LaterW.of2 hb) | (obtain ⟨x1, rfl⟩ := LaterW.of hb)); clear hb))
      go_ret
      exact ⟨rfl, (by repeat (first | with_reducible exact Below.refl _ _ | with_reducible exact HBEL.out | with_reducible assumption | with_reducible refine Below.setCell ?_ (by first | (dsimp only; omega) | (simp; try omega)) _ | with_reducible refine LaterW.below _ ?_ | with_reducible refine below_alloc ?_ _ | with_reducible refine below_drewN' ?_ _ | with_reducible refine Below.drew ?_ | with_reducible exact below_drewN _))⟩
    · have h2 : ps.length ≤ 2000 ∧ ps.all xyFinB = true := by unfold eListB at hl; simpa using hl
      have HL := Lib.hid (eList_all (cap := cap) hp hn hN hw hl)
      have HP := Lib.hid hp
      have HQ := Lib.hid (newEnvelope_law h2.2)
      obtain ⟨⟨ea, eb, ec, ed, ef⟩, h3⟩ : ∃ e, plainW (ps.foldl expW noEnv) = e := ⟨_, rfl⟩
      obtain ⟨⟨fa, fb, fc, fd, ff⟩, h4⟩ : ∃ e, ps.foldl ofStep noEnv = e := ⟨_, rfl⟩
      rw [h3, h4] at HQ
      have H3 := Lib.hid h3
      have H4 := Lib.hid h4
      have h5 : ps.length ≤ 1000000 := by omega
      subst hn
      clear hp hw hl h3 h4 h2
      go_enter Try.func6, Try.ntmps6
      go_wp2_with ((go_at_call 15; (with_reducible refine (HL.out).mono ?_); rintro e w1 ⟨rfl, hb⟩; (first | (obtain ⟨x1, rfl⟩ := LaterW.of2 hb) | (obtain ⟨x1, rfl⟩ := LaterW.of hb)); clear hb))
      refine (implNewEnvelope_any (HP.out.below x1.ok) rfl h5 H3.out).mono ?_
      rintro r w1 ⟨rfl, hb⟩
      obtain ⟨x2, rfl⟩ := LaterW.of2 hb
      clear hb
      go_wp2_with fail
      refine (eOf_any (HP.out.below x2.ok) rfl h5 H4.out).mono ?_
      rintro r w1 ⟨rfl, hb⟩
      obtain ⟨x3, rfl⟩ := LaterW.of2 hb
      clear hb
      go_wp2_with ((go_at_call 16; (with_reducible refine (eEqual_any HQ.out _).mono ?_); rintro e w1 ⟨rfl, hb⟩; (first | (obtain ⟨x1, rfl⟩ := LaterW.of2 hb) | (obtain ⟨x1, rfl⟩ := LaterW.of hb)); clear hb))
      go_ret
      exact ⟨rfl, (by repeat (first | with_reducible exact Below.refl _ _ | with_reducible exact HBEL.out | with_reducible assumption | with_reducible refine Below.setCell ?_ (by first | (dsimp only; omega) | (simp; try omega)) _ | with_reducible refine LaterW.below _ ?_ | with_reducible refine below_alloc ?_ _ | with_reducible refine below_drewN' ?_ _ | with_reducible refine Below.drew ?_ | with_reducible exact below_drewN _))⟩
  · have hN' : 2147483647 < n := by omega
    clear hp hw hn hN
    go_enter Try.func6, Try.ntmps6
    go_wp2_with fail
    go_ret
    exact ⟨rfl, (by repeat (first | with_reducible exact Below.refl _ _ | with_reducible exact HBEL.out | with_reducible assumption | with_reducible refine Below.setCell ?_ (by first | (dsimp only; omega) | (simp; try omega)) _ | with_reducible refine LaterW.below _ ?_ | with_reducible refine below_alloc ?_ _ | with_reducible refine below_drewN' ?_ _ | with_reducible refine Below.drew ?_ | with_reducible exact below_drewN _))⟩

set_option maxRecDepth 100000 in
theorem fnNewEnvelope_lifted (os : Os) (started : os.Started) (H : Type) (enc : TypeId × Value → H) :
    ReturnsInHanded {} Try.checked os 6 .any (Rows.fnNewEnvelopeSpec.pre6 enc Try.prog Try.f6 Rows.fnNewEnvelopeRow.domain false) (Rows.fnNewEnvelopeSpec.post enc Try.prog Try.f6 false true false false) := by
  refine returnsInHanded_of_change (C := Try.checked) own started (by kernel_rfl) Try.func6
    (ChangeSpec.witness6 (enc := enc) (C := Try.checked) false ⟨#[], #[.slice none 0 0], []⟩ 8 (by kernel_rfl) (by kernel_rfl) (by kernel_rfl) (by kernel_rfl)) ?_
  intro W base args ds gs before hval0 hW _ _
  have hval : ∀ (j : Nat) t v, Try.f6.params[j]? = some t → args[j]? = some v → Value.okWide Try.prog W .any base t v := hval0
  have hW' := hW
  obtain ⟨p, q, hA0, hV, rfl, _, _⟩ := hW
  have hA : DataW.TrodAll enc Try.prog W 0 (fun _ => true) true Try.f6.params.toList args.toList ds p := hA0
  rw [Try.params6] at hA hval
  obtain ⟨v0, vs0, d0, ds0, p0, q0, hargs, rfl, rfl, h0, r0⟩ := trodAll_cons hA
  obtain ⟨rfl, rfl, rfl⟩ := trodAll_nil r0
  obtain rfl : args = #[v0] := by cases args; simp_all
  obtain ⟨rfl, rfl⟩ := trodVars_none hV
  have lt0 : ∀ x ∈ p0, x.block < W.heap.size := by obtain ⟨m, hm⟩ := h0; exact DataW.trod_lt m _ _ _ hm
  have ok0 := hval 0 39 v0 rfl rfl
  clear hA0 hval0
  obtain ⟨a, n, cap, rfl⟩ := okWide_slice Try.underlying39 ok0
  have hk := h0
  obtain ⟨fuel, hf⟩ := hk
  obtain ⟨ps, hp, hn, hm, hw⟩ := open_xys (by simpa [Value.cells] using hf)
  refine (newEnvelope_walk hp hn hm hw).mono fun e W' ⟨he, bel⟩ => ?_
  subst he
  exact ⟨_, rfl, _, _, _, [], _, [], hW', trodAll_mk1 (shut_bool Try.underlying4 _), (trodAll_cons_mk (Below.trod laidOut (by kernel_rfl) (of_decide_eq_true (by kernel_rfl)) h0 bel lt0) trodAll_mk0), rfl, bel.frame _, fun h => by cases h⟩
theorem fnNewEnvelope_proved : Rows.FnNewEnvelopeSaid :=
  OpenClaim.holds_of_wide 6 Try.f6 rfl rfl rfl rfl rfl rfl rfl ⟨rfl, rfl, rfl, rfl, rfl⟩ rfl rfl rfl rfl rfl (by kernel_rfl) Try.func6 (by kernel_rfl)
    (of_decide_eq_true (by kernel_rfl)) (by unfold Func.isWrapper; first | (rw [if_pos (by decide +kernel)]; kernel_rfl) | (rw [if_neg (by decide +kernel)]; exact ⟨rfl, rfl⟩))
    (fun os started H enc _ => fnNewEnvelope_lifted os started H enc)
#print axioms fnNewEnvelope_proved
end Go.Proofs.Ytjikhnnheggejaa
