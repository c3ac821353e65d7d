/- FnLineBoundary holds of every list of numbers and number: the boundary of a line string is no point if it is empty or closed, else the two points at its ends. No condition. -/
import Derived.Test.YtihkmkcjjlmkhaaBound7
import Derived.Test.YtihkmkcjjlmkhaaFrame
namespace Go.Proofs.Ytihkmkcjjlmkhaa
set_option maxRecDepth 100000
open Go.ChangeShapes Go.WideShapes Go.ChangeAt Go.RowKit Go.Deep
open Fl

theorem open_int {w : World} {r : Reach} {base : Nat} {v : Value} (h : Value.okWide Try.prog w r base 3 v) : ∃ a : Int, v = .int .i64 a := by
  simp only [Value.okWide, Try.underlying3] at h
  obtain ⟨b, hb, _⟩ := cell_int Try.underlying3 h
  exact ⟨b, hb⟩
section
variable {d : Int} {a : Option Addr} {n ca : Nat} {xs : List Nat} {w : World}
theorem lb_same {W2 W9 : World} {C A b1 ob wd la c2 : Nat} {k2 : Option Addr} {cs : List Value} (ho : Own W9 A [.int .i64 1, .int .i64 d, .slice (some ⟨b1, ob, none⟩) wd ca, .slice none 0 0, .int .i64 1, .int .i64 d, .slice (some ⟨b1, ob + la, none⟩) (n - la) (ca - la), .slice none 0 0])
    (hb : Below W2.heap.size W2 W9) (h0 : 0 ≤ d) (h3 : d ≤ 3) (hx : ∀ x ∈ xs, x < 2 ^ 64) (hn : xs.length = n) (hl : n ≤ 2000) (hla : la + wd = n) (hca : n ≤ ca) (hr : W2.ownsRow C 25 4 (.slice k2 2 c2) 2 cs) (hk : KidCells W2 C d [xs.take wd, xs.drop la] cs) (hnum : NumsIs W2 W2.heap.size (some ⟨b1, ob, none⟩) xs) :
    Calls Try.prog 39 #[.slice k2 2 c2, .slice (some ⟨A, 0, none⟩) 2 2] W9 fun e w' => e = .returned (.bool true) ∧ Below W9.heap.size W9 w' := by
  have hn9 := (hnum.below hb (Nat.le_refl _)).mono hb.size
  have x0 : ∀ x ∈ xs.take wd, x < 2 ^ 64 := fun x h => hx x (List.mem_of_mem_take h)
  have x1 : ∀ x ∈ xs.drop la, x < 2 ^ 64 := fun x h => hx x (List.mem_of_mem_drop h)
  have l0 : (xs.take wd).length = wd := by simp; omega
  have l1 : (xs.drop la).length = n - la := by simp; omega
  have g0 : GeomIs W9 W9.heap.size 1 (.mk 1 d (xs.take wd) []) [.int .i64 1, .int .i64 d, .slice (some ⟨b1, ob, none⟩) (xs.take wd).length ca, .slice none 0 0] :=
    leafIs 0 (has_small (by omega) (by omega)) (has_small (by omega) (by omega)) x0 rfl (by omega) (hn9.take wd) ⟨by omega, fun h => by cases h⟩
  have g1 : GeomIs W9 W9.heap.size 1 (.mk 1 d (xs.drop la) []) [.int .i64 1, .int .i64 d, .slice (some ⟨b1, ob + la, none⟩) (xs.drop la).length (ca - la), .slice none 0 0] :=
    leafIs 0 (has_small (by omega) (by omega)) (has_small (by omega) (by omega)) x1 rfl (by omega) (hn9.drop la) ⟨by omega, fun h => by cases h⟩
  have ho' := ho
  rw [← l1] at ho'
  have l0' : Value.slice (some ⟨b1, ob, none⟩) wd ca = .slice (some ⟨b1, ob, none⟩) (xs.take wd).length ca := by rw [l0]
  rw [l0'] at ho'
  exact sameGeoms_of (sameGeom_any 1) (kids_two h0 h3 x0 x1 (by omega) (by omega) (own_below hr hb) (hk.later hb)) (kids_own ho' ho.lt g0 g1) (Nat.le_refl _) rfl (by omega)
/-- the two ends of an open line -/
theorem lb_two {wd la : Nat} {b0 b1' : Bool} (ha : NumsIs w w.heap.size a xs) (hx : ∀ x ∈ xs, x < 2 ^ 64) (hn : xs.length = n) (hn0 : 0 < n) (hl : n ≤ 2000) (hca : HeadOk a n ca) (h : lineOkB n d = true) (hwd : widthN d = wd) (hla : la + wd = n) (hq : (n / wd - 1) * wd = la) (hq0 : n / wd ≠ 0) (hc : closedB xs d (n / wd) = false)
    (c0 : (D.order xs[0]! xs[la]! == some .eq) = b0) (c1 : (D.order xs[1]! xs[la + 1]! == some .eq) = b1') (hbb : (b0 && b1') = false) : Calls Try.prog 9 #[.slice a n ca, .int .i64 d] w fun e w' => e = .returned (.bool true) ∧ Below w.heap.size w w' := by
  have H := Lib.hid h
  have h0 : 0 ≤ d := by unfold lineOkB at h; simp at h; omega
  have h3 : d ≤ 3 := by unfold lineOkB at h; simp at h; omega
  have hm : n % widthN d = 0 := by unfold lineOkB at h; simp at h; omega
  have HW : Hid (widthI d = (wd : Int)) := by show _ = _; rw [← hwd]; unfold widthN widthI; split <;> (try split) <;> rfl
  have hwd3 : 2 ≤ wd ∧ wd ≤ 4 := by rw [← hwd]; unfold widthN widthI; split <;> (try split) <;> decide
  have HGA : Hid (∀ W', Below w.heap.size w W' → Calls Try.prog 35 #[vGeom 2 d a n ca none 0 0, .func (.func 36) #[] #[]] W' fun e w' => ∃ r, e = .returned (.bool r) ∧ Below W'.heap.size W' w') := fun W' h => gAll_any (ha.below h (Nat.le_refl _)) h.size hn (by omega)
  have HLB : Hid (∀ W', Below w.heap.size w W' → Calls Try.prog 37 #[vGeom 2 d a n ca none 0 0] W' fun e w' => ∃ k2 c2 cs, e = .returned (vGeom 4 d none 0 0 k2 2 c2) ∧ w'.ownsRow w.heap.size 25 4 (.slice k2 2 c2) 2 cs ∧ KidCells w' w.heap.size d [xs.take wd, xs.drop la] cs ∧ Below W'.heap.size W' w') := fun W' h => by
    have := lineBoundary_two (ca := ca) (kk := none) (nk := 0) (ck := 0) (ha.below h (Nat.le_refl _)) h.size hn (by omega) h0 h3 hm rfl (by rw [hwd]; exact hq0) (by rw [hwd]; exact hc)
    rw [hwd, row_first h0 h3 hwd (by omega), row_last h0 h3 hwd hq (by omega)] at this
    refine this.mono ?_
    rintro e w' ⟨k2, c2, cs, rfl, q1, q2, q3⟩
    exact ⟨k2, c2, cs, rfl, ownsRow_mono q1 h.size, q2.base h.size, q3⟩
  have HA := Lib.hid ha
  have hca1 := hca.1
  have el : (n : Int) - (wd : Int) = (la : Int) := by omega
  clear h hwd ha hc hm hq hq0 hca
  go_enter Try.func9, Try.ntmps9
  go_wp2_with ((go_at_call 34; (with_reducible refine (lineOf_good H.out).mono ?_); rintro e w1 ⟨rfl, hb⟩; (first | (obtain ⟨x1, rfl⟩ := LaterW.of2 hb) | (obtain ⟨x1, rfl⟩ := LaterW.of hb)); clear hb))
  refine (HGA.out _ (by repeat (first | with_reducible exact Below.refl _ _ | with_reducible exact HBEL.out | with_reducible assumption | with_reducible refine Below.setCell ?_ (by first | (dsimp only; omega) | (simp; try omega)) _ | with_reducible refine LaterW.below _ ?_ | with_reducible refine below_alloc ?_ _ | with_reducible refine below_drewN' ?_ _ | with_reducible refine Below.drew ?_ | with_reducible exact below_drewN _))).mono ?_
  rintro e w2 ⟨r, rfl, hb⟩
  obtain ⟨x2, rfl⟩ := LaterW.of hb
  clear hb
  cases r
  · go_wp2_with fail
    go_ret
    exact ⟨rfl, (by repeat (first | with_reducible exact Below.refl _ _ | with_reducible exact HBEL.out | with_reducible assumption | with_reducible refine Below.setCell ?_ (by first | (dsimp only; omega) | (simp; try omega)) _ | with_reducible refine LaterW.below _ ?_ | with_reducible refine below_alloc ?_ _ | with_reducible refine below_drewN' ?_ _ | with_reducible refine Below.drew ?_ | with_reducible exact below_drewN _))⟩
  · go_wp2_with fail
    refine (HLB.out _ (by repeat (first | with_reducible exact Below.refl _ _ | with_reducible exact HBEL.out | with_reducible assumption | with_reducible refine Below.setCell ?_ (by first | (dsimp only; omega) | (simp; try omega)) _ | with_reducible refine LaterW.below _ ?_ | with_reducible refine below_alloc ?_ _ | with_reducible refine below_drewN' ?_ _ | with_reducible refine Below.drew ?_ | with_reducible exact below_drewN _))).mono ?_
    rintro e w3 ⟨k2, c2, cs, rfl, hrow, hkids, hb⟩
    have hbel : Below w.heap.size w w3 := Below.trans (by repeat (first | with_reducible exact Below.refl _ _ | with_reducible exact HBEL.out | with_reducible assumption | with_reducible refine Below.setCell ?_ (by first | (dsimp only; omega) | (simp; try omega)) _ | with_reducible refine LaterW.below _ ?_ | with_reducible refine below_alloc ?_ _ | with_reducible refine below_drewN' ?_ _ | with_reducible refine Below.drew ?_ | with_reducible exact below_drewN _)) (Below.mono hb (by rename LaterW w => y1; have := y1.ok.size; have := x2.ok.size; simp at *; omega))
    have HRW := Lib.hid hrow
    have HK := Lib.hid hkids
    have hgw : w.heap.size + 1 ≤ w3.heap.size := by rename LaterW w => y1; have := y1.ok.size; have := x2.ok.size; have := hb.size; simp at *; omega
    have HB3 := Lib.hid hbel
    rename LaterW w => y1
    generalize y1.val.heap.size = T5 at *
    clear hrow hkids hb HLB HGA H
    clear x2 y1 hbel
    go_wp2_with ((go_at_call 38; (with_reducible refine (width_any h0 h3 HW.out _).mono ?_); rintro e w1 ⟨rfl, hb⟩; (first | (obtain ⟨x1, rfl⟩ := LaterW.of2 hb) | (obtain ⟨x1, rfl⟩ := LaterW.of hb)); clear hb))
    obtain ⟨b1, ob, rfl, l1, cc⟩ := HA.out.resolve_left (fun h => by rw [h] at hn; simp at hn; omega)
    have o1 : Own x1.val w3.heap.size [.int .i64 4, .int .i64 d, .slice none 0 0, .slice k2 2 c2] := (by repeat (first | (refine Own.new' _ rfl ?_; first | with_reducible rfl | (simp; done)) | with_reducible apply Own.later | with_reducible apply Own.alloc | with_reducible apply Own.drew | with_reducible apply Own.drewN | with_reducible apply Own.other))
    have hb3 : Below w3.heap.size w3 x1.val := (by repeat (first | with_reducible exact Below.refl _ _ | with_reducible exact HBEL.out | with_reducible assumption | with_reducible refine Below.setCell ?_ (by first | (dsimp only; omega) | (simp; try omega)) _ | with_reducible refine LaterW.below _ ?_ | with_reducible refine below_alloc ?_ _ | with_reducible refine below_drewN' ?_ _ | with_reducible refine Below.drew ?_ | with_reducible exact below_drewN _))
    have HBEL := Lib.hid (HB3.out.trans (Below.mono hb3 HB3.out.size))
    have HRW2 := Lib.hid (own_below HRW.out hb3)
    have HK2 := Lib.hid (KidCells.later hb3 HK.out)
    obtain ⟨G, hG⟩ : ∃ G, G = w3.heap.size := ⟨_, rfl⟩
    rw [← hG] at o1
    have hbel := HBEL.out
    have q0 := (hbel.cell (p := ⟨b1, ob, none⟩) l1).trans (cc 0 (by omega))
    have q1 := (hbel.cell (p := ⟨b1, ob + 1, none⟩) l1).trans (cc 1 (by omega))
    have q2 := (hbel.cell (p := ⟨b1, ob + la, none⟩) l1).trans (cc la (by omega))
    have q3 := (hbel.cell (p := ⟨b1, ob + (la + 1), none⟩) l1).trans (cc (la + 1) (by omega))
    have m2 : b1 < x1.val.heap.size := Nat.lt_of_lt_of_le l1 hbel.size
    have hn0' : ((n : Int) == 0) = false := by simp; omega
    obtain ⟨v2, hv2⟩ : ∃ v, xs[la]! = v := ⟨_, rfl⟩
    obtain ⟨v3, hv3⟩ : ∃ v, xs[la + 1]! = v := ⟨_, rfl⟩
    obtain ⟨v0, hv0⟩ : ∃ v, xs[0]! = v := ⟨_, rfl⟩
    obtain ⟨v1, hv1⟩ : ∃ v, xs[1]! = v := ⟨_, rfl⟩
    rw [hv0] at q0 c0
    rw [hv1] at q1 c1
    rw [hv2] at q2 c0
    rw [hv3] at q3 c1
    have hnum := HA.out.below hbel (Nat.le_refl _)
    have HN := Lib.hid (hnum.mono hbel.size)
    clear cc hbel hv0 hv1 hv2 hv3 hnum HW HB3 HRW HK hb3
    rw [← hG]
    generalize x1.val = W at *
    clear hG x1
    obtain ⟨p0, p1, p2, p3, _⟩ := o1.cells
    have lt1 := o1.lt
    have HO := Lib.hid o1
    clear o1
    cases b0
    · ((first | refine wp_region_later2 (by kernel_rfl) (by kernel_rfl) ?_ | refine wp_region_later (by kernel_rfl) (by kernel_rfl) ?_); (repeat (go_big_quiet_step (fail))); refine wpQuiet_nil ?_; rintro _ ⟨x1, rfl⟩)
      have hb4 := x1.ok
      have o2 := HO.out.below hb4 HO.out.lt
      have HBEL2 := Lib.hid (HBEL.out.trans (Below.mono hb4 HBEL.out.size))
      have HRW3 := Lib.hid (own_below HRW2.out hb4)
      have HK3 := Lib.hid (KidCells.later hb4 HK2.out)
      have HN3 := Lib.hid ((HN.out.below hb4 (Nat.le_refl _)).mono hb4.size)
      clear hb4 p0 p1 p2 p3 lt1 q0 q1 q2 q3 m2 HBEL HRW2 HK2 HN HO
      generalize x1.val = W2 at *
      clear x1
      obtain ⟨p0, p1, p2, p3, _⟩ := o2.cells
      have lt1 := o2.lt
      have lt2 : G < W2.heap.size + 1 := by omega
      have p3' : W2.cell? ⟨G, 3, none⟩ = some (.slice k2 2 c2) := p3
      clear o2 p0 p1 p2 p3
      go_wp2_with fail
      refine (lb_same (by repeat (first | (refine Own.new' _ rfl ?_; first | with_reducible rfl | (simp; done)) | with_reducible apply Own.later | with_reducible apply Own.alloc | with_reducible apply Own.drew | with_reducible apply Own.drewN | with_reducible apply Own.other)) (by repeat (first | with_reducible exact Below.refl _ _ | with_reducible exact HBEL.out | with_reducible assumption | with_reducible refine Below.setCell ?_ (by first | (dsimp only; omega) | (simp; try omega)) _ | with_reducible refine LaterW.below _ ?_ | with_reducible refine below_alloc ?_ _ | with_reducible refine below_drewN' ?_ _ | with_reducible refine Below.drew ?_ | with_reducible exact below_drewN _)) h0 h3 hx hn hl hla hca1 HRW3.out HK3.out HN3.out).mono ?_
      rintro e w4 ⟨rfl, hb⟩
      obtain ⟨x1, rfl⟩ := LaterW.of hb
      clear hb
      go_wp2_with fail
      go_ret
      exact ⟨rfl, Below.trans HBEL2.out (Below.mono (show Below W2.heap.size W2 _ from (by repeat (first | with_reducible exact Below.refl _ _ | with_reducible exact HBEL.out | with_reducible assumption | with_reducible refine Below.setCell ?_ (by first | (dsimp only; omega) | (simp; try omega)) _ | with_reducible refine LaterW.below _ ?_ | with_reducible refine below_alloc ?_ _ | with_reducible refine below_drewN' ?_ _ | with_reducible refine Below.drew ?_ | with_reducible exact below_drewN _))) HBEL2.out.size)⟩
    · cases b1'
      · ((first | refine wp_region_later2 (by kernel_rfl) (by kernel_rfl) ?_ | refine wp_region_later (by kernel_rfl) (by kernel_rfl) ?_); (repeat (go_big_quiet_step (fail))); refine wpQuiet_nil ?_; rintro _ ⟨x1, rfl⟩)
        have hb4 := x1.ok
        have o2 := HO.out.below hb4 HO.out.lt
        have HBEL2 := Lib.hid (HBEL.out.trans (Below.mono hb4 HBEL.out.size))
        have HRW3 := Lib.hid (own_below HRW2.out hb4)
        have HK3 := Lib.hid (KidCells.later hb4 HK2.out)
        have HN3 := Lib.hid ((HN.out.below hb4 (Nat.le_refl _)).mono hb4.size)
        clear hb4 p0 p1 p2 p3 lt1 q0 q1 q2 q3 m2 HBEL HRW2 HK2 HN HO
        generalize x1.val = W2 at *
        clear x1
        obtain ⟨p0, p1, p2, p3, _⟩ := o2.cells
        have lt1 := o2.lt
        have lt2 : G < W2.heap.size + 1 := by omega
        have p3' : W2.cell? ⟨G, 3, none⟩ = some (.slice k2 2 c2) := p3
        clear o2 p0 p1 p2 p3
        go_wp2_with fail
        refine (lb_same (by repeat (first | (refine Own.new' _ rfl ?_; first | with_reducible rfl | (simp; done)) | with_reducible apply Own.later | with_reducible apply Own.alloc | with_reducible apply Own.drew | with_reducible apply Own.drewN | with_reducible apply Own.other)) (by repeat (first | with_reducible exact Below.refl _ _ | with_reducible exact HBEL.out | with_reducible assumption | with_reducible refine Below.setCell ?_ (by first | (dsimp only; omega) | (simp; try omega)) _ | with_reducible refine LaterW.below _ ?_ | with_reducible refine below_alloc ?_ _ | with_reducible refine below_drewN' ?_ _ | with_reducible refine Below.drew ?_ | with_reducible exact below_drewN _)) h0 h3 hx hn hl hla hca1 HRW3.out HK3.out HN3.out).mono ?_
        rintro e w4 ⟨rfl, hb⟩
        obtain ⟨x1, rfl⟩ := LaterW.of hb
        clear hb
        go_wp2_with fail
        go_ret
        exact ⟨rfl, Below.trans HBEL2.out (Below.mono (show Below W2.heap.size W2 _ from (by repeat (first | with_reducible exact Below.refl _ _ | with_reducible exact HBEL.out | with_reducible assumption | with_reducible refine Below.setCell ?_ (by first | (dsimp only; omega) | (simp; try omega)) _ | with_reducible refine LaterW.below _ ?_ | with_reducible refine below_alloc ?_ _ | with_reducible refine below_drewN' ?_ _ | with_reducible refine Below.drew ?_ | with_reducible exact below_drewN _))) HBEL2.out.size)⟩
      · cases hbb
theorem lb_all (w : World) (ha : NumsIs w w.heap.size a xs) (hx : ∀ x ∈ xs, x < 2 ^ 64) (hn : xs.length = n) (hca : HeadOk a n ca) : Calls Try.prog 9 #[.slice a n ca, .int .i64 d] w fun e w' => e = .returned (.bool true) ∧ Below w.heap.size w w' := by
  by_cases hl : n ≤ 2147483647
  · cases h : lineOkB n d
    · exact lb_bad hl h
    · by_cases hl2 : n ≤ 2000
      · by_cases hn0 : n = 0
        · rw [hn0] at h ⊢
          exact lb_empty h
        · obtain ⟨wd, hwd⟩ : ∃ wd, widthN d = wd := ⟨_, rfl⟩
          have hwd3 : 2 ≤ wd ∧ wd ≤ 4 := by rw [← hwd]; unfold widthN widthI; split <;> (try split) <;> decide
          have hm : n % wd = 0 := by unfold lineOkB at h; rw [hwd] at h; simp at h; omega
          have hmm : n / wd * wd = n := by have := Nat.div_add_mod n wd; rw [Nat.mul_comm] at this; omega
          have hq0 : n / wd ≠ 0 := fun h => by rw [h] at hmm; omega
          obtain ⟨la, hq⟩ : ∃ la, (n / wd - 1) * wd = la := ⟨_, rfl⟩
          have hla : la + wd = n := by
            rw [← hq, ← Nat.succ_mul, Nat.succ_eq_add_one, Nat.sub_add_cancel (Nat.one_le_iff_ne_zero.2 hq0)]; exact hmm
          have hends := closedB_ends (xs := xs) hwd hq hq0
          cases hc : closedB xs d (n / wd)
          · rw [hc] at hends
            exact lb_two ha hx hn (by omega) hl2 hca h hwd hla hq hq0 hc rfl rfl hends.symm
          · rw [hc] at hends
            have := Bool.and_eq_true_iff.1 hends.symm
            exact lb_closed ha hn (by omega) hl2 h hwd hla hc (order_dec this.1) (order_dec this.2)
      · exact lb_much hl (by omega) h
  · exact lb_long (by omega)
end
set_option maxRecDepth 100000 in
theorem fnLineBoundary_lifted (os : Os) (started : os.Started) (H : Type) (enc : TypeId × Value → H) :
    ReturnsInHanded {} Try.checked os 9 .any (Rows.fnLineBoundarySpec.pre6 enc Try.prog Try.f9 Rows.fnLineBoundaryRow.domain false) (Rows.fnLineBoundarySpec.post enc Try.prog Try.f9 false true false false) := by
  refine returnsInHanded_of_change (C := Try.checked) own started (by kernel_rfl) Try.func9
    (ChangeSpec.witness6 (enc := enc) (C := Try.checked) false ⟨#[], #[.slice none 0 0, .int .i64 0], []⟩ 8 (by kernel_rfl) (by kernel_rfl) (by kernel_rfl) (by kernel_rfl)) ?_
  intro W base args ds gs before hval0 hW _ _
  have hval : ∀ (j : Nat) t v, Try.f9.params[j]? = some t → args[j]? = some v → Value.okWide Try.prog W .any base t v := hval0
  have hW' := hW
  obtain ⟨p, q, hA0, hV, rfl, _, _⟩ := hW
  have hA : DataW.TrodAll enc Try.prog W 0 (fun _ => true) true Try.f9.params.toList args.toList ds p := hA0
  rw [Try.params9] at hA hval
  obtain ⟨v0, vs0, d0, ds0, p0, q0, hargs, rfl, rfl, h0, r0⟩ := trodAll_cons hA
  obtain ⟨v1, vs1, d1, ds1, p1, q1, rfl, rfl, rfl, h1, r1⟩ := trodAll_cons r0
  obtain ⟨rfl, rfl, rfl⟩ := trodAll_nil r1
  obtain rfl : args = #[v0, v1] := by cases args; simp_all
  obtain ⟨rfl, rfl⟩ := trodVars_none hV
  have lt0 : ∀ x ∈ p0, x.block < W.heap.size := by obtain ⟨m, hm⟩ := h0; exact DataW.trod_lt m _ _ _ hm
  have ok0 := hval 0 22 v0 rfl rfl
  have lt1 : ∀ x ∈ p1, x.block < W.heap.size := by obtain ⟨m, hm⟩ := h1; exact DataW.trod_lt m _ _ _ hm
  have ok1 := hval 1 3 v1 rfl rfl
  clear hA0 hval0
  obtain ⟨a, n, ca, rfl⟩ := okWide_slice Try.underlying22 ok0
  obtain ⟨d, rfl⟩ := open_int ok1
  have hk := h0
  obtain ⟨fuel, hf⟩ := hk
  obtain ⟨xs, hx, hn, _, hb⟩ := open_nums (by simpa [Value.cells] using hf)
  obtain ⟨_, _, a', l', c', e, hca, _⟩ := slice_cell Try.underlying22 (by simpa [Value.cells] using hf)
  cases e
  refine (lb_all W hx hb hn hca).mono fun e W' ⟨he, bel⟩ => ?_
  subst he
  exact ⟨_, rfl, _, _, _, [], _, [], hW', trodAll_mk1 (shut_bool Try.underlying4 _), (trodAll_cons_mk (Below.trod laidOut (by kernel_rfl) (of_decide_eq_true (by kernel_rfl)) h0 bel lt0) (trodAll_cons_mk (Below.trod laidOut (by kernel_rfl) (of_decide_eq_true (by kernel_rfl)) h1 bel lt1) trodAll_mk0)), rfl, bel.frame _, fun h => by cases h⟩
theorem fnLineBoundary_proved : Rows.FnLineBoundarySaid :=
  OpenClaim.holds_of_wide 9 Try.f9 rfl rfl rfl rfl rfl rfl rfl ⟨rfl, rfl, rfl, rfl, rfl⟩ rfl rfl rfl rfl rfl (by kernel_rfl) Try.func9 (by kernel_rfl)
    (of_decide_eq_true (by kernel_rfl)) (by unfold Func.isWrapper; first | (rw [if_pos (by decide +kernel)]; kernel_rfl) | (rw [if_neg (by decide +kernel)]; exact ⟨rfl, rfl⟩))
    (fun os started H enc _ => fnLineBoundary_lifted os started H enc)
#print axioms fnLineBoundary_proved
end Go.Proofs.Ytihkmkcjjlmkhaa
