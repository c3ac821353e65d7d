/- spec.Nums: the numbers of places under a type of coordinates. No condition. -/
import Derived.Test.YtihkmkcjjlmkhaaPoint2
import Derived.Test.YtihkmkcjjlmkhaaGeo6
namespace Go.Proofs.Ytihkmkcjjlmkhaa
set_option maxRecDepth 100000
open Go.ChangeShapes Go.WideShapes Go.ChangeAt Go.RowKit Go.Deep

/-- Places lie one behind the other. -/
def PlAt (w : World) (B : Nat) (a : Option Addr) (ps : List Pl) : Prop := ps = [] ∨ ∃ g, a = some ⟨g, 0, none⟩ ∧ g < B ∧ ∀ j (hj : j < ps.length), w.cell? ⟨g, j * 4, none⟩ = some (fl ps[j].x) ∧ w.cell? ⟨g, j * 4 + 1, none⟩ = some (fl ps[j].y) ∧ w.cell? ⟨g, j * 4 + 2, none⟩ = some (fl ps[j].z) ∧ w.cell? ⟨g, j * 4 + 3, none⟩ = some (fl ps[j].m)
theorem plCells_at : ∀ (ps : List Pl) (j : Nat) (hj : j < ps.length), (plCells ps)[j * 4]? = some (fl ps[j].x) ∧ (plCells ps)[j * 4 + 1]? = some (fl ps[j].y) ∧ (plCells ps)[j * 4 + 2]? = some (fl ps[j].z) ∧ (plCells ps)[j * 4 + 3]? = some (fl ps[j].m)
  | [], j, hj => by simp at hj
  | p :: r, 0, _ => by simp [plCells]
  | p :: r, j + 1, hj => by
    have h := plCells_at r j (by simpa using hj)
    have e : plCells (p :: r) = [fl p.x, fl p.y, fl p.z, fl p.m] ++ plCells r := rfl
    rw [e]
    have l4 : ([fl p.x, fl p.y, fl p.z, fl p.m] : List Value).length = 4 := rfl
    rw [List.getElem?_append_right (by rw [l4]; omega), List.getElem?_append_right (by rw [l4]; omega), List.getElem?_append_right (by rw [l4]; omega), List.getElem?_append_right (by rw [l4]; omega), l4]
    simpa [show (j + 1) * 4 - 4 = j * 4 by omega, show (j + 1) * 4 + 1 - 4 = j * 4 + 1 by omega, show (j + 1) * 4 + 2 - 4 = j * 4 + 2 by omega, show (j + 1) * 4 + 3 - 4 = j * 4 + 3 by omega] using h
theorem plAt_own {w : World} {base : Nat} {v : Value} {ps : List Pl} (h : w.ownsRow base 119 4 v ps.length (plCells ps)) : ∃ a c, v = .slice a ps.length c ∧ PlAt w w.heap.size a ps := by
  obtain ⟨h1, h2⟩ := h
  rcases h2 with ⟨rfl, h2⟩ | ⟨g, cap, cur, rfl, e2, e3, e4, e5, e6, e7⟩
  · exact ⟨none, 0, by rw [h2], .inl (List.length_eq_zero_iff.1 h2)⟩
  · obtain ⟨hlt, _⟩ := Array.getElem?_eq_some_iff.1 e3
    refine ⟨_, cap, rfl, .inr ⟨g, rfl, hlt, fun j hj => ?_⟩⟩
    have key : ∀ i v, i < ps.length * 4 → (plCells ps)[i]? = some v → w.cell? ⟨g, i, none⟩ = some v := fun i v hi hv => by
      unfold World.cell?
      simp only [e3, Option.isSome_none, Bool.false_eq_true, if_false]
      have := congrArg (fun l => l[i]?) e7
      simp only [List.getElem?_take_of_lt hi, Array.getElem?_toList] at this
      rw [this]; exact hv
    obtain ⟨q0, q1, q2, q3⟩ := plCells_at ps j hj
    exact ⟨key _ _ (by omega) q0, key _ _ (by omega) q1, key _ _ (by omega) q2, key _ _ (by omega) q3⟩
theorem PlAt.below {w w' : World} {B C : Nat} {a : Option Addr} {ps : List Pl} (h : PlAt w B a ps) (hb : Below C w w') (hB : B ≤ C) : PlAt w' B a ps := by
  rcases h with h | ⟨g, h1, h2, h3⟩
  · exact .inl h
  · refine .inr ⟨g, h1, h2, fun j hj => ?_⟩
    obtain ⟨q0, q1, q2, q3⟩ := h3 j hj
    have e : ∀ i, w'.cell? ⟨g, i, none⟩ = w.cell? ⟨g, i, none⟩ := fun i => hb.cell (p := ⟨g, i, none⟩) (by show g < C; omega)
    exact ⟨(e _).trans q0, (e _).trans q1, (e _).trans q2, (e _).trans q3⟩
theorem rows_snoc {d : Int} {ps : List Pl} {k : Nat} (hk : k < ps.length) : ((ps.take (k + 1)).flatMap (placeRow d)).map fl = ((ps.take k).flatMap (placeRow d)).map fl ++ (placeRow d ps[k]).map fl := by
  rw [List.take_succ_eq_append_getElem hk, List.flatMap_append, List.map_append]
  simp
theorem nums_0 {a : Option Addr} {n ca B : Nat} {ps : List Pl} {w : World} (ha : PlAt w B a ps) (hB : B ≤ w.heap.size) (hn : ps.length = n) (hl : n ≤ 4000) :
    Calls Try.prog 82 #[.slice a n ca, .int .i64 0] w fun r w' => ∃ v, r = .returned v ∧ w'.ownsRow w.heap.size 36 1 v (n * 2) ((ps.flatMap (placeRow 0)).map fl) ∧ Below w.heap.size w w' := by
  have HA := Lib.hid ha
  clear ha
  obtain ⟨i0, hi0, hz0, hz1, hz2⟩ := info_parts infoFl
  have hbit1 : bits .and .i64 0 1 = 0 := by decide
  have hbit2 : bits .and .i64 0 2 = 0 := by decide
  go_enter Try.func82, Try.ntmps82
  go_wp2_with fail
  go_loopw [5, 10] (fun v i wr => ∃ k : Nat, k ≤ n ∧ i = .int .i64 k ∧ wr.ownsRow w.heap.size 36 1 v (k * 2) (((ps.take k).flatMap (placeRow 0)).map fl) ∧ Below w.heap.size w wr) (fun _ i _ => n - (intOf i).toNat)
  case atStart => exact ⟨0, by omega, rfl, by simpa using World.ownsRow_nil _ _ _ _, Below.refl _ _⟩
  case round =>
    obtain ⟨k, hk, rfl, hown, hbel⟩ := hrel
    by_cases hlt : k < n
    · have hkl : k < ps.length := by omega
      have hsn := rows_snoc (d := 0) hkl
      obtain ⟨R, hR⟩ : ∃ R, R = ((ps.take k).flatMap (placeRow 0)).map fl := ⟨_, rfl⟩
      rw [← hR] at hown hsn
      obtain ⟨g, rfl, hg, hc⟩ := HA.out.resolve_left (fun h => by rw [h] at hkl; simp at hkl)
      obtain ⟨c0, c1, c2, c3⟩ := hc k hkl
      have e0 := (hbel.cell (p := ⟨g, k * 4, none⟩) (show g < w.heap.size by omega)).trans c0
      have e1 := (hbel.cell (p := ⟨g, k * 4 + 1, none⟩) (show g < w.heap.size by omega)).trans c1
      have e2 := (hbel.cell (p := ⟨g, k * 4 + 2, none⟩) (show g < w.heap.size by omega)).trans c2
      have e3 := (hbel.cell (p := ⟨g, k * 4 + 3, none⟩) (show g < w.heap.size by omega)).trans c3
      have gl : g < wr.heap.size := by have := hbel.size; omega
      obtain ⟨⟨px, py, pz, pm⟩, hp⟩ : ∃ p, ps[k] = p := ⟨_, rfl⟩
      rw [hp] at e0 e1 e2 e3 hsn
      have HSN := Lib.hid hsn
      have HO := Lib.hid hown
      have HBEL := Lib.hid hbel
      clear c0 c1 c2 c3 hc hp hR hsn hown hbel
      go_wp2_with (at_builtin; refine wpList_append_own _ rfl (.tmp 14) (.tmp 19) 22 rfl w.heap.size 36 i0 (fl 0) 1 8 Try.underlying22 hi0 hz0 hz1 hz2 rfl (by decide) _ _ _ rfl (own_below HO.out (by repeat (first | with_reducible exact Below.refl _ _ | with_reducible exact HBEL.out | with_reducible assumption | with_reducible refine Below.setCell ?_ (by first | (dsimp only; omega) | (simp; try omega)) _ | with_reducible refine LaterW.below _ ?_ | with_reducible refine below_alloc ?_ _ | with_reducible refine below_drewN' ?_ _ | with_reducible refine Below.drew ?_ | with_reducible exact below_drewN _))) ⟨wr.heap.size + 1, 0, none⟩ 2 2 [fl px, fl py] rfl rfl ?c01 ?c02 ?c03 ?c04 ?c05 ?_)
      case c02 => first | exact ⟨rfl, rfl⟩ | rfl | (intro u hu; simp at hu; rcases hu with rfl | rfl <;> rfl)
      case c03 => unfold maxLen; omega
      case c04 => omega
      case c05 => have := HBEL.out.size; simp; omega
      intro v1 w1 hown hgrow _
      have hbb : Below w.heap.size w ((wr.alloc (.cells #[fl px, fl py, fl pz, fl pm] 119)).alloc (.cells #[fl px, fl py] 36)) := Below.alloc (Below.alloc HBEL.out HBEL.out.size _) (by simp; have := HBEL.out.size; omega) _
      have hcb : BlockIs ((wr.alloc (.cells #[fl px, fl py, fl pz, fl pm] 119)).alloc (.cells #[fl px, fl py] 36)) wr.heap.size #[fl px, fl py, fl pz, fl pm] 119 := BlockIs.below (alloc_at _ _) (by repeat (first | with_reducible exact Below.refl _ _ | with_reducible exact HBEL.out | with_reducible assumption | with_reducible refine Below.setCell ?_ (by first | (dsimp only; omega) | (simp; try omega)) _ | with_reducible refine LaterW.below _ ?_ | with_reducible refine below_alloc ?_ _ | with_reducible refine below_drewN' ?_ _ | with_reducible refine Below.drew ?_ | with_reducible exact below_drewN _))
      have hob : ((wr.alloc (.cells #[fl px, fl py, fl pz, fl pm] 119)).alloc (.cells #[fl px, fl py] 36)).ownsRow w.heap.size 36 1 _ _ R := own_below HO.out (by repeat (first | with_reducible exact Below.refl _ _ | with_reducible exact HBEL.out | with_reducible assumption | with_reducible refine Below.setCell ?_ (by first | (dsimp only; omega) | (simp; try omega)) _ | with_reducible refine LaterW.below _ ?_ | with_reducible refine below_alloc ?_ _ | with_reducible refine below_drewN' ?_ _ | with_reducible refine Below.drew ?_ | with_reducible exact below_drewN _))
      have hb1 : Below w.heap.size w w1 := Below.grown hbb hgrow hbb.size (fun q hq => (hob.lt q hq).1)
      have hc1 := BlockIs.grown hgrow hcb (row_ne hob hcb (by decide))
      have kc2 := hc1.cell (i := 2) (by simp)
      have kc3 := hc1.cell (i := 3) (by simp)
      have ltC := hc1.lt
      have HO1 := Lib.hid hown
      have HB1 := Lib.hid hb1
      have HC1 := Lib.hid hc1
      clear hown hgrow hbb hcb hob hb1 hc1 e0 e1 e2 e3
      go_wp2_with fail
      refine ⟨⟨k + 1, by omega, by go_num, ?_, HB1.out⟩, by simp [intOf]; omega⟩
      rw [HSN.out, Nat.add_mul]
      have h := HO1.out
      simpa [placeRow, has3, hasM] using h
    · obtain rfl : k = n := by omega
      rw [List.take_of_length_le (by omega)] at hown
      have HO := Lib.hid hown
      clear hown
      go_wp2_with fail
      go_ret
      exact ⟨_, rfl, HO.out, hbel⟩
theorem nums_1 {a : Option Addr} {n ca B : Nat} {ps : List Pl} {w : World} (ha : PlAt w B a ps) (hB : B ≤ w.heap.size) (hn : ps.length = n) (hl : n ≤ 4000) :
    Calls Try.prog 82 #[.slice a n ca, .int .i64 1] w fun r w' => ∃ v, r = .returned v ∧ w'.ownsRow w.heap.size 36 1 v (n * 3) ((ps.flatMap (placeRow 1)).map fl) ∧ Below w.heap.size w w' := by
  have HA := Lib.hid ha
  clear ha
  obtain ⟨i0, hi0, hz0, hz1, hz2⟩ := info_parts infoFl
  have hbit1 : bits .and .i64 1 1 = 1 := by decide
  have hbit2 : bits .and .i64 1 2 = 0 := by decide
  go_enter Try.func82, Try.ntmps82
  go_wp2_with fail
  go_loopw [5, 10] (fun v i wr => ∃ k : Nat, k ≤ n ∧ i = .int .i64 k ∧ wr.ownsRow w.heap.size 36 1 v (k * 3) (((ps.take k).flatMap (placeRow 1)).map fl) ∧ Below w.heap.size w wr) (fun _ i _ => n - (intOf i).toNat)
  case atStart => exact ⟨0, by omega, rfl, by simpa using World.ownsRow_nil _ _ _ _, Below.refl _ _⟩
  case round =>
    obtain ⟨k, hk, rfl, hown, hbel⟩ := hrel
    by_cases hlt : k < n
    · have hkl : k < ps.length := by omega
      have hsn := rows_snoc (d := 1) hkl
      obtain ⟨R, hR⟩ : ∃ R, R = ((ps.take k).flatMap (placeRow 1)).map fl := ⟨_, rfl⟩
      rw [← hR] at hown hsn
      obtain ⟨g, rfl, hg, hc⟩ := HA.out.resolve_left (fun h => by rw [h] at hkl; simp at hkl)
      obtain ⟨c0, c1, c2, c3⟩ := hc k hkl
      have e0 := (hbel.cell (p := ⟨g, k * 4, none⟩) (show g < w.heap.size by omega)).trans c0
      have e1 := (hbel.cell (p := ⟨g, k * 4 + 1, none⟩) (show g < w.heap.size by omega)).trans c1
      have e2 := (hbel.cell (p := ⟨g, k * 4 + 2, none⟩) (show g < w.heap.size by omega)).trans c2
      have e3 := (hbel.cell (p := ⟨g, k * 4 + 3, none⟩) (show g < w.heap.size by omega)).trans c3
      have gl : g < wr.heap.size := by have := hbel.size; omega
      obtain ⟨⟨px, py, pz, pm⟩, hp⟩ : ∃ p, ps[k] = p := ⟨_, rfl⟩
      rw [hp] at e0 e1 e2 e3 hsn
      have HSN := Lib.hid hsn
      have HO := Lib.hid hown
      have HBEL := Lib.hid hbel
      clear c0 c1 c2 c3 hc hp hR hsn hown hbel
      go_wp2_with (at_builtin; refine wpList_append_own _ rfl (.tmp 14) (.tmp 19) 22 rfl w.heap.size 36 i0 (fl 0) 1 8 Try.underlying22 hi0 hz0 hz1 hz2 rfl (by decide) _ _ _ rfl (own_below HO.out (by repeat (first | with_reducible exact Below.refl _ _ | with_reducible exact HBEL.out | with_reducible assumption | with_reducible refine Below.setCell ?_ (by first | (dsimp only; omega) | (simp; try omega)) _ | with_reducible refine LaterW.below _ ?_ | with_reducible refine below_alloc ?_ _ | with_reducible refine below_drewN' ?_ _ | with_reducible refine Below.drew ?_ | with_reducible exact below_drewN _))) ⟨wr.heap.size + 1, 0, none⟩ 2 2 [fl px, fl py] rfl rfl ?c01 ?c02 ?c03 ?c04 ?c05 ?_)
      case c02 => first | exact ⟨rfl, rfl⟩ | rfl | (intro u hu; simp at hu; rcases hu with rfl | rfl <;> rfl)
      case c03 => unfold maxLen; omega
      case c04 => omega
      case c05 => have := HBEL.out.size; simp; omega
      intro v1 w1 hown hgrow _
      have hbb : Below w.heap.size w ((wr.alloc (.cells #[fl px, fl py, fl pz, fl pm] 119)).alloc (.cells #[fl px, fl py] 36)) := Below.alloc (Below.alloc HBEL.out HBEL.out.size _) (by simp; have := HBEL.out.size; omega) _
      have hcb : BlockIs ((wr.alloc (.cells #[fl px, fl py, fl pz, fl pm] 119)).alloc (.cells #[fl px, fl py] 36)) wr.heap.size #[fl px, fl py, fl pz, fl pm] 119 := BlockIs.below (alloc_at _ _) (by repeat (first | with_reducible exact Below.refl _ _ | with_reducible exact HBEL.out | with_reducible assumption | with_reducible refine Below.setCell ?_ (by first | (dsimp only; omega) | (simp; try omega)) _ | with_reducible refine LaterW.below _ ?_ | with_reducible refine below_alloc ?_ _ | with_reducible refine below_drewN' ?_ _ | with_reducible refine Below.drew ?_ | with_reducible exact below_drewN _))
      have hob : ((wr.alloc (.cells #[fl px, fl py, fl pz, fl pm] 119)).alloc (.cells #[fl px, fl py] 36)).ownsRow w.heap.size 36 1 _ _ R := own_below HO.out (by repeat (first | with_reducible exact Below.refl _ _ | with_reducible exact HBEL.out | with_reducible assumption | with_reducible refine Below.setCell ?_ (by first | (dsimp only; omega) | (simp; try omega)) _ | with_reducible refine LaterW.below _ ?_ | with_reducible refine below_alloc ?_ _ | with_reducible refine below_drewN' ?_ _ | with_reducible refine Below.drew ?_ | with_reducible exact below_drewN _))
      have hb1 : Below w.heap.size w w1 := Below.grown hbb hgrow hbb.size (fun q hq => (hob.lt q hq).1)
      have hc1 := BlockIs.grown hgrow hcb (row_ne hob hcb (by decide))
      have kc2 := hc1.cell (i := 2) (by simp)
      have kc3 := hc1.cell (i := 3) (by simp)
      have ltC := hc1.lt
      have HO1 := Lib.hid hown
      have HB1 := Lib.hid hb1
      have HC1 := Lib.hid hc1
      clear hown hgrow hbb hcb hob hb1 hc1 e0 e1 e2 e3
      go_wp2_with (at_builtin; refine wpList_append_own _ rfl (.tmp 24) (.tmp 27) 22 rfl w.heap.size 36 i0 (fl 0) 1 8 Try.underlying22 hi0 hz0 hz1 hz2 rfl (by decide) _ _ _ rfl (own_below HO1.out (by repeat (first | with_reducible exact Below.refl _ _ | with_reducible exact HBEL.out | with_reducible assumption | with_reducible refine Below.setCell ?_ (by first | (dsimp only; omega) | (simp; try omega)) _ | with_reducible refine LaterW.below _ ?_ | with_reducible refine below_alloc ?_ _ | with_reducible refine below_drewN' ?_ _ | with_reducible refine Below.drew ?_ | with_reducible exact below_drewN _))) ⟨w1.heap.size, 0, none⟩ 1 1 [fl pz] rfl rfl ?c11 ?c12 ?c13 ?c14 ?c15 ?_)
      case c11 =>
        intro j u hj
        match j, hj with
        | 0, hj => simp at hj; subst hj; simp [Addr.add]
      case c12 => first | exact ⟨rfl, rfl⟩ | rfl | (intro u hu; simp at hu; subst hu; rfl)
      case c13 => unfold maxLen; omega
      case c14 => omega
      case c15 => have := HB1.out.size; simp; omega
      intro v2 w2 hown hgrow _
      have hbb : Below w.heap.size w (w1.alloc (.cells #[fl pz] 36)) := Below.alloc HB1.out HB1.out.size _
      have hcb : BlockIs (w1.alloc (.cells #[fl pz] 36)) wr.heap.size #[fl px, fl py, fl pz, fl pm] 119 := BlockIs.below HC1.out (by repeat (first | with_reducible exact Below.refl _ _ | with_reducible exact HBEL.out | with_reducible assumption | with_reducible refine Below.setCell ?_ (by first | (dsimp only; omega) | (simp; try omega)) _ | with_reducible refine LaterW.below _ ?_ | with_reducible refine below_alloc ?_ _ | with_reducible refine below_drewN' ?_ _ | with_reducible refine Below.drew ?_ | with_reducible exact below_drewN _))
      have hob := own_below (w' := w1.alloc (.cells #[fl pz] 36)) HO1.out (by repeat (first | with_reducible exact Below.refl _ _ | with_reducible exact HBEL.out | with_reducible assumption | with_reducible refine Below.setCell ?_ (by first | (dsimp only; omega) | (simp; try omega)) _ | with_reducible refine LaterW.below _ ?_ | with_reducible refine below_alloc ?_ _ | with_reducible refine below_drewN' ?_ _ | with_reducible refine Below.drew ?_ | with_reducible exact below_drewN _))
      have hb1 : Below w.heap.size w w2 := Below.grown hbb hgrow hbb.size (fun q hq => (hob.lt q hq).1)
      have hc1 := BlockIs.grown hgrow hcb (row_ne hob hcb (by decide))
      have kc2 := hc1.cell (i := 2) (by simp)
      have kc3 := hc1.cell (i := 3) (by simp)
      have ltC := hc1.lt
      have HO2 := Lib.hid hown
      have HB2 := Lib.hid hb1
      have HC2 := Lib.hid hc1
      clear hown hgrow hbb hcb hob hb1 hc1
      go_wp2_with fail
      refine ⟨⟨k + 1, by omega, by go_num, ?_, HB2.out⟩, by simp [intOf]; omega⟩
      rw [HSN.out, Nat.add_mul]
      have h := HO2.out
      simpa [placeRow, has3, hasM] using h
    · obtain rfl : k = n := by omega
      rw [List.take_of_length_le (by omega)] at hown
      have HO := Lib.hid hown
      clear hown
      go_wp2_with fail
      go_ret
      exact ⟨_, rfl, HO.out, hbel⟩
theorem nums_2 {a : Option Addr} {n ca B : Nat} {ps : List Pl} {w : World} (ha : PlAt w B a ps) (hB : B ≤ w.heap.size) (hn : ps.length = n) (hl : n ≤ 4000) :
    Calls Try.prog 82 #[.slice a n ca, .int .i64 2] w fun r w' => ∃ v, r = .returned v ∧ w'.ownsRow w.heap.size 36 1 v (n * 3) ((ps.flatMap (placeRow 2)).map fl) ∧ Below w.heap.size w w' := by
  have HA := Lib.hid ha
  clear ha
  obtain ⟨i0, hi0, hz0, hz1, hz2⟩ := info_parts infoFl
  have hbit1 : bits .and .i64 2 1 = 0 := by decide
  have hbit2 : bits .and .i64 2 2 = 2 := by decide
  go_enter Try.func82, Try.ntmps82
  go_wp2_with fail
  go_loopw [5, 10] (fun v i wr => ∃ k : Nat, k ≤ n ∧ i = .int .i64 k ∧ wr.ownsRow w.heap.size 36 1 v (k * 3) (((ps.take k).flatMap (placeRow 2)).map fl) ∧ Below w.heap.size w wr) (fun _ i _ => n - (intOf i).toNat)
  case atStart => exact ⟨0, by omega, rfl, by simpa using World.ownsRow_nil _ _ _ _, Below.refl _ _⟩
  case round =>
    obtain ⟨k, hk, rfl, hown, hbel⟩ := hrel
    by_cases hlt : k < n
    · have hkl : k < ps.length := by omega
      have hsn := rows_snoc (d := 2) hkl
      obtain ⟨R, hR⟩ : ∃ R, R = ((ps.take k).flatMap (placeRow 2)).map fl := ⟨_, rfl⟩
      rw [← hR] at hown hsn
      obtain ⟨g, rfl, hg, hc⟩ := HA.out.resolve_left (fun h => by rw [h] at hkl; simp at hkl)
      obtain ⟨c0, c1, c2, c3⟩ := hc k hkl
      have e0 := (hbel.cell (p := ⟨g, k * 4, none⟩) (show g < w.heap.size by omega)).trans c0
      have e1 := (hbel.cell (p := ⟨g, k * 4 + 1, none⟩) (show g < w.heap.size by omega)).trans c1
      have e2 := (hbel.cell (p := ⟨g, k * 4 + 2, none⟩) (show g < w.heap.size by omega)).trans c2
      have e3 := (hbel.cell (p := ⟨g, k * 4 + 3, none⟩) (show g < w.heap.size by omega)).trans c3
      have gl : g < wr.heap.size := by have := hbel.size; omega
      obtain ⟨⟨px, py, pz, pm⟩, hp⟩ : ∃ p, ps[k] = p := ⟨_, rfl⟩
      rw [hp] at e0 e1 e2 e3 hsn
      have HSN := Lib.hid hsn
      have HO := Lib.hid hown
      have HBEL := Lib.hid hbel
      clear c0 c1 c2 c3 hc hp hR hsn hown hbel
      go_wp2_with (at_builtin; refine wpList_append_own _ rfl (.tmp 14) (.tmp 19) 22 rfl w.heap.size 36 i0 (fl 0) 1 8 Try.underlying22 hi0 hz0 hz1 hz2 rfl (by decide) _ _ _ rfl (own_below HO.out (by repeat (first | with_reducible exact Below.refl _ _ | with_reducible exact HBEL.out | with_reducible assumption | with_reducible refine Below.setCell ?_ (by first | (dsimp only; omega) | (simp; try omega)) _ | with_reducible refine LaterW.below _ ?_ | with_reducible refine below_alloc ?_ _ | with_reducible refine below_drewN' ?_ _ | with_reducible refine Below.drew ?_ | with_reducible exact below_drewN _))) ⟨wr.heap.size + 1, 0, none⟩ 2 2 [fl px, fl py] rfl rfl ?c01 ?c02 ?c03 ?c04 ?c05 ?_)
      case c02 => first | exact ⟨rfl, rfl⟩ | rfl | (intro u hu; simp at hu; rcases hu with rfl | rfl <;> rfl)
      case c03 => unfold maxLen; omega
      case c04 => omega
      case c05 => have := HBEL.out.size; simp; omega
      intro v1 w1 hown hgrow _
      have hbb : Below w.heap.size w ((wr.alloc (.cells #[fl px, fl py, fl pz, fl pm] 119)).alloc (.cells #[fl px, fl py] 36)) := Below.alloc (Below.alloc HBEL.out HBEL.out.size _) (by simp; have := HBEL.out.size; omega) _
      have hcb : BlockIs ((wr.alloc (.cells #[fl px, fl py, fl pz, fl pm] 119)).alloc (.cells #[fl px, fl py] 36)) wr.heap.size #[fl px, fl py, fl pz, fl pm] 119 := BlockIs.below (alloc_at _ _) (by repeat (first | with_reducible exact Below.refl _ _ | with_reducible exact HBEL.out | with_reducible assumption | with_reducible refine Below.setCell ?_ (by first | (dsimp only; omega) | (simp; try omega)) _ | with_reducible refine LaterW.below _ ?_ | with_reducible refine below_alloc ?_ _ | with_reducible refine below_drewN' ?_ _ | with_reducible refine Below.drew ?_ | with_reducible exact below_drewN _))
      have hob : ((wr.alloc (.cells #[fl px, fl py, fl pz, fl pm] 119)).alloc (.cells #[fl px, fl py] 36)).ownsRow w.heap.size 36 1 _ _ R := own_below HO.out (by repeat (first | with_reducible exact Below.refl _ _ | with_reducible exact HBEL.out | with_reducible assumption | with_reducible refine Below.setCell ?_ (by first | (dsimp only; omega) | (simp; try omega)) _ | with_reducible refine LaterW.below _ ?_ | with_reducible refine below_alloc ?_ _ | with_reducible refine below_drewN' ?_ _ | with_reducible refine Below.drew ?_ | with_reducible exact below_drewN _))
      have hb1 : Below w.heap.size w w1 := Below.grown hbb hgrow hbb.size (fun q hq => (hob.lt q hq).1)
      have hc1 := BlockIs.grown hgrow hcb (row_ne hob hcb (by decide))
      have kc2 := hc1.cell (i := 2) (by simp)
      have kc3 := hc1.cell (i := 3) (by simp)
      have ltC := hc1.lt
      have HO1 := Lib.hid hown
      have HB1 := Lib.hid hb1
      have HC1 := Lib.hid hc1
      clear hown hgrow hbb hcb hob hb1 hc1 e0 e1 e2 e3
      go_wp2_with (at_builtin; refine wpList_append_own _ rfl (.tmp 32) (.tmp 35) 22 rfl w.heap.size 36 i0 (fl 0) 1 8 Try.underlying22 hi0 hz0 hz1 hz2 rfl (by decide) _ _ _ rfl (own_below HO1.out (by repeat (first | with_reducible exact Below.refl _ _ | with_reducible exact HBEL.out | with_reducible assumption | with_reducible refine Below.setCell ?_ (by first | (dsimp only; omega) | (simp; try omega)) _ | with_reducible refine LaterW.below _ ?_ | with_reducible refine below_alloc ?_ _ | with_reducible refine below_drewN' ?_ _ | with_reducible refine Below.drew ?_ | with_reducible exact below_drewN _))) ⟨w1.heap.size, 0, none⟩ 1 1 [fl pm] rfl rfl ?c11 ?c12 ?c13 ?c14 ?c15 ?_)
      case c11 =>
        intro j u hj
        match j, hj with
        | 0, hj => simp at hj; subst hj; simp [Addr.add]
      case c12 => first | exact ⟨rfl, rfl⟩ | rfl | (intro u hu; simp at hu; subst hu; rfl)
      case c13 => unfold maxLen; omega
      case c14 => omega
      case c15 => have := HB1.out.size; simp; omega
      intro v2 w2 hown hgrow _
      have hbb : Below w.heap.size w (w1.alloc (.cells #[fl pm] 36)) := Below.alloc HB1.out HB1.out.size _
      have hcb : BlockIs (w1.alloc (.cells #[fl pm] 36)) wr.heap.size #[fl px, fl py, fl pz, fl pm] 119 := BlockIs.below HC1.out (by repeat (first | with_reducible exact Below.refl _ _ | with_reducible exact HBEL.out | with_reducible assumption | with_reducible refine Below.setCell ?_ (by first | (dsimp only; omega) | (simp; try omega)) _ | with_reducible refine LaterW.below _ ?_ | with_reducible refine below_alloc ?_ _ | with_reducible refine below_drewN' ?_ _ | with_reducible refine Below.drew ?_ | with_reducible exact below_drewN _))
      have hob := own_below (w' := w1.alloc (.cells #[fl pm] 36)) HO1.out (by repeat (first | with_reducible exact Below.refl _ _ | with_reducible exact HBEL.out | with_reducible assumption | with_reducible refine Below.setCell ?_ (by first | (dsimp only; omega) | (simp; try omega)) _ | with_reducible refine LaterW.below _ ?_ | with_reducible refine below_alloc ?_ _ | with_reducible refine below_drewN' ?_ _ | with_reducible refine Below.drew ?_ | with_reducible exact below_drewN _))
      have hb1 : Below w.heap.size w w2 := Below.grown hbb hgrow hbb.size (fun q hq => (hob.lt q hq).1)
      have hc1 := BlockIs.grown hgrow hcb (row_ne hob hcb (by decide))
      have kc2 := hc1.cell (i := 2) (by simp)
      have kc3 := hc1.cell (i := 3) (by simp)
      have ltC := hc1.lt
      have HO2 := Lib.hid hown
      have HB2 := Lib.hid hb1
      have HC2 := Lib.hid hc1
      clear hown hgrow hbb hcb hob hb1 hc1
      go_wp2_with fail
      refine ⟨⟨k + 1, by omega, by go_num, ?_, HB2.out⟩, by simp [intOf]; omega⟩
      rw [HSN.out, Nat.add_mul]
      have h := HO2.out
      simpa [placeRow, has3, hasM] using h
    · obtain rfl : k = n := by omega
      rw [List.take_of_length_le (by omega)] at hown
      have HO := Lib.hid hown
      clear hown
      go_wp2_with fail
      go_ret
      exact ⟨_, rfl, HO.out, hbel⟩
theorem nums_3 {a : Option Addr} {n ca B : Nat} {ps : List Pl} {w : World} (ha : PlAt w B a ps) (hB : B ≤ w.heap.size) (hn : ps.length = n) (hl : n ≤ 4000) :
    Calls Try.prog 82 #[.slice a n ca, .int .i64 3] w fun r w' => ∃ v, r = .returned v ∧ w'.ownsRow w.heap.size 36 1 v (n * 4) ((ps.flatMap (placeRow 3)).map fl) ∧ Below w.heap.size w w' := by
  have HA := Lib.hid ha
  clear ha
  obtain ⟨i0, hi0, hz0, hz1, hz2⟩ := info_parts infoFl
  have hbit1 : bits .and .i64 3 1 = 1 := by decide
  have hbit2 : bits .and .i64 3 2 = 2 := by decide
  go_enter Try.func82, Try.ntmps82
  go_wp2_with fail
  go_loopw [5, 10] (fun v i wr => ∃ k : Nat, k ≤ n ∧ i = .int .i64 k ∧ wr.ownsRow w.heap.size 36 1 v (k * 4) (((ps.take k).flatMap (placeRow 3)).map fl) ∧ Below w.heap.size w wr) (fun _ i _ => n - (intOf i).toNat)
  case atStart => exact ⟨0, by omega, rfl, by simpa using World.ownsRow_nil _ _ _ _, Below.refl _ _⟩
  case round =>
    obtain ⟨k, hk, rfl, hown, hbel⟩ := hrel
    by_cases hlt : k < n
    · have hkl : k < ps.length := by omega
      have hsn := rows_snoc (d := 3) hkl
      obtain ⟨R, hR⟩ : ∃ R, R = ((ps.take k).flatMap (placeRow 3)).map fl := ⟨_, rfl⟩
      rw [← hR] at hown hsn
      obtain ⟨g, rfl, hg, hc⟩ := HA.out.resolve_left (fun h => by rw [h] at hkl; simp at hkl)
      obtain ⟨c0, c1, c2, c3⟩ := hc k hkl
      have e0 := (hbel.cell (p := ⟨g, k * 4, none⟩) (show g < w.heap.size by omega)).trans c0
      have e1 := (hbel.cell (p := ⟨g, k * 4 + 1, none⟩) (show g < w.heap.size by omega)).trans c1
      have e2 := (hbel.cell (p := ⟨g, k * 4 + 2, none⟩) (show g < w.heap.size by omega)).trans c2
      have e3 := (hbel.cell (p := ⟨g, k * 4 + 3, none⟩) (show g < w.heap.size by omega)).trans c3
      have gl : g < wr.heap.size := by have := hbel.size; omega
      obtain ⟨⟨px, py, pz, pm⟩, hp⟩ : ∃ p, ps[k] = p := ⟨_, rfl⟩
      rw [hp] at e0 e1 e2 e3 hsn
      have HSN := Lib.hid hsn
      have HO := Lib.hid hown
      have HBEL := Lib.hid hbel
      clear c0 c1 c2 c3 hc hp hR hsn hown hbel
      go_wp2_with (at_builtin; refine wpList_append_own _ rfl (.tmp 14) (.tmp 19) 22 rfl w.heap.size 36 i0 (fl 0) 1 8 Try.underlying22 hi0 hz0 hz1 hz2 rfl (by decide) _ _ _ rfl (own_below HO.out (by repeat (first | with_reducible exact Below.refl _ _ | with_reducible exact HBEL.out | with_reducible assumption | with_reducible refine Below.setCell ?_ (by first | (dsimp only; omega) | (simp; try omega)) _ | with_reducible refine LaterW.below _ ?_ | with_reducible refine below_alloc ?_ _ | with_reducible refine below_drewN' ?_ _ | with_reducible refine Below.drew ?_ | with_reducible exact below_drewN _))) ⟨wr.heap.size + 1, 0, none⟩ 2 2 [fl px, fl py] rfl rfl ?c01 ?c02 ?c03 ?c04 ?c05 ?_)
      case c02 => first | exact ⟨rfl, rfl⟩ | rfl | (intro u hu; simp at hu; rcases hu with rfl | rfl <;> rfl)
      case c03 => unfold maxLen; omega
      case c04 => omega
      case c05 => have := HBEL.out.size; simp; omega
      intro v1 w1 hown hgrow _
      have hbb : Below w.heap.size w ((wr.alloc (.cells #[fl px, fl py, fl pz, fl pm] 119)).alloc (.cells #[fl px, fl py] 36)) := Below.alloc (Below.alloc HBEL.out HBEL.out.size _) (by simp; have := HBEL.out.size; omega) _
      have hcb : BlockIs ((wr.alloc (.cells #[fl px, fl py, fl pz, fl pm] 119)).alloc (.cells #[fl px, fl py] 36)) wr.heap.size #[fl px, fl py, fl pz, fl pm] 119 := BlockIs.below (alloc_at _ _) (by repeat (first | with_reducible exact Below.refl _ _ | with_reducible exact HBEL.out | with_reducible assumption | with_reducible refine Below.setCell ?_ (by first | (dsimp only; omega) | (simp; try omega)) _ | with_reducible refine LaterW.below _ ?_ | with_reducible refine below_alloc ?_ _ | with_reducible refine below_drewN' ?_ _ | with_reducible refine Below.drew ?_ | with_reducible exact below_drewN _))
      have hob : ((wr.alloc (.cells #[fl px, fl py, fl pz, fl pm] 119)).alloc (.cells #[fl px, fl py] 36)).ownsRow w.heap.size 36 1 _ _ R := own_below HO.out (by repeat (first | with_reducible exact Below.refl _ _ | with_reducible exact HBEL.out | with_reducible assumption | with_reducible refine Below.setCell ?_ (by first | (dsimp only; omega) | (simp; try omega)) _ | with_reducible refine LaterW.below _ ?_ | with_reducible refine below_alloc ?_ _ | with_reducible refine below_drewN' ?_ _ | with_reducible refine Below.drew ?_ | with_reducible exact below_drewN _))
      have hb1 : Below w.heap.size w w1 := Below.grown hbb hgrow hbb.size (fun q hq => (hob.lt q hq).1)
      have hc1 := BlockIs.grown hgrow hcb (row_ne hob hcb (by decide))
      have kc2 := hc1.cell (i := 2) (by simp)
      have kc3 := hc1.cell (i := 3) (by simp)
      have ltC := hc1.lt
      have HO1 := Lib.hid hown
      have HB1 := Lib.hid hb1
      have HC1 := Lib.hid hc1
      clear hown hgrow hbb hcb hob hb1 hc1 e0 e1 e2 e3
      go_wp2_with (at_builtin; refine wpList_append_own _ rfl (.tmp 24) (.tmp 27) 22 rfl w.heap.size 36 i0 (fl 0) 1 8 Try.underlying22 hi0 hz0 hz1 hz2 rfl (by decide) _ _ _ rfl (own_below HO1.out (by repeat (first | with_reducible exact Below.refl _ _ | with_reducible exact HBEL.out | with_reducible assumption | with_reducible refine Below.setCell ?_ (by first | (dsimp only; omega) | (simp; try omega)) _ | with_reducible refine LaterW.below _ ?_ | with_reducible refine below_alloc ?_ _ | with_reducible refine below_drewN' ?_ _ | with_reducible refine Below.drew ?_ | with_reducible exact below_drewN _))) ⟨w1.heap.size, 0, none⟩ 1 1 [fl pz] rfl rfl ?c11 ?c12 ?c13 ?c14 ?c15 ?_)
      case c11 =>
        intro j u hj
        match j, hj with
        | 0, hj => simp at hj; subst hj; simp [Addr.add]
      case c12 => first | exact ⟨rfl, rfl⟩ | rfl | (intro u hu; simp at hu; subst hu; rfl)
      case c13 => unfold maxLen; omega
      case c14 => omega
      case c15 => have := HB1.out.size; simp; omega
      intro v2 w2 hown hgrow _
      have hbb : Below w.heap.size w (w1.alloc (.cells #[fl pz] 36)) := Below.alloc HB1.out HB1.out.size _
      have hcb : BlockIs (w1.alloc (.cells #[fl pz] 36)) wr.heap.size #[fl px, fl py, fl pz, fl pm] 119 := BlockIs.below HC1.out (by repeat (first | with_reducible exact Below.refl _ _ | with_reducible exact HBEL.out | with_reducible assumption | with_reducible refine Below.setCell ?_ (by first | (dsimp only; omega) | (simp; try omega)) _ | with_reducible refine LaterW.below _ ?_ | with_reducible refine below_alloc ?_ _ | with_reducible refine below_drewN' ?_ _ | with_reducible refine Below.drew ?_ | with_reducible exact below_drewN _))
      have hob := own_below (w' := w1.alloc (.cells #[fl pz] 36)) HO1.out (by repeat (first | with_reducible exact Below.refl _ _ | with_reducible exact HBEL.out | with_reducible assumption | with_reducible refine Below.setCell ?_ (by first | (dsimp only; omega) | (simp; try omega)) _ | with_reducible refine LaterW.below _ ?_ | with_reducible refine below_alloc ?_ _ | with_reducible refine below_drewN' ?_ _ | with_reducible refine Below.drew ?_ | with_reducible exact below_drewN _))
      have hb1 : Below w.heap.size w w2 := Below.grown hbb hgrow hbb.size (fun q hq => (hob.lt q hq).1)
      have hc1 := BlockIs.grown hgrow hcb (row_ne hob hcb (by decide))
      have kc2 := hc1.cell (i := 2) (by simp)
      have kc3 := hc1.cell (i := 3) (by simp)
      have ltC := hc1.lt
      have HO2 := Lib.hid hown
      have HB2 := Lib.hid hb1
      have HC2 := Lib.hid hc1
      clear hown hgrow hbb hcb hob hb1 hc1
      go_wp2_with (at_builtin; refine wpList_append_own _ rfl (.tmp 32) (.tmp 35) 22 rfl w.heap.size 36 i0 (fl 0) 1 8 Try.underlying22 hi0 hz0 hz1 hz2 rfl (by decide) _ _ _ rfl (own_below HO2.out (by repeat (first | with_reducible exact Below.refl _ _ | with_reducible exact HBEL.out | with_reducible assumption | with_reducible refine Below.setCell ?_ (by first | (dsimp only; omega) | (simp; try omega)) _ | with_reducible refine LaterW.below _ ?_ | with_reducible refine below_alloc ?_ _ | with_reducible refine below_drewN' ?_ _ | with_reducible refine Below.drew ?_ | with_reducible exact below_drewN _))) ⟨w2.heap.size, 0, none⟩ 1 1 [fl pm] rfl rfl ?c21 ?c22 ?c23 ?c24 ?c25 ?_)
      case c21 =>
        intro j u hj
        match j, hj with
        | 0, hj => simp at hj; subst hj; simp [Addr.add]
      case c22 => first | exact ⟨rfl, rfl⟩ | rfl | (intro u hu; simp at hu; subst hu; rfl)
      case c23 => unfold maxLen; omega
      case c24 => omega
      case c25 => have := HB2.out.size; simp; omega
      intro v3 w3 hown hgrow _
      have hbb : Below w.heap.size w (w2.alloc (.cells #[fl pm] 36)) := Below.alloc HB2.out HB2.out.size _
      have hcb : BlockIs (w2.alloc (.cells #[fl pm] 36)) wr.heap.size #[fl px, fl py, fl pz, fl pm] 119 := BlockIs.below HC2.out (by repeat (first | with_reducible exact Below.refl _ _ | with_reducible exact HBEL.out | with_reducible assumption | with_reducible refine Below.setCell ?_ (by first | (dsimp only; omega) | (simp; try omega)) _ | with_reducible refine LaterW.below _ ?_ | with_reducible refine below_alloc ?_ _ | with_reducible refine below_drewN' ?_ _ | with_reducible refine Below.drew ?_ | with_reducible exact below_drewN _))
      have hob := own_below (w' := w2.alloc (.cells #[fl pm] 36)) HO2.out (by repeat (first | with_reducible exact Below.refl _ _ | with_reducible exact HBEL.out | with_reducible assumption | with_reducible refine Below.setCell ?_ (by first | (dsimp only; omega) | (simp; try omega)) _ | with_reducible refine LaterW.below _ ?_ | with_reducible refine below_alloc ?_ _ | with_reducible refine below_drewN' ?_ _ | with_reducible refine Below.drew ?_ | with_reducible exact below_drewN _))
      have hb1 : Below w.heap.size w w3 := Below.grown hbb hgrow hbb.size (fun q hq => (hob.lt q hq).1)
      have hc1 := BlockIs.grown hgrow hcb (row_ne hob hcb (by decide))
      have kc2 := hc1.cell (i := 2) (by simp)
      have kc3 := hc1.cell (i := 3) (by simp)
      have ltC := hc1.lt
      have HO3 := Lib.hid hown
      have HB3 := Lib.hid hb1
      have HC3 := Lib.hid hc1
      clear hown hgrow hbb hcb hob hb1 hc1
      go_wp2_with fail
      refine ⟨⟨k + 1, by omega, by go_num, ?_, HB3.out⟩, by simp [intOf]; omega⟩
      rw [HSN.out, Nat.add_mul]
      have h := HO3.out
      simpa [placeRow, has3, hasM] using h
    · obtain rfl : k = n := by omega
      rw [List.take_of_length_le (by omega)] at hown
      have HO := Lib.hid hown
      clear hown
      go_wp2_with fail
      go_ret
      exact ⟨_, rfl, HO.out, hbel⟩
theorem nums_any {d : Int} (h0 : 0 ≤ d) (h3 : d ≤ 3) {a : Option Addr} {n ca B : Nat} {ps : List Pl} {w : World} (ha : PlAt w B a ps) (hB : B ≤ w.heap.size) (hn : ps.length = n) (hl : n ≤ 4000) :
    Calls Try.prog 82 #[.slice a n ca, .int .i64 d] w fun r w' => ∃ v, r = .returned v ∧ w'.ownsRow w.heap.size 36 1 v (n * widthN d) ((ps.flatMap (placeRow d)).map fl) ∧ Below w.heap.size w w' := by
  rcases width_all d h0 h3 with rfl | rfl | rfl | rfl
  · exact nums_0 ha hB hn hl
  · exact nums_1 ha hB hn hl
  · exact nums_2 ha hB hn hl
  · exact nums_3 ha hB hn hl
end Go.Proofs.Ytihkmkcjjlmkhaa
