/- impl.plainSequence: a sequence as plain data. No condition. -/
import Derived.Test.YtihkmkcjjlmkhaaSeq3
namespace Go.Proofs.Ytihkmkcjjlmkhaa
set_option maxRecDepth 100000
open Go.ChangeShapes Go.WideShapes Go.ChangeAt Go.RowKit Go.Deep

theorem own_grown {w w1 : World} {row : Option Nat} (hg : w.grownBy w1 row) {B : Nat} {cs : List Value} (h : Own w B cs) (hne : ∀ k, row = some k → k ≠ B) : Own w1 B cs := by
  have e : w1.heap[B]? = w.heap[B]? := hg.block B h.lt fun e => hne B e.symm rfl
  refine ⟨h.cells.mono fun j => ?_, fun j => ?_, Nat.lt_of_lt_of_le h.lt hg.size⟩
  · unfold World.cell?; simp only [e]
  · rw [← h.free j]; unfold World.frozen?; simp only [e]
/-- A block of another type, whole. -/
def BlockIs (w : World) (C : Nat) (arr : Array Value) (t : TypeId) : Prop := w.heap[C]? = some (.cells arr t (0, 0))
theorem BlockIs.lt {w : World} {C : Nat} {arr : Array Value} {t : TypeId} (h : BlockIs w C arr t) : C < w.heap.size := by
  obtain ⟨hlt, _⟩ := Array.getElem?_eq_some_iff.1 h; exact hlt
theorem BlockIs.cell {w : World} {C : Nat} {arr : Array Value} {t : TypeId} (h : BlockIs w C arr t) {i : Nat} (hi : i < arr.size) : w.cell? ⟨C, i, none⟩ = some arr[i] := by
  unfold World.cell?; simp [show w.heap[C]? = _ from h, hi]
theorem BlockIs.grown {w w1 : World} {row : Option Nat} (hg : w.grownBy w1 row) {C : Nat} {arr : Array Value} {t : TypeId} (h : BlockIs w C arr t) (hne : ∀ k, row = some k → k ≠ C) : BlockIs w1 C arr t := by
  have e : w1.heap[C]? = w.heap[C]? := hg.block C h.lt fun e => hne C e.symm rfl
  unfold BlockIs; rw [e]; exact h
theorem BlockIs.below {w w' : World} {C : Nat} {arr : Array Value} {t : TypeId} (h : BlockIs w C arr t) (hb : Below w.heap.size w w') : BlockIs w' C arr t := by
  unfold BlockIs; rw [hb.block C h.lt]; exact h
theorem BlockIs.set {w : World} {C : Nat} {arr : Array Value} {t : TypeId} (h : BlockIs w C arr t) {p : Addr} (hp : C ≠ p.block) (v : Value) : BlockIs (w.setCell p v) C arr t := by
  unfold BlockIs; rw [Below.heap_setCell _ _ _ _ hp]; exact h
theorem row_ne {w : World} {base C n : Nat} {v : Value} {xs : List Value} {arr : Array Value} {t : TypeId} (h : w.ownsRow base 36 1 v n xs) (hC : BlockIs w C arr t) (ht : t ≠ 36) : ∀ k, v.ownBlock = some k → k ≠ C := by
  rintro k hk rfl
  rcases h.2 with ⟨rfl, _⟩ | ⟨g, cap, cur, rfl, _, e3, _⟩
  · cases hk
  · cases hk
    unfold BlockIs at hC
    rw [show w.heap[g]? = _ from e3] at hC
    cases hC
    exact ht rfl
theorem own_setCell {w : World} {base : Nat} {e : TypeId} {size : Nat} {v : Value} {n : Nat} {xs : List Value} (h : w.ownsRow base e size v n xs) {p : Addr} (hp : p.block < base) (u : Value) : (w.setCell p u).ownsRow base e size v n xs := by
  obtain ⟨h1, h2⟩ := h
  refine ⟨h1, ?_⟩
  rcases h2 with h2 | ⟨g, cap, cur, e1, e2, e3, e4⟩
  · exact .inl h2
  · exact .inr ⟨g, cap, cur, e1, e2, by rw [Below.heap_setCell _ _ _ _ (by omega)]; exact e3, e4⟩
/-- The row that a geometry's first list of numbers is, as the copy is being made: the geometry's cells in block G, the row behind it. -/
structure LS (w w' : World) (G : Nat) (k d : Int) (bx : List Value) (v : Value) (m : Nat) (row : List Value) : Prop where
  g : Own w' G [.int .i64 k, .int .i64 d, v, .slice none 0 0]
  box : Own w' w.heap.size bx
  res : Own w' (w.heap.size + 1) [.int .i64 0, .int .i64 0, .slice none 0 0, .slice none 0 0]
  row : w'.ownsRow (G + 1) 36 1 v m row
  bel : Below w.heap.size w w'
  hG : w.heap.size + 2 ≤ G
theorem LS.below {w w' w2 : World} {G : Nat} {k d : Int} {bx : List Value} {v : Value} {m : Nat} {row : List Value} (h : LS w w' G k d bx v m row) (hb : Below w'.heap.size w' w2) : LS w w2 G k d bx v m row :=
  ⟨h.g.below hb h.g.lt, h.box.below hb h.box.lt, h.res.below hb h.res.lt, own_below h.row hb, h.bel.trans (Below.mono hb h.bel.size), h.hG⟩
theorem LS.step {w w' w1 : World} {G : Nat} {k d : Int} {bx : List Value} {v v1 : Value} {m m1 : Nat} {row row1 : List Value} (h : LS w w' G k d bx v m row) (hg : w'.grownBy w1 v.ownBlock) (hr : w1.ownsRow (G + 1) 36 1 v1 m1 row1) :
    Own w1 G [.int .i64 k, .int .i64 d, v, .slice none 0 0] ∧ LS w (w1.setCell ⟨G, 2, none⟩ v1) G k d bx v1 m1 row1 := by
  have hk := h.row.lt
  have hG := h.hG
  have o1 := own_grown hg h.g (fun k e => by have := (hk k e).1; omega)
  have o2 := own_grown hg h.box (fun k e => by have := (hk k e).1; omega)
  have o3 := own_grown hg h.res (fun k e => by have := (hk k e).1; omega)
  refine ⟨o1, ⟨?_, o2.other (by show G ≠ _; omega) _, o3.other (by show G ≠ _; omega) _, own_setCell hr (Nat.lt_succ_self G) _, ?_, hG⟩⟩
  · exact o1.set 2 (by simp) v1
  · exact Below.setCell (Below.grown h.bel hg h.bel.size (fun k e => by have := (hk k e).1; omega)) (show w.heap.size ≤ G by omega) _
theorem BlockIs.step {w w' w1 : World} {G : Nat} {k d : Int} {bx : List Value} {v v1 : Value} {m : Nat} {row : List Value} {C : Nat} {arr : Array Value} {t : TypeId} (hc : BlockIs w' C arr t) (h : LS w w' G k d bx v m row) (hg : w'.grownBy w1 v.ownBlock) (ht : t ≠ 36) (hC : G < C) :
    BlockIs w1 C arr t ∧ BlockIs (w1.setCell ⟨G, 2, none⟩ v1) C arr t := by
  have := BlockIs.grown hg hc (row_ne h.row hc ht)
  exact ⟨this, this.set (by show C ≠ G; omega) _⟩
theorem LS.cast {w w' : World} {G : Nat} {k d : Int} {bx : List Value} {v : Value} {m m' : Nat} {row row' : List Value} (h : LS w w' G k d bx v m row) (hm : m = m') (hr : row = row') : LS w w' G k d bx v m' row' := by subst hm; subst hr; exact h
theorem width_sum {d : Int} (h0 : 0 ≤ d) (h3 : d ≤ 3) : widthN d = 2 + (if has3 d then 1 else 0) + (if hasM d then 1 else 0) := by
  rcases width_all d h0 h3 with rfl | rfl | rfl | rfl <;> rfl
def placeRow (d : Int) (p : Pl) : List Nat := [p.x, p.y] ++ (if has3 d then [p.z] else []) ++ (if hasM d then [p.m] else [])
theorem take_step {xs : List Nat} {d : Int} {k : Nat} (h0 : 0 ≤ d) (h3 : d ≤ 3) (hk : k * widthN d + widthN d ≤ xs.length) : xs.take (k * widthN d + widthN d) = xs.take (k * widthN d) ++ placeRow d (placeAt xs d k) := by
  rw [List.take_add]
  congr 1
  have e : ∀ i, i < xs.length → xs[i]! = xs[i]?.getD 0 := fun i _ => by rw [List.getElem!_eq_getElem?_getD]; rfl
  rcases width_all d h0 h3 with rfl | rfl | rfl | rfl
  · have hw : widthN 0 = 2 := rfl
    rw [hw] at hk ⊢
    unfold placeRow placeAt
    rw [hw]
    apply List.ext_getElem?
    intro i
    match i with
    | 0 => rw [List.getElem?_take_of_lt (by omega), List.getElem?_drop]; simp [has3, hasM]; rw [List.getElem?_eq_getElem (by omega)]; simp
    | 1 => rw [List.getElem?_take_of_lt (by omega), List.getElem?_drop]; simp [has3, hasM]; rw [List.getElem?_eq_getElem (by omega)]; simp
    | i + 2 => simp [has3, hasM]; omega
  · have hw : widthN 1 = 3 := rfl
    rw [hw] at hk ⊢
    unfold placeRow placeAt
    rw [hw]
    apply List.ext_getElem?
    intro i
    match i with
    | 0 => rw [List.getElem?_take_of_lt (by omega), List.getElem?_drop]; simp [has3, hasM]; rw [List.getElem?_eq_getElem (by omega)]; simp
    | 1 => rw [List.getElem?_take_of_lt (by omega), List.getElem?_drop]; simp [has3, hasM]; rw [List.getElem?_eq_getElem (by omega)]; simp
    | 2 => rw [List.getElem?_take_of_lt (by omega), List.getElem?_drop]; simp [has3, hasM]; rw [List.getElem?_eq_getElem (by omega)]; simp
    | i + 3 => simp [has3, hasM]; omega
  · have hw : widthN 2 = 3 := rfl
    rw [hw] at hk ⊢
    unfold placeRow placeAt
    rw [hw]
    apply List.ext_getElem?
    intro i
    match i with
    | 0 => rw [List.getElem?_take_of_lt (by omega), List.getElem?_drop]; simp [has3, hasM]; rw [List.getElem?_eq_getElem (by omega)]; simp
    | 1 => rw [List.getElem?_take_of_lt (by omega), List.getElem?_drop]; simp [has3, hasM]; rw [List.getElem?_eq_getElem (by omega)]; simp
    | 2 => rw [List.getElem?_take_of_lt (by omega), List.getElem?_drop]; simp [has3, hasM]; rw [List.getElem?_eq_getElem (by omega)]; simp
    | i + 3 => simp [has3, hasM]; omega
  · have hw : widthN 3 = 4 := rfl
    rw [hw] at hk ⊢
    unfold placeRow placeAt
    rw [hw]
    apply List.ext_getElem?
    intro i
    match i with
    | 0 => rw [List.getElem?_take_of_lt (by omega), List.getElem?_drop]; simp [has3, hasM]; rw [List.getElem?_eq_getElem (by omega)]; simp
    | 1 => rw [List.getElem?_take_of_lt (by omega), List.getElem?_drop]; simp [has3, hasM]; rw [List.getElem?_eq_getElem (by omega)]; simp
    | 2 => rw [List.getElem?_take_of_lt (by omega), List.getElem?_drop]; simp [has3, hasM]; rw [List.getElem?_eq_getElem (by omega)]; simp
    | 3 => rw [List.getElem?_take_of_lt (by omega), List.getElem?_drop]; simp [has3, hasM]; rw [List.getElem?_eq_getElem (by omega)]; simp
    | i + 4 => simp [has3, hasM]; omega
theorem plainSequence_any {d : Int} {a : Option Addr} {n ca B : Nat} {xs : List Nat} {w : World} (ha : NumsIs w B a xs) (hB : B ≤ w.heap.size) (hn : xs.length = n) (hl : n ≤ 4000) (h0 : 0 ≤ d) (h3 : d ≤ 3) (hm : n % widthN d = 0) :
    Calls Try.prog 47 #[vSeq d a n ca] w fun e w' => ∃ a' c', e = .returned (vGeom 2 d a' n c' none 0 0) ∧ NumsIs w' w'.heap.size a' xs ∧ HeadOk a' n c' ∧ Fresh a' w.heap.size ∧ Below w.heap.size w w' := by
  obtain ⟨i0, hi0, hz0, hz1, hz2⟩ := info_parts infoFl
  obtain ⟨wd, hwd⟩ : ∃ wd, widthN d = wd := ⟨_, rfl⟩
  have HWN := Lib.hid hwd
  have hwd3 : 2 ≤ wd ∧ wd ≤ 4 := by rw [← hwd]; unfold widthN widthI; split <;> (try split) <;> decide
  rw [hwd] at hm
  obtain ⟨l, hlq⟩ : ∃ l, n / widthN d = l := ⟨_, rfl⟩
  have hnl : n = l * wd := by
    have := Nat.div_add_mod n wd
    rw [← hlq, hwd, Nat.mul_comm]; omega
  have hln : l ≤ n := by rw [← hlq]; exact Nat.div_le_self _ _
  have HL := Lib.hid hlq
  have HNL := Lib.hid hnl
  have HA := Lib.hid ha
  have hcv : IntKind.i64.wrap d = d := by unfold IntKind.wrap; simp [IntKind.signed, IntKind.bits]; omega
  clear hwd hlq hnl ha
  go_enter Try.func47, Try.ntmps47
  go_wp2_with ((go_at_call 83; (with_reducible refine (seqType_any _ _ _ _ _).mono ?_); rintro e w1 ⟨rfl, hb⟩; (first | (obtain ⟨x1, rfl⟩ := LaterW.of2 hb) | (obtain ⟨x1, rfl⟩ := LaterW.of hb)); clear hb))
  rename LaterW _ => y1
  have hgw : w.heap.size + 2 ≤ y1.val.heap.size := by have := y1.ok.size; simp only [World.size_alloc] at this; omega
  obtain ⟨G, hG⟩ : ∃ G, G = y1.val.heap.size := ⟨_, rfl⟩
  have hby : Below w.heap.size w y1.val := (by repeat (first | with_reducible exact Below.refl _ _ | with_reducible exact HBEL.out | with_reducible assumption | with_reducible refine Below.setCell ?_ (by first | (dsimp only; omega) | (simp; try omega)) _ | with_reducible refine LaterW.below _ ?_ | with_reducible refine below_alloc ?_ _ | with_reducible refine below_drewN' ?_ _ | with_reducible refine Below.drew ?_ | with_reducible exact below_drewN _))
  have p1 : Own y1.val w.heap.size [.int .u8 d, .slice a n ca] := (by repeat (first | (refine Own.new' _ rfl ?_; first | with_reducible rfl | (simp; done)) | with_reducible apply Own.later | with_reducible apply Own.alloc | with_reducible apply Own.drew | with_reducible apply Own.drewN | with_reducible apply Own.other))
  have p2 : Own y1.val (w.heap.size + 1) [.int .i64 0, .int .i64 0, .slice none 0 0, .slice none 0 0] := (by repeat (first | (refine Own.new' _ rfl ?_; first | with_reducible rfl | (simp; done)) | with_reducible apply Own.later | with_reducible apply Own.alloc | with_reducible apply Own.drew | with_reducible apply Own.drewN | with_reducible apply Own.other))
  have hls : LS w (y1.val.alloc (.cells #[.int .i64 2, .int .i64 d, .slice none 0 0, .slice none 0 0] 25)) G 2 d [.int .u8 d, .slice a n ca] (.slice none 0 0) 0 [] :=
    ⟨by rw [hG]; exact Own.new' _ rfl rfl, p1.alloc _, p2.alloc _, World.ownsRow_nil _ _ _ _, hby.alloc hby.size _, by rw [hG]; exact hgw⟩
  rw [← hG]
  generalize y1.val.alloc (.cells #[.int .i64 2, .int .i64 d, .slice none 0 0, .slice none 0 0] 25) = W0 at *
  clear hby p1 p2 hG hgw
  go_loopw [4] (fun i wr => ∃ (k : Nat) (v : Value), k ≤ l ∧ i = .int .i64 k ∧ LS w wr G 2 d [.int .u8 d, .slice a n ca] v (k * wd) ((xs.take (k * wd)).map fl)) (fun i _ => l - (intOf i).toNat)
  case atStart => exact ⟨0, _, Nat.zero_le _, rfl, by simpa using hls⟩
  case round =>
    clear hls
    obtain ⟨k, v, hk, rfl, hls⟩ := hrel
    by_cases hlt : k < l
    · have HLS := Lib.hid hls
      have e1 : k * wd + wd ≤ n := by have := Nat.mul_le_mul_right wd (show k + 1 ≤ l from hlt); rw [Nat.add_mul, Nat.one_mul, ← HNL.out] at this; exact this
      have g0 := hls.box.cells.1
      have g1 := hls.box.cells.2.1
      have lt0 := hls.box.lt
      have hbel := hls.bel
      clear hls
      go_wp2_with ((go_at_call 84; (with_reducible refine (seqLength_any h0 h3 HL.out hl _).mono ?_); rintro e w1 ⟨rfl, hb⟩; (first | (obtain ⟨x1, rfl⟩ := LaterW.of2 hb) | (obtain ⟨x1, rfl⟩ := LaterW.of hb)); clear hb))
      have hb1 : Below w.heap.size w x1.val := (by repeat (first | with_reducible exact Below.refl _ _ | with_reducible exact HBEL.out | with_reducible assumption | with_reducible refine Below.setCell ?_ (by first | (dsimp only; omega) | (simp; try omega)) _ | with_reducible refine LaterW.below _ ?_ | with_reducible refine below_alloc ?_ _ | with_reducible refine below_drewN' ?_ _ | with_reducible refine Below.drew ?_ | with_reducible exact below_drewN _))
      refine (seqGet_any (HA.out.below hb1 hB) (Nat.le_trans hB hb1.size) hn hl h0 h3 (show k < n / widthN d by rw [HL.out]; exact hlt)).mono ?_
      rintro e w2 ⟨rfl, hb⟩
      have hls2 := (HLS.out.below x1.ok).below hb
      have hstep : xs.take ((k + 1) * wd) = xs.take (k * wd) ++ placeRow d (placeAt xs d k) := by
        have := take_step (xs := xs) h0 h3 (k := k) (by rw [HWN.out]; omega)
        rw [HWN.out] at this
        rw [Nat.add_mul, Nat.one_mul]; exact this
      obtain ⟨⟨px, py, pz, pm⟩, hpl⟩ : ∃ p, placeAt xs d k = p := ⟨_, rfl⟩
      rw [hpl] at hstep ⊢
      have HSTEP := Lib.hid hstep
      obtain ⟨R, hR⟩ : ∃ R, R = (xs.take (k * wd)).map fl := ⟨_, rfl⟩
      rw [← hR] at hls2
      have HR := Lib.hid hR
      have HLS2 := Lib.hid hls2
      have g2 := hls2.g.cells.2.2.1
      have lt2 := hls2.g.lt
      have hsum := width_sum h0 h3
      rw [HWN.out] at hsum
      have HSUM := Lib.hid hsum
      clear hstep hpl hb1 hb HLS g0 g1 lt0 hbel x1 hR hls2 hsum
      go_wp2_with (at_builtin; refine wpList_append_own _ rfl (.tmp 20) (.tmp 27) 22 rfl (G + 1) 36 i0 (fl 0) 1 8 Try.underlying22 hi0 hz0 hz1 hz2 rfl (by decide) _ _ _ rfl (own_below HLS2.out.row (by repeat (first | with_reducible exact Below.refl _ _ | with_reducible exact HBEL.out | with_reducible assumption | with_reducible refine Below.setCell ?_ (by first | (dsimp only; omega) | (simp; try omega)) _ | with_reducible refine LaterW.below _ ?_ | with_reducible refine below_alloc ?_ _ | with_reducible refine below_drewN' ?_ _ | with_reducible refine Below.drew ?_ | with_reducible exact below_drewN _))) ⟨w2.heap.size + 1, 0, none⟩ 2 2 [fl px, fl py] rfl rfl ?c1 ?c2 ?c3 ?c4 ?c5 ?_)
      case c1 =>
        intro j u hj
        match j, hj with
        | 0, hj => simp at hj; subst hj; simp [Addr.add]
        | 1, hj => simp at hj; subst hj; simp [Addr.add]
      case c2 => intro u hu; simp at hu; rcases hu with rfl | rfl <;> rfl
      case c3 => unfold maxLen; omega
      case c4 => omega
      case c5 => simp; omega
      intro v' w' hown hgrow _
      have st := LS.step (HLS2.out.below (by repeat (first | with_reducible exact Below.refl _ _ | with_reducible exact HBEL.out | with_reducible assumption | with_reducible refine Below.setCell ?_ (by first | (dsimp only; omega) | (simp; try omega)) _ | with_reducible refine LaterW.below _ ?_ | with_reducible refine below_alloc ?_ _ | with_reducible refine below_drewN' ?_ _ | with_reducible refine Below.drew ?_ | with_reducible exact below_drewN _))) hgrow hown
      have bc := BlockIs.step (v1 := v') (C := w2.heap.size) (arr := #[fl px, fl py, fl pz, fl pm, .int .u8 d]) (t := 80) (BlockIs.below (alloc_at _ _) (by repeat (first | with_reducible exact Below.refl _ _ | with_reducible exact HBEL.out | with_reducible assumption | with_reducible refine Below.setCell ?_ (by first | (dsimp only; omega) | (simp; try omega)) _ | with_reducible refine LaterW.below _ ?_ | with_reducible refine below_alloc ?_ _ | with_reducible refine below_drewN' ?_ _ | with_reducible refine Below.drew ?_ | with_reducible exact below_drewN _))) (HLS2.out.below (by repeat (first | with_reducible exact Below.refl _ _ | with_reducible exact HBEL.out | with_reducible assumption | with_reducible refine Below.setCell ?_ (by first | (dsimp only; omega) | (simp; try omega)) _ | with_reducible refine LaterW.below _ ?_ | with_reducible refine below_alloc ?_ _ | with_reducible refine below_drewN' ?_ _ | with_reducible refine Below.drew ?_ | with_reducible exact below_drewN _))) hgrow (by decide) lt2
      obtain ⟨g1, cap1, cur1, rfl, _⟩ := hown.2.resolve_left (by rintro ⟨_, h⟩; omega)
      have fz := st.1.free 2
      have cz := st.1.cells.2.2.1
      have kc2 := bc.1.cell (i := 2) (by simp)
      have kc3 := bc.1.cell (i := 3) (by simp)
      have kc4 := bc.1.cell (i := 4) (by simp)
      have ltG := st.1.lt
      have HST := Lib.hid st.2
      have HBC := Lib.hid bc.2
      clear st bc hown hgrow HLS2
      go_wp2_with fail
      generalize w'.setCell ⟨G, 2, none⟩ (.slice (some ⟨g1, 0, none⟩) (k * wd + 2) cap1) = W4 at *
      clear fz cz kc2 kc3 kc4 ltG g2
      refine (is3D_any h0 h3 rfl _).mono ?_
      rintro e w5 ⟨rfl, hb⟩
      have HL5 := Lib.hid (HST.out.below hb)
      have HC5 := Lib.hid (HBC.out.below hb)
      clear HST HBC hb
      cases h3d : has3 d
      · have H3 := Lib.hid h3d
        clear h3d
        have k4 := HC5.out.cell (i := 4) (by simp)
        go_wp2_with fail
        refine (isMeasured_any h0 h3 rfl _).mono ?_
        rintro e w7 ⟨rfl, hb⟩
        have HL7 := Lib.hid (HL5.out.below hb)
        have HC7 := Lib.hid (HC5.out.below hb)
        clear HL5 HC5 hb
        cases hM : hasM d
        · have HM := Lib.hid hM
          clear hM
          go_wp2_with fail
          exact ⟨⟨k + 1, _, hlt, by go_num, HL7.out.cast (by have h := HSUM.out; rw [H3.out, HM.out] at h; simp at h; rw [Nat.add_mul, Nat.one_mul]; omega) (by rw [HSTEP.out, HR.out]; simp [placeRow, H3.out, HM.out])⟩, by simp [intOf]; omega⟩
        · have HM := Lib.hid hM
          clear hM
          have g2 := HL7.out.g.cells.2.2.1
          have lt7 := HL7.out.g.lt
          have k3 := HC7.out.cell (i := 3) (by simp)
          have ltC := HC7.out.lt
          go_wp2_with (at_builtin; refine wpList_append_own _ rfl (.tmp 44) (.tmp 47) 22 rfl (G + 1) 36 i0 (fl 0) 1 8 Try.underlying22 hi0 hz0 hz1 hz2 rfl (by decide) _ _ _ rfl (own_below HL7.out.row (by repeat (first | with_reducible exact Below.refl _ _ | with_reducible exact HBEL.out | with_reducible assumption | with_reducible refine Below.setCell ?_ (by first | (dsimp only; omega) | (simp; try omega)) _ | with_reducible refine LaterW.below _ ?_ | with_reducible refine below_alloc ?_ _ | with_reducible refine below_drewN' ?_ _ | with_reducible refine Below.drew ?_ | with_reducible exact below_drewN _))) ⟨w7.heap.size, 0, none⟩ 1 1 [fl pm] rfl rfl ?c1 ?c2 ?c3 ?c4 ?c5 ?_)
          case c1 =>
            intro j u hj
            match j, hj with
            | 0, hj => simp at hj; subst hj; simp [Addr.add]
          case c2 => intro u hu; simp at hu; subst hu; rfl
          case c3 => unfold maxLen; omega
          case c4 => omega
          case c5 => simp; omega
          intro v' w' hown hgrow _
          have st := LS.step (HL7.out.below (by repeat (first | with_reducible exact Below.refl _ _ | with_reducible exact HBEL.out | with_reducible assumption | with_reducible refine Below.setCell ?_ (by first | (dsimp only; omega) | (simp; try omega)) _ | with_reducible refine LaterW.below _ ?_ | with_reducible refine below_alloc ?_ _ | with_reducible refine below_drewN' ?_ _ | with_reducible refine Below.drew ?_ | with_reducible exact below_drewN _))) hgrow hown
          have bc := BlockIs.step (v1 := v') (BlockIs.below HC7.out (by repeat (first | with_reducible exact Below.refl _ _ | with_reducible exact HBEL.out | with_reducible assumption | with_reducible refine Below.setCell ?_ (by first | (dsimp only; omega) | (simp; try omega)) _ | with_reducible refine LaterW.below _ ?_ | with_reducible refine below_alloc ?_ _ | with_reducible refine below_drewN' ?_ _ | with_reducible refine Below.drew ?_ | with_reducible exact below_drewN _))) (HL7.out.below (by repeat (first | with_reducible exact Below.refl _ _ | with_reducible exact HBEL.out | with_reducible assumption | with_reducible refine Below.setCell ?_ (by first | (dsimp only; omega) | (simp; try omega)) _ | with_reducible refine LaterW.below _ ?_ | with_reducible refine below_alloc ?_ _ | with_reducible refine below_drewN' ?_ _ | with_reducible refine Below.drew ?_ | with_reducible exact below_drewN _))) hgrow (by decide) lt2
          obtain ⟨g1, cap1, cur1, rfl, _⟩ := hown.2.resolve_left (by rintro ⟨_, h⟩; omega)
          have fz := st.1.free 2
          have cz := st.1.cells.2.2.1
          have kc2 := bc.1.cell (i := 2) (by simp)
          have kc3 := bc.1.cell (i := 3) (by simp)
          have kc4 := bc.1.cell (i := 4) (by simp)
          have ltG := st.1.lt
          have HST := Lib.hid st.2
          have HBC := Lib.hid bc.2
          clear st bc hown hgrow HL7
          go_wp2_with fail
          exact ⟨⟨k + 1, _, hlt, by go_num, HST.out.cast (by have h := HSUM.out; rw [H3.out, HM.out] at h; simp at h; rw [Nat.add_mul, Nat.one_mul]; omega) (by rw [HSTEP.out, HR.out]; simp [placeRow, H3.out, HM.out])⟩, by simp [intOf]; omega⟩
      · have H3 := Lib.hid h3d
        clear h3d
        have g2 := HL5.out.g.cells.2.2.1
        have lt5 := HL5.out.g.lt
        have k2 := HC5.out.cell (i := 2) (by simp)
        have ltC := HC5.out.lt
        go_wp2_with (at_builtin; refine wpList_append_own _ rfl (.tmp 34) (.tmp 37) 22 rfl (G + 1) 36 i0 (fl 0) 1 8 Try.underlying22 hi0 hz0 hz1 hz2 rfl (by decide) _ _ _ rfl (own_below HL5.out.row (by repeat (first | with_reducible exact Below.refl _ _ | with_reducible exact HBEL.out | with_reducible assumption | with_reducible refine Below.setCell ?_ (by first | (dsimp only; omega) | (simp; try omega)) _ | with_reducible refine LaterW.below _ ?_ | with_reducible refine below_alloc ?_ _ | with_reducible refine below_drewN' ?_ _ | with_reducible refine Below.drew ?_ | with_reducible exact below_drewN _))) ⟨w5.heap.size, 0, none⟩ 1 1 [fl pz] rfl rfl ?c1 ?c2 ?c3 ?c4 ?c5 ?_)
        case c1 =>
          intro j u hj
          match j, hj with
          | 0, hj => simp at hj; subst hj; simp [Addr.add]
        case c2 => intro u hu; simp at hu; subst hu; rfl
        case c3 => unfold maxLen; omega
        case c4 => omega
        case c5 => simp; omega
        intro v' w' hown hgrow _
        have st := LS.step (HL5.out.below (by repeat (first | with_reducible exact Below.refl _ _ | with_reducible exact HBEL.out | with_reducible assumption | with_reducible refine Below.setCell ?_ (by first | (dsimp only; omega) | (simp; try omega)) _ | with_reducible refine LaterW.below _ ?_ | with_reducible refine below_alloc ?_ _ | with_reducible refine below_drewN' ?_ _ | with_reducible refine Below.drew ?_ | with_reducible exact below_drewN _))) hgrow hown
        have bc := BlockIs.step (v1 := v') (BlockIs.below HC5.out (by repeat (first | with_reducible exact Below.refl _ _ | with_reducible exact HBEL.out | with_reducible assumption | with_reducible refine Below.setCell ?_ (by first | (dsimp only; omega) | (simp; try omega)) _ | with_reducible refine LaterW.below _ ?_ | with_reducible refine below_alloc ?_ _ | with_reducible refine below_drewN' ?_ _ | with_reducible refine Below.drew ?_ | with_reducible exact below_drewN _))) (HL5.out.below (by repeat (first | with_reducible exact Below.refl _ _ | with_reducible exact HBEL.out | with_reducible assumption | with_reducible refine Below.setCell ?_ (by first | (dsimp only; omega) | (simp; try omega)) _ | with_reducible refine LaterW.below _ ?_ | with_reducible refine below_alloc ?_ _ | with_reducible refine below_drewN' ?_ _ | with_reducible refine Below.drew ?_ | with_reducible exact below_drewN _))) hgrow (by decide) lt2
        obtain ⟨g1, cap1, cur1, rfl, _⟩ := hown.2.resolve_left (by rintro ⟨_, h⟩; omega)
        have fz := st.1.free 2
        have cz := st.1.cells.2.2.1
        have kc2 := bc.1.cell (i := 2) (by simp)
        have kc3 := bc.1.cell (i := 3) (by simp)
        have kc4 := bc.1.cell (i := 4) (by simp)
        have ltG := st.1.lt
        have HST := Lib.hid st.2
        have HBC := Lib.hid bc.2
        clear st bc hown hgrow HL5
        go_wp2_with fail
        generalize w'.setCell ⟨G, 2, none⟩ (.slice (some ⟨g1, 0, none⟩) (k * wd + 2 + 1) cap1) = W6 at *
        clear fz cz kc2 kc3 kc4 ltG g2 k2 ltC lt5 HC5
        refine (isMeasured_any h0 h3 rfl _).mono ?_
        rintro e w7 ⟨rfl, hb⟩
        have HL7 := Lib.hid (HST.out.below hb)
        have HC7 := Lib.hid (HBC.out.below hb)
        clear HST HBC hb
        cases hM : hasM d
        · have HM := Lib.hid hM
          clear hM
          go_wp2_with fail
          exact ⟨⟨k + 1, _, hlt, by go_num, HL7.out.cast (by have h := HSUM.out; rw [H3.out, HM.out] at h; simp at h; rw [Nat.add_mul, Nat.one_mul]; omega) (by rw [HSTEP.out, HR.out]; simp [placeRow, H3.out, HM.out])⟩, by simp [intOf]; omega⟩
        · have HM := Lib.hid hM
          clear hM
          have g2 := HL7.out.g.cells.2.2.1
          have lt7 := HL7.out.g.lt
          have k3 := HC7.out.cell (i := 3) (by simp)
          have ltC := HC7.out.lt
          go_wp2_with (at_builtin; refine wpList_append_own _ rfl (.tmp 44) (.tmp 47) 22 rfl (G + 1) 36 i0 (fl 0) 1 8 Try.underlying22 hi0 hz0 hz1 hz2 rfl (by decide) _ _ _ rfl (own_below HL7.out.row (by repeat (first | with_reducible exact Below.refl _ _ | with_reducible exact HBEL.out | with_reducible assumption | with_reducible refine Below.setCell ?_ (by first | (dsimp only; omega) | (simp; try omega)) _ | with_reducible refine LaterW.below _ ?_ | with_reducible refine below_alloc ?_ _ | with_reducible refine below_drewN' ?_ _ | with_reducible refine Below.drew ?_ | with_reducible exact below_drewN _))) ⟨w7.heap.size, 0, none⟩ 1 1 [fl pm] rfl rfl ?c1 ?c2 ?c3 ?c4 ?c5 ?_)
          case c1 =>
            intro j u hj
            match j, hj with
            | 0, hj => simp at hj; subst hj; simp [Addr.add]
          case c2 => intro u hu; simp at hu; subst hu; rfl
          case c3 => unfold maxLen; omega
          case c4 => omega
          case c5 => simp; omega
          intro v' w' hown hgrow _
          have st := LS.step (HL7.out.below (by repeat (first | with_reducible exact Below.refl _ _ | with_reducible exact HBEL.out | with_reducible assumption | with_reducible refine Below.setCell ?_ (by first | (dsimp only; omega) | (simp; try omega)) _ | with_reducible refine LaterW.below _ ?_ | with_reducible refine below_alloc ?_ _ | with_reducible refine below_drewN' ?_ _ | with_reducible refine Below.drew ?_ | with_reducible exact below_drewN _))) hgrow hown
          have bc := BlockIs.step (v1 := v') (BlockIs.below HC7.out (by repeat (first | with_reducible exact Below.refl _ _ | with_reducible exact HBEL.out | with_reducible assumption | with_reducible refine Below.setCell ?_ (by first | (dsimp only; omega) | (simp; try omega)) _ | with_reducible refine LaterW.below _ ?_ | with_reducible refine below_alloc ?_ _ | with_reducible refine below_drewN' ?_ _ | with_reducible refine Below.drew ?_ | with_reducible exact below_drewN _))) (HL7.out.below (by repeat (first | with_reducible exact Below.refl _ _ | with_reducible exact HBEL.out | with_reducible assumption | with_reducible refine Below.setCell ?_ (by first | (dsimp only; omega) | (simp; try omega)) _ | with_reducible refine LaterW.below _ ?_ | with_reducible refine below_alloc ?_ _ | with_reducible refine below_drewN' ?_ _ | with_reducible refine Below.drew ?_ | with_reducible exact below_drewN _))) hgrow (by decide) lt2
          obtain ⟨g1, cap1, cur1, rfl, _⟩ := hown.2.resolve_left (by rintro ⟨_, h⟩; omega)
          have fz := st.1.free 2
          have cz := st.1.cells.2.2.1
          have kc2 := bc.1.cell (i := 2) (by simp)
          have kc3 := bc.1.cell (i := 3) (by simp)
          have kc4 := bc.1.cell (i := 4) (by simp)
          have ltG := st.1.lt
          have HST := Lib.hid st.2
          have HBC := Lib.hid bc.2
          clear st bc hown hgrow HL7
          go_wp2_with fail
          exact ⟨⟨k + 1, _, hlt, by go_num, HST.out.cast (by have h := HSUM.out; rw [H3.out, HM.out] at h; simp at h; rw [Nat.add_mul, Nat.one_mul]; omega) (by rw [HSTEP.out, HR.out]; simp [placeRow, H3.out, HM.out])⟩, by simp [intOf]; omega⟩
    · obtain rfl : k = l := by omega
      have hkn : k * wd = n := HNL.out.symm
      rw [hkn] at hls
      rw [List.take_of_length_le (by omega)] at hls
      obtain ⟨a', c', rfl, hnum, hhead, hbase⟩ := numsOf_own hls.row
      have g0 := hls.box.cells.1
      have g1 := hls.box.cells.2.1
      have lt0 := hls.box.lt
      have ltG := hls.g.lt
      obtain ⟨c0, c1, c2, c3, _⟩ := hls.g.cells
      have HLS := Lib.hid hls
      have HN := Lib.hid hnum
      have HH := Lib.hid hhead
      have HBS := Lib.hid hbase
      clear hls hnum hhead hbase
      go_wp2_with (first | (go_at_call 84; (with_reducible refine (seqLength_any h0 h3 HL.out hl _).mono ?_); rintro e w1 ⟨rfl, hb⟩; (first | (obtain ⟨x1, rfl⟩ := LaterW.of2 hb) | (obtain ⟨x1, rfl⟩ := LaterW.of hb)); clear hb) | (refine wpList_store_mid rfl 25 (.tmp 2) (.tmp 50) rfl (w.heap.size + 1) 0 _ rfl rfl (Own.there (HLS.out.res.later x1) (Nat.le_refl 4)) (by kernel_rfl) (by kernel_rfl) ?_))
      have oR := Own.sets (vs := [.int .i64 2, .int .i64 d, .slice a' n c', .slice none 0 0]) (HLS.out.res.later x1) rfl
      have hR : NumsIs (x1.val.setCells (w.heap.size + 1) 0 [.int .i64 2, .int .i64 d, .slice a' n c', .slice none 0 0]) (x1.val.setCells (w.heap.size + 1) 0 [.int .i64 2, .int .i64 d, .slice a' n c', .slice none 0 0]).heap.size a' xs := by
        rw [size_setCells]
        exact NumsIs.setCells ((HN.out.below x1.ok (Nat.le_refl _)).mono x1.ok.size) (fun p hp => by have := HBS.out p hp; have := HLS.out.hG; omega) _ _
      have hbl := Below.setCells (Nat.le_succ _) [.int .i64 2, .int .i64 d, .slice a' n c', .slice none 0 0] 0 _ (HLS.out.bel.trans (Below.mono x1.ok HLS.out.bel.size))
      generalize x1.val.setCells (w.heap.size + 1) 0 [.int .i64 2, .int .i64 d, .slice a' n c', .slice none 0 0] = W9 at *
      refine ret_agg [.int .i64 2, .int .i64 d, .slice a' n c', .slice none 0 0] rfl rfl rfl (by kernel_rfl) (by kernel_rfl) (oR).cells (⟨a', c', rfl, hR, HH.out, (fun p hp => by have := HBS.out p hp; have := HLS.out.hG; omega), hbl⟩)
end Go.Proofs.Ytihkmkcjjlmkhaa
