/- impl.point, impl.plainPoint. No condition. -/
import Derived.Test.YtihkmkcjjlmkhaaPoint
namespace Go.Proofs.Ytihkmkcjjlmkhaa
set_option maxRecDepth 100000
open Go.ChangeShapes Go.WideShapes Go.ChangeAt Go.RowKit Go.Deep

theorem point_any {d : Int} {a : Option Addr} {n ca B : Nat} {kk : Option Addr} {nk ck : Nat} {xs : List Nat} {w : World} (ha : NumsIs w B a xs) (hB : B ≤ w.heap.size) (hn : xs.length = n) (hl : n ≤ 4000) :
    Calls Try.prog 55 #[vGeom 1 d a n ca kk nk ck] w fun e w' => e = .returned (if n / widthN (d % 4) = 0 then vP noPl (d % 4) false else vP (placeAt xs (d % 4) 0) (d % 4) true) ∧ Below w.heap.size w w' := by
  have h0 : 0 ≤ d % 4 := by omega
  have h3 : d % 4 ≤ 3 := by omega
  obtain ⟨m, hm⟩ : ∃ m, n / widthN (d % 4) * widthN (d % 4) = m := ⟨_, rfl⟩
  have hmn : m ≤ n := by have := Nat.div_mul_le_self n (widthN (d % 4)); omega
  have hwd : 0 < widthN (d % 4) := by have := width_sum h0 h3; omega
  have hmq : m / widthN (d % 4) = n / widthN (d % 4) := by rw [← hm]; exact Nat.mul_div_cancel _ hwd
  have hml : (xs.take m).length = m := by simp; omega
  have HMQ := Lib.hid hmq
  have HM := Lib.hid hm
  have HA := Lib.hid ha
  obtain ⟨q, hq⟩ : ∃ q, n / widthN (d % 4) = q := ⟨_, rfl⟩
  rw [hq]
  obtain ⟨R, hR⟩ : ∃ R, (if q = 0 then vP noPl (d % 4) false else vP (placeAt xs (d % 4) 0) (d % 4) true) = R := ⟨_, rfl⟩
  rw [hR]
  have HRR := Lib.hid hR
  have HQ := Lib.hid hq
  have HP : Hid (0 < q → placeAt (xs.take m) (d % 4) 0 = placeAt xs (d % 4) 0) := fun h => by
    have hw : widthN (d % 4) ≤ m := by rw [← hm, hq]; exact Nat.le_mul_of_pos_left _ h
    have hws := width_sum h0 h3
    have e : ∀ i, i < widthN (d % 4) → (xs.take m)[i]! = xs[i]! := fun i hi => by
      rw [List.getElem!_eq_getElem?_getD, List.getElem!_eq_getElem?_getD, List.getElem?_take_of_lt (by omega)]
    unfold placeAt
    simp only [Nat.zero_mul, Nat.zero_add]
    rw [e 0 (by omega), e 1 (by omega), e (widthN (d % 4) - 1) (by omega)]
    congr 1
    by_cases h3 : d % 4 = 1 ∨ d % 4 = 3
    · rw [if_pos h3, if_pos h3, e 2 (by rw [hws]; rcases h3 with h3 | h3 <;> rw [h3] <;> simp [has3] <;> split <;> omega)]
    · rw [if_neg h3, if_neg h3]
  clear ha hm hq hmq hwd hR
  go_enter Try.func55, Try.ntmps55
  go_wp2_with fail
  have hB0 : B ≤ ((w.alloc (.cells #[.int .i64 1, .int .i64 d, .slice a n ca, .slice kk nk ck] 25)).alloc (.cells #[fl 0, fl 0, fl 0, fl 0, .int .u8 0, .bool false] 82)).heap.size := by rw [World.size_alloc, World.size_alloc]; omega
  refine (sequence_any (HA.out.below (C := w.heap.size) (by repeat (first | with_reducible exact Below.refl _ _ | with_reducible exact HBEL.out | with_reducible assumption | with_reducible refine Below.setCell ?_ (by first | (dsimp only; omega) | (simp; try omega)) _ | with_reducible refine LaterW.below _ ?_ | with_reducible refine below_alloc ?_ _ | with_reducible refine below_drewN' ?_ _ | with_reducible refine Below.drew ?_ | with_reducible exact below_drewN _)) hB) hB0 hn hl HM.out).mono ?_
  rintro e w1 ⟨g, rfl, hge, hrow, hb⟩
  obtain ⟨x1, rfl⟩ := LaterW.of hb
  have HR := Lib.hid hrow
  have o1 : Own x1.val w.heap.size [.int .i64 1, .int .i64 d, .slice a n ca, .slice kk nk ck] := (by repeat (first | (refine Own.new' _ rfl ?_; first | with_reducible rfl | (simp; done)) | with_reducible apply Own.later | with_reducible apply Own.alloc | with_reducible apply Own.drew | with_reducible apply Own.drewN | with_reducible apply Own.other))
  have o2 : Own x1.val (w.heap.size + 1) [fl 0, fl 0, fl 0, fl 0, .int .u8 0, .bool false] := (by repeat (first | (refine Own.new' _ rfl ?_; first | with_reducible rfl | (simp; done)) | with_reducible apply Own.later | with_reducible apply Own.alloc | with_reducible apply Own.drew | with_reducible apply Own.drewN | with_reducible apply Own.other))
  have hbel : Below w.heap.size w x1.val := (by repeat (first | with_reducible exact Below.refl _ _ | with_reducible exact HBEL.out | with_reducible assumption | with_reducible refine Below.setCell ?_ (by first | (dsimp only; omega) | (simp; try omega)) _ | with_reducible refine LaterW.below _ ?_ | with_reducible refine below_alloc ?_ _ | with_reducible refine below_drewN' ?_ _ | with_reducible refine Below.drew ?_ | with_reducible exact below_drewN _))
  have lt1 := o1.lt
  have lt2 := o2.lt
  obtain ⟨c0, c1, c2, c3, _⟩ := o1.cells
  have HO := Lib.hid o2
  have HBEL := Lib.hid hbel
  clear hb hge hrow o1 o2 hbel HA hB0
  generalize x1.val = W at *
  clear x1
  by_cases hq0 : q = 0
  · subst hq0
    have hv : vP noPl (d % 4) false = R := by have h := HRR.out; rw [if_pos rfl] at h; exact h
    have HV := Lib.hid hv
    clear HP hv
    go_wp2_with (first | (go_at_call 84; (with_reducible refine (seqLength_any h0 h3 (HMQ.out.trans HQ.out) (by omega) _).mono ?_); rintro e w1 ⟨rfl, hb⟩; (first | (obtain ⟨x1, rfl⟩ := LaterW.of2 hb) | (obtain ⟨x1, rfl⟩ := LaterW.of hb)); clear hb) | (go_at_call 57; (with_reducible refine (dimOf_any d _).mono ?_); rintro e w1 ⟨rfl, hb⟩; (first | (obtain ⟨x1, rfl⟩ := LaterW.of2 hb) | (obtain ⟨x1, rfl⟩ := LaterW.of hb)); clear hb) | (go_at_call 93; (with_reducible refine (newEmptyPoint_any _ _).mono ?_); rintro e w1 ⟨rfl, hb⟩; (first | (obtain ⟨x1, rfl⟩ := LaterW.of2 hb) | (obtain ⟨x1, rfl⟩ := LaterW.of hb)); clear hb) | (refine wpList_store_mid rfl 82 (.tmp 2) (.tmp 20) rfl (w.heap.size + 1) 0 _ rfl rfl (Own.there (cs := [fl 0, fl 0, fl 0, fl 0, .int .u8 0, .bool false]) (by repeat (first | with_reducible exact HO.out | with_reducible apply Own.later | with_reducible apply Own.alloc | with_reducible apply Own.drew | with_reducible apply Own.drewN)) (Nat.le_refl 6)) (by kernel_rfl) (by kernel_rfl) ?_))
    have oF := Own.sets (vs := [fl noPl.x, fl noPl.y, fl noPl.z, fl noPl.m, .int .u8 (d % 4), .bool false]) (cs := [fl 0, fl 0, fl 0, fl 0, .int .u8 0, .bool false]) (w := x1.val) (B := w.heap.size + 1) (by repeat (first | with_reducible exact HO.out | with_reducible apply Own.later | with_reducible apply Own.alloc | with_reducible apply Own.drew | with_reducible apply Own.drewN)) rfl
    have hF := Below.setCells (C := w.heap.size) (A := w.heap.size + 1) (u := w) (Nat.le_succ _) [fl noPl.x, fl noPl.y, fl noPl.z, fl noPl.m, .int .u8 (d % 4), .bool false] 0 x1.val (LaterW.below x1 (by repeat (first | with_reducible exact Below.refl _ _ | with_reducible exact HBEL.out | with_reducible assumption | with_reducible refine Below.setCell ?_ (by first | (dsimp only; omega) | (simp; try omega)) _ | with_reducible refine LaterW.below _ ?_ | with_reducible refine below_alloc ?_ _ | with_reducible refine below_drewN' ?_ _ | with_reducible refine Below.drew ?_ | with_reducible exact below_drewN _)))
    generalize x1.val.setCells (w.heap.size + 1) 0 [fl noPl.x, fl noPl.y, fl noPl.z, fl noPl.m, .int .u8 (d % 4), .bool false] = W9 at *
    refine ret_agg [fl noPl.x, fl noPl.y, fl noPl.z, fl noPl.m, .int .u8 (d % 4), .bool false] rfl rfl rfl (by kernel_rfl) (by kernel_rfl) (oF).cells (⟨congrArg _ HV.out, hF⟩)
  · have hv : vP (placeAt xs (d % 4) 0) (d % 4) true = R := by have h := HRR.out; rw [if_neg hq0] at h; exact h
    have hpl := HP.out (by omega)
    obtain ⟨p, hp⟩ : ∃ p, placeAt xs (d % 4) 0 = p := ⟨_, rfl⟩
    rw [hp] at hv hpl
    have HV := Lib.hid hv
    have HPL := Lib.hid hpl
    clear HP hv hpl hp
    go_wp2_with (first | (go_at_call 84; (with_reducible refine (seqLength_any h0 h3 (HMQ.out.trans HQ.out) (by omega) _).mono ?_); rintro e w1 ⟨rfl, hb⟩; (first | (obtain ⟨x1, rfl⟩ := LaterW.of2 hb) | (obtain ⟨x1, rfl⟩ := LaterW.of hb)); clear hb))
    have hrow := HR.out.below (C := W.heap.size) (w' := x1.val) (by repeat (first | with_reducible exact Below.refl _ _ | with_reducible exact HBEL.out | with_reducible assumption | with_reducible refine Below.setCell ?_ (by first | (dsimp only; omega) | (simp; try omega)) _ | with_reducible refine LaterW.below _ ?_ | with_reducible refine below_alloc ?_ _ | with_reducible refine below_drewN' ?_ _ | with_reducible refine Below.drew ?_ | with_reducible exact below_drewN _)) HR.out.lt
    refine (seqGet_any (k := 0) hrow.nums (Nat.le_refl _) hml (by omega) h0 h3 (by rw [HMQ.out, HQ.out]; omega)).mono ?_
    rw [HPL.out]
    rintro e w2 ⟨rfl, hb⟩
    obtain ⟨x2, rfl⟩ := LaterW.of hb
    clear hb hrow
    go_wp2_with (first | (go_at_call 94; (with_reducible refine (newPoint_any _ _ _).mono ?_); rintro e w1 ⟨rfl, hb⟩; (first | (obtain ⟨x1, rfl⟩ := LaterW.of2 hb) | (obtain ⟨x1, rfl⟩ := LaterW.of hb)); clear hb) | (refine wpList_store_mid rfl 82 (.tmp 2) (.tmp 23) rfl (w.heap.size + 1) 0 _ rfl rfl (Own.there (cs := [fl 0, fl 0, fl 0, fl 0, .int .u8 0, .bool false]) (by repeat (first | with_reducible exact HO.out | with_reducible apply Own.later | with_reducible apply Own.alloc | with_reducible apply Own.drew | with_reducible apply Own.drewN)) (Nat.le_refl 6)) (by kernel_rfl) (by kernel_rfl) ?_))
    have oF := Own.sets (vs := [fl p.x, fl p.y, fl p.z, fl p.m, .int .u8 (d % 4), .bool true]) (cs := [fl 0, fl 0, fl 0, fl 0, .int .u8 0, .bool false]) (w := x1.val) (B := w.heap.size + 1) (by repeat (first | with_reducible exact HO.out | with_reducible apply Own.later | with_reducible apply Own.alloc | with_reducible apply Own.drew | with_reducible apply Own.drewN)) rfl
    have hF := Below.setCells (C := w.heap.size) (A := w.heap.size + 1) (u := w) (Nat.le_succ _) [fl p.x, fl p.y, fl p.z, fl p.m, .int .u8 (d % 4), .bool true] 0 x1.val (LaterW.below x1 (by repeat (first | with_reducible exact Below.refl _ _ | with_reducible exact HBEL.out | with_reducible assumption | with_reducible refine Below.setCell ?_ (by first | (dsimp only; omega) | (simp; try omega)) _ | with_reducible refine LaterW.below _ ?_ | with_reducible refine below_alloc ?_ _ | with_reducible refine below_drewN' ?_ _ | with_reducible refine Below.drew ?_ | with_reducible exact below_drewN _)))
    generalize x1.val.setCells (w.heap.size + 1) 0 [fl p.x, fl p.y, fl p.z, fl p.m, .int .u8 (d % 4), .bool true] = W9 at *
    refine ret_agg [fl p.x, fl p.y, fl p.z, fl p.m, .int .u8 (d % 4), .bool true] rfl rfl rfl (by kernel_rfl) (by kernel_rfl) (oF).cells (⟨congrArg _ HV.out, hF⟩)
theorem plainPoint_empty (p : Pl) {d : Int} (h0 : 0 ≤ d) (h3 : d ≤ 3) (w : World) : Calls Try.prog 54 #[vP p d false] w fun e w' => e = .returned (vGeom 1 d none 0 0 none 0 0) ∧ Below w.heap.size w w' := by
  have hcv : IntKind.i64.wrap d = d := by unfold IntKind.wrap; simp [IntKind.signed, IntKind.bits]; omega
  obtain ⟨px, py, pz, pm⟩ := p
  go_enter Try.func54, Try.ntmps54
  go_wp2_with (first | (go_at_call 91; (with_reducible refine (pointType_any ⟨px, py, pz, pm⟩ _ _ _).mono ?_); rintro e w1 ⟨rfl, hb⟩; (first | (obtain ⟨x1, rfl⟩ := LaterW.of2 hb) | (obtain ⟨x1, rfl⟩ := LaterW.of hb)); clear hb) | (go_at_call 92; (with_reducible refine (pointCoords_any ⟨px, py, pz, pm⟩ _ _ _).mono ?_); rintro e w1 ⟨rfl, hb⟩; (first | (obtain ⟨x1, rfl⟩ := LaterW.of2 hb) | (obtain ⟨x1, rfl⟩ := LaterW.of hb)); clear hb))
  refine ret_agg [.int .i64 1, .int .i64 d, .slice none 0 0, .slice none 0 0] rfl rfl rfl (by kernel_rfl) (by kernel_rfl) (by simp [CellsAt, go_sem]) ⟨rfl, ?_⟩
  exact (by repeat (first | with_reducible exact Below.refl _ _ | with_reducible exact HBEL.out | with_reducible assumption | with_reducible refine Below.setCell ?_ (by first | (dsimp only; omega) | (simp; try omega)) _ | with_reducible refine LaterW.below _ ?_ | with_reducible refine below_alloc ?_ _ | with_reducible refine below_drewN' ?_ _ | with_reducible refine Below.drew ?_ | with_reducible exact below_drewN _))
theorem own_setCells {base : Nat} {e : TypeId} {size : Nat} {v : Value} {n : Nat} {xs : List Value} {C : Nat} (hC : C < base) : ∀ {w : World} (_ : w.ownsRow base e size v n xs) (o : Nat) (vs : List Value), (w.setCells C o vs).ownsRow base e size v n xs
  | _, h, _, [] => h
  | w, h, o, u :: r => own_setCells hC (w := w.setCell ⟨C, o, none⟩ u) (own_setCell h hC u) (o + 1) r
theorem plainPoint_own (p : Pl) {d : Int} (h0 : 0 ≤ d) (h3 : d ≤ 3) (w : World) : Calls Try.prog 54 #[vP p d true] w fun e w' => ∃ a' c', e = .returned (vGeom 1 d a' (widthN d) c' none 0 0) ∧ w'.ownsRow w.heap.size 36 1 (.slice a' (widthN d) c') (widthN d) ((placeRow d p).map fl) ∧ Below w.heap.size w w' := by
  have hcv : IntKind.i64.wrap d = d := by unfold IntKind.wrap; simp [IntKind.signed, IntKind.bits]; omega
  obtain ⟨i0, hi0, hz0, hz1, hz2⟩ := info_parts infoFl
  obtain ⟨px, py, pz, pm⟩ := p
  obtain ⟨wd, hwd⟩ : ∃ wd, widthN d = wd := ⟨_, rfl⟩
  have hsum := width_sum h0 h3
  rw [hwd] at hsum ⊢
  have HSUM := Lib.hid hsum
  clear hsum hwd
  go_enter Try.func54, Try.ntmps54
  go_wp2_with ((go_at_call 91; (with_reducible refine (pointType_any ⟨px, py, pz, pm⟩ _ _ _).mono ?_); rintro e w1 ⟨rfl, hb⟩; (first | (obtain ⟨x1, rfl⟩ := LaterW.of2 hb) | (obtain ⟨x1, rfl⟩ := LaterW.of hb)); clear hb))
  rename LaterW (World.alloc _ _) => y1
  have hgw : w.heap.size + 2 ≤ y1.val.heap.size := by have := y1.ok.size; simp only [World.size_alloc] at this; omega
  obtain ⟨G, hG⟩ : ∃ G, G = y1.val.heap.size := ⟨_, rfl⟩
  have hby : Below w.heap.size w y1.val := (by repeat (first | with_reducible exact Below.refl _ _ | with_reducible exact HBEL.out | with_reducible assumption | with_reducible refine Below.setCell ?_ (by first | (dsimp only; omega) | (simp; try omega)) _ | with_reducible refine LaterW.below _ ?_ | with_reducible refine below_alloc ?_ _ | with_reducible refine below_drewN' ?_ _ | with_reducible refine Below.drew ?_ | with_reducible exact below_drewN _))
  have p1 : Own y1.val w.heap.size [fl px, fl py, fl pz, fl pm, .int .u8 d, .bool true] := (by repeat (first | (refine Own.new' _ rfl ?_; first | with_reducible rfl | (simp; done)) | with_reducible apply Own.later | with_reducible apply Own.alloc | with_reducible apply Own.drew | with_reducible apply Own.drewN | with_reducible apply Own.other))
  have p2 : Own y1.val (w.heap.size + 1) [.int .i64 0, .int .i64 0, .slice none 0 0, .slice none 0 0] := (by repeat (first | (refine Own.new' _ rfl ?_; first | with_reducible rfl | (simp; done)) | with_reducible apply Own.later | with_reducible apply Own.alloc | with_reducible apply Own.drew | with_reducible apply Own.drewN | with_reducible apply Own.other))
  have hls : LS w (y1.val.alloc (.cells #[.int .i64 1, .int .i64 d, .slice none 0 0, .slice none 0 0] 25)) G 1 d [fl px, fl py, fl pz, fl pm, .int .u8 d, .bool true] (.slice none 0 0) 0 [] :=
    ⟨by rw [hG]; exact Own.new' _ rfl rfl, p1.alloc _, p2.alloc _, World.ownsRow_nil _ _ _ _, hby.alloc hby.size _, by rw [hG]; exact hgw⟩
  rw [← hG]
  generalize y1.val.alloc (.cells #[.int .i64 1, .int .i64 d, .slice none 0 0, .slice none 0 0] 25) = W0 at *
  clear hby p1 p2 hG hgw
  refine (pointCoords_any ⟨px, py, pz, pm⟩ d true _).mono ?_
  rintro e w2 ⟨rfl, hb⟩
  have hls2 := hls.below hb
  have HLS2 := Lib.hid hls2
  have g2 := hls2.g.cells.2.2.1
  have lt2 := hls2.g.lt
  clear hls2 hls hb
  go_wp2_with (at_builtin; refine wpList_append_own _ rfl (.tmp 19) (.tmp 26) 22 rfl (G + 1) 36 i0 (fl 0) 1 8 Try.underlying22 hi0 hz0 hz1 hz2 rfl (by decide) _ _ _ rfl (own_below HLS2.out.row (by repeat (first | with_reducible exact Below.refl _ _ | with_reducible exact HBEL.out | with_reducible assumption | with_reducible refine Below.setCell ?_ (by first | (dsimp only; omega) | (simp; try omega)) _ | with_reducible refine LaterW.below _ ?_ | with_reducible refine below_alloc ?_ _ | with_reducible refine below_drewN' ?_ _ | with_reducible refine Below.drew ?_ | with_reducible exact below_drewN _))) ⟨w2.heap.size + 1, 0, none⟩ 2 2 [fl px, fl py] rfl rfl ?c1 ?c2 ?c3 ?c4 ?c5 ?_)
  case c1 =>
    intro j u hj
    match j, hj with
    | 0, hj => simp at hj; subst hj; simp [Addr.add]
    | 1, hj => simp at hj; subst hj; simp [Addr.add]
  case c2 => intro u hu; simp at hu; rcases hu with rfl | rfl <;> rfl
  case c3 => unfold maxLen; omega
  case c4 => omega
  case c5 => simp; omega
  intro v' w' hown hgrow _
  have st := LS.step (HLS2.out.below (by repeat (first | with_reducible exact Below.refl _ _ | with_reducible exact HBEL.out | with_reducible assumption | with_reducible refine Below.setCell ?_ (by first | (dsimp only; omega) | (simp; try omega)) _ | with_reducible refine LaterW.below _ ?_ | with_reducible refine below_alloc ?_ _ | with_reducible refine below_drewN' ?_ _ | with_reducible refine Below.drew ?_ | with_reducible exact below_drewN _))) hgrow hown
  have bc := BlockIs.step (v1 := v') (C := w2.heap.size) (arr := #[fl px, fl py, fl pz, fl pm, .int .u8 d]) (t := 80) (BlockIs.below (alloc_at _ _) (by repeat (first | with_reducible exact Below.refl _ _ | with_reducible exact HBEL.out | with_reducible assumption | with_reducible refine Below.setCell ?_ (by first | (dsimp only; omega) | (simp; try omega)) _ | with_reducible refine LaterW.below _ ?_ | with_reducible refine below_alloc ?_ _ | with_reducible refine below_drewN' ?_ _ | with_reducible refine Below.drew ?_ | with_reducible exact below_drewN _))) (HLS2.out.below (by repeat (first | with_reducible exact Below.refl _ _ | with_reducible exact HBEL.out | with_reducible assumption | with_reducible refine Below.setCell ?_ (by first | (dsimp only; omega) | (simp; try omega)) _ | with_reducible refine LaterW.below _ ?_ | with_reducible refine below_alloc ?_ _ | with_reducible refine below_drewN' ?_ _ | with_reducible refine Below.drew ?_ | with_reducible exact below_drewN _))) hgrow (by decide) lt2
  obtain ⟨g1, cap1, cur1, rfl, _⟩ := hown.2.resolve_left (by rintro ⟨_, h⟩; omega)
  have fz := st.1.free 2
  obtain ⟨cz0, cz1, cz, cz3, _⟩ := st.1.cells
  have kc2 := bc.1.cell (i := 2) (by simp)
  have kc3 := bc.1.cell (i := 3) (by simp)
  have kc4 := bc.1.cell (i := 4) (by simp)
  have ltG := st.1.lt
  have HST := Lib.hid st.2
  have HBC := Lib.hid bc.2
  clear st bc hown hgrow HLS2
  go_wp2_with fail
  generalize w'.setCell ⟨G, 2, none⟩ (.slice (some ⟨g1, 0, none⟩) 2 cap1) = W4 at *
  clear fz cz cz0 cz1 cz3 kc2 kc3 kc4 ltG g2
  refine (is3D_any h0 h3 rfl _).mono ?_
  rintro e w5 ⟨rfl, hb⟩
  have HL5 := Lib.hid (HST.out.below hb)
  have HC5 := Lib.hid (HBC.out.below hb)
  clear HST HBC hb
  cases h3d : has3 d
  · have H3 := Lib.hid h3d
    clear h3d
    have k4 := HC5.out.cell (i := 4) (by simp)
    go_wp2_with fail
    refine (isMeasured_any h0 h3 rfl _).mono ?_
    rintro e w7 ⟨rfl, hb⟩
    have HL7 := Lib.hid (HL5.out.below hb)
    have HC7 := Lib.hid (HC5.out.below hb)
    clear HL5 HC5 hb
    have g2 := HL7.out.g.cells.2.2.1
    have lt7 := HL7.out.g.lt
    cases hM : hasM d
    · have HM := Lib.hid hM
      clear hM
      obtain ⟨cz0, cz1, cz, cz3, _⟩ := HL7.out.g.cells
      go_wp2_with (refine wpList_store_mid rfl 25 (.tmp 2) (.tmp 49) rfl (w.heap.size + 1) 0 _ rfl rfl (Own.there HL7.out.res (Nat.le_refl 4)) (by kernel_rfl) (by kernel_rfl) ?_)
      obtain rfl : wd = 2 := by have h := HSUM.out; rw [H3.out, HM.out] at h; simpa using h
      have hrow : (w7).ownsRow (G + 1) 36 1 (.slice (some ⟨g1, 0, none⟩) 2 cap1) 2 ((placeRow d ⟨px, py, pz, pm⟩).map fl) := by have h := HL7.out.row; simpa [placeRow, H3.out, HM.out] using h
      have hGw := HL7.out.hG
      have oR := Own.sets (vs := [.int .i64 1, .int .i64 d, .slice (some ⟨g1, 0, none⟩) 2 cap1, .slice none 0 0]) HL7.out.res rfl
      have hR := ownsRow_mono (c := w.heap.size) (own_setCells (C := w.heap.size + 1) (by omega) hrow 0 [.int .i64 1, .int .i64 d, .slice (some ⟨g1, 0, none⟩) 2 cap1, .slice none 0 0]) (by omega)
      have hbl := Below.setCells (Nat.le_succ _) [.int .i64 1, .int .i64 d, .slice (some ⟨g1, 0, none⟩) 2 cap1, .slice none 0 0] 0 _ HL7.out.bel
      generalize (w7).setCells (w.heap.size + 1) 0 [.int .i64 1, .int .i64 d, .slice (some ⟨g1, 0, none⟩) 2 cap1, .slice none 0 0] = W9 at *
      refine ret_agg [.int .i64 1, .int .i64 d, .slice (some ⟨g1, 0, none⟩) 2 cap1, .slice none 0 0] rfl rfl rfl (by kernel_rfl) (by kernel_rfl) (oR).cells (⟨_, _, rfl, hR, hbl⟩)
    · have HM := Lib.hid hM
      clear hM
      have k3 := HC7.out.cell (i := 3) (by simp)
      have ltC := HC7.out.lt
      go_wp2_with (at_builtin; refine wpList_append_own _ rfl (.tmp 43) (.tmp 46) 22 rfl (G + 1) 36 i0 (fl 0) 1 8 Try.underlying22 hi0 hz0 hz1 hz2 rfl (by decide) _ _ _ rfl (own_below HL7.out.row (by repeat (first | with_reducible exact Below.refl _ _ | with_reducible exact HBEL.out | with_reducible assumption | with_reducible refine Below.setCell ?_ (by first | (dsimp only; omega) | (simp; try omega)) _ | with_reducible refine LaterW.below _ ?_ | with_reducible refine below_alloc ?_ _ | with_reducible refine below_drewN' ?_ _ | with_reducible refine Below.drew ?_ | with_reducible exact below_drewN _))) ⟨w7.heap.size, 0, none⟩ 1 1 [fl pm] rfl rfl ?c1 ?c2 ?c3 ?c4 ?c5 ?_)
      case c1 =>
        intro j u hj
        match j, hj with
        | 0, hj => simp at hj; subst hj; simp [Addr.add]
      case c2 => intro u hu; simp at hu; subst hu; rfl
      case c3 => unfold maxLen; omega
      case c4 => omega
      case c5 => simp; omega
      intro v' w' hown hgrow _
      have st := LS.step (HL7.out.below (by repeat (first | with_reducible exact Below.refl _ _ | with_reducible exact HBEL.out | with_reducible assumption | with_reducible refine Below.setCell ?_ (by first | (dsimp only; omega) | (simp; try omega)) _ | with_reducible refine LaterW.below _ ?_ | with_reducible refine below_alloc ?_ _ | with_reducible refine below_drewN' ?_ _ | with_reducible refine Below.drew ?_ | with_reducible exact below_drewN _))) hgrow hown
      have bc := BlockIs.step (v1 := v') (BlockIs.below HC7.out (by repeat (first | with_reducible exact Below.refl _ _ | with_reducible exact HBEL.out | with_reducible assumption | with_reducible refine Below.setCell ?_ (by first | (dsimp only; omega) | (simp; try omega)) _ | with_reducible refine LaterW.below _ ?_ | with_reducible refine below_alloc ?_ _ | with_reducible refine below_drewN' ?_ _ | with_reducible refine Below.drew ?_ | with_reducible exact below_drewN _))) (HL7.out.below (by repeat (first | with_reducible exact Below.refl _ _ | with_reducible exact HBEL.out | with_reducible assumption | with_reducible refine Below.setCell ?_ (by first | (dsimp only; omega) | (simp; try omega)) _ | with_reducible refine LaterW.below _ ?_ | with_reducible refine below_alloc ?_ _ | with_reducible refine below_drewN' ?_ _ | with_reducible refine Below.drew ?_ | with_reducible exact below_drewN _))) hgrow (by decide) lt2
      obtain ⟨g1, cap1, cur1, rfl, _⟩ := hown.2.resolve_left (by rintro ⟨_, h⟩; omega)
      have fz := st.1.free 2
      obtain ⟨cz0, cz1, cz, cz3, _⟩ := st.1.cells
      have kc2 := bc.1.cell (i := 2) (by simp)
      have kc3 := bc.1.cell (i := 3) (by simp)
      have kc4 := bc.1.cell (i := 4) (by simp)
      have ltG := st.1.lt
      have HST := Lib.hid st.2
      have HBC := Lib.hid bc.2
      clear st bc hown hgrow HL7
      go_wp2_with (refine wpList_store_mid rfl 25 (.tmp 2) (.tmp 49) rfl (w.heap.size + 1) 0 _ rfl rfl (Own.there HST.out.res (Nat.le_refl 4)) (by kernel_rfl) (by kernel_rfl) ?_)
      obtain rfl : wd = 3 := by have h := HSUM.out; rw [H3.out, HM.out] at h; simpa using h
      have hrow : (w'.setCell ⟨G, 2, none⟩ (.slice (some ⟨g1, 0, none⟩) 3 cap1)).ownsRow (G + 1) 36 1 (.slice (some ⟨g1, 0, none⟩) 3 cap1) 3 ((placeRow d ⟨px, py, pz, pm⟩).map fl) := by have h := HST.out.row; simpa [placeRow, H3.out, HM.out] using h
      have hGw := HST.out.hG
      have oR := Own.sets (vs := [.int .i64 1, .int .i64 d, .slice (some ⟨g1, 0, none⟩) 3 cap1, .slice none 0 0]) HST.out.res rfl
      have hR := ownsRow_mono (c := w.heap.size) (own_setCells (C := w.heap.size + 1) (by omega) hrow 0 [.int .i64 1, .int .i64 d, .slice (some ⟨g1, 0, none⟩) 3 cap1, .slice none 0 0]) (by omega)
      have hbl := Below.setCells (Nat.le_succ _) [.int .i64 1, .int .i64 d, .slice (some ⟨g1, 0, none⟩) 3 cap1, .slice none 0 0] 0 _ HST.out.bel
      generalize (w'.setCell ⟨G, 2, none⟩ (.slice (some ⟨g1, 0, none⟩) 3 cap1)).setCells (w.heap.size + 1) 0 [.int .i64 1, .int .i64 d, .slice (some ⟨g1, 0, none⟩) 3 cap1, .slice none 0 0] = W9 at *
      refine ret_agg [.int .i64 1, .int .i64 d, .slice (some ⟨g1, 0, none⟩) 3 cap1, .slice none 0 0] rfl rfl rfl (by kernel_rfl) (by kernel_rfl) (oR).cells (⟨_, _, rfl, hR, hbl⟩)
  · have H3 := Lib.hid h3d
    clear h3d
    have g2 := HL5.out.g.cells.2.2.1
    have lt5 := HL5.out.g.lt
    have k2 := HC5.out.cell (i := 2) (by simp)
    have ltC := HC5.out.lt
    go_wp2_with (at_builtin; refine wpList_append_own _ rfl (.tmp 33) (.tmp 36) 22 rfl (G + 1) 36 i0 (fl 0) 1 8 Try.underlying22 hi0 hz0 hz1 hz2 rfl (by decide) _ _ _ rfl (own_below HL5.out.row (by repeat (first | with_reducible exact Below.refl _ _ | with_reducible exact HBEL.out | with_reducible assumption | with_reducible refine Below.setCell ?_ (by first | (dsimp only; omega) | (simp; try omega)) _ | with_reducible refine LaterW.below _ ?_ | with_reducible refine below_alloc ?_ _ | with_reducible refine below_drewN' ?_ _ | with_reducible refine Below.drew ?_ | with_reducible exact below_drewN _))) ⟨w5.heap.size, 0, none⟩ 1 1 [fl pz] rfl rfl ?c1 ?c2 ?c3 ?c4 ?c5 ?_)
    case c1 =>
      intro j u hj
      match j, hj with
      | 0, hj => simp at hj; subst hj; simp [Addr.add]
    case c2 => intro u hu; simp at hu; subst hu; rfl
    case c3 => unfold maxLen; omega
    case c4 => omega
    case c5 => simp; omega
    intro v' w' hown hgrow _
    have st := LS.step (HL5.out.below (by repeat (first | with_reducible exact Below.refl _ _ | with_reducible exact HBEL.out | with_reducible assumption | with_reducible refine Below.setCell ?_ (by first | (dsimp only; omega) | (simp; try omega)) _ | with_reducible refine LaterW.below _ ?_ | with_reducible refine below_alloc ?_ _ | with_reducible refine below_drewN' ?_ _ | with_reducible refine Below.drew ?_ | with_reducible exact below_drewN _))) hgrow hown
    have bc := BlockIs.step (v1 := v') (BlockIs.below HC5.out (by repeat (first | with_reducible exact Below.refl _ _ | with_reducible exact HBEL.out | with_reducible assumption | with_reducible refine Below.setCell ?_ (by first | (dsimp only; omega) | (simp; try omega)) _ | with_reducible refine LaterW.below _ ?_ | with_reducible refine below_alloc ?_ _ | with_reducible refine below_drewN' ?_ _ | with_reducible refine Below.drew ?_ | with_reducible exact below_drewN _))) (HL5.out.below (by repeat (first | with_reducible exact Below.refl _ _ | with_reducible exact HBEL.out | with_reducible assumption | with_reducible refine Below.setCell ?_ (by first | (dsimp only; omega) | (simp; try omega)) _ | with_reducible refine LaterW.below _ ?_ | with_reducible refine below_alloc ?_ _ | with_reducible refine below_drewN' ?_ _ | with_reducible refine Below.drew ?_ | with_reducible exact below_drewN _))) hgrow (by decide) lt2
    obtain ⟨g1, cap1, cur1, rfl, _⟩ := hown.2.resolve_left (by rintro ⟨_, h⟩; omega)
    have fz := st.1.free 2
    obtain ⟨cz0, cz1, cz, cz3, _⟩ := st.1.cells
    have kc2 := bc.1.cell (i := 2) (by simp)
    have kc3 := bc.1.cell (i := 3) (by simp)
    have kc4 := bc.1.cell (i := 4) (by simp)
    have ltG := st.1.lt
    have HST := Lib.hid st.2
    have HBC := Lib.hid bc.2
    clear st bc hown hgrow HL5
    go_wp2_with fail
    generalize w'.setCell ⟨G, 2, none⟩ (.slice (some ⟨g1, 0, none⟩) 3 cap1) = W6 at *
    clear fz cz cz0 cz1 cz3 kc2 kc3 kc4 ltG g2 k2 ltC lt5 HC5
    refine (isMeasured_any h0 h3 rfl _).mono ?_
    rintro e w7 ⟨rfl, hb⟩
    have HL7 := Lib.hid (HST.out.below hb)
    have HC7 := Lib.hid (HBC.out.below hb)
    clear HST HBC hb
    have g2 := HL7.out.g.cells.2.2.1
    have lt7 := HL7.out.g.lt
    cases hM : hasM d
    · have HM := Lib.hid hM
      clear hM
      obtain ⟨cz0, cz1, cz, cz3, _⟩ := HL7.out.g.cells
      go_wp2_with (refine wpList_store_mid rfl 25 (.tmp 2) (.tmp 49) rfl (w.heap.size + 1) 0 _ rfl rfl (Own.there HL7.out.res (Nat.le_refl 4)) (by kernel_rfl) (by kernel_rfl) ?_)
      obtain rfl : wd = 3 := by have h := HSUM.out; rw [H3.out, HM.out] at h; simpa using h
      have hrow : (w7).ownsRow (G + 1) 36 1 (.slice (some ⟨g1, 0, none⟩) 3 cap1) 3 ((placeRow d ⟨px, py, pz, pm⟩).map fl) := by have h := HL7.out.row; simpa [placeRow, H3.out, HM.out] using h
      have hGw := HL7.out.hG
      have oR := Own.sets (vs := [.int .i64 1, .int .i64 d, .slice (some ⟨g1, 0, none⟩) 3 cap1, .slice none 0 0]) HL7.out.res rfl
      have hR := ownsRow_mono (c := w.heap.size) (own_setCells (C := w.heap.size + 1) (by omega) hrow 0 [.int .i64 1, .int .i64 d, .slice (some ⟨g1, 0, none⟩) 3 cap1, .slice none 0 0]) (by omega)
      have hbl := Below.setCells (Nat.le_succ _) [.int .i64 1, .int .i64 d, .slice (some ⟨g1, 0, none⟩) 3 cap1, .slice none 0 0] 0 _ HL7.out.bel
      generalize (w7).setCells (w.heap.size + 1) 0 [.int .i64 1, .int .i64 d, .slice (some ⟨g1, 0, none⟩) 3 cap1, .slice none 0 0] = W9 at *
      refine ret_agg [.int .i64 1, .int .i64 d, .slice (some ⟨g1, 0, none⟩) 3 cap1, .slice none 0 0] rfl rfl rfl (by kernel_rfl) (by kernel_rfl) (oR).cells (⟨_, _, rfl, hR, hbl⟩)
    · have HM := Lib.hid hM
      clear hM
      have k3 := HC7.out.cell (i := 3) (by simp)
      have ltC := HC7.out.lt
      go_wp2_with (at_builtin; refine wpList_append_own _ rfl (.tmp 43) (.tmp 46) 22 rfl (G + 1) 36 i0 (fl 0) 1 8 Try.underlying22 hi0 hz0 hz1 hz2 rfl (by decide) _ _ _ rfl (own_below HL7.out.row (by repeat (first | with_reducible exact Below.refl _ _ | with_reducible exact HBEL.out | with_reducible assumption | with_reducible refine Below.setCell ?_ (by first | (dsimp only; omega) | (simp; try omega)) _ | with_reducible refine LaterW.below _ ?_ | with_reducible refine below_alloc ?_ _ | with_reducible refine below_drewN' ?_ _ | with_reducible refine Below.drew ?_ | with_reducible exact below_drewN _))) ⟨w7.heap.size, 0, none⟩ 1 1 [fl pm] rfl rfl ?c1 ?c2 ?c3 ?c4 ?c5 ?_)
      case c1 =>
        intro j u hj
        match j, hj with
        | 0, hj => simp at hj; subst hj; simp [Addr.add]
      case c2 => intro u hu; simp at hu; subst hu; rfl
      case c3 => unfold maxLen; omega
      case c4 => omega
      case c5 => simp; omega
      intro v' w' hown hgrow _
      have st := LS.step (HL7.out.below (by repeat (first | with_reducible exact Below.refl _ _ | with_reducible exact HBEL.out | with_reducible assumption | with_reducible refine Below.setCell ?_ (by first | (dsimp only; omega) | (simp; try omega)) _ | with_reducible refine LaterW.below _ ?_ | with_reducible refine below_alloc ?_ _ | with_reducible refine below_drewN' ?_ _ | with_reducible refine Below.drew ?_ | with_reducible exact below_drewN _))) hgrow hown
      have bc := BlockIs.step (v1 := v') (BlockIs.below HC7.out (by repeat (first | with_reducible exact Below.refl _ _ | with_reducible exact HBEL.out | with_reducible assumption | with_reducible refine Below.setCell ?_ (by first | (dsimp only; omega) | (simp; try omega)) _ | with_reducible refine LaterW.below _ ?_ | with_reducible refine below_alloc ?_ _ | with_reducible refine below_drewN' ?_ _ | with_reducible refine Below.drew ?_ | with_reducible exact below_drewN _))) (HL7.out.below (by repeat (first | with_reducible exact Below.refl _ _ | with_reducible exact HBEL.out | with_reducible assumption | with_reducible refine Below.setCell ?_ (by first | (dsimp only; omega) | (simp; try omega)) _ | with_reducible refine LaterW.below _ ?_ | with_reducible refine below_alloc ?_ _ | with_reducible refine below_drewN' ?_ _ | with_reducible refine Below.drew ?_ | with_reducible exact below_drewN _))) hgrow (by decide) lt2
      obtain ⟨g1, cap1, cur1, rfl, _⟩ := hown.2.resolve_left (by rintro ⟨_, h⟩; omega)
      have fz := st.1.free 2
      obtain ⟨cz0, cz1, cz, cz3, _⟩ := st.1.cells
      have kc2 := bc.1.cell (i := 2) (by simp)
      have kc3 := bc.1.cell (i := 3) (by simp)
      have kc4 := bc.1.cell (i := 4) (by simp)
      have ltG := st.1.lt
      have HST := Lib.hid st.2
      have HBC := Lib.hid bc.2
      clear st bc hown hgrow HL7
      go_wp2_with (refine wpList_store_mid rfl 25 (.tmp 2) (.tmp 49) rfl (w.heap.size + 1) 0 _ rfl rfl (Own.there HST.out.res (Nat.le_refl 4)) (by kernel_rfl) (by kernel_rfl) ?_)
      obtain rfl : wd = 4 := by have h := HSUM.out; rw [H3.out, HM.out] at h; simpa using h
      have hrow : (w'.setCell ⟨G, 2, none⟩ (.slice (some ⟨g1, 0, none⟩) 4 cap1)).ownsRow (G + 1) 36 1 (.slice (some ⟨g1, 0, none⟩) 4 cap1) 4 ((placeRow d ⟨px, py, pz, pm⟩).map fl) := by have h := HST.out.row; simpa [placeRow, H3.out, HM.out] using h
      have hGw := HST.out.hG
      have oR := Own.sets (vs := [.int .i64 1, .int .i64 d, .slice (some ⟨g1, 0, none⟩) 4 cap1, .slice none 0 0]) HST.out.res rfl
      have hR := ownsRow_mono (c := w.heap.size) (own_setCells (C := w.heap.size + 1) (by omega) hrow 0 [.int .i64 1, .int .i64 d, .slice (some ⟨g1, 0, none⟩) 4 cap1, .slice none 0 0]) (by omega)
      have hbl := Below.setCells (Nat.le_succ _) [.int .i64 1, .int .i64 d, .slice (some ⟨g1, 0, none⟩) 4 cap1, .slice none 0 0] 0 _ HST.out.bel
      generalize (w'.setCell ⟨G, 2, none⟩ (.slice (some ⟨g1, 0, none⟩) 4 cap1)).setCells (w.heap.size + 1) 0 [.int .i64 1, .int .i64 d, .slice (some ⟨g1, 0, none⟩) 4 cap1, .slice none 0 0] = W9 at *
      refine ret_agg [.int .i64 1, .int .i64 d, .slice (some ⟨g1, 0, none⟩) 4 cap1, .slice none 0 0] rfl rfl rfl (by kernel_rfl) (by kernel_rfl) (oR).cells (⟨_, _, rfl, hR, hbl⟩)
theorem plainPoint_full (p : Pl) {d : Int} (h0 : 0 ≤ d) (h3 : d ≤ 3) (w : World) : Calls Try.prog 54 #[vP p d true] w fun e w' => ∃ a' c', e = .returned (vGeom 1 d a' (widthN d) c' none 0 0) ∧ NumsIs w' w'.heap.size a' (placeRow d p) ∧ HeadOk a' (widthN d) c' ∧ Fresh a' w.heap.size ∧ Below w.heap.size w w' := by
  refine (plainPoint_own p h0 h3 w).mono ?_
  rintro e w' ⟨a', c', rfl, hr, hb⟩
  obtain ⟨a2, c2, e2, q1, q2, q3⟩ := numsOf_own hr
  cases e2
  exact ⟨a', c', rfl, q1, q2, q3, hb⟩
end Go.Proofs.Ytihkmkcjjlmkhaa
