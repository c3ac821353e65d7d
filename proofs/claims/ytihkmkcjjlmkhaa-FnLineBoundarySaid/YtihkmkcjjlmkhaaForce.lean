/- spec.ForceCoordinatesType of a leaf. No condition. -/
import Derived.Test.YtihkmkcjjlmkhaaNums
import Derived.Test.YtihkmkcjjlmkhaaFacts
namespace Go.Proofs.Ytihkmkcjjlmkhaa
set_option maxRecDepth 100000
open Go.ChangeShapes Go.WideShapes Go.ChangeAt Go.RowKit Go.Deep


/-- A line of its own memory. -/
def LineOf (k d : Int) (m : Nat) (xs : List Nat) (w : World) (v : Value) : Prop := ∃ a c, v = vGeom k d a m c none 0 0 ∧ NumsIs w w.heap.size a xs ∧ HeadOk a m c
section
variable {k d : Int} {m : Nat} {xs : List Nat} {w : World} {v : Value}
theorem LineOf.eq (h : LineOf k d m xs w v) : v = vGeom k d (Exists.choose h) m (Exists.choose (Exists.choose_spec h)) none 0 0 := (Exists.choose_spec (Exists.choose_spec h)).1
theorem LineOf.nums (h : LineOf k d m xs w v) : NumsIs w w.heap.size (Exists.choose h) xs := (Exists.choose_spec (Exists.choose_spec h)).2.1
theorem LineOf.head (h : LineOf k d m xs w v) : HeadOk (Exists.choose h) m (Exists.choose (Exists.choose_spec h)) := (Exists.choose_spec (Exists.choose_spec h)).2.2
end
theorem stays_line {C : World → Prop} (k d : Int) (m : Nat) (xs : List Nat) : Stays C (fun w _ _ v => LineOf k d m xs w v) :=
  fun _ _ _ _ _ _ hb _ ⟨a, c, h1, h2, h3⟩ => ⟨a, c, h1, (h2.below hb (Nat.le_refl _)).mono hb.size, h3⟩
theorem has_small {x : Int} (h0 : -1000 ≤ x) (h1 : x ≤ 1000) : IntKind.i64.has x := by
  have e1 : IntKind.i64.min = -9223372036854775808 := by decide
  have e2 : IntKind.i64.max = 9223372036854775807 := by decide
  unfold IntKind.has
  omega
theorem leafIs {w : World} {B : Nat} {k d : Int} {a : Option Addr} {m c : Nat} {xs : List Nat} (n : Nat) (hk : IntKind.i64.has k) (hd : IntKind.i64.has d) (hx : ∀ x ∈ xs, x < 2 ^ 64) (hl : xs.length = m) (hm : m ≤ 4000) (ha : NumsIs w B a xs) (hh : HeadOk a m c) :
    GeomIs w B (n + 1) (.mk k d xs []) [.int .i64 k, .int .i64 d, .slice a m c, .slice none 0 0] :=
  ⟨hk, hd, hx, by simp only [GT.nums]; omega, by simp [GT.kids], a, none, c, 0, by simp [GT.kind, GT.dim, GT.nums, GT.kids, hl], ha, by simp only [GT.nums]; rw [hl]; exact hh, ⟨Nat.le_refl _, fun _ => rfl⟩, .inl rfl⟩
theorem force_leaf {k d e : Int} {a : Option Addr} {n ca B : Nat} {xs : List Nat} {w : World} (ha : NumsIs w B a xs) (hB : B ≤ w.heap.size) (hn : xs.length = n) (hl : n ≤ 4000) (h0 : 0 ≤ d) (h3 : d ≤ 3) (e0 : 0 ≤ e) (e3 : e ≤ 3) :
    Calls Try.prog 53 #[vGeom k d a n ca none 0 0, .int .i64 e] w fun r w' => ∃ a' c', r = .returned (vGeom k e a' (n / widthN d * widthN e) c' none 0 0) ∧ NumsIs w' w'.heap.size a' ((placesOf xs d).flatMap (placeRow e)) ∧ HeadOk a' (n / widthN d * widthN e) c' ∧ Fresh a' w.heap.size ∧ Below w.heap.size w w' := by
  have HA := Lib.hid ha
  obtain ⟨ps, hps⟩ : ∃ ps, placesOf xs d = ps := ⟨_, rfl⟩
  have hpn : ps.length = n / widthN d := by rw [← hps]; simp [placesOf, hn]
  obtain ⟨q, hq⟩ : ∃ q, n / widthN d = q := ⟨_, rfl⟩
  have hqn : q ≤ n := by rw [← hq]; exact Nat.div_le_self _ _
  have HP := Lib.hid hps
  rw [hq] at hpn ⊢
  rw [hps]
  clear ha hps hq
  go_enter Try.func53, Try.ntmps53
  go_wp2_with fail
  have hbel0 : Below w.heap.size w (((w.alloc (.cells #[.int .i64 k, .int .i64 d, .slice a n ca, .slice none 0 0] 25)).alloc (.cells #[.int .i64 0, .int .i64 0, .slice none 0 0, .slice none 0 0] 25)).alloc (.cells #[.int .i64 k, .int .i64 e, .slice none 0 0, .slice none 0 0] 25)) := (by repeat (first | with_reducible exact Below.refl _ _ | with_reducible exact HBEL.out | with_reducible assumption | with_reducible refine Below.setCell ?_ (by first | (dsimp only; omega) | (simp; try omega)) _ | with_reducible refine LaterW.below _ ?_ | with_reducible refine below_alloc ?_ _ | with_reducible refine below_drewN' ?_ _ | with_reducible refine Below.drew ?_ | with_reducible exact below_drewN _))
  refine (places_any (HA.out.below hbel0 hB) (Nat.le_trans hB hbel0.size) hn hl h0 h3).mono ?_
  rw [HP.out]
  rintro r w1 ⟨v, rfl, hown, hb⟩
  obtain ⟨a1, c1, rfl, hpl⟩ := plAt_own hown
  obtain ⟨x1, rfl⟩ := LaterW.of hb
  have o2 : Own x1.val w.heap.size [.int .i64 k, .int .i64 d, .slice a n ca, .slice none 0 0] := (by repeat (first | (refine Own.new' _ rfl ?_; first | with_reducible rfl | (simp; done)) | with_reducible apply Own.later | with_reducible apply Own.alloc | with_reducible apply Own.drew | with_reducible apply Own.drewN | with_reducible apply Own.other))
  have o4 : Own x1.val (w.heap.size + 1) [.int .i64 0, .int .i64 0, .slice none 0 0, .slice none 0 0] := (by repeat (first | (refine Own.new' _ rfl ?_; first | with_reducible rfl | (simp; done)) | with_reducible apply Own.later | with_reducible apply Own.alloc | with_reducible apply Own.drew | with_reducible apply Own.drewN | with_reducible apply Own.other))
  have o5 : Own x1.val (w.heap.size + 1 + 1) [.int .i64 k, .int .i64 e, .slice none 0 0, .slice none 0 0] := (by repeat (first | (refine Own.new' _ rfl ?_; first | with_reducible rfl | (simp; done)) | with_reducible apply Own.later | with_reducible apply Own.alloc | with_reducible apply Own.drew | with_reducible apply Own.drewN | with_reducible apply Own.other))
  have hbel : Below w.heap.size w x1.val := (by repeat (first | with_reducible exact Below.refl _ _ | with_reducible exact HBEL.out | with_reducible assumption | with_reducible refine Below.setCell ?_ (by first | (dsimp only; omega) | (simp; try omega)) _ | with_reducible refine LaterW.below _ ?_ | with_reducible refine below_alloc ?_ _ | with_reducible refine below_drewN' ?_ _ | with_reducible refine Below.drew ?_ | with_reducible exact below_drewN _))
  have HPL := Lib.hid hpl
  have H2 := Lib.hid o2
  have H4 := Lib.hid o4
  have H5 := Lib.hid o5
  have HB := Lib.hid hbel
  clear hb hown hbel0 o2 o4 o5 hbel hpl
  generalize x1.val = W at *
  clear x1
  go_wp2_with fail
  refine (nums_any e0 e3 HPL.out (Nat.le_refl _) hpn (by omega)).mono ?_
  rintro r w2 ⟨v, rfl, hown, hb⟩
  obtain ⟨a2, c2, rfl, hnum, hhead, hbase⟩ := numsOf_own hown
  have o2 := H2.out.below hb H2.out.lt
  have o4 := H4.out.below hb H4.out.lt
  have o5 := H5.out.below hb H5.out.lt
  have hbel := HB.out.trans (Below.mono hb HB.out.size)
  obtain ⟨b0, b1, b2, b3, _⟩ := o2.cells
  obtain ⟨d0, d1, d2, d3, _⟩ := o5.cells
  have fz := o5.free 2
  have lt5 := o5.lt
  have lt2 := o2.lt
  have hW5 := H5.out.lt
  have HN := Lib.hid hnum
  have HH := Lib.hid hhead
  have HF := Lib.hid hbase
  have HO4 := Lib.hid o4
  have HO5 := Lib.hid o5
  have HB2 := Lib.hid hbel
  clear hown hb hnum hhead hbase o2 o4 o5 hbel H2 H4 H5 HB HPL
  go_wp2_with fail
  have s5 : Own (w2.setCell ⟨w.heap.size + 1 + 1, 2, none⟩ (.slice a2 (q * widthN e) c2)) (w.heap.size + 1 + 1) [.int .i64 k, .int .i64 e, .slice a2 (q * widthN e) c2, .slice none 0 0] := HO5.out.set 2 (by simp) _
  have s4 : Own (w2.setCell ⟨w.heap.size + 1 + 1, 2, none⟩ (.slice a2 (q * widthN e) c2)) (w.heap.size + 1) [.int .i64 0, .int .i64 0, .slice none 0 0, .slice none 0 0] := HO4.out.other (by simp) _
  have s3 : NumsIs (w2.setCell ⟨w.heap.size + 1 + 1, 2, none⟩ (.slice a2 (q * widthN e) c2)) (w2.setCell ⟨w.heap.size + 1 + 1, 2, none⟩ (.slice a2 (q * widthN e) c2)).heap.size a2 (ps.flatMap (placeRow e)) := by
    rw [World.size_setCell]
    exact NumsIs.setCell HN.out (fun p hp => by have := HF.out p hp; show w.heap.size + 1 + 1 < p.block; omega) _
  have s2 : Below w.heap.size w (w2.setCell ⟨w.heap.size + 1 + 1, 2, none⟩ (.slice a2 (q * widthN e) c2)) := Below.setCell HB2.out (show w.heap.size ≤ w.heap.size + 1 + 1 by omega) _
  generalize (w2.setCell ⟨w.heap.size + 1 + 1, 2, none⟩ (.slice a2 (q * widthN e) c2)) = W3 at *
  go_loopw [23] (fun i wr => i = .int .i64 0 ∧ wr = W3) (fun _ _ => 0)
  case atStart => exact ⟨rfl, rfl⟩
  case round =>
    obtain ⟨rfl, rfl⟩ := hrel
    obtain ⟨t0, t1, t2, t3, _⟩ := s5.cells
    have lt5' := s5.lt
    have HS4 := Lib.hid s4
    have HS3 := Lib.hid s3
    have HS2 := Lib.hid s2
    clear s5 s4 s3 s2 b0 b1 b2 b3 d0 d1 d2 d3 fz HO4 HO5 HB2 HN
    go_wp2_with (refine wpList_store_mid rfl 25 (.tmp 4) (.tmp 36) rfl (w.heap.size + 1) 0 _ rfl rfl (Own.there HS4.out (Nat.le_refl 4)) (by kernel_rfl) (by kernel_rfl) ?_)
    have oR := Own.sets (vs := [.int .i64 k, .int .i64 e, .slice a2 (q * widthN e) c2, .slice none 0 0]) HS4.out rfl
    have hR : NumsIs (wr.setCells (w.heap.size + 1) 0 [.int .i64 k, .int .i64 e, .slice a2 (q * widthN e) c2, .slice none 0 0]) (wr.setCells (w.heap.size + 1) 0 [.int .i64 k, .int .i64 e, .slice a2 (q * widthN e) c2, .slice none 0 0]).heap.size a2 (ps.flatMap (placeRow e)) := by
      rw [size_setCells]
      exact NumsIs.setCells HS3.out (fun p hp => by have := HF.out p hp; omega) _ _
    have hbl := Below.setCells (Nat.le_succ _) [.int .i64 k, .int .i64 e, .slice a2 (q * widthN e) c2, .slice none 0 0] 0 _ HS2.out
    have hfr : Fresh a2 w.heap.size := fun p hp => by have := HF.out p hp; omega
    generalize wr.setCells (w.heap.size + 1) 0 [.int .i64 k, .int .i64 e, .slice a2 (q * widthN e) c2, .slice none 0 0] = W9 at *
    refine ret_agg [.int .i64 k, .int .i64 e, .slice a2 (q * widthN e) c2, .slice none 0 0] rfl rfl rfl (by kernel_rfl) (by kernel_rfl) (oR).cells (⟨a2, c2, rfl, hR, HH.out, hfr, hbl⟩)
theorem kDim_any {n : Nat} {g : GT} {k d e : Int} {a kk : Option Addr} {na ca nk ck B : Nat} {w : World} (K : Int) (hg : GeomIs w B n g [.int .i64 k, .int .i64 d, .slice a na ca, .slice kk nk ck]) (hB : B ≤ w.heap.size) {r : Bool} (hr : (decide (k = K) && smallB n g && decide (0 ≤ e) && decide (e ≤ 3)) = r) :
    Calls Try.prog 16 #[vGeom k d a na ca kk nk ck, .int .i64 K, .int .i64 e] w fun e w' => e = .returned (.bool r) ∧ Below w.heap.size w w' := by
  have HG := Lib.hid hg
  by_cases hk : k = K
  · subst hk
    obtain ⟨sm, hs⟩ : ∃ sm, smallB n g = sm := ⟨_, rfl⟩
    rw [hs] at hr
    simp only [decide_true, Bool.true_and] at hr
    have HS := Lib.hid hs
    have HR := Lib.hid hr
    clear hg hr hs
    go_enter Try.func16, Try.ntmps16
    go_wp2_with fail
    have hbel : Below w.heap.size w ((w.alloc (.cells #[.int .i64 k, .int .i64 d, .slice a na ca, .slice kk nk ck] 25)).alloc (.cells #[.int .i64 k, .int .i64 d, .slice a na ca, .slice kk nk ck] 25)) := (by repeat (first | with_reducible exact Below.refl _ _ | with_reducible exact HBEL.out | with_reducible assumption | with_reducible refine Below.setCell ?_ (by first | (dsimp only; omega) | (simp; try omega)) _ | with_reducible refine LaterW.below _ ?_ | with_reducible refine below_alloc ?_ _ | with_reducible refine below_drewN' ?_ _ | with_reducible refine Below.drew ?_ | with_reducible exact below_drewN _))
    refine (gSmall_one (HG.out.below hbel hB) (Nat.le_trans hB hbel.size) (by simp [CellsAt, go_sem]) HS.out).mono ?_
    rintro r w1 ⟨rfl, hb⟩
    obtain ⟨x1, rfl⟩ := LaterW.of hb
    clear hb hbel
    by_cases p0 : 0 ≤ e <;> by_cases p3 : e ≤ 3 <;> cases sm
    all_goals (try go_wp2_with fail)
    all_goals
      go_ret
      exact ⟨ret_bool (by rw [← HR.out]; simp [p0, p3]), (by repeat (first | with_reducible exact Below.refl _ _ | with_reducible exact HBEL.out | with_reducible assumption | with_reducible refine Below.setCell ?_ (by first | (dsimp only; omega) | (simp; try omega)) _ | with_reducible refine LaterW.below _ ?_ | with_reducible refine below_alloc ?_ _ | with_reducible refine below_drewN' ?_ _ | with_reducible refine Below.drew ?_ | with_reducible exact below_drewN _))⟩
  · have hr' : r = false := by rw [← hr]; simp [hk]
    subst hr'
    clear hg hr HG
    go_enter Try.func16, Try.ntmps16
    go_wp2_with fail
    go_ret
    exact ⟨rfl, (by repeat (first | with_reducible exact Below.refl _ _ | with_reducible exact HBEL.out | with_reducible assumption | with_reducible refine Below.setCell ?_ (by first | (dsimp only; omega) | (simp; try omega)) _ | with_reducible refine LaterW.below _ ?_ | with_reducible refine below_alloc ?_ _ | with_reducible refine below_drewN' ?_ _ | with_reducible refine Below.drew ?_ | with_reducible exact below_drewN _))⟩
theorem pointForce_any {d e : Int} {a : Option Addr} {n ca B : Nat} {kk : Option Addr} {nk ck : Nat} {xs : List Nat} {w : World} (ha : NumsIs w B a xs) (hB : B ≤ w.heap.size) (hn : xs.length = n) (hl : n ≤ 4000) (e0 : 0 ≤ e) (e3 : e ≤ 3) {m : Nat} {Zs : List Nat}
    (hm : (if n / widthN (d % 4) = 0 then 0 else widthN e) = m) (hZ : (if n / widthN (d % 4) = 0 then [] else placeRow e (force3 (d % 4) e (placeAt xs (d % 4) 0))) = Zs) :
    Calls Try.prog 18 #[vGeom 1 d a n ca kk nk ck, .int .i64 e] w fun r w' => ∃ v, r = .returned v ∧ LineOf 1 e m Zs w' v ∧ Below w.heap.size w w' := by
  have h0 : 0 ≤ d % 4 := by omega
  have h3 : d % 4 ≤ 3 := by omega
  have he4 : e % 4 = e := by omega
  have hdim := fun w => dimOf_any e w
  rw [he4] at hdim
  have HD := Lib.hid hdim
  have HA := Lib.hid ha
  clear ha hdim he4
  have HPT : Hid (∀ W', Below w.heap.size w W' → Calls Try.prog 55 #[vGeom 1 d a n ca kk nk ck] W' fun e w' => e = .returned (if n / widthN (d % 4) = 0 then vP noPl (d % 4) false else vP (placeAt xs (d % 4) 0) (d % 4) true) ∧ Below W'.heap.size W' w') := fun W' h => point_any (HA.out.below h hB) (Nat.le_trans hB h.size) hn hl
  generalize placeAt xs (d % 4) 0 = p at *
  by_cases hq : n / widthN (d % 4) = 0
  · rw [if_pos hq] at hm hZ
    simp only [if_pos hq] at HPT
    subst hm hZ
    clear hq HA
    go_enter Try.func18, Try.ntmps18
    go_wp2_with fail
    refine (HPT.out _ (by repeat (first | with_reducible exact Below.refl _ _ | with_reducible exact HBEL.out | with_reducible assumption | with_reducible refine Below.setCell ?_ (by first | (dsimp only; omega) | (simp; try omega)) _ | with_reducible refine LaterW.below _ ?_ | with_reducible refine below_alloc ?_ _ | with_reducible refine below_drewN' ?_ _ | with_reducible refine Below.drew ?_ | with_reducible exact below_drewN _))).mono ?_
    rintro r w1 ⟨rfl, hb⟩
    obtain ⟨x1, rfl⟩ := LaterW.of hb
    clear hb
    go_wp2_with (first | (go_at_call 57; (with_reducible refine (HD.out _).mono ?_); rintro e w1 ⟨rfl, hb⟩; (first | (obtain ⟨x1, rfl⟩ := LaterW.of2 hb) | (obtain ⟨x1, rfl⟩ := LaterW.of hb)); clear hb) | (go_at_call 56; (with_reducible refine (forcePoint_empty noPl _).mono ?_); rintro e w1 ⟨rfl, hb⟩; (first | (obtain ⟨x1, rfl⟩ := LaterW.of2 hb) | (obtain ⟨x1, rfl⟩ := LaterW.of hb)); clear hb) | (go_at_call 54; (with_reducible refine (plainPoint_empty noPl e0 e3 _).mono ?_); rintro e w1 ⟨rfl, hb⟩; (first | (obtain ⟨x1, rfl⟩ := LaterW.of2 hb) | (obtain ⟨x1, rfl⟩ := LaterW.of hb)); clear hb))
    refine ret_agg [.int .i64 1, .int .i64 e, .slice none 0 0, .slice none 0 0] rfl rfl rfl (by kernel_rfl) (by kernel_rfl) (by simp [CellsAt, go_sem]) (⟨_, rfl, ⟨none, 0, rfl, .inl rfl, Nat.le_refl _, fun _ => rfl⟩, (by repeat (first | with_reducible exact Below.refl _ _ | with_reducible exact HBEL.out | with_reducible assumption | with_reducible refine Below.setCell ?_ (by first | (dsimp only; omega) | (simp; try omega)) _ | with_reducible refine LaterW.below _ ?_ | with_reducible refine below_alloc ?_ _ | with_reducible refine below_drewN' ?_ _ | with_reducible refine Below.drew ?_ | with_reducible exact below_drewN _))⟩)
  · rw [if_neg hq] at hm hZ
    simp only [if_neg hq] at HPT
    subst hm hZ
    clear hq HA
    go_enter Try.func18, Try.ntmps18
    go_wp2_with fail
    refine (HPT.out _ (by repeat (first | with_reducible exact Below.refl _ _ | with_reducible exact HBEL.out | with_reducible assumption | with_reducible refine Below.setCell ?_ (by first | (dsimp only; omega) | (simp; try omega)) _ | with_reducible refine LaterW.below _ ?_ | with_reducible refine below_alloc ?_ _ | with_reducible refine below_drewN' ?_ _ | with_reducible refine Below.drew ?_ | with_reducible exact below_drewN _))).mono ?_
    rintro r w1 ⟨rfl, hb⟩
    obtain ⟨x1, rfl⟩ := LaterW.of hb
    clear hb
    go_wp2_with (first | (go_at_call 57; (with_reducible refine (HD.out _).mono ?_); rintro e w1 ⟨rfl, hb⟩; (first | (obtain ⟨x1, rfl⟩ := LaterW.of2 hb) | (obtain ⟨x1, rfl⟩ := LaterW.of hb)); clear hb) | (go_at_call 56; (with_reducible refine (forcePoint_full p h0 h3 e0 e3 _).mono ?_); rintro e w1 ⟨rfl, hb⟩; (first | (obtain ⟨x1, rfl⟩ := LaterW.of2 hb) | (obtain ⟨x1, rfl⟩ := LaterW.of hb)); clear hb))
    have o4 : Own x1.val (w.heap.size + 1) [.int .i64 0, .int .i64 0, .slice none 0 0, .slice none 0 0] := (by repeat (first | (refine Own.new' _ rfl ?_; first | with_reducible rfl | (simp; done)) | with_reducible apply Own.later | with_reducible apply Own.alloc | with_reducible apply Own.drew | with_reducible apply Own.drewN | with_reducible apply Own.other))
    have hbel : Below w.heap.size w x1.val := (by repeat (first | with_reducible exact Below.refl _ _ | with_reducible exact HBEL.out | with_reducible assumption | with_reducible refine Below.setCell ?_ (by first | (dsimp only; omega) | (simp; try omega)) _ | with_reducible refine LaterW.below _ ?_ | with_reducible refine below_alloc ?_ _ | with_reducible refine below_drewN' ?_ _ | with_reducible refine Below.drew ?_ | with_reducible exact below_drewN _))
    have lt4 := o4.lt
    generalize x1.val = W at *
    clear x1
    refine (plainPoint_full (force3 (d % 4) e p) e0 e3 _).mono ?_
    rintro r w2 ⟨a', c', rfl, hnum, hhead, hfr, hb⟩
    have HN := Lib.hid hnum
    have HH := Lib.hid hhead
    have HF := Lib.hid hfr
    have HO4 := Lib.hid (o4.below hb o4.lt)
    have HB2 := Lib.hid (hbel.trans (Below.mono hb hbel.size))
    clear hnum hhead hfr hb hbel o4
    go_wp2_with (refine wpList_store_mid rfl 25 (.tmp 4) (.tmp 10) rfl (w.heap.size + 1) 0 _ rfl rfl (Own.there HO4.out (Nat.le_refl 4)) (by kernel_rfl) (by kernel_rfl) ?_)
    have oR := Own.sets (vs := [.int .i64 1, .int .i64 e, .slice a' (widthN e) c', .slice none 0 0]) HO4.out rfl
    have hR : NumsIs (w2.setCells (w.heap.size + 1) 0 [.int .i64 1, .int .i64 e, .slice a' (widthN e) c', .slice none 0 0]) (w2.setCells (w.heap.size + 1) 0 [.int .i64 1, .int .i64 e, .slice a' (widthN e) c', .slice none 0 0]).heap.size a' (placeRow e (force3 (d % 4) e p)) := by
      rw [size_setCells]
      exact NumsIs.setCells HN.out (fun p hp => by have := HF.out p hp; omega) _ _
    have hbl := Below.setCells (Nat.le_succ _) [.int .i64 1, .int .i64 e, .slice a' (widthN e) c', .slice none 0 0] 0 _ HB2.out
    generalize w2.setCells (w.heap.size + 1) 0 [.int .i64 1, .int .i64 e, .slice a' (widthN e) c', .slice none 0 0] = W9 at *
    refine ret_agg [.int .i64 1, .int .i64 e, .slice a' (widthN e) c', .slice none 0 0] rfl rfl rfl (by kernel_rfl) (by kernel_rfl) (oR).cells (⟨_, rfl, ⟨a', c', rfl, hR, HH.out⟩, hbl⟩)
end Go.Proofs.Ytihkmkcjjlmkhaa
