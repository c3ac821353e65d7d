/- impl.SeqReverse; laws.gLine. No condition. -/
import Derived.Test.YtihkmkcjjlmkhaaSeq4
namespace Go.Proofs.Ytihkmkcjjlmkhaa
set_option maxRecDepth 100000
open Go.ChangeShapes Go.WideShapes Go.ChangeAt Go.RowKit Go.Deep

theorem mod_full (n wd : Nat) : n / wd * wd % wd = 0 := Nat.mul_mod_left _ _
theorem seqReverse_any {d : Int} {a : Option Addr} {n ca B : Nat} {kk : Option Addr} {nk ck : Nat} {xs : List Nat} {w : World} (ha : NumsIs w B a xs) (hB : B ≤ w.heap.size) (hn : xs.length = n) (hl : n ≤ 4000) {m : Nat} (hm : n / widthN (d % 4) * widthN (d % 4) = m) :
    Calls Try.prog 14 #[vGeom 2 d a n ca kk nk ck] w fun e w' => ∃ a' c', e = .returned (vGeom 2 (d % 4) a' m c' none 0 0) ∧ NumsIs w' w'.heap.size a' (revL (xs.take m) (widthN (d % 4))) ∧ HeadOk a' m c' ∧ Fresh a' w.heap.size ∧ Below w.heap.size w w' := by
  have h0 : 0 ≤ d % 4 := by omega
  have h3 : d % 4 ≤ 3 := by omega
  have HA := Lib.hid ha
  have HM : Hid (m % widthN (d % 4) = 0) := by show _ = _; rw [← hm]; exact mod_full _ _
  have hmn : m ≤ n := by have := Nat.div_mul_le_self n (widthN (d % 4)); omega
  have hml : (xs.take m).length = m := by simp; omega
  have HM0 := Lib.hid hm
  have hrl : (revL (xs.take m) (widthN (d % 4))).length = m := by rw [revL_length (by rw [hml]; exact HM.out), hml]
  obtain ⟨Ys, hYs⟩ : ∃ Ys, Ys = xs.take m := ⟨_, rfl⟩
  rw [← hYs] at hml hrl ⊢
  have HY := Lib.hid hYs
  obtain ⟨Zs, hZs⟩ : ∃ Zs, Zs = revL Ys (widthN (d % 4)) := ⟨_, rfl⟩
  rw [← hZs] at hrl ⊢
  have HZ := Lib.hid hZs
  clear ha hYs hZs hm
  go_enter Try.func14, Try.ntmps14
  go_wp2_with fail
  refine (line_any (HA.out.below (C := w.heap.size) (by repeat (first | with_reducible exact Below.refl _ _ | with_reducible exact HBEL.out | with_reducible assumption | with_reducible refine Below.setCell ?_ (by first | (dsimp only; omega) | (simp; try omega)) _ | with_reducible refine LaterW.below _ ?_ | with_reducible refine below_alloc ?_ _ | with_reducible refine below_drewN' ?_ _ | with_reducible refine Below.drew ?_ | with_reducible exact below_drewN _)) hB) (by simp; omega) hn hl HM0.out).mono ?_
  rintro e w1 ⟨g, rfl, hge, hrow, hb⟩
  rw [← HY.out] at hrow
  obtain ⟨x1, rfl⟩ := LaterW.of hb
  have HR := Lib.hid hrow
  have o2 : Own x1.val (w.heap.size + 1) [.int .i64 0, .int .i64 0, .slice none 0 0, .slice none 0 0] := (by repeat (first | (refine Own.new' _ rfl ?_; first | with_reducible rfl | (simp; done)) | with_reducible apply Own.later | with_reducible apply Own.alloc | with_reducible apply Own.drew | with_reducible apply Own.drewN | with_reducible apply Own.other))
  have hbel : Below w.heap.size w x1.val := (by repeat (first | with_reducible exact Below.refl _ _ | with_reducible exact HBEL.out | with_reducible assumption | with_reducible refine Below.setCell ?_ (by first | (dsimp only; omega) | (simp; try omega)) _ | with_reducible refine LaterW.below _ ?_ | with_reducible refine below_alloc ?_ _ | with_reducible refine below_drewN' ?_ _ | with_reducible refine Below.drew ?_ | with_reducible exact below_drewN _))
  have HO := Lib.hid o2
  have HB := Lib.hid hbel
  clear hb hge hrow o2 hbel HA
  generalize x1.val = W at *
  clear x1
  go_wp2_with ((go_at_call 49; (with_reducible refine (coordinates_any _ _ _ _ _).mono ?_); rintro e w1 ⟨rfl, hb⟩; (first | (obtain ⟨x1, rfl⟩ := LaterW.of2 hb) | (obtain ⟨x1, rfl⟩ := LaterW.of hb)); clear hb))
  refine (reverse_any (HR.out.below x1.ok HR.out.lt).nums (Nat.le_refl _) hml (by omega) h0 h3 HM.out (Nat.le_refl _)).mono ?_
  rintro e w2 ⟨g2, rfl, hge, hrow, hb⟩
  clear hge
  rw [← HZ.out] at hrow
  have HR2 := Lib.hid hrow
  have HO2 := Lib.hid ((HO.out.later x1).below hb (HO.out.later x1).lt)
  have HB2 := Lib.hid (HB.out.trans (Below.mono (Below.trans x1.ok (Below.mono hb x1.ok.size)) HB.out.size))
  clear hrow hb HR HO HB x1
  go_wp2_with fail
  refine (plainSequence_any HR2.out.nums (Nat.le_refl _) hrl (by omega) h0 h3 HM.out).mono ?_
  rintro e w3 ⟨a', c', rfl, hnum, hhead, hfr, hb⟩
  have HN := Lib.hid hnum
  have HH := Lib.hid hhead
  have HF := Lib.hid hfr
  have HO3 := Lib.hid (HO2.out.below hb HO2.out.lt)
  have HB3 := Lib.hid (HB2.out.trans (Below.mono hb HB2.out.size))
  have hlt := HO2.out.lt
  clear hnum hhead hfr hb HR2 HB2
  go_wp2_with (refine wpList_store_mid rfl 25 (.tmp 2) (.tmp 7) rfl (w.heap.size + 1) 0 _ rfl rfl (Own.there HO3.out (Nat.le_refl 4)) (by kernel_rfl) (by kernel_rfl) ?_)
  have oR := Own.sets (vs := [.int .i64 2, .int .i64 (d % 4), .slice a' m c', .slice none 0 0]) HO3.out rfl
  have hR : NumsIs (w3.setCells (w.heap.size + 1) 0 [.int .i64 2, .int .i64 (d % 4), .slice a' m c', .slice none 0 0]) (w3.setCells (w.heap.size + 1) 0 [.int .i64 2, .int .i64 (d % 4), .slice a' m c', .slice none 0 0]).heap.size a' Zs := by
    rw [size_setCells]
    exact NumsIs.setCells HN.out (fun p hp => by have := HF.out p hp; omega) _ _
  have hbl := Below.setCells (Nat.le_succ _) [.int .i64 2, .int .i64 (d % 4), .slice a' m c', .slice none 0 0] 0 _ HB3.out
  have hfr : Fresh a' w.heap.size := fun p hp => by have := HF.out p hp; omega
  generalize w3.setCells (w.heap.size + 1) 0 [.int .i64 2, .int .i64 (d % 4), .slice a' m c', .slice none 0 0] = W9 at *
  refine ret_agg [.int .i64 2, .int .i64 (d % 4), .slice a' m c', .slice none 0 0] rfl rfl rfl (by kernel_rfl) (by kernel_rfl) (oR).cells (⟨a', c', rfl, hR, HH.out, hfr, hbl⟩)
theorem nums_small {n : Nat} {k d : Int} {xs : List Nat} {ks : List GT} (h : smallB n (.mk k d xs ks) = true) : xs.length ≤ 2000 := by
  unfold smallB at h
  cases n with
  | zero => simp [GT.weight] at h
  | succ n =>
    rw [weight_mk] at h
    split at h
    · simp at h
    · omega
theorem gLine_not {n : Nat} {g : GT} {k d : Int} {a kk : Option Addr} {na ca nk ck B : Nat} {w : World} (hg : GeomIs w B n g [.int .i64 k, .int .i64 d, .slice a na ca, .slice kk nk ck]) (hB : B ≤ w.heap.size) (hr : (smallB n g && decide (k = 2)) = false) :
    Calls Try.prog 12 #[vGeom k d a na ca kk nk ck] w fun e w' => e = .returned (.tuple #[.slice none 0 0, .bool false]) ∧ Below w.heap.size w w' := by
  have HG := Lib.hid hg
  cases hs : smallB n g
  · have HS := Lib.hid hs
    clear hg hr hs
    go_enter Try.func12, Try.ntmps12
    go_wp2_with fail
    refine (gSmall_one (HG.out.below (C := w.heap.size) (by repeat (first | with_reducible exact Below.refl _ _ | with_reducible exact HBEL.out | with_reducible assumption | with_reducible refine Below.setCell ?_ (by first | (dsimp only; omega) | (simp; try omega)) _ | with_reducible refine LaterW.below _ ?_ | with_reducible refine below_alloc ?_ _ | with_reducible refine below_drewN' ?_ _ | with_reducible refine Below.drew ?_ | with_reducible exact below_drewN _)) hB) (by simp; omega) (by simp [CellsAt, go_sem]) HS.out).mono ?_
    rintro e w1 ⟨rfl, hb⟩
    obtain ⟨x1, rfl⟩ := LaterW.of hb
    clear hb
    go_wp2_with fail
    refine bodyPost_ret (v := .tuple #[.slice none 0 0, .bool false]) (by simp [results, Try.results12, go_sem]) rfl ?_
    exact ⟨rfl, (by repeat (first | with_reducible exact Below.refl _ _ | with_reducible exact HBEL.out | with_reducible assumption | with_reducible refine Below.setCell ?_ (by first | (dsimp only; omega) | (simp; try omega)) _ | with_reducible refine LaterW.below _ ?_ | with_reducible refine below_alloc ?_ _ | with_reducible refine below_drewN' ?_ _ | with_reducible refine Below.drew ?_ | with_reducible exact below_drewN _))⟩
  · have hk : k ≠ 2 := by rw [hs] at hr; simpa using hr
    have HS := Lib.hid hs
    clear hg hr hs
    go_enter Try.func12, Try.ntmps12
    go_wp2_with fail
    refine (gSmall_one (HG.out.below (C := w.heap.size) (by repeat (first | with_reducible exact Below.refl _ _ | with_reducible exact HBEL.out | with_reducible assumption | with_reducible refine Below.setCell ?_ (by first | (dsimp only; omega) | (simp; try omega)) _ | with_reducible refine LaterW.below _ ?_ | with_reducible refine below_alloc ?_ _ | with_reducible refine below_drewN' ?_ _ | with_reducible refine Below.drew ?_ | with_reducible exact below_drewN _)) hB) (by simp; omega) (by simp [CellsAt, go_sem]) HS.out).mono ?_
    rintro e w1 ⟨rfl, hb⟩
    obtain ⟨x1, rfl⟩ := LaterW.of hb
    clear hb
    go_wp2_with fail
    refine bodyPost_ret (v := .tuple #[.slice none 0 0, .bool false]) (by simp [results, Try.results12, go_sem]) rfl ?_
    exact ⟨rfl, (by repeat (first | with_reducible exact Below.refl _ _ | with_reducible exact HBEL.out | with_reducible assumption | with_reducible refine Below.setCell ?_ (by first | (dsimp only; omega) | (simp; try omega)) _ | with_reducible refine LaterW.below _ ?_ | with_reducible refine below_alloc ?_ _ | with_reducible refine below_drewN' ?_ _ | with_reducible refine Below.drew ?_ | with_reducible exact below_drewN _))⟩
theorem ownsRow_mono {w : World} {b c : Nat} {e : TypeId} {size : Nat} {v : Value} {n : Nat} {xs : List Value} (h : w.ownsRow b e size v n xs) (hc : c ≤ b) : w.ownsRow c e size v n xs := by
  obtain ⟨h1, h2⟩ := h
  refine ⟨h1, ?_⟩
  rcases h2 with h2 | ⟨g, cap, cur, e1, e2, e3⟩
  · exact .inl h2
  · exact .inr ⟨g, cap, cur, e1, by omega, e3⟩
theorem gLine_line {n : Nat} {g : GT} {d : Int} {a kk : Option Addr} {na ca nk ck B : Nat} {xs : List Nat} {w : World} (hg : GeomIs w B n g [.int .i64 2, .int .i64 d, .slice a na ca, .slice kk nk ck]) (hB : B ≤ w.heap.size) (hr : smallB n g = true)
    (ha : NumsIs w B a xs) (hn : xs.length = na) (hl : na ≤ 4000) (hca : HeadOk a na ca) {m : Nat} (hm : na / widthN (d % 4) * widthN (d % 4) = m) :
    Calls Try.prog 12 #[vGeom 2 d a na ca kk nk ck] w fun e w' => ∃ v, e = .returned (.tuple #[v, .bool true]) ∧ w'.ownsRow w.heap.size 119 4 v (placesOf (xs.take m) (d % 4)).length (plCells (placesOf (xs.take m) (d % 4))) ∧ Below w.heap.size w w' := by
  have h0 : 0 ≤ d % 4 := by omega
  have h3 : d % 4 ≤ 3 := by omega
  have HG := Lib.hid hg
  have HS := Lib.hid hr
  have HA := Lib.hid ha
  have HC := Lib.hid hca
  have hmn : m ≤ na := by have := Nat.div_mul_le_self na (widthN (d % 4)); omega
  have hml : (xs.take m).length = m := by simp; omega
  have HM := Lib.hid hm
  obtain ⟨Ys, hYs⟩ : ∃ Ys, Ys = xs.take m := ⟨_, rfl⟩
  rw [← hYs] at hml ⊢
  have HY := Lib.hid hYs
  clear hg hr ha hca hm hYs
  go_enter Try.func12, Try.ntmps12
  go_wp2_with fail
  refine (gSmall_one (HG.out.below (C := w.heap.size) (by repeat (first | with_reducible exact Below.refl _ _ | with_reducible exact HBEL.out | with_reducible assumption | with_reducible refine Below.setCell ?_ (by first | (dsimp only; omega) | (simp; try omega)) _ | with_reducible refine LaterW.below _ ?_ | with_reducible refine below_alloc ?_ _ | with_reducible refine below_drewN' ?_ _ | with_reducible refine Below.drew ?_ | with_reducible exact below_drewN _)) hB) (by simp; omega) (by simp [CellsAt, go_sem]) HS.out).mono ?_
  rintro e w1 ⟨rfl, hb⟩
  obtain ⟨x1, rfl⟩ := LaterW.of hb
  clear hb
  go_wp2_with fail
  have hbel : Below w.heap.size w x1.val := (by repeat (first | with_reducible exact Below.refl _ _ | with_reducible exact HBEL.out | with_reducible assumption | with_reducible refine Below.setCell ?_ (by first | (dsimp only; omega) | (simp; try omega)) _ | with_reducible refine LaterW.below _ ?_ | with_reducible refine below_alloc ?_ _ | with_reducible refine below_drewN' ?_ _ | with_reducible refine Below.drew ?_ | with_reducible exact below_drewN _))
  refine (newLine_any (HA.out.below hbel hB) (Nat.le_trans hB hbel.size) hn hl HC.out).mono ?_
  rw [HM.out, ← HY.out]
  rintro e w2 ⟨a', c', rfl, hnum, hhead, hfr, hb⟩
  have hb2 := hbel.trans (Below.mono hb hbel.size)
  have HN := Lib.hid hnum
  have HB := Lib.hid hb2
  clear hbel hb2 hb hnum hhead hfr x1 HA HC HG HS
  go_wp2_with fail
  refine (places_any (HN.out.below (C := w2.heap.size) (by repeat (first | with_reducible exact Below.refl _ _ | with_reducible exact HBEL.out | with_reducible assumption | with_reducible refine Below.setCell ?_ (by first | (dsimp only; omega) | (simp; try omega)) _ | with_reducible refine LaterW.below _ ?_ | with_reducible refine below_alloc ?_ _ | with_reducible refine below_drewN' ?_ _ | with_reducible refine Below.drew ?_ | with_reducible exact below_drewN _)) (Nat.le_refl _)) (by simp) hml (by omega) h0 h3).mono ?_
  rintro e w3 ⟨v, rfl, hown, hb⟩
  obtain ⟨x1, rfl⟩ := LaterW.of hb
  have HO := Lib.hid hown
  clear hb hown
  go_wp2_with fail
  refine bodyPost_ret (v := .tuple #[v, .bool true]) (by simp [results, Try.results12, go_sem]) rfl ?_
  refine ⟨v, rfl, ?_, LaterW.below _ (Below.alloc HB.out HB.out.size _)⟩
  have h := HO.out
  rw [World.size_alloc] at h
  exact ownsRow_mono h (by have := HB.out.size; omega)
end Go.Proofs.Ytihkmkcjjlmkhaa
