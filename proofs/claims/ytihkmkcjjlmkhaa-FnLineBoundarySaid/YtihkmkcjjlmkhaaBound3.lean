/- impl.plainMultiPoint of no point and of two points. No condition. -/
import Derived.Test.YtihkmkcjjlmkhaaBound2
namespace Go.Proofs.Ytihkmkcjjlmkhaa
set_option maxRecDepth 100000
open Go.ChangeShapes Go.WideShapes Go.ChangeAt Go.RowKit Go.Deep
open Fl

section
variable {d : Int} {g : Option Addr} {n : Nat} {w : World}
theorem numPoints_any : Calls Try.prog 109 #[vMP g n d] w fun e w' => e = .returned (.int .i64 n) ∧ Below w.heap.size w w' := by
  go_enter Try.func109, Try.ntmps109
  go_wp2_with fail
  go_ret
  exact ⟨rfl, (by repeat (first | with_reducible exact Below.refl _ _ | with_reducible exact HBEL.out | with_reducible assumption | with_reducible refine Below.setCell ?_ (by first | (dsimp only; omega) | (simp; try omega)) _ | with_reducible refine LaterW.below _ ?_ | with_reducible refine below_alloc ?_ _ | with_reducible refine below_drewN' ?_ _ | with_reducible refine Below.drew ?_ | with_reducible exact below_drewN _))⟩
theorem multiType_any : Calls Try.prog 108 #[vMP g n d] w fun e w' => e = .returned (.int .u8 d) ∧ Below w.heap.size w w' := by
  go_enter Try.func108, Try.ntmps108
  go_wp2_with fail
  go_ret
  exact ⟨rfl, (by repeat (first | with_reducible exact Below.refl _ _ | with_reducible exact HBEL.out | with_reducible assumption | with_reducible refine Below.setCell ?_ (by first | (dsimp only; omega) | (simp; try omega)) _ | with_reducible refine LaterW.below _ ?_ | with_reducible refine below_alloc ?_ _ | with_reducible refine below_drewN' ?_ _ | with_reducible refine Below.drew ?_ | with_reducible exact below_drewN _))⟩
theorem pointN_0 {b : Nat} {p q : Pl} (h : Own w b (ptCells d [p, q])) : Calls Try.prog 110 #[vMP (some ⟨b, 0, none⟩) 2 d, .int .i64 0] w fun e w' => e = .returned (vP p d true) ∧ Below w.heap.size w w' := by
  obtain ⟨c0, c1, c2, c3, c4, c5, c6, c7, c8, c9, c10, c11, _⟩ := h.cells
  have lt := h.lt
  go_enter Try.func110, Try.ntmps110
  go_wp2_with fail
  refine ret_agg [fl p.x, fl p.y, fl p.z, fl p.m, .int .u8 d, .bool true] rfl rfl rfl (by kernel_rfl) (by kernel_rfl) (by simp [CellsAt, go_sem]) ⟨rfl, ?_⟩
  exact (by repeat (first | with_reducible exact Below.refl _ _ | with_reducible exact HBEL.out | with_reducible assumption | with_reducible refine Below.setCell ?_ (by first | (dsimp only; omega) | (simp; try omega)) _ | with_reducible refine LaterW.below _ ?_ | with_reducible refine below_alloc ?_ _ | with_reducible refine below_drewN' ?_ _ | with_reducible refine Below.drew ?_ | with_reducible exact below_drewN _))
theorem pointN_1 {b : Nat} {p q : Pl} (h : Own w b (ptCells d [p, q])) : Calls Try.prog 110 #[vMP (some ⟨b, 0, none⟩) 2 d, .int .i64 1] w fun e w' => e = .returned (vP q d true) ∧ Below w.heap.size w w' := by
  obtain ⟨c0, c1, c2, c3, c4, c5, c6, c7, c8, c9, c10, c11, _⟩ := h.cells
  have lt := h.lt
  go_enter Try.func110, Try.ntmps110
  go_wp2_with fail
  refine ret_agg [fl q.x, fl q.y, fl q.z, fl q.m, .int .u8 d, .bool true] rfl rfl rfl (by kernel_rfl) (by kernel_rfl) (by simp [CellsAt, go_sem]) ⟨rfl, ?_⟩
  exact (by repeat (first | with_reducible exact Below.refl _ _ | with_reducible exact HBEL.out | with_reducible assumption | with_reducible refine Below.setCell ?_ (by first | (dsimp only; omega) | (simp; try omega)) _ | with_reducible refine LaterW.below _ ?_ | with_reducible refine below_alloc ?_ _ | with_reducible refine below_drewN' ?_ _ | with_reducible refine Below.drew ?_ | with_reducible exact below_drewN _))
end
theorem plainMulti_none (w : World) : Calls Try.prog 76 #[vMP none 0 0] w fun e w' => e = .returned (vGeom 4 0 none 0 0 none 0 0) ∧ Below w.heap.size w w' := by
  go_enter Try.func76, Try.ntmps76
  go_wp2_with ((go_at_call 108; (with_reducible refine (multiType_any).mono ?_); rintro e w1 ⟨rfl, hb⟩; (first | (obtain ⟨x1, rfl⟩ := LaterW.of2 hb) | (obtain ⟨x1, rfl⟩ := LaterW.of hb)); clear hb))
  rename LaterW _ => y1
  have o1 : Own y1.val w.heap.size [.slice none 0 0, .int .u8 0] := (by repeat (first | (refine Own.new' _ rfl ?_; first | with_reducible rfl | (simp; done)) | with_reducible apply Own.later | with_reducible apply Own.alloc | with_reducible apply Own.drew | with_reducible apply Own.drewN | with_reducible apply Own.other))
  have o2 : Own y1.val (w.heap.size + 1) [.int .i64 0, .int .i64 0, .slice none 0 0, .slice none 0 0] := (by repeat (first | (refine Own.new' _ rfl ?_; first | with_reducible rfl | (simp; done)) | with_reducible apply Own.later | with_reducible apply Own.alloc | with_reducible apply Own.drew | with_reducible apply Own.drewN | with_reducible apply Own.other))
  have hby : Below w.heap.size w y1.val := (by repeat (first | with_reducible exact Below.refl _ _ | with_reducible exact HBEL.out | with_reducible assumption | with_reducible refine Below.setCell ?_ (by first | (dsimp only; omega) | (simp; try omega)) _ | with_reducible refine LaterW.below _ ?_ | with_reducible refine below_alloc ?_ _ | with_reducible refine below_drewN' ?_ _ | with_reducible refine Below.drew ?_ | with_reducible exact below_drewN _))
  have o3 := o1.alloc (.cells #[.int .i64 4, .int .i64 0, .slice none 0 0, .slice none 0 0] 25)
  have o4 := o2.alloc (.cells #[.int .i64 4, .int .i64 0, .slice none 0 0, .slice none 0 0] 25)
  have o5 : Own (y1.val.alloc (.cells #[.int .i64 4, .int .i64 0, .slice none 0 0, .slice none 0 0] 25)) y1.val.heap.size [.int .i64 4, .int .i64 0, .slice none 0 0, .slice none 0 0] := Own.new' _ rfl rfl
  have hb := hby.alloc hby.size (.cells #[.int .i64 4, .int .i64 0, .slice none 0 0, .slice none 0 0] 25)
  obtain ⟨G, hG⟩ : ∃ G, G = y1.val.heap.size := ⟨_, rfl⟩
  rw [← hG] at o5 ⊢
  generalize (y1.val.alloc (.cells #[.int .i64 4, .int .i64 0, .slice none 0 0, .slice none 0 0] 25)) = W0 at *
  clear hG hby o1 o2
  go_loopw [4] (fun i wr => i = .int .i64 0 ∧ wr = W0) (fun _ _ => 0)
  case atStart => exact ⟨rfl, rfl⟩
  case round =>
    obtain ⟨rfl, rfl⟩ := hrel
    obtain ⟨c0, c1, _⟩ := o3.cells
    obtain ⟨d0, d1, d2, d3, _⟩ := o5.cells
    have lt3 := o3.lt
    have lt5 := o5.lt
    have HO4 := Lib.hid o4
    have HB := Lib.hid hb
    clear o3 o4 o5 hb
    go_wp2_with (first | (go_at_call 109; (with_reducible refine (numPoints_any).mono ?_); rintro e w1 ⟨rfl, hb⟩; (first | (obtain ⟨x1, rfl⟩ := LaterW.of2 hb) | (obtain ⟨x1, rfl⟩ := LaterW.of hb)); clear hb) | (refine wpList_store_mid rfl 25 (.tmp 2) (.tmp 24) rfl (w.heap.size + 1) 0 _ rfl rfl (Own.there (HO4.out.later x1) (Nat.le_refl 4)) (by kernel_rfl) (by kernel_rfl) ?_))
    have oR := Own.sets (vs := [.int .i64 4, .int .i64 0, .slice none 0 0, .slice none 0 0]) (HO4.out.later x1) rfl
    have hbl := Below.setCells (Nat.le_succ _) [.int .i64 4, .int .i64 0, .slice none 0 0, .slice none 0 0] 0 _ (LaterW.below x1 HB.out)
    generalize x1.val.setCells (w.heap.size + 1) 0 [.int .i64 4, .int .i64 0, .slice none 0 0, .slice none 0 0] = W9 at *
    refine ret_agg [.int .i64 4, .int .i64 0, .slice none 0 0, .slice none 0 0] rfl rfl rfl (by kernel_rfl) (by kernel_rfl) (oR).cells (⟨rfl, hbl⟩)
/-- Points as plain data, one behind the other: their cells, and what is behind them. -/
def KidCells (w : World) (C : Nat) (d : Int) : List (List Nat) → List Value → Prop
  | [], cs => cs = []
  | r :: rs, cs => ∃ a c cs', cs = [.int .i64 1, .int .i64 d, .slice a r.length c, .slice none 0 0] ++ cs' ∧ w.ownsRow C 36 1 (.slice a r.length c) r.length (r.map fl) ∧ KidCells w C d rs cs'
theorem KidCells.later {w w' : World} {C : Nat} {d : Int} (hb : Below w.heap.size w w') : ∀ {rs : List (List Nat)} {cs : List Value}, KidCells w C d rs cs → KidCells w' C d rs cs
  | [], _, h => h
  | _ :: _, _, ⟨a, c, cs', h1, h2, h5⟩ => ⟨a, c, cs', h1, own_below h2 hb, h5.later hb⟩
theorem KidCells.setCell {w : World} {C : Nat} {d : Int} {q : Addr} (hq : q.block < C) (v : Value) : ∀ {rs : List (List Nat)} {cs : List Value}, KidCells w C d rs cs → KidCells (w.setCell q v) C d rs cs
  | [], _, h => h
  | _ :: _, _, ⟨a, c, cs', h1, h2, h5⟩ => ⟨a, c, cs', h1, own_setCell h2 hq v, h5.setCell hq v⟩
theorem KidCells.snoc {w : World} {C : Nat} {d : Int} {r : List Nat} {a : Option Addr} {c : Nat} (h2 : w.ownsRow C 36 1 (.slice a r.length c) r.length (r.map fl)) : ∀ {rs : List (List Nat)} {cs : List Value}, KidCells w C d rs cs → KidCells w C d (rs ++ [r]) (cs ++ [.int .i64 1, .int .i64 d, .slice a r.length c, .slice none 0 0])
  | [], cs, h => ⟨a, c, [], by rw [show cs = [] from h]; rfl, h2, rfl⟩
  | _ :: _, _, ⟨a', c', cs', h1, k2, k5⟩ => ⟨a', c', _, by rw [h1]; simp, k2, k5.snoc h2⟩
theorem ownsRow_grown {w w1 : World} {b c : Nat} {e1 e2 : TypeId} {s1 s2 : Nat} {u v : Value} {n m : Nat} {xs ys : List Value} (h : w.ownsRow c e1 s1 u n xs) (hv : w.ownsRow b e2 s2 v m ys) (hne : e1 ≠ e2) (hg : w.grownBy w1 v.ownBlock) : w1.ownsRow c e1 s1 u n xs := by
  obtain ⟨h1, h2⟩ := h
  refine ⟨h1, ?_⟩
  rcases h2 with h2 | ⟨g, cap, cur, k1, k2, k3, k4⟩
  · exact .inl h2
  · refine .inr ⟨g, cap, cur, k1, k2, ?_, k4⟩
    obtain ⟨hlt, _⟩ := Array.getElem?_eq_some_iff.1 k3
    rw [hg.block g hlt ?_]
    · exact k3
    · intro e
      rcases hv.2 with ⟨rfl, _⟩ | ⟨g2, cap2, cur2, rfl, _, q3, _⟩
      · cases e
      · cases e
        have k3q := k3.symm.trans q3
        cases k3q
        exact hne rfl
theorem KidCells.grown {w w1 : World} {b C : Nat} {d : Int} {v : Value} {m : Nat} {ys : List Value} (hv : w.ownsRow b 25 4 v m ys) (hg : w.grownBy w1 v.ownBlock) : ∀ {rs : List (List Nat)} {cs : List Value}, KidCells w C d rs cs → KidCells w1 C d rs cs
  | [], _, h => h
  | _ :: _, _, ⟨a, c, cs', h1, h2, h5⟩ => ⟨a, c, cs', h1, ownsRow_grown h2 hv (by decide) hg, h5.grown hv hg⟩
structure MS (w w' : World) (G : Nat) (d : Int) (b : Nat) (p q : Pl) (v : Value) (k : Nat) (rows : List (List Nat)) (cs : List Value) : Prop where
  box : Own w' w.heap.size [.slice (some ⟨b, 0, none⟩) 2 2, .int .u8 d]
  res : Own w' (w.heap.size + 1) [.int .i64 0, .int .i64 0, .slice none 0 0, .slice none 0 0]
  g : Own w' G [.int .i64 4, .int .i64 d, .slice none 0 0, v]
  pts : Own w' b (ptCells d [p, q])
  row : w'.ownsRow (G + 1) 25 4 v k cs
  kids : KidCells w' (G + 1) d rows cs
  bel : Below w.heap.size w w'
  hG : w.heap.size + 2 ≤ G
  hb : b < w.heap.size
section
variable {w w' w1 w2 : World} {G : Nat} {d : Int} {b : Nat} {p q : Pl} {v v1 : Value} {k : Nat} {rows : List (List Nat)} {cs : List Value}
theorem MS.below (h : MS w w' G d b p q v k rows cs) (hb : Below w'.heap.size w' w2) : MS w w2 G d b p q v k rows cs :=
  ⟨h.box.below hb h.box.lt, h.res.below hb h.res.lt, h.g.below hb h.g.lt, h.pts.below hb h.pts.lt, own_below h.row hb, h.kids.later hb, h.bel.trans (Below.mono hb h.bel.size), h.hG, h.hb⟩
theorem MS.step {r : List Nat} {a : Option Addr} {c : Nat} (h : MS w w' G d b p q v k rows cs) (hr : w'.ownsRow (G + 1) 36 1 (.slice a r.length c) r.length (r.map fl)) (hg : w'.grownBy w1 v.ownBlock) (hv : w1.ownsRow (G + 1) 25 4 v1 (k + 1) (cs ++ [.int .i64 1, .int .i64 d, .slice a r.length c, .slice none 0 0])) :
    Own w1 G [.int .i64 4, .int .i64 d, .slice none 0 0, v] ∧ MS w (w1.setCell ⟨G, 3, none⟩ v1) G d b p q v1 (k + 1) (rows ++ [r]) (cs ++ [.int .i64 1, .int .i64 d, .slice a r.length c, .slice none 0 0]) := by
  have hk := h.row.lt
  have hG := h.hG
  have hb := h.hb
  have ne : ∀ B, B ≤ G → ∀ k, v.ownBlock = some k → k ≠ B := fun B hB k e => by have := (hk k e).1; omega
  have o1 := own_grown hg h.box (ne _ (by omega))
  have o2 := own_grown hg h.res (ne _ (by omega))
  have o3 := own_grown hg h.g (ne _ (Nat.le_refl _))
  have o4 := own_grown hg h.pts (ne _ (by omega))
  have kk := (KidCells.grown h.row hg h.kids).snoc (ownsRow_grown hr h.row (by decide) hg)
  refine ⟨o3, ⟨o1.other (by show G ≠ _; omega) _, o2.other (by show G ≠ _; omega) _, o3.set 3 (by simp) v1, o4.other (by show G ≠ _; omega) _, own_setCell hv (Nat.lt_succ_self G) _, kk.setCell (Nat.lt_succ_self G) _, ?_, hG, hb⟩⟩
  exact Below.setCell (Below.grown h.bel hg h.bel.size (fun k e => by have := (hk k e).1; omega)) (show w.heap.size ≤ G by omega) _
end
/-- A point as plain data, as a fact. -/
def PtOf (d : Int) (m C : Nat) (xs : List Nat) (w : World) (v : Value) : Prop := ∃ a c, v = vGeom 1 d a m c none 0 0 ∧ w.ownsRow C 36 1 (.slice a m c) m (xs.map fl)
def SlOf (d : Int) (m C : Nat) (xs : List Nat) (w : World) (v : Value) : Prop := ∃ A a c, v = .slice (some ⟨A, 0, none⟩) 1 1 ∧ Own w A [.int .i64 1, .int .i64 d, .slice a m c, .slice none 0 0] ∧ w.ownsRow C 36 1 (.slice a m c) m (xs.map fl)
section
variable {d : Int} {m C : Nat} {xs : List Nat} {w : World} {v : Value}
theorem PtOf.eq (h : PtOf d m C xs w v) : v = vGeom 1 d (Exists.choose h) m (Exists.choose (Exists.choose_spec h)) none 0 0 := (Exists.choose_spec (Exists.choose_spec h)).1
theorem PtOf.row (h : PtOf d m C xs w v) : w.ownsRow C 36 1 (.slice (Exists.choose h) m (Exists.choose (Exists.choose_spec h))) m (xs.map fl) := (Exists.choose_spec (Exists.choose_spec h)).2
theorem SlOf.eq (h : SlOf d m C xs w v) : v = .slice (some ⟨Exists.choose h, 0, none⟩) 1 1 := (Exists.choose_spec (Exists.choose_spec (Exists.choose_spec h))).1
theorem SlOf.own (h : SlOf d m C xs w v) : Own w (Exists.choose h) [.int .i64 1, .int .i64 d, .slice (Exists.choose (Exists.choose_spec h)) m (Exists.choose (Exists.choose_spec (Exists.choose_spec h))), .slice none 0 0] := (Exists.choose_spec (Exists.choose_spec (Exists.choose_spec h))).2.1
theorem SlOf.row (h : SlOf d m C xs w v) : w.ownsRow C 36 1 (.slice (Exists.choose (Exists.choose_spec h)) m (Exists.choose (Exists.choose_spec (Exists.choose_spec h)))) m (xs.map fl) := (Exists.choose_spec (Exists.choose_spec (Exists.choose_spec h))).2.2
end
theorem stays_pt {S : World → Prop} (d : Int) (m C : Nat) (xs : List Nat) : Stays S (fun w _ _ v => PtOf d m C xs w v) := fun _ _ _ _ _ _ hb _ ⟨a, c, h1, h2⟩ => ⟨a, c, h1, own_below h2 hb⟩
theorem stays_sl {S : World → Prop} (d : Int) (m C : Nat) (xs : List Nat) : Stays S (fun w _ _ v => SlOf d m C xs w v) := fun _ _ _ _ _ _ hb _ ⟨A, a, c, h1, h2, h3⟩ => ⟨A, a, c, h1, h2.below hb h2.lt, own_below h3 hb⟩
theorem geomInfo : (Try.prog.info? 25).map (fun i => (i.zero, i.size, i.bytes)) = some (some (.agg #[.int .i64 0, .int .i64 0, .slice none 0 0, .slice none 0 0]), 4, 64) := by kernel_rfl
end Go.Proofs.Ytihkmkcjjlmkhaa
