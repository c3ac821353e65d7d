/- impl.sequence, impl.line: a new array of the same numbers. No condition. -/
import Derived.Test.YtihkmkcjjlmkhaaSeqGet
import Derived.Laws.CopyOwn
namespace Go.Proofs.Ytihkmkcjjlmkhaa
set_option maxRecDepth 100000
open Go.ChangeShapes Go.WideShapes Go.ChangeAt Go.RowKit Go.Deep

/-- A goal at which the walk is to stand still. -/
structure Stop (p : Prop) : Prop where
  out : p
theorem stop_builtin {P : Program} {ops : Array Oper} {Q : Exit → Act → World → Prop} {o : Oper} {rest : List Oper} {a : Act} {w : World} (b : Builtin) (args : Array Operand) (tys : Array TypeId) (_ : o.op = .call { callee := .builtin b, args := args, argTypes := tys }) (h : Stop (wpList P ops Q (o :: rest) a w)) : wpList P ops Q (o :: rest) a w := h.out
theorem madeCells_one (n : Nat) : madeCells #[fl 0] n = (List.replicate n (fl 0)).toArray := by
  apply Array.ext
  · simp [size_madeCells]
  · intro i h1 h2
    simp only [madeCells, Array.getElem_map, Array.getElem_range]
    simp [Nat.mod_one]
theorem make_fls (n : Nat) (hn : n ≤ 1000000) (W : World) : (Instr.makeSlice 22 (.int .i64 (n : Int)) (.int .i64 (n : Int))).run Try.prog W = .ok (.slice (some ⟨W.heap.size, 0, none⟩) n n) (W.alloc (.cells (List.replicate n (fl 0)).toArray 36)) := by
  obtain ⟨i, hi, hz, hs, hb⟩ := info_parts infoFl
  have h := run_make (P := Try.prog) W 22 36 i (fl 0) Try.underlying22 hi hz .i64 .i64 n n (by omega) (by omega) (by rw [hb]; omega) (by omega)
  simp only [Int.toNat_natCast, hs, Nat.mul_one] at h
  rw [h]
  have : (fl 0).cells = #[fl 0] := rfl
  rw [this, madeCells_one]
theorem sizeFl : (Try.prog.info? 36).map (·.size) = some 1 := by kernel_rfl
/-- A whole block of numbers. -/
def RowIs (w : World) (g : Nat) (xs : List Nat) : Prop := w.heap[g]? = some (.cells (xs.map fl).toArray 36 (0, 0))
theorem RowIs.below {w w' : World} {g : Nat} {xs : List Nat} (h : RowIs w g xs) {C : Nat} (hb : Below C w w') (hC : g < C) : RowIs w' g xs := by
  unfold RowIs at *
  rw [hb.block g hC]; exact h
theorem RowIs.lt {w : World} {g : Nat} {xs : List Nat} (h : RowIs w g xs) : g < w.heap.size := by
  obtain ⟨hlt, _⟩ := Array.getElem?_eq_some_iff.1 h; exact hlt
theorem RowIs.nums {w : World} {g : Nat} {xs : List Nat} (h : RowIs w g xs) : NumsIs w w.heap.size (some ⟨g, 0, none⟩) xs := by
  refine .inr ⟨g, 0, rfl, h.lt, fun i hi => ?_⟩
  unfold World.cell?
  rw [Nat.zero_add]
  simp only [show w.heap[g]? = _ from h, Option.isSome_none, Bool.false_eq_true, if_false]
  simp [hi]
theorem RowIs.setCells {g C : Nat} {xs : List Nat} (hne : g ≠ C) : ∀ {w : World} (_ : RowIs w g xs) (o : Nat) (vs : List Value), RowIs (w.setCells C o vs) g xs
  | _, h, _, [] => h
  | w, h, o, v :: r => RowIs.setCells hne (w := w.setCell ⟨C, o, none⟩ v) (by unfold RowIs at *; rw [Below.heap_setCell _ _ _ _ hne]; exact h) (o + 1) r
theorem news_of {w : World} {B : Nat} {a : Option Addr} {xs : List Nat} (h : NumsIs w B a xs) {o m : Nat} (hm : o + m ≤ xs.length) (h0 : 0 < m) : ∃ ad, a = some ad ∧ ∀ j v, (((xs.drop o).take m).map fl)[j]? = some v → w.cell? ((ad.add o).add j) = some v := by
  obtain ⟨b1, o1, rfl, _, c1⟩ := h.resolve_left (fun e => by rw [e] at hm; simp at hm; omega)
  refine ⟨_, rfl, fun j v hj => ?_⟩
  rw [List.getElem?_map, List.getElem?_take, List.getElem?_drop] at hj
  split at hj
  · have hj' : o + j < xs.length := by omega
    rw [List.getElem?_eq_getElem hj'] at hj
    simp only [Option.map_some, Option.some.injEq] at hj
    subst hj
    have := c1 (o + j) hj'
    rw [List.getElem!_eq_getElem?_getD, List.getElem?_eq_getElem hj'] at this
    rw [Addr.add_lit, Addr.add_lit, Nat.add_assoc]
    exact this
  · simp at hj
theorem alloc_at (w : World) (o : Obj) : (w.alloc o).heap[w.heap.size]? = some o := Array.getElem?_push_size
theorem splice_all {α : Type} {L cs : List α} (h : cs.length = L.length) : splice L 0 cs = cs := by simp [splice, h]
theorem sequence_any {d : Int} {a : Option Addr} {n ca B : Nat} {xs : List Nat} {w : World} (ha : NumsIs w B a xs) (hB : B ≤ w.heap.size) (hn : xs.length = n) (hl : n ≤ 4000) {m : Nat} (hm : n / widthN (d % 4) * widthN (d % 4) = m) :
    Calls Try.prog 89 #[.slice a n ca, .int .i64 d] w fun e w' => ∃ g, e = .returned (vSeq (d % 4) (some ⟨g, 0, none⟩) m m) ∧ w.heap.size ≤ g ∧ RowIs w' g (xs.take m) ∧ Below w.heap.size w w' := by
  have h0 : 0 ≤ d % 4 := by omega
  have h3 : d % 4 ≤ 3 := by omega
  obtain ⟨wd, hwd⟩ : ∃ wd, widthN (d % 4) = wd := ⟨_, rfl⟩
  have HWN := Lib.hid hwd
  have HW : Hid (widthI (d % 4) = (wd : Int)) := by show _ = _; rw [← hwd]; unfold widthN widthI; split <;> (try split) <;> rfl
  have hwd3 : 2 ≤ wd ∧ wd ≤ 4 := by rw [← hwd]; unfold widthN widthI; split <;> (try split) <;> decide
  rw [hwd] at hm
  have hmn : m ≤ n := by have := Nat.div_mul_le_self n wd; omega
  have hmd : m % wd = 0 := by rw [← hm]; exact Nat.mul_mod_left _ _
  have hmod : ((n : Int).tmod (wd : Int)) = ((n - m : Nat) : Int) := by
    rw [← Int.ofNat_tmod]
    congr 1
    have := Nat.div_add_mod n wd
    rw [Nat.mul_comm] at this
    omega
  have HA := Lib.hid ha
  clear ha hwd hm
  obtain ⟨Xs, hXs⟩ : ∃ Xs, Xs = (xs.take m).map fl := ⟨_, rfl⟩
  have hXl : Xs.length = m := by rw [hXs]; simp; omega
  have HXs := Lib.hid hXs
  clear hXs
  have mk : ∀ W : World, (Instr.makeSlice 22 (.int .i64 ((n : Int) - ((n - m : Nat) : Int))) (.int .i64 ((n : Int) - ((n - m : Nat) : Int)))).run Try.prog W = .ok (.slice (some ⟨W.heap.size, 0, none⟩) m m) (W.alloc (.cells (List.replicate m (fl 0)).toArray 36)) := by
    intro W
    have e : (n : Int) - ((n - m : Nat) : Int) = (m : Int) := by omega
    rw [e]
    exact make_fls m (by omega) W
  obtain ⟨Zs, hZs⟩ : ∃ Zs, Zs = List.replicate m (fl 0) := ⟨_, rfl⟩
  have hZl : Zs.length = m := by rw [hZs]; simp
  rw [← hZs] at mk
  have MK0 := Lib.hid mk
  clear mk
  have HZ := Lib.hid hZs
  clear hZs
  go_enter Try.func89, Try.ntmps89
  go_wp2_with (first | (go_at_call 57; (with_reducible refine (dimOf_any d _).mono ?_); rintro e w1 ⟨rfl, hb⟩; (first | (obtain ⟨x1, rfl⟩ := LaterW.of2 hb) | (obtain ⟨x1, rfl⟩ := LaterW.of hb)); clear hb) | (go_at_call 90; (with_reducible refine (dimension_any h0 h3 HW.out _).mono ?_); rintro e w1 ⟨rfl, hb⟩; (first | (obtain ⟨x1, rfl⟩ := LaterW.of2 hb) | (obtain ⟨x1, rfl⟩ := LaterW.of hb)); clear hb))
  rw [MK0.out]
  have hx : w.heap.size + 1 ≤ x1.val.heap.size := by have := x1.ok.size; rwa [World.size_alloc] at this
  have o4 : Own x1.val w.heap.size [.int .u8 0, .slice none 0 0] := (by repeat (first | (refine Own.new' _ rfl ?_; first | with_reducible rfl | (simp; done)) | with_reducible apply Own.later | with_reducible apply Own.alloc | with_reducible apply Own.drew | with_reducible apply Own.drewN | with_reducible apply Own.other))
  have hbx : Below w.heap.size w x1.val := (by repeat (first | with_reducible exact Below.refl _ _ | with_reducible exact HBEL.out | with_reducible assumption | with_reducible refine Below.setCell ?_ (by first | (dsimp only; omega) | (simp; try omega)) _ | with_reducible refine LaterW.below _ ?_ | with_reducible refine below_alloc ?_ _ | with_reducible refine below_drewN' ?_ _ | with_reducible refine Below.drew ?_ | with_reducible exact below_drewN _))
  go_wp2_with (refine wpList_copy_splice rfl (.tmp 20) (.tmp 21) 22 22 rfl 36 Try.underlying22 sizeFl _ _ _ _ _ _ rfl rfl x1.val.heap.size 0 Zs 36 ?c1 Xs ?c2 ?c3 ?c4 ?c5 (w.heap.size + 1) x1.val ?c6 ?c7 ?_)
  case c1 => exact alloc_at _ _
  case c2 => rw [hXl]; exact (Nat.min_eq_right hmn).symm
  case c3 =>
    intro h0m
    obtain ⟨ad, e1, e2⟩ := news_of (o := 0) (m := m) (HA.out.below (C := w.heap.size) (hbx.trans ((Below.refl _ _).alloc hbx.size _)) hB) (by omega) h0m
    refine ⟨ad, e1, fun j v hj => ?_⟩
    have := e2 j v (by rw [List.drop_zero, ← HXs.out]; exact hj)
    rw [Addr.add_zero'] at this
    exact this
  case c4 => omega
  case c5 => intro v hv; rw [HXs.out] at hv; obtain ⟨x, _, rfl⟩ := List.mem_map.1 hv; rfl
  case c6 => exact (Below.refl _ _).alloc hx _
  case c7 => exact hx
  intro w2 hg2 hb2
  have hg' : RowIs w2 x1.val.heap.size (xs.take m) := by
    have h := hg2.out
    rw [splice_all (by omega), HXs.out] at h
    exact h
  have hge : w.heap.size ≤ x1.val.heap.size := hbx.size
  have hbw : Below w.heap.size w w2 := hbx.trans (Below.mono hb2 (Nat.le_succ _))
  have oo := o4.below hb2 (Nat.lt_succ_self _)
  rename LaterW (w.alloc _) => y1
  have hgw : w.heap.size < y1.val.heap.size := by omega
  have HG := Lib.hid hg'
  have HB := Lib.hid hbw
  have HO := Lib.hid oo
  clear hg' hbw hg2 hb2 o4 oo MK0 HZ
  go_wp2_with (first | (go_at_call 106; (with_reducible refine (newSequence_any h0 h3 (by rw [HWN.out]; exact hmd) _).mono ?_); rintro e w1 ⟨rfl, hb⟩; (first | (obtain ⟨x1, rfl⟩ := LaterW.of2 hb) | (obtain ⟨x1, rfl⟩ := LaterW.of hb)); clear hb) | (refine wpList_store_mid rfl 70 (.tmp 4) (.tmp 25) rfl w.heap.size 0 _ rfl rfl (Own.there (HO.out.later x1) (Nat.le_refl 2)) (by kernel_rfl) (by kernel_rfl) ?_))
  have oR := Own.sets (vs := [.int .u8 (d % 4), .slice (some ⟨y1.val.heap.size, 0, none⟩) m m]) (HO.out.later x1) rfl
  have hR := RowIs.setCells (C := w.heap.size) (by omega) (RowIs.below HG.out x1.ok (RowIs.lt HG.out)) 0 [.int .u8 (d % 4), .slice (some ⟨y1.val.heap.size, 0, none⟩) m m]
  have hbl := Below.setCells (Nat.le_refl _) [.int .u8 (d % 4), .slice (some ⟨y1.val.heap.size, 0, none⟩) m m] 0 _ (HB.out.trans (Below.mono x1.ok HB.out.size))
  generalize x1.val.setCells w.heap.size 0 [.int .u8 (d % 4), .slice (some ⟨y1.val.heap.size, 0, none⟩) m m] = W9 at *
  refine ret_agg [.int .u8 (d % 4), .slice (some ⟨y1.val.heap.size, 0, none⟩) m m] rfl rfl rfl (by kernel_rfl) (by kernel_rfl) (oR).cells (⟨y1.val.heap.size, rfl, hge, hR, hbl⟩)
theorem line_any {d : Int} {a : Option Addr} {n ca B : Nat} {kk : Option Addr} {nk ck : Nat} {xs : List Nat} {w : World} (ha : NumsIs w B a xs) (hB : B ≤ w.heap.size) (hn : xs.length = n) (hl : n ≤ 4000) {m : Nat} (hm : n / widthN (d % 4) * widthN (d % 4) = m) :
    Calls Try.prog 48 #[vGeom 2 d a n ca kk nk ck] w fun e w' => ∃ g, e = .returned (vSeq (d % 4) (some ⟨g, 0, none⟩) m m) ∧ w.heap.size ≤ g ∧ RowIs w' g (xs.take m) ∧ Below w.heap.size w w' := by
  have HA := Lib.hid ha
  clear ha
  go_enter Try.func48, Try.ntmps48
  go_wp2_with fail
  refine (sequence_any (HA.out.below (C := w.heap.size) (by repeat (first | with_reducible exact Below.refl _ _ | with_reducible exact HBEL.out | with_reducible assumption | with_reducible refine Below.setCell ?_ (by first | (dsimp only; omega) | (simp; try omega)) _ | with_reducible refine LaterW.below _ ?_ | with_reducible refine below_alloc ?_ _ | with_reducible refine below_drewN' ?_ _ | with_reducible refine Below.drew ?_ | with_reducible exact below_drewN _)) hB) (by simp; omega) hn hl hm).mono ?_
  rintro e w1 ⟨g, rfl, hge, hrow, hb⟩
  rw [World.size_alloc, World.size_alloc] at hge
  obtain ⟨x1, rfl⟩ := LaterW.of hb
  clear hb
  have HR := Lib.hid hrow
  have o2 : Own x1.val (w.heap.size + 1) [.int .u8 0, .slice none 0 0] := (by repeat (first | (refine Own.new' _ rfl ?_; first | with_reducible rfl | (simp; done)) | with_reducible apply Own.later | with_reducible apply Own.alloc | with_reducible apply Own.drew | with_reducible apply Own.drewN | with_reducible apply Own.other))
  have hbel : Below w.heap.size w x1.val := (by repeat (first | with_reducible exact Below.refl _ _ | with_reducible exact HBEL.out | with_reducible assumption | with_reducible refine Below.setCell ?_ (by first | (dsimp only; omega) | (simp; try omega)) _ | with_reducible refine LaterW.below _ ?_ | with_reducible refine below_alloc ?_ _ | with_reducible refine below_drewN' ?_ _ | with_reducible refine Below.drew ?_ | with_reducible exact below_drewN _))
  have HO := Lib.hid o2
  have HB := Lib.hid hbel
  clear hrow o2 hbel HA
  generalize x1.val = W at *
  clear x1
  go_wp2_with (first | (go_at_call 88; (with_reducible refine (newLineString_any _ _ _ _ _).mono ?_); rintro e w1 ⟨rfl, hb⟩; (first | (obtain ⟨x1, rfl⟩ := LaterW.of2 hb) | (obtain ⟨x1, rfl⟩ := LaterW.of hb)); clear hb) | (refine wpList_store_mid rfl 72 (.tmp 2) (.tmp 15) rfl (w.heap.size + 1) 0 _ rfl rfl (Own.there (HO.out.later x1) (Nat.le_refl 2)) (by kernel_rfl) (by kernel_rfl) ?_))
  have oR := Own.sets (vs := [.int .u8 (d % 4), .slice (some ⟨g, 0, none⟩) m m]) (HO.out.later x1) rfl
  have hR := RowIs.setCells (C := w.heap.size + 1) (by omega) (RowIs.below HR.out x1.ok (RowIs.lt HR.out)) 0 [.int .u8 (d % 4), .slice (some ⟨g, 0, none⟩) m m]
  have hbl := Below.setCells (Nat.le_succ _) [.int .u8 (d % 4), .slice (some ⟨g, 0, none⟩) m m] 0 _ (HB.out.trans (Below.mono x1.ok HB.out.size))
  generalize x1.val.setCells (w.heap.size + 1) 0 [.int .u8 (d % 4), .slice (some ⟨g, 0, none⟩) m m] = W9 at *
  refine ret_agg [.int .u8 (d % 4), .slice (some ⟨g, 0, none⟩) m m] rfl rfl rfl (by kernel_rfl) (by kernel_rfl) (oR).cells (⟨g, rfl, by omega, hR, hbl⟩)
end Go.Proofs.Ytihkmkcjjlmkhaa
