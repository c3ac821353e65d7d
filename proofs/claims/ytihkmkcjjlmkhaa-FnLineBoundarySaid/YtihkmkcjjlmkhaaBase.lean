/- Small laws on worlds that are later than another one, and a region that draws its order, whose operations only read but for calls that make memory. No condition. -/
import Derived.Test.YtihkmkcjjlmkhaaRows
import Derived.WalkKit
import Derived.WalkLawsBesides
import Derived.ProofKit
import Derived.Outline
import Derived.Deep.QuietTactic
import Derived.BigQuiet
import Derived.Lib.Hide
import Derived.Laws.StructEq
import Derived.Test.YtihkmkcjjlmkhaaFloat
import Derived.Test.YtihkmkcjjlmkhaaLast
namespace Go.Proofs.Ytihkmkcjjlmkhaa
set_option maxRecDepth 100000
open Go.ChangeShapes Go.WideShapes Go.ChangeAt Go.RowKit

/-- A world in which nothing of w has turned. -/
structure LaterW (w : World) where
  it : World
  itOk : Below w.heap.size w it
@[irreducible] def LaterW.val {w : World} (x : LaterW w) : World := x.it
theorem LaterW.ok {w : World} (x : LaterW w) : Below w.heap.size w x.val := by unfold LaterW.val; exact x.itOk
theorem LaterW.of {w w' : World} (h : Below w.heap.size w w') : ∃ x : LaterW w, w' = x.val := ⟨⟨w', h⟩, by unfold LaterW.val; rfl⟩
instance (w : World) : Nonempty (LaterW w) := ⟨⟨w, Below.refl _ _⟩⟩
@[go_sem] theorem LaterW.cell {w : World} (x : LaterW w) (a : Addr) (h : a.block < w.heap.size) : x.val.cell? a = w.cell? a := x.ok.cell h
@[go_sem] theorem LaterW.frozen {w : World} (x : LaterW w) (a : Addr) (h : a.block < w.heap.size) : x.val.frozen? a = w.frozen? a := x.ok.frozen h
@[go_sem] theorem LaterW.lt {w : World} (x : LaterW w) (n : Nat) (h : n < w.heap.size) : (n < x.val.heap.size) = True := eq_true (Nat.lt_of_lt_of_le h x.ok.size)
@[go_sem] theorem LaterW.le {w : World} (x : LaterW w) (n : Nat) (h : n ≤ w.heap.size) : (n ≤ x.val.heap.size) = True := eq_true (Nat.le_trans h x.ok.size)

@[go_sem] theorem LaterW.lt10 {w : World} {o0 : Obj} (x : LaterW (w.alloc o0)) : (w.heap.size < x.val.heap.size) = True := eq_true (Nat.lt_of_lt_of_le (by simp; try omega) x.ok.size)
@[go_sem] theorem LaterW.lt20 {w : World} {o0 o1 : Obj} (x : LaterW ((w.alloc o0).alloc o1)) : (w.heap.size < x.val.heap.size) = True := eq_true (Nat.lt_of_lt_of_le (by simp; try omega) x.ok.size)
@[go_sem] theorem LaterW.lt21 {w : World} {o0 o1 : Obj} (x : LaterW ((w.alloc o0).alloc o1)) : (w.heap.size + 1 < x.val.heap.size) = True := eq_true (Nat.lt_of_lt_of_le (by simp; try omega) x.ok.size)
@[go_sem] theorem LaterW.lt30 {w : World} {o0 o1 o2 : Obj} (x : LaterW (((w.alloc o0).alloc o1).alloc o2)) : (w.heap.size < x.val.heap.size) = True := eq_true (Nat.lt_of_lt_of_le (by simp; try omega) x.ok.size)
@[go_sem] theorem LaterW.lt31 {w : World} {o0 o1 o2 : Obj} (x : LaterW (((w.alloc o0).alloc o1).alloc o2)) : (w.heap.size + 1 < x.val.heap.size) = True := eq_true (Nat.lt_of_lt_of_le (by simp; try omega) x.ok.size)
@[go_sem] theorem LaterW.lt32 {w : World} {o0 o1 o2 : Obj} (x : LaterW (((w.alloc o0).alloc o1).alloc o2)) : (w.heap.size + 1 + 1 < x.val.heap.size) = True := eq_true (Nat.lt_of_lt_of_le (by simp; try omega) x.ok.size)
@[go_sem] theorem LaterW.lt40 {w : World} {o0 o1 o2 o3 : Obj} (x : LaterW ((((w.alloc o0).alloc o1).alloc o2).alloc o3)) : (w.heap.size < x.val.heap.size) = True := eq_true (Nat.lt_of_lt_of_le (by simp; try omega) x.ok.size)
@[go_sem] theorem LaterW.lt41 {w : World} {o0 o1 o2 o3 : Obj} (x : LaterW ((((w.alloc o0).alloc o1).alloc o2).alloc o3)) : (w.heap.size + 1 < x.val.heap.size) = True := eq_true (Nat.lt_of_lt_of_le (by simp; try omega) x.ok.size)
@[go_sem] theorem LaterW.lt42 {w : World} {o0 o1 o2 o3 : Obj} (x : LaterW ((((w.alloc o0).alloc o1).alloc o2).alloc o3)) : (w.heap.size + 1 + 1 < x.val.heap.size) = True := eq_true (Nat.lt_of_lt_of_le (by simp; try omega) x.ok.size)
@[go_sem] theorem LaterW.lt43 {w : World} {o0 o1 o2 o3 : Obj} (x : LaterW ((((w.alloc o0).alloc o1).alloc o2).alloc o3)) : (w.heap.size + 1 + 1 + 1 < x.val.heap.size) = True := eq_true (Nat.lt_of_lt_of_le (by simp; try omega) x.ok.size)
@[go_sem] theorem LaterW.lt50 {w : World} {o0 o1 o2 o3 o4 : Obj} (x : LaterW (((((w.alloc o0).alloc o1).alloc o2).alloc o3).alloc o4)) : (w.heap.size < x.val.heap.size) = True := eq_true (Nat.lt_of_lt_of_le (by simp; try omega) x.ok.size)
@[go_sem] theorem LaterW.lt51 {w : World} {o0 o1 o2 o3 o4 : Obj} (x : LaterW (((((w.alloc o0).alloc o1).alloc o2).alloc o3).alloc o4)) : (w.heap.size + 1 < x.val.heap.size) = True := eq_true (Nat.lt_of_lt_of_le (by simp; try omega) x.ok.size)
@[go_sem] theorem LaterW.lt52 {w : World} {o0 o1 o2 o3 o4 : Obj} (x : LaterW (((((w.alloc o0).alloc o1).alloc o2).alloc o3).alloc o4)) : (w.heap.size + 1 + 1 < x.val.heap.size) = True := eq_true (Nat.lt_of_lt_of_le (by simp; try omega) x.ok.size)
@[go_sem] theorem LaterW.lt53 {w : World} {o0 o1 o2 o3 o4 : Obj} (x : LaterW (((((w.alloc o0).alloc o1).alloc o2).alloc o3).alloc o4)) : (w.heap.size + 1 + 1 + 1 < x.val.heap.size) = True := eq_true (Nat.lt_of_lt_of_le (by simp; try omega) x.ok.size)
@[go_sem] theorem LaterW.lt54 {w : World} {o0 o1 o2 o3 o4 : Obj} (x : LaterW (((((w.alloc o0).alloc o1).alloc o2).alloc o3).alloc o4)) : (w.heap.size + 1 + 1 + 1 + 1 < x.val.heap.size) = True := eq_true (Nat.lt_of_lt_of_le (by simp; try omega) x.ok.size)
/-- Everything from the first world's end on has been made by the call: Below w.heap.size w w', as a chain. -/
theorem LaterW.below {w u : World} (x : LaterW u) (h : Below w.heap.size w u) : Below w.heap.size w x.val := h.trans (x.ok.mono h.size)

theorem wp_region_later {P : Program} {id : Nat} {Q : Exit → Act → World → Prop} {a : Act} {w : World} {l : List Oper} (hm : P.follows .mixedOrders = true) (hB : Region.lexB .any l.toArray = true)
    (h : wpQuiet P l.toArray (fun w' => ∃ x : LaterW w, w' = x.val) (fun a' => ∀ w', (∃ x : LaterW w, w' = x.val) → Q .normal a' w') l a) : (Code.region id l.toArray true).wp P Q a w :=
  wp_region_quiet (C := fun w' => ∃ x : LaterW w, w' = x.val) hm hB (LaterW.of (w' := w.drew) (Below.refl _ _).drew) (by simpa using h)

theorem LaterW.of2 {u : World} {x : LaterW u} {w' : World} (h : Below x.val.heap.size x.val w') : ∃ y : LaterW u, w' = y.val := LaterW.of (x.ok.trans (h.mono x.ok.size))
theorem wp_region_later2 {P : Program} {id : Nat} {Q : Exit → Act → World → Prop} {a : Act} {u : World} {x0 : LaterW u} {l : List Oper} (hm : P.follows .mixedOrders = true) (hB : Region.lexB .any l.toArray = true)
    (h : wpQuiet P l.toArray (fun w' => ∃ x : LaterW u, w' = x.val) (fun a' => ∀ w', (∃ x : LaterW u, w' = x.val) → Q .normal a' w') l a) : (Code.region id l.toArray true).wp P Q a x0.val :=
  wp_region_quiet (C := fun w' => ∃ x : LaterW u, w' = x.val) hm hB (LaterW.of (w' := x0.val.drew) x0.ok.drew) (by simpa using h)
theorem wp_region_laterlast {P : Program} {id n : Nat} {Q : Exit → Act → World → Prop} {a : Act} {w : World} {L : List Oper} {o : Oper} (hlen : L.length = n + 1) (ho : L[n]? = some o) (hm : P.follows .mixedOrders = true)
    (hB : Region.lexB .any (L.take n).toArray = true) (hl : lastB .any (L.take n) o = true)
    (h : wpQuiet P (L.take n).toArray (fun w' => ∃ x : LaterW w, w' = x.val) (fun a' => ∀ w', (∃ x : LaterW w, w' = x.val) → wpList P L.toArray Q [o] a' w') (L.take n) a) : (Code.region id L.toArray true).wp P Q a w :=
  wp_region_last_lit (C := fun w' => ∃ x : LaterW w, w' = x.val) hlen ho hm hB hl (LaterW.of (w' := w.drew) (Below.refl _ _).drew) h
theorem wp_region_laterlast2 {P : Program} {id n : Nat} {Q : Exit → Act → World → Prop} {a : Act} {u : World} {x0 : LaterW u} {L : List Oper} {o : Oper} (hlen : L.length = n + 1) (ho : L[n]? = some o) (hm : P.follows .mixedOrders = true)
    (hB : Region.lexB .any (L.take n).toArray = true) (hl : lastB .any (L.take n) o = true)
    (h : wpQuiet P (L.take n).toArray (fun w' => ∃ x : LaterW u, w' = x.val) (fun a' => ∀ w', (∃ x : LaterW u, w' = x.val) → wpList P L.toArray Q [o] a' w') (L.take n) a) : (Code.region id L.toArray true).wp P Q a x0.val :=
  wp_region_last_lit (C := fun w' => ∃ x : LaterW u, w' = x.val) hlen ho hm hB hl (LaterW.of (w' := x0.val.drew) x0.ok.drew) h
theorem Calls.later_of {P : Program} {f : FuncId} {args : Array Value} {w : World} {x : LaterW w} {v : Value}
    (h : Calls P f args x.val fun e w' => e = .returned v ∧ Below x.val.heap.size x.val w') : Calls P f args x.val fun e w'' => e = .returned v ∧ ∃ y : LaterW w, w'' = y.val :=
  h.mono fun _ _ ⟨he, hm⟩ => ⟨he, LaterW.of (x.ok.trans (hm.mono x.ok.size))⟩
theorem Calls.below_same {P : Program} {f : FuncId} {args : Array Value} {w : World} {v : Value}
    (h : Calls P f args w fun e w' => e = .returned v ∧ w = w') : Calls P f args w fun e w'' => e = .returned v ∧ Below w.heap.size w w'' :=
  h.mono fun _ _ ⟨he, hm⟩ => ⟨he, by subst hm; exact Below.refl _ _⟩
theorem Calls.below_drewN {P : Program} {f : FuncId} {args : Array Value} {w : World} {v : Value}
    (h : Calls P f args w fun e w' => e = .returned v ∧ ∃ n, w' = w.drewN n) : Calls P f args w fun e w'' => e = .returned v ∧ Below w.heap.size w w'' :=
  h.mono fun _ _ ⟨he, n, hm⟩ => ⟨he, by subst hm; exact ⟨rfl, rfl, rfl, Nat.le_refl _, fun _ _ => rfl⟩⟩

@[go_sem] theorem run_store_fl (P : Program) (w : World) (a : Addr) (m : Mode) (k : FloatKind) (b : Nat) : (store a (.float k b) m).run P w = stored P w a (.float k b) m := run_store P w a _ m rfl
abbrev fl (x : Nat) : Value := .float .f64 x
@[go_sem] theorem fmt64 : FloatKind.format .f64 = Ieee.double := rfl
theorem ret_bool {a b : Bool} (h : a = b) : Ending.returned (.bool a) = .returned (.bool b) := by rw [h]
theorem ret_fl {a b : Nat} (h : a = b) : Ending.returned (fl a) = .returned (fl b) := by rw [h]
theorem below_drewN {w : World} (n : Nat) : Below w.heap.size w (w.drewN n) := ⟨rfl, rfl, rfl, Nat.le_refl _, fun _ _ => rfl⟩
theorem below_drewN' {B : Nat} {a w : World} (h : Below B a w) (n : Nat) : Below B a (w.drewN n) := ⟨h.os, h.tape, h.output, h.size, h.block⟩
theorem below_alloc {w u : World} (h : Below w.heap.size w u) (o : Obj) : Below w.heap.size w (u.alloc o) := h.alloc h.size o
@[go_sem] theorem run_equalIn_float {P : Program} (w : World) (d : Nat) (t : TypeId) (k k' : FloatKind) (a b : Nat) (h : P.underlying t = some (.float k')) : (Op.equalIn (d + 1) t (.float k a) (.float k b)).run P w = .ok (k.format.order a b == some .eq) w := by
  simp [Op.equalIn, run_underlying h, Op.floatEq]

/-- Cells one behind the other. -/
def CellsAt (w : World) (b : Nat) : Nat → List Value → Prop
  | _, [] => True
  | o, v :: r => w.cell? ⟨b, o, none⟩ = some v ∧ CellsAt w b (o + 1) r
theorem CellsAt.get {w : World} {b : Nat} : ∀ {cs : List Value} {o : Nat}, CellsAt w b o cs → ∀ i v, cs[i]? = some v → w.cell? ⟨b, o + i, none⟩ = some v
  | [], _, _, i, v, h => by simp at h
  | c :: r, o, ⟨h1, _⟩, 0, v, h => by simp at h; subst h; exact h1
  | c :: r, o, ⟨_, h2⟩, i + 1, v, h => by
    have := CellsAt.get h2 i v (by simpa using h)
    rwa [show o + 1 + i = o + (i + 1) by omega] at this
@[go_sem] theorem isSome_setCell (w : World) (p a : Addr) (v : Value) : ((w.setCell p v).cell? a).isSome = (w.cell? a).isSome := by
  by_cases h : p = a
  · subst h
    simp only [World.setCell, World.cell?, Array.getElem?_modify, if_true]
    cases hh : w.heap[p.block]? with
    | none => rfl
    | some x =>
      cases x <;> simp
      cases hsp : p.spot with
      | some _ => simp
      | none =>
        simp only [Option.isSome_none, Bool.false_eq_true, if_false]
        simp [Array.getElem?_setIfInBounds]
        split <;> simp_all
  · rw [World.cell?_setCell_other _ _ _ _ h]
theorem CellsAt.mono {w w' : World} {b : Nat} (hc : ∀ j, w'.cell? ⟨b, j, none⟩ = w.cell? ⟨b, j, none⟩) : ∀ {cs : List Value} {o : Nat}, CellsAt w b o cs → CellsAt w' b o cs
  | [], _, _ => trivial
  | _ :: _, _, ⟨h1, h2⟩ => ⟨(hc _).trans h1, h2.mono hc⟩
theorem CellsAt.of {w : World} {b : Nat} : ∀ {cs : List Value} {o : Nat}, (∀ i v, cs[i]? = some v → w.cell? ⟨b, o + i, none⟩ = some v) → CellsAt w b o cs
  | [], _, _ => trivial
  | c :: r, o, h => ⟨by simpa using h 0 c rfl, CellsAt.of (fun i v hi => by have := h (i + 1) v (by simpa using hi); rwa [show o + (i + 1) = o + 1 + i by omega] at this)⟩
/-- A block that may be written, known from its head on. -/
structure Own (w : World) (B : Nat) (cs : List Value) : Prop where
  cells : CellsAt w B 0 cs
  free : ∀ j, w.frozen? ⟨B, j, none⟩ = false
  lt : B < w.heap.size
theorem Own.below {w w' : World} {B C : Nat} {cs : List Value} (h : Own w B cs) (hb : Below C w w') (hB : B < C) : Own w' B cs :=
  ⟨h.cells.mono fun j => hb.cell (p := ⟨B, j, none⟩) hB, fun j => (hb.frozen (p := ⟨B, j, none⟩) hB).trans (h.free j), Nat.lt_of_lt_of_le h.lt hb.size⟩
theorem Own.later {u : World} {B : Nat} {cs : List Value} (h : Own u B cs) (x : LaterW u) : Own x.val B cs := h.below x.ok h.lt
theorem Own.alloc {w : World} {B : Nat} {cs : List Value} (h : Own w B cs) (o : Obj) : Own (w.alloc o) B cs :=
  h.below (B := B) (C := w.heap.size) ((Below.refl _ _).alloc (Nat.le_refl _) o) h.lt
theorem Own.drewN {w : World} {B : Nat} {cs : List Value} (h : Own w B cs) (n : Nat) : Own (w.drewN n) B cs := ⟨CellsAt.mono (w := w) (w' := w.drewN n) (fun _ => rfl) h.cells, h.free, h.lt⟩
theorem Own.drew {w : World} {B : Nat} {cs : List Value} (h : Own w B cs) : Own w.drew B cs := ⟨CellsAt.mono (w := w) (w' := w.drew) (fun _ => rfl) h.cells, h.free, h.lt⟩
theorem Own.new {w : World} (cs : List Value) (t : TypeId) : Own (w.alloc (.cells cs.toArray t)) w.heap.size cs :=
  ⟨CellsAt.of fun i v hi => by rw [Nat.zero_add, World.cell?_alloc_new]; simpa using hi, fun j => World.frozen?_alloc_new _ _ _ _, by simp⟩
theorem Own.new' {w : World} {arr : Array Value} {B : Nat} {cs : List Value} (t : TypeId) (h : arr = cs.toArray) (hB : B = w.heap.size) : Own (w.alloc (.cells arr t)) B cs := by subst h; subst hB; exact Own.new cs t
theorem Own.other {w : World} {B : Nat} {cs : List Value} (h : Own w B cs) {p : Addr} (hp : p.block ≠ B) (v : Value) : Own (w.setCell p v) B cs :=
  ⟨h.cells.mono fun j => World.cell?_setCell_other _ _ _ _ (fun e => hp (by rw [e])), fun j => by rw [World.frozen?_setCell]; exact h.free j, by simpa using h.lt⟩
theorem Own.set {w : World} {B : Nat} {cs : List Value} (h : Own w B cs) (i : Nat) (hi : i < cs.length) (v : Value) : Own (w.setCell ⟨B, i, none⟩ v) B (cs.set i v) := by
  refine ⟨CellsAt.of fun j u hj => ?_, fun j => by rw [World.frozen?_setCell]; exact h.free j, by simpa using h.lt⟩
  rw [Nat.zero_add]
  by_cases he : i = j
  · subst he
    have hc := h.cells.get i cs[i] (List.getElem?_eq_getElem hi)
    rw [Nat.zero_add] at hc
    rw [List.getElem?_set_self hi] at hj
    cases hj
    exact World.cell?_setCell_same _ _ _ hc
  · rw [World.cell?_setCell_other _ _ _ _ (fun e => he (by injection e))]
    rw [List.getElem?_set_ne he] at hj
    have := h.cells.get j u hj
    rwa [Nat.zero_add] at this
/-- A function's end: its result is a struct that lies in cells. -/
theorem ret_agg {P : Program} {fn : Func} {R : Ending → World → Prop} {a : Act} {w : World} {p : Tmp} {ty : TypeId} {b o : Nat} (cs : List Value) (hres : fn.results = #[.cell p ty]) (hp : a.tmps.getD p undef = .pointer (some ⟨b, o, none⟩)) (hd : a.defers = [])
    (hu : (match P.underlying ty with | some (.struct _) | some (.array _ _) => true | _ => false) = true) (hi : (P.info? ty).map (·.size) = some cs.length)
    (hc : CellsAt w b o cs) (hR : R (.returned (.agg cs.toArray)) w) : bodyPost P fn R .ret a w := by
  refine bodyPost_ret (v := .agg cs.toArray) ?_ hd hR
  have hl : (loadCells ⟨b, o, none⟩ cs.length).run P w = .ok cs.toArray w := run_loadCells_list (P := P) w ⟨b, o, none⟩ cs (fun j v hv => by
    have hadd : (⟨b, o, none⟩ : Addr).add j = ⟨b, o + j, none⟩ := Addr.add_lit b o j
    rw [hadd]; exact hc.get j v hv)
  cases hq : P.info? ty with
  | none => simp [hq] at hi
  | some i =>
    have hs : i.size = cs.length := by simpa [hq] using hi
    cases hun : P.underlying ty with
    | none => simp [hun] at hu
    | some d =>
      have hagg : (isAgg ty).run P w = .ok true w := by
        unfold isAgg
        rw [Sem.run_bind, run_underlying hun w]
        cases d <;> simp_all
      have hp' : a.tmps[p]?.getD undef = .pointer (some ⟨b, o, none⟩) := by simpa using hp
      simp [results, hres, hp', asAddr, loadVar, Sem.run_bind, hagg, sizeOf, typeInfo, hq, hs, hl]
end Go.Proofs.Ytihkmkcjjlmkhaa
