/- Small laws on worlds that are later than another one, and a region that draws its order, whose operations only read but for calls that make memory. No condition. -/
import Derived.Test.YtjikhnnheggejaaRows
import Derived.WalkKit
import Derived.WalkLawsBesides
import Derived.ProofKit
import Derived.Outline
import Derived.Deep.QuietTactic
import Derived.BigQuiet
import Derived.Lib.Hide
import Derived.Laws.StructEq
import Derived.Test.YtjikhnnheggejaaFloat
import Derived.Test.YtjikhnnheggejaaLast
namespace Go.Proofs.Ytjikhnnheggejaa
open Go.ChangeShapes Go.WideShapes Go.ChangeAt Go.RowKit

/-- A world in which nothing of w has turned. -/
structure LaterW (w : World) where
  it : World
  itOk : Below w.heap.size w it
@[irreducible] def LaterW.val {w : World} (x : LaterW w) : World := x.it
theorem LaterW.ok {w : World} (x : LaterW w) : Below w.heap.size w x.val := by unfold LaterW.val; exact x.itOk
theorem LaterW.of {w w' : World} (h : Below w.heap.size w w') : ∃ x : LaterW w, w' = x.val := ⟨⟨w', h⟩, by unfold LaterW.val; rfl⟩
instance (w : World) : Nonempty (LaterW w) := ⟨⟨w, Below.refl _ _⟩⟩
@[go_sem] theorem LaterW.cell {w : World} (x : LaterW w) (a : Addr) (h : a.block < w.heap.size) : x.val.cell? a = w.cell? a := x.ok.cell h
@[go_sem] theorem LaterW.frozen {w : World} (x : LaterW w) (a : Addr) (h : a.block < w.heap.size) : x.val.frozen? a = w.frozen? a := x.ok.frozen h
@[go_sem] theorem LaterW.lt {w : World} (x : LaterW w) (n : Nat) (h : n < w.heap.size) : (n < x.val.heap.size) = True := eq_true (Nat.lt_of_lt_of_le h x.ok.size)
@[go_sem] theorem LaterW.le {w : World} (x : LaterW w) (n : Nat) (h : n ≤ w.heap.size) : (n ≤ x.val.heap.size) = True := eq_true (Nat.le_trans h x.ok.size)

/-- Everything from the first world's end on has been made by the call: Below w.heap.size w w', as a chain. -/
theorem LaterW.below {w u : World} (x : LaterW u) (h : Below w.heap.size w u) : Below w.heap.size w x.val := h.trans (x.ok.mono h.size)

theorem wp_region_later {P : Program} {id : Nat} {Q : Exit → Act → World → Prop} {a : Act} {w : World} {l : List Oper} (hm : P.follows .mixedOrders = true) (hB : Region.lexB .any l.toArray = true)
    (h : wpQuiet P l.toArray (fun w' => ∃ x : LaterW w, w' = x.val) (fun a' => ∀ w', (∃ x : LaterW w, w' = x.val) → Q .normal a' w') l a) : (Code.region id l.toArray true).wp P Q a w :=
  wp_region_quiet (C := fun w' => ∃ x : LaterW w, w' = x.val) hm hB (LaterW.of (w' := w.drew) (Below.refl _ _).drew) (by simpa using h)

theorem LaterW.of2 {u : World} {x : LaterW u} {w' : World} (h : Below x.val.heap.size x.val w') : ∃ y : LaterW u, w' = y.val := LaterW.of (x.ok.trans (h.mono x.ok.size))
theorem wp_region_later2 {P : Program} {id : Nat} {Q : Exit → Act → World → Prop} {a : Act} {u : World} {x0 : LaterW u} {l : List Oper} (hm : P.follows .mixedOrders = true) (hB : Region.lexB .any l.toArray = true)
    (h : wpQuiet P l.toArray (fun w' => ∃ x : LaterW u, w' = x.val) (fun a' => ∀ w', (∃ x : LaterW u, w' = x.val) → Q .normal a' w') l a) : (Code.region id l.toArray true).wp P Q a x0.val :=
  wp_region_quiet (C := fun w' => ∃ x : LaterW u, w' = x.val) hm hB (LaterW.of (w' := x0.val.drew) x0.ok.drew) (by simpa using h)
theorem wp_region_laterlast {P : Program} {id n : Nat} {Q : Exit → Act → World → Prop} {a : Act} {w : World} {L : List Oper} {o : Oper} (hlen : L.length = n + 1) (ho : L[n]? = some o) (hm : P.follows .mixedOrders = true)
    (hB : Region.lexB .any (L.take n).toArray = true) (hl : lastB .any (L.take n) o = true)
    (h : wpQuiet P (L.take n).toArray (fun w' => ∃ x : LaterW w, w' = x.val) (fun a' => ∀ w', (∃ x : LaterW w, w' = x.val) → wpList P L.toArray Q [o] a' w') (L.take n) a) : (Code.region id L.toArray true).wp P Q a w :=
  wp_region_last_lit (C := fun w' => ∃ x : LaterW w, w' = x.val) hlen ho hm hB hl (LaterW.of (w' := w.drew) (Below.refl _ _).drew) h
theorem wp_region_laterlast2 {P : Program} {id n : Nat} {Q : Exit → Act → World → Prop} {a : Act} {u : World} {x0 : LaterW u} {L : List Oper} {o : Oper} (hlen : L.length = n + 1) (ho : L[n]? = some o) (hm : P.follows .mixedOrders = true)
    (hB : Region.lexB .any (L.take n).toArray = true) (hl : lastB .any (L.take n) o = true)
    (h : wpQuiet P (L.take n).toArray (fun w' => ∃ x : LaterW u, w' = x.val) (fun a' => ∀ w', (∃ x : LaterW u, w' = x.val) → wpList P L.toArray Q [o] a' w') (L.take n) a) : (Code.region id L.toArray true).wp P Q a x0.val :=
  wp_region_last_lit (C := fun w' => ∃ x : LaterW u, w' = x.val) hlen ho hm hB hl (LaterW.of (w' := x0.val.drew) x0.ok.drew) h
theorem Calls.later_of {P : Program} {f : FuncId} {args : Array Value} {w : World} {x : LaterW w} {v : Value}
    (h : Calls P f args x.val fun e w' => e = .returned v ∧ Below x.val.heap.size x.val w') : Calls P f args x.val fun e w'' => e = .returned v ∧ ∃ y : LaterW w, w'' = y.val :=
  h.mono fun _ _ ⟨he, hm⟩ => ⟨he, LaterW.of (x.ok.trans (hm.mono x.ok.size))⟩
theorem Calls.below_same {P : Program} {f : FuncId} {args : Array Value} {w : World} {v : Value}
    (h : Calls P f args w fun e w' => e = .returned v ∧ w = w') : Calls P f args w fun e w'' => e = .returned v ∧ Below w.heap.size w w'' :=
  h.mono fun _ _ ⟨he, hm⟩ => ⟨he, by subst hm; exact Below.refl _ _⟩
theorem Calls.below_drewN {P : Program} {f : FuncId} {args : Array Value} {w : World} {v : Value}
    (h : Calls P f args w fun e w' => e = .returned v ∧ ∃ n, w' = w.drewN n) : Calls P f args w fun e w'' => e = .returned v ∧ Below w.heap.size w w'' :=
  h.mono fun _ _ ⟨he, n, hm⟩ => ⟨he, by subst hm; exact ⟨rfl, rfl, rfl, Nat.le_refl _, fun _ _ => rfl⟩⟩

@[go_sem] theorem run_store_fl (P : Program) (w : World) (a : Addr) (m : Mode) (k : FloatKind) (b : Nat) : (store a (.float k b) m).run P w = stored P w a (.float k b) m := run_store P w a _ m rfl
abbrev fl (x : Nat) : Value := .float .f64 x
@[go_sem] theorem fmt64 : FloatKind.format .f64 = Ieee.double := rfl
theorem ret_bool {a b : Bool} (h : a = b) : Ending.returned (.bool a) = .returned (.bool b) := by rw [h]
theorem ret_fl {a b : Nat} (h : a = b) : Ending.returned (fl a) = .returned (fl b) := by rw [h]
theorem below_drewN {w : World} (n : Nat) : Below w.heap.size w (w.drewN n) := ⟨rfl, rfl, rfl, Nat.le_refl _, fun _ _ => rfl⟩
theorem below_drewN' {B : Nat} {a w : World} (h : Below B a w) (n : Nat) : Below B a (w.drewN n) := ⟨h.os, h.tape, h.output, h.size, h.block⟩
theorem below_alloc {w u : World} (h : Below w.heap.size w u) (o : Obj) : Below w.heap.size w (u.alloc o) := h.alloc h.size o
@[go_sem] theorem run_equalIn_float {P : Program} (w : World) (d : Nat) (t : TypeId) (k k' : FloatKind) (a b : Nat) (h : P.underlying t = some (.float k')) : (Op.equalIn (d + 1) t (.float k a) (.float k b)).run P w = .ok (k.format.order a b == some .eq) w := by
  simp [Op.equalIn, run_underlying h, Op.floatEq]
end Go.Proofs.Ytjikhnnheggejaa
