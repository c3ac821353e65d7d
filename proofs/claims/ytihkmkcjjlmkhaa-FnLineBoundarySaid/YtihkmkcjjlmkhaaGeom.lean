/- Plain geometries in memory: what a value of the type holds, as a tree; how an argument is opened. No condition. -/
import Derived.Test.YtihkmkcjjlmkhaaFrame
import Derived.Test.YtihkmkcjjlmkhaaFacts
import Derived.Deep.Slices
import Derived.Deep.Fields
namespace Go.Proofs.Ytihkmkcjjlmkhaa
set_option maxRecDepth 100000
open Go.ChangeShapes Go.WideShapes Go.ChangeAt Go.RowKit Go.Deep

/-- A plain geometry: kind, type of coordinates, numbers (as words), parts. -/
inductive GT where
  | mk (kind dim : Int) (nums : List Nat) (kids : List GT)
instance : Inhabited GT := ⟨.mk 0 0 [] []⟩
def GT.kind : GT → Int | .mk k _ _ _ => k
def GT.dim : GT → Int | .mk _ d _ _ => d
def GT.nums : GT → List Nat | .mk _ _ n _ => n
def GT.kids : GT → List GT | .mk _ _ _ k => k
/-- Numbers behind a slice's head. -/
def NumsIs (w : World) (B : Nat) (a : Option Addr) (xs : List Nat) : Prop :=
  xs = [] ∨ ∃ b o, a = some ⟨b, o, none⟩ ∧ b < B ∧ ∀ i, i < xs.length → w.cell? ⟨b, o + i, none⟩ = some (fl xs[i]!)
/-- A slice's head: no longer than its capacity; nil has none. -/
def HeadOk (a : Option Addr) (len cap : Nat) : Prop := len ≤ cap ∧ (a = none → cap = 0)
/-- What stands in a geometry's four cells; all memory behind it lies below block B. -/
def GeomIs (w : World) (B : Nat) : Nat → GT → List Value → Prop
  | 0, _, _ => False
  | n + 1, g, cs => IntKind.i64.has g.kind ∧ IntKind.i64.has g.dim ∧ (∀ x ∈ g.nums, x < 2 ^ 64) ∧ g.nums.length ≤ 9223372036854775807 ∧ g.kids.length ≤ 9223372036854775807 ∧
    ∃ (a k : Option Addr) (ac kc : Nat), cs = [.int .i64 g.kind, .int .i64 g.dim, .slice a g.nums.length ac, .slice k g.kids.length kc] ∧ NumsIs w B a g.nums ∧ HeadOk a g.nums.length ac ∧ HeadOk k g.kids.length kc ∧
      (g.kids = [] ∨ ∃ b o, k = some ⟨b, o, none⟩ ∧ b < B ∧ ∀ i, i < g.kids.length → ∃ cs', CellsAt w b (o + i * 4) cs' ∧ GeomIs w B n g.kids[i]! cs')
theorem NumsIs.below {w w' : World} {B C : Nat} {a : Option Addr} {xs : List Nat} (h : NumsIs w B a xs) (hb : Below C w w') (hB : B ≤ C) : NumsIs w' B a xs := by
  rcases h with h | ⟨b, o, h1, h2, h3⟩
  · exact .inl h
  · exact .inr ⟨b, o, h1, h2, fun i hi => (hb.cell (p := ⟨b, o + i, none⟩) (by show b < C; omega)).trans (h3 i hi)⟩
theorem NumsIs.mono {w : World} {B C : Nat} {a : Option Addr} {xs : List Nat} (h : NumsIs w B a xs) (hB : B ≤ C) : NumsIs w C a xs := by
  rcases h with h | ⟨b, o, h1, h2, h3⟩
  · exact .inl h
  · exact .inr ⟨b, o, h1, by omega, h3⟩
theorem GeomIs.below {w w' : World} {B C : Nat} (hb : Below C w w') (hB : B ≤ C) : ∀ {n : Nat} {g : GT} {cs : List Value}, GeomIs w B n g cs → GeomIs w' B n g cs
  | 0, _, _, h => h
  | n + 1, g, cs, ⟨h1, h2, h3, h4, h5, a, k, ac, kc, h6, h7, l1, l2, h8⟩ => ⟨h1, h2, h3, h4, h5, a, k, ac, kc, h6, h7.below hb hB, l1, l2, by
      rcases h8 with h | ⟨b, o, e1, e2, e3⟩
      · exact .inl h
      · refine .inr ⟨b, o, e1, e2, fun i hi => ?_⟩
        obtain ⟨cs', c1, c2⟩ := e3 i hi
        exact ⟨cs', c1.mono fun j => hb.cell (p := ⟨b, j, none⟩) (by show b < C; omega), c2.below hb hB⟩⟩
theorem GeomIs.mono {w : World} {B C : Nat} (hB : B ≤ C) : ∀ {n : Nat} {g : GT} {cs : List Value}, GeomIs w B n g cs → GeomIs w C n g cs
  | 0, _, _, h => h
  | n + 1, g, cs, ⟨h1, h2, h3, h4, h5, a, k, ac, kc, h6, h7, l1, l2, h8⟩ => ⟨h1, h2, h3, h4, h5, a, k, ac, kc, h6, h7.mono hB, l1, l2, by
      rcases h8 with h | ⟨b, o, e1, e2, e3⟩
      · exact .inl h
      · refine .inr ⟨b, o, e1, by omega, fun i hi => ?_⟩
        obtain ⟨cs', c1, c2⟩ := e3 i hi
        exact ⟨cs', c1, c2.mono hB⟩⟩
theorem GeomIs.deeper {w : World} {B : Nat} : ∀ {n : Nat} {g : GT} {cs : List Value}, GeomIs w B n g cs → GeomIs w B (n + 1) g cs
  | 0, _, _, h => h.elim
  | n + 1, g, cs, ⟨h1, h2, h3, h4, h5, a, k, ac, kc, h6, h7, l1, l2, h8⟩ => ⟨h1, h2, h3, h4, h5, a, k, ac, kc, h6, h7, l1, l2, by
      rcases h8 with h | ⟨b, o, e1, e2, e3⟩
      · exact .inl h
      · refine .inr ⟨b, o, e1, e2, fun i hi => ?_⟩
        obtain ⟨cs', c1, c2⟩ := e3 i hi
        exact ⟨cs', c1, c2.deeper⟩⟩

section
variable {H : Type} {enc : TypeId × Value → H} {w : World} {base : Nat} {spare : Nat → Bool} {held : Bool}
theorem trod_float {fuel : Nat} {cs : List Value} {x : DataW H × List MemPlace} (h : DataW.trod enc Try.prog w base spare held fuel 36 cs = some x) (hl : cs.length = 1) : ∃ b, cs = [fl b] ∧ b < 2 ^ 64 := by
  match cs, hl with
  | [c], _ =>
    cases fuel with
    | zero => simp [DataW.trod] at h
    | succ n =>
      simp only [DataW.trod, Try.underlying36] at h
      cases c <;> simp_all [Lit.wf]
theorem trod_int {fuel : Nat} {cs : List Value} {x : DataW H × List MemPlace} (h : DataW.trod enc Try.prog w base spare held fuel 3 cs = some x) (hl : cs.length = 1) : ∃ b, cs = [.int .i64 b] ∧ IntKind.i64.has b := by
  match cs, hl with
  | [c], _ =>
    cases fuel with
    | zero => simp [DataW.trod] at h
    | succ n =>
      simp only [DataW.trod, Try.underlying3] at h
      cases c <;> simp_all [Lit.wf, IntKind.has]
theorem pick {α : Type} {n : Nat} {Q : Nat → α → Prop} [Inhabited α] (h : ∀ i, i < n → ∃ x, Q i x) : ∃ l : List α, l.length = n ∧ ∀ i, i < l.length → Q i l[i]! := by
  obtain ⟨f, hf⟩ : ∃ f : Nat → α, ∀ i, i < n → Q i (f i) := ⟨fun i => if h' : i < n then (h i h').choose else default, fun i hi => by simp only [hi, dif_pos]; exact (h i hi).choose_spec⟩
  refine ⟨(List.range n).map f, by simp, fun i hi => ?_⟩
  have hi' : i < n := by simpa using hi
  have : ((List.range n).map f)[i]! = f i := by simp [hi']
  rw [this]
  exact hf i hi'
theorem cellsAt_of_add {b o : Nat} : ∀ {cs : List Value} , (∀ j v, cs[j]? = some v → w.cell? ((⟨b, o, none⟩ : Addr).add j) = some v) → CellsAt w b o cs := fun h =>
  CellsAt.of fun i v hi => by have := h i v hi; rwa [Addr.add_lit] at this
theorem open_nums {fuel : Nat} {a : Option Addr} {len cap : Nat} {x : DataW H × List MemPlace} (h : DataW.trod enc Try.prog w base spare held fuel 22 [.slice a len cap] = some x) :
    ∃ xs : List Nat, NumsIs w w.heap.size a xs ∧ xs.length = len ∧ len ≤ 9223372036854775807 ∧ ∀ x ∈ xs, x < 2 ^ 64 := by
  have e1 : Try.prog.cellsOf 36 = 1 := by kernel_rfl
  rcases open_slice Try.underlying22 h with ⟨hc, _⟩ | ⟨p, l, c, m, n, Dd, Pl, hc, hb, hl, hm, hmm, hx, hi⟩
  · simp at hc
    obtain ⟨rfl, rfl, rfl⟩ := hc
    exact ⟨[], .inl rfl, rfl, by omega, by simp⟩
  · simp at hc
    obtain ⟨rfl, rfl, rfl⟩ := hc
    have hlm : len ≤ m := by rw [hmm]; split <;> omega
    by_cases h0 : len = 0
    · exact ⟨[], .inl rfl, by simp [h0], by omega, by simp⟩
    rw [e1] at hi
    have key : ∀ i, i < len → ∃ q : Nat, w.cell? (p.add i) = some (fl q) ∧ q < 2 ^ 64 := by
      intro i hlt
      obtain ⟨cs', hcs, ht⟩ := hi i (by omega)
      have hl1 : cs'.length = 1 := (World.cells?_some hcs).2.1
      obtain ⟨q, rfl, lq⟩ := trod_float ht hl1
      obtain ⟨_, _, hat⟩ := World.cells?_some hcs
      exact ⟨q, by simpa [Addr.add_zero'] using hat 0 (by omega), lq⟩
    obtain ⟨q0, hq0, _⟩ := key 0 (by omega)
    obtain ⟨b, o, sp⟩ := p
    have hq0' : w.cell? ⟨b, o, sp⟩ = some (fl q0) := by simpa [Addr.add_zero'] using hq0
    have hsp : sp = none := World.cell?_spot hq0'
    subst hsp
    obtain ⟨xs, hn, hxs⟩ := pick key
    refine ⟨xs, .inr ⟨b, o, rfl, World.block_lt_of_cell? _ _ hq0', fun i hi => ?_⟩, hn, by unfold maxLen at hm; omega, fun x hx => ?_⟩
    · have := (hxs i hi).1
      rwa [Addr.add_lit] at this
    · obtain ⟨i, hi, rfl⟩ := List.mem_iff_getElem.1 hx
      have := (hxs i hi).2
      rwa [getElem!_pos xs i hi] at this
theorem list4' {cs : List Value} (h : cs.length = 4) : ∃ a b c d, cs = [a, b, c, d] := by
  match cs, h with
  | [a, b, c, d], _ => exact ⟨a, b, c, d, rfl⟩
theorem slice_cell {t e : TypeId} {fuel : Nat} {v : Value} {x : DataW H × List MemPlace} (ht : Try.prog.underlying t = some (.slice e)) (h : DataW.trod enc Try.prog w base spare held fuel t [v] = some x) :
    ∃ n, fuel = n + 1 ∧ ∃ (a : Option Addr) (len cap : Nat), v = .slice a len cap ∧ HeadOk a len cap ∧ len ≤ 9223372036854775807 ∧ (len = 0 ∨ ∃ p, a = some p ∧ ∀ i, i < len → ∃ cs' y, w.cells? base (p.add (i * Try.prog.cellsOf e)) (Try.prog.cellsOf e) = some cs' ∧ DataW.trod enc Try.prog w base spare held n e cs' = some y) := by
  rcases DataW.trod_slice ht h with ⟨hc, _⟩ | ⟨p, l, c, elems, rest, n, rfl, hc, hx, hb, hl, hm, hlen, hel, _⟩
  · cases fuel with
    | zero => simp [DataW.trod] at h
    | succ n =>
      simp at hc
      exact ⟨n, rfl, none, 0, 0, hc, ⟨Nat.le_refl _, fun _ => rfl⟩, by omega, .inl rfl⟩
  · simp at hc
    refine ⟨n, rfl, some p, l, c, hc, ⟨hl, fun h => by cases h⟩, by unfold maxLen at hm; omega, .inr ⟨p, rfl, fun i hi => ?_⟩⟩
    have := hel i hi
    rw [List.getElem?_eq_getElem (by omega)] at this
    obtain ⟨cs', h1, h2⟩ := Option.bind_eq_some_iff.1 this
    exact ⟨cs', _, h1, h2⟩
theorem open_geom : ∀ {fuel : Nat} {cs : List Value} {x : DataW H × List MemPlace}, DataW.trod enc Try.prog w base spare held fuel 25 cs = some x → ∃ g, GeomIs w w.heap.size fuel g cs := by
  intro fuel
  induction fuel using Nat.strongRecOn with
  | ind fuel ih =>
    intro cs x h
    obtain ⟨xs, n, rfl, _, hl, hlen, hf⟩ := DataW.trod_struct Try.underlying25 h
    have e4 : Try.prog.cellsOf 25 = 4 := by kernel_rfl
    have e1 : Try.prog.cellsOf 3 = 1 := by kernel_rfl
    have e2 : Try.prog.cellsOf 22 = 1 := by kernel_rfl
    have e3 : Try.prog.cellsOf 23 = 1 := by kernel_rfl
    rw [e4] at hl
    obtain ⟨c0, c1, c2, c3, rfl⟩ := list4' hl
    have f0 : DataW.trod enc Try.prog w base spare held n 3 ((([c0, c1, c2, c3] : List Value).drop 0).take (Try.prog.cellsOf 3)) = xs[0]? := hf 0 _ rfl
    have f1 : DataW.trod enc Try.prog w base spare held n 3 ((([c0, c1, c2, c3] : List Value).drop 1).take (Try.prog.cellsOf 3)) = xs[1]? := hf 1 _ rfl
    have f2 : DataW.trod enc Try.prog w base spare held n 22 ((([c0, c1, c2, c3] : List Value).drop 2).take (Try.prog.cellsOf 22)) = xs[2]? := hf 2 _ rfl
    have f3 : DataW.trod enc Try.prog w base spare held n 23 ((([c0, c1, c2, c3] : List Value).drop 3).take (Try.prog.cellsOf 23)) = xs[3]? := hf 3 _ rfl
    have hl4 : xs.length = 4 := hlen
    simp only [e1, e2, e3, List.drop_succ_cons, List.drop_zero, List.take_succ_cons, List.take_zero, List.getElem?_eq_getElem (show 0 < xs.length by omega), List.getElem?_eq_getElem (show 1 < xs.length by omega), List.getElem?_eq_getElem (show 2 < xs.length by omega), List.getElem?_eq_getElem (show 3 < xs.length by omega)] at f0 f1 f2 f3
    obtain ⟨k, hk, lk⟩ := trod_int f0 rfl
    obtain ⟨d, hd, ld⟩ := trod_int f1 rfl
    obtain ⟨_, _, a, la, ca, ha, lca, _⟩ := slice_cell Try.underlying22 f2
    obtain ⟨m, rfl, b, lb, cb, hb, lcb, hlb, hkids⟩ := slice_cell Try.underlying23 f3
    simp at hk hd
    subst hk; subst hd; subst ha; subst hb
    obtain ⟨ns, h1, h2, h3, h4⟩ := open_nums f2
    rcases hkids with rfl | ⟨p, rfl, hp⟩
    · refine ⟨.mk k d ns [], lk, ld, h4, by simp only [GT.nums]; omega, by simp [GT.kids], a, b, ca, cb, ?_, h1, by simp only [GT.nums]; rw [h2]; exact lca, by simp only [GT.kids, List.length_nil]; exact lcb, .inl rfl⟩
      simp [GT.kind, GT.dim, GT.nums, GT.kids, h2]
    · by_cases h0 : lb = 0
      · subst h0
        refine ⟨.mk k d ns [], lk, ld, h4, by simp only [GT.nums]; omega, by simp [GT.kids], a, some p, ca, cb, ?_, h1, by simp only [GT.nums]; rw [h2]; exact lca, by simp only [GT.kids, List.length_nil]; exact lcb, .inl rfl⟩
        simp [GT.kind, GT.dim, GT.nums, GT.kids, h2]
      · rw [e4] at hp
        have key : ∀ i, i < lb → ∃ g : GT, ∃ cs', (∀ j, j < 4 → w.cell? ((p.add (i * 4)).add j) = cs'[j]?) ∧ cs'.length = 4 ∧ GeomIs w w.heap.size m g cs' := by
          intro i hi
          obtain ⟨cs', y, q1, q2⟩ := hp i hi
          obtain ⟨_, q3, q4⟩ := World.cells?_some q1
          obtain ⟨g, hg⟩ := ih m (by omega) q2
          exact ⟨g, cs', q4, q3, hg⟩
        obtain ⟨g0, cs0, q1, q2, _⟩ := key 0 (by omega)
        obtain ⟨bb, o, sp⟩ := p
        have hq0 : w.cell? ⟨bb, o, sp⟩ = some cs0[0] := by
          have := q1 0 (by omega)
          rw [List.getElem?_eq_getElem (by omega)] at this
          simpa [Addr.add_zero'] using this
        have hsp : sp = none := World.cell?_spot hq0
        subst hsp
        obtain ⟨gs, hn, hgs⟩ := pick key
        refine ⟨.mk k d ns gs, lk, ld, h4, by simp only [GT.nums]; omega, by simp only [GT.kids]; omega, a, _, ca, cb, ?_, h1, by simp only [GT.nums]; rw [h2]; exact lca, by simp only [GT.kids]; rw [hn]; exact lcb, .inr ⟨bb, o, rfl, World.block_lt_of_cell? _ _ hq0, fun i hi => ?_⟩⟩
        · simp [GT.kind, GT.dim, GT.nums, GT.kids, h2, hn]
        · obtain ⟨cs', r1, r2, r3⟩ := hgs i hi
          refine ⟨cs', CellsAt.of fun j v hj => ?_, r3.deeper⟩
          have hj4 : j < 4 := by rw [← r2]; exact (List.getElem?_eq_some_iff.1 hj).1
          have := r1 j hj4
          rw [Addr.add_lit, Addr.add_lit, hj] at this
          exact this
end
end Go.Proofs.Ytihkmkcjjlmkhaa
