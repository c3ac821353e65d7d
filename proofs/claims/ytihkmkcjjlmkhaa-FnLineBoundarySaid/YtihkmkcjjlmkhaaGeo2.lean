/- The statements' own comparison: spec.SameNums, SameGeom, SameGeoms of what is the same. No condition. -/
import Derived.Test.YtihkmkcjjlmkhaaGeo1
import Derived.Test.YtihkmkcjjlmkhaaNum
namespace Go.Proofs.Ytihkmkcjjlmkhaa
set_option maxRecDepth 100000
open Go.ChangeShapes Go.WideShapes Go.ChangeAt Go.RowKit Go.Deep

theorem sameNums_any {a b : Option Addr} {ca cb B n : Nat} {xs : List Nat} {w : World} (ha : NumsIs w B a xs) (hb : NumsIs w B b xs) (hB : B ≤ w.heap.size) (hx : ∀ x ∈ xs, x < 2 ^ 64) (hn : xs.length = n) (hl : n ≤ 9223372036854775807) :
    Calls Try.prog 46 #[.slice a n ca, .slice b n cb] w fun e w' => e = .returned (.bool true) ∧ Below w.heap.size w w' := by
  have HA := Lib.hid ha
  have HB' := Lib.hid hb
  have HX := Lib.hid hx
  clear ha hb hx
  go_enter Try.func46, Try.ntmps46
  go_wp2_with fail
  go_loopw [14] (fun i wr => ∃ k : Nat, k ≤ n ∧ i = .int .i64 k ∧ ∃ x : LaterW w, wr = x.val) (fun i _ => n - (intOf i).toNat)
  case atStart => exact ⟨0, Nat.zero_le _, rfl, LaterW.of (Below.refl _ _)⟩
  case round =>
    obtain ⟨k, hk, rfl, x, rfl⟩ := hrel
    by_cases hlt : k < n
    · obtain ⟨b1, o1, rfl, l1, c1⟩ := HA.out.resolve_left (fun h => by rw [h] at hn; simp at hn; omega)
      obtain ⟨b2, o2, rfl, l2, c2⟩ := HB'.out.resolve_left (fun h => by rw [h] at hn; simp at hn; omega)
      have q1 := c1 k (by omega)
      have q2 := c2 k (by omega)
      have m1 : b1 < w.heap.size := by omega
      have m2 : b2 < w.heap.size := by omega
      have hv : xs[k]! < 2 ^ 64 := HX.out _ (by rw [getElem!_pos xs k (by omega)]; exact List.getElem_mem _)
      clear c1 c2
      generalize xs[k]! = v at *
      go_wp2_with fail
      have hbits := float64bits_run
      ((first | refine wp_region_later2 (by kernel_rfl) (by kernel_rfl) ?_ | refine wp_region_later (by kernel_rfl) (by kernel_rfl) ?_); (repeat (go_big_quiet_step (fail))); refine wpQuiet_nil ?_; rintro _ ⟨x1, rfl⟩)
      go_wp2_with fail
      exact ⟨⟨k + 1, by omega, by go_num, x1, rfl⟩, by simp [intOf]; omega⟩
    · go_wp2_with fail
      go_ret
      exact ⟨rfl, (by repeat (first | with_reducible exact Below.refl _ _ | with_reducible exact HBEL.out | with_reducible assumption | with_reducible refine Below.setCell ?_ (by first | (dsimp only; omega) | (simp; try omega)) _ | with_reducible refine LaterW.below _ ?_ | with_reducible refine below_alloc ?_ _ | with_reducible refine below_drewN' ?_ _ | with_reducible refine Below.drew ?_ | with_reducible exact below_drewN _))⟩
/-- Parts behind a slice's head. -/
def KidsIs (w : World) (B n : Nat) (a : Option Addr) (ks : List GT) : Prop :=
  ks = [] ∨ ∃ b o, a = some ⟨b, o, none⟩ ∧ b < B ∧ ∀ i, i < ks.length → ∃ cs', CellsAt w b (o + i * 4) cs' ∧ GeomIs w B n ks[i]! cs'
theorem KidsIs.below {w w' : World} {B C n : Nat} {a : Option Addr} {ks : List GT} (h : KidsIs w B n a ks) (hb : Below C w w') (hB : B ≤ C) : KidsIs w' B n a ks := by
  rcases h with h | ⟨b, o, e1, e2, e3⟩
  · exact .inl h
  · refine .inr ⟨b, o, e1, e2, fun i hi => ?_⟩
    obtain ⟨cs', c1, c2⟩ := e3 i hi
    exact ⟨cs', c1.mono fun j => hb.cell (p := ⟨b, j, none⟩) (by show b < C; omega), c2.below hb hB⟩
def SameAll (n : Nat) : Prop := ∀ (g : GT) (cs ds : List Value) (B : Nat) (w : World), GeomIs w B n g cs → GeomIs w B n g ds → B ≤ w.heap.size →
    Calls Try.prog 13 #[.agg cs.toArray, .agg ds.toArray] w fun e w' => e = .returned (.bool true) ∧ Below w.heap.size w w'
theorem sameGeoms_of {n : Nat} (ih : SameAll n) {a b : Option Addr} {ca cb B m : Nat} {ks : List GT} {w : World} (ha : KidsIs w B n a ks) (hb : KidsIs w B n b ks) (hB : B ≤ w.heap.size) (hn : ks.length = m) (hl : m ≤ 9223372036854775807) :
    Calls Try.prog 39 #[.slice a m ca, .slice b m cb] w fun e w' => e = .returned (.bool true) ∧ Below w.heap.size w w' := by
  have HA := Lib.hid ha
  have HB' := Lib.hid hb
  have IH := Lib.hid ih
  clear ha hb ih
  go_enter Try.func39, Try.ntmps39
  go_wp2_with fail
  go_loopw [14] (fun i wr => ∃ k : Nat, k ≤ m ∧ i = .int .i64 k ∧ ∃ x : LaterW w, wr = x.val) (fun i _ => m - (intOf i).toNat)
  case atStart => exact ⟨0, Nat.zero_le _, rfl, LaterW.of (Below.refl _ _)⟩
  case round =>
    obtain ⟨k, hk, rfl, x, rfl⟩ := hrel
    by_cases hlt : k < m
    · obtain ⟨b1, o1, rfl, l1, c1⟩ := HA.out.resolve_left (fun h => by rw [h] at hn; simp at hn; omega)
      obtain ⟨b2, o2, rfl, l2, c2⟩ := HB'.out.resolve_left (fun h => by rw [h] at hn; simp at hn; omega)
      obtain ⟨cs1, q1, g1⟩ := c1 k (by omega)
      obtain ⟨cs2, q2, g2⟩ := c2 k (by omega)
      obtain ⟨k1, d1, a1, na1, ca1, kk1, nk1, ck1, rfl⟩ := g1.four
      obtain ⟨k2, d2, a2, na2, ca2, kk2, nk2, ck2, rfl⟩ := g2.four
      have m1 : b1 < w.heap.size := by omega
      have m2 : b2 < w.heap.size := by omega
      have HC : Hid (∀ W', Below w.heap.size w W' → Calls Try.prog 13 #[.agg #[.int .i64 k1, .int .i64 d1, .slice a1 na1 ca1, .slice kk1 nk1 ck1], .agg #[.int .i64 k2, .int .i64 d2, .slice a2 na2 ca2, .slice kk2 nk2 ck2]] W' fun e w' => e = .returned (.bool true) ∧ Below W'.heap.size W' w') :=
        fun W' hW => IH.out _ _ _ B W' (g1.below hW hB) (g2.below hW hB) (Nat.le_trans hB hW.size)
      have m3 : b2 < x.val.heap.size := Nat.lt_of_lt_of_le m2 x.ok.size
      have m4 : b2 < x.val.heap.size + 1 := Nat.lt_succ_of_lt m3
      simp only [CellsAt] at q1 q2
      obtain ⟨p0, p1, p2, p3, _⟩ := q1
      obtain ⟨r0, r1, r2, r3, _⟩ := q2
      clear c1 c2 g1 g2
      generalize ks[k]! = g at *
      go_wp2_with fail
      ((first | refine wp_region_later2 (by kernel_rfl) (by kernel_rfl) ?_ | refine wp_region_later (by kernel_rfl) (by kernel_rfl) ?_); (repeat (go_big_quiet_step ((go_at_call 13; with_reducible exact Calls.later_of (HC.out _ (by repeat (first | with_reducible exact Below.refl _ _ | with_reducible exact HBEL.out | with_reducible assumption | with_reducible refine Below.setCell ?_ (by first | (dsimp only; omega) | (simp; try omega)) _ | with_reducible refine LaterW.below _ ?_ | with_reducible refine below_alloc ?_ _ | with_reducible refine below_drewN' ?_ _ | with_reducible refine Below.drew ?_ | with_reducible exact below_drewN _))))))); refine wpQuiet_nil ?_; rintro _ ⟨x1, rfl⟩)
      go_wp2_with fail
      obtain ⟨x2, hx2⟩ := LaterW.of (w := w) (w' := x1.val) (by repeat (first | with_reducible exact Below.refl _ _ | with_reducible exact HBEL.out | with_reducible assumption | with_reducible refine Below.setCell ?_ (by first | (dsimp only; omega) | (simp; try omega)) _ | with_reducible refine LaterW.below _ ?_ | with_reducible refine below_alloc ?_ _ | with_reducible refine below_drewN' ?_ _ | with_reducible refine Below.drew ?_ | with_reducible exact below_drewN _))
      exact ⟨⟨k + 1, by omega, by go_num, x2, hx2⟩, by simp [intOf]; omega⟩
    · go_wp2_with fail
      go_ret
      exact ⟨rfl, (by repeat (first | with_reducible exact Below.refl _ _ | with_reducible exact HBEL.out | with_reducible assumption | with_reducible refine Below.setCell ?_ (by first | (dsimp only; omega) | (simp; try omega)) _ | with_reducible refine LaterW.below _ ?_ | with_reducible refine below_alloc ?_ _ | with_reducible refine below_drewN' ?_ _ | with_reducible refine Below.drew ?_ | with_reducible exact below_drewN _))⟩
theorem sameGeom_any (n : Nat) : SameAll n := by
  induction n with
  | zero => exact fun _ _ _ _ _ h => h.elim
  | succ n ih =>
    rintro ⟨k, d, ns, ks⟩ cs ds B w ⟨_, _, hx, h4, h5, a, kk, ac, kc, rfl, ha, _, _, hka⟩ ⟨_, _, _, _, _, b, kk', bc, kc', rfl, hb, _, _, hkb⟩ hB
    simp only [GT.kind, GT.dim, GT.nums, GT.kids] at *
    have HN : Hid (∀ W', Below w.heap.size w W' → Calls Try.prog 46 #[.slice a ns.length ac, .slice b ns.length bc] W' fun e w' => e = .returned (.bool true) ∧ Below W'.heap.size W' w') :=
      fun W' hW => sameNums_any (ha.below hW hB) (hb.below hW hB) (Nat.le_trans hB hW.size) hx rfl h4
    have HK : Hid (∀ W', Below w.heap.size w W' → Calls Try.prog 39 #[.slice kk ks.length kc, .slice kk' ks.length kc'] W' fun e w' => e = .returned (.bool true) ∧ Below W'.heap.size W' w') :=
      fun W' hW => sameGeoms_of ih (KidsIs.below (n := n) hka hW hB) (KidsIs.below (n := n) hkb hW hB) (Nat.le_trans hB hW.size) rfl h5
    clear ih hx ha hb hka hkb
    generalize ns.length = nn at *
    generalize ks.length = nk at *
    go_enter Try.func13, Try.ntmps13
    go_wp2_with (first | (go_at_call 46; (with_reducible refine (HN.out _ (by repeat (first | with_reducible exact Below.refl _ _ | with_reducible exact HBEL.out | with_reducible assumption | with_reducible refine Below.setCell ?_ (by first | (dsimp only; omega) | (simp; try omega)) _ | with_reducible refine LaterW.below _ ?_ | with_reducible refine below_alloc ?_ _ | with_reducible refine below_drewN' ?_ _ | with_reducible refine Below.drew ?_ | with_reducible exact below_drewN _))).mono ?_); rintro e w1 ⟨rfl, hb⟩; (first | (obtain ⟨x1, rfl⟩ := LaterW.of2 hb) | (obtain ⟨x1, rfl⟩ := LaterW.of hb)); clear hb) | (go_at_call 39; (with_reducible refine (HK.out _ (by repeat (first | with_reducible exact Below.refl _ _ | with_reducible exact HBEL.out | with_reducible assumption | with_reducible refine Below.setCell ?_ (by first | (dsimp only; omega) | (simp; try omega)) _ | with_reducible refine LaterW.below _ ?_ | with_reducible refine below_alloc ?_ _ | with_reducible refine below_drewN' ?_ _ | with_reducible refine Below.drew ?_ | with_reducible exact below_drewN _))).mono ?_); rintro e w1 ⟨rfl, hb⟩; (first | (obtain ⟨x1, rfl⟩ := LaterW.of2 hb) | (obtain ⟨x1, rfl⟩ := LaterW.of hb)); clear hb))
    go_ret
    exact ⟨rfl, (by repeat (first | with_reducible exact Below.refl _ _ | with_reducible exact HBEL.out | with_reducible assumption | with_reducible refine Below.setCell ?_ (by first | (dsimp only; omega) | (simp; try omega)) _ | with_reducible refine LaterW.below _ ?_ | with_reducible refine below_alloc ?_ _ | with_reducible refine below_drewN' ?_ _ | with_reducible refine Below.drew ?_ | with_reducible exact below_drewN _))⟩
end Go.Proofs.Ytihkmkcjjlmkhaa
