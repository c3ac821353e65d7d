/- spec.Places: the places of numbers. No condition. -/
import Derived.Test.YtihkmkcjjlmkhaaGeo3
import Derived.WalkKit
namespace Go.Proofs.Ytihkmkcjjlmkhaa
set_option maxRecDepth 100000
open Go.ChangeShapes Go.WideShapes Go.ChangeAt Go.RowKit Go.Deep

def widthN (d : Int) : Nat := (widthI d).toNat
structure Pl where
  x : Nat
  y : Nat
  z : Nat
  m : Nat
def placeAt (xs : List Nat) (d : Int) (j : Nat) : Pl := ⟨xs[j * widthN d]!, xs[j * widthN d + 1]!, if d = 1 ∨ d = 3 then xs[j * widthN d + 2]! else 0, if d = 2 ∨ d = 3 then xs[j * widthN d + widthN d - 1]! else 0⟩
def placesOf (xs : List Nat) (d : Int) : List Pl := (List.range (xs.length / widthN d)).map (placeAt xs d)
def plCells (ps : List Pl) : List Value := ps.flatMap fun p => [fl p.x, fl p.y, fl p.z, fl p.m]
theorem infoPl : (Try.prog.info? 119).map (fun i => (i.zero, i.size, i.bytes)) = some (some (.agg #[fl 0, fl 0, fl 0, fl 0]), 4, 32) := by kernel_rfl
theorem own_below {w w' : World} {base : Nat} {e : TypeId} {size : Nat} {v : Value} {n : Nat} {xs : List Value} (h : w.ownsRow base e size v n xs) (hb : Below w.heap.size w w') : w'.ownsRow base e size v n xs := by
  obtain ⟨h1, h2⟩ := h
  refine ⟨h1, ?_⟩
  rcases h2 with h2 | ⟨g, cap, cur, e1, e2, e3, e4⟩
  · exact .inl h2
  · exact .inr ⟨g, cap, cur, e1, e2, (hb.block g (by obtain ⟨hlt, _⟩ := Array.getElem?_eq_some_iff.1 e3; exact hlt)).trans e3, e4⟩
theorem plCells_snoc (f : Nat → Pl) (k : Nat) : plCells ((List.range (k + 1)).map f) = plCells ((List.range k).map f) ++ [fl (f k).x, fl (f k).y, fl (f k).z, fl (f k).m] := by
  simp [plCells, List.range_succ]
theorem places_0 {a : Option Addr} {n ca B : Nat} {xs : List Nat} {w : World} (ha : NumsIs w B a xs) (hB : B ≤ w.heap.size) (hn : xs.length = n) (hl : n ≤ 4000) :
    Calls Try.prog 45 #[.slice a n ca, .int .i64 0] w fun e w' => ∃ v, e = .returned v ∧ w'.ownsRow w.heap.size 119 4 v (n / 2) (plCells ((List.range (n / 2)).map (placeAt xs 0))) ∧ Below w.heap.size w w' := by
  have HA := Lib.hid ha
  clear ha
  obtain ⟨i0, hi, hz0, hz1, hz2⟩ := info_parts infoPl
  go_enter Try.func45, Try.ntmps45
  go_wp2_with ((go_at_call 38; (with_reducible refine (width_any (r := 2) (by decide) (by decide) rfl _).mono ?_); rintro e w1 ⟨rfl, hb⟩; (first | (obtain ⟨x1, rfl⟩ := LaterW.of2 hb) | (obtain ⟨x1, rfl⟩ := LaterW.of hb)); clear hb))
  go_loopw [5, 7] (fun v i wr => ∃ k : Nat, k * 2 ≤ n ∧ i = .int .i64 ↑(k * 2) ∧ wr.ownsRow w.heap.size 119 4 v k (plCells ((List.range k).map (placeAt xs 0))) ∧ Below w.heap.size w wr) (fun _ i _ => n + 1 - (intOf i).toNat)
  case atStart => exact ⟨0, by omega, rfl, World.ownsRow_nil _ _ _ _, LaterW.below _ (Below.refl _ _)⟩
  case round =>
    obtain ⟨k, hk, rfl, hown, hbel⟩ := hrel
    have HO := Lib.hid hown
    clear hown
    by_cases hlt : (k + 1) * 2 ≤ n
    · obtain ⟨b1, o1, rfl, l1, c1⟩ := HA.out.resolve_left (fun h => by rw [h] at hn; simp at hn; omega)
      have m1 : b1 < w.heap.size := by omega
      have q : ∀ j, j < 2 → wr.cell? ⟨b1, o1 + (k * 2 + j), none⟩ = some (fl xs[k * 2 + j]!) := fun j hj => (hbel.cell (p := ⟨b1, o1 + (k * 2 + j), none⟩) m1).trans (c1 _ (by omega))
      have q0 := q 0 (by omega)
      have q1 := q 1 (by omega)
      rw [Nat.add_zero] at q0
      have m2 : b1 < wr.heap.size := Nat.lt_of_lt_of_le m1 hbel.size
      clear c1 q
      have HP : Hid (placeAt xs 0 k = ⟨xs[k * 2]!, xs[k * 2 + 1]!, 0, 0⟩) := rfl
      generalize xs[k * 2]! = vx at *
      generalize xs[k * 2 + 1]! = vy at *
      go_wp2_with fail
      go_region
      go_wp2_with (at_builtin; refine wpList_append_own _ rfl _ _ 27 rfl w.heap.size 119 i0 (.agg #[fl 0, fl 0, fl 0, fl 0]) 4 32 Try.underlying27 hi hz0 hz1 hz2 rfl (by decide) _ _ _ rfl (own_below HO.out (by repeat (first | with_reducible exact Below.refl _ _ | with_reducible exact HBEL.out | with_reducible assumption | with_reducible refine Below.setCell ?_ (by first | (dsimp only; omega) | (simp; try omega)) _ | with_reducible refine LaterW.below _ ?_ | with_reducible refine below_alloc ?_ _ | with_reducible refine below_drewN' ?_ _ | with_reducible refine Below.drew ?_ | with_reducible exact below_drewN _))) ⟨wr.heap.size + 1, 0, none⟩ 1 1 [fl vx, fl vy, fl 0, fl 0] rfl rfl ?c1 ?c2 ?c3 ?c4 ?c5 ?_)
      case c1 =>
        intro j u hj
        match j, hj with
        | 0, hj => simp at hj; subst hj; simp [Addr.add]
        | 1, hj => simp at hj; subst hj; simp [Addr.add]
        | 2, hj => simp at hj; subst hj; simp [Addr.add]
        | 3, hj => simp at hj; subst hj; simp [Addr.add]
      case c2 => intro u hu; simp at hu; rcases hu with rfl | rfl | rfl <;> rfl
      case c3 => unfold maxLen; omega
      case c4 => omega
      case c5 => have := hbel.size; simp; omega
      intro v' w1 hown' hgrow _
      have hb1 : Below w.heap.size w w1 := Below.grown (by repeat (first | with_reducible exact Below.refl _ _ | with_reducible exact HBEL.out | with_reducible assumption | with_reducible refine Below.setCell ?_ (by first | (dsimp only; omega) | (simp; try omega)) _ | with_reducible refine LaterW.below _ ?_ | with_reducible refine below_alloc ?_ _ | with_reducible refine below_drewN' ?_ _ | with_reducible refine Below.drew ?_ | with_reducible exact below_drewN _)) hgrow (by have := hbel.size; simp; omega) (fun k hk => (HO.out.lt k hk).1)
      go_wp2_with fail
      exact ⟨⟨k + 1, by omega, by go_num, by rw [plCells_snoc, HP.out]; exact hown', hb1⟩, by simp [intOf]; omega⟩
    · have hk2 : n / 2 = k := by omega
      go_wp2_with fail
      go_ret
      exact ⟨_, rfl, by rw [hk2]; exact HO.out, hbel⟩
theorem places_1 {a : Option Addr} {n ca B : Nat} {xs : List Nat} {w : World} (ha : NumsIs w B a xs) (hB : B ≤ w.heap.size) (hn : xs.length = n) (hl : n ≤ 4000) :
    Calls Try.prog 45 #[.slice a n ca, .int .i64 1] w fun e w' => ∃ v, e = .returned v ∧ w'.ownsRow w.heap.size 119 4 v (n / 3) (plCells ((List.range (n / 3)).map (placeAt xs 1))) ∧ Below w.heap.size w w' := by
  have HA := Lib.hid ha
  clear ha
  obtain ⟨i0, hi, hz0, hz1, hz2⟩ := info_parts infoPl
  go_enter Try.func45, Try.ntmps45
  go_wp2_with ((go_at_call 38; (with_reducible refine (width_any (r := 3) (by decide) (by decide) rfl _).mono ?_); rintro e w1 ⟨rfl, hb⟩; (first | (obtain ⟨x1, rfl⟩ := LaterW.of2 hb) | (obtain ⟨x1, rfl⟩ := LaterW.of hb)); clear hb))
  go_loopw [5, 7] (fun v i wr => ∃ k : Nat, k * 3 ≤ n ∧ i = .int .i64 ↑(k * 3) ∧ wr.ownsRow w.heap.size 119 4 v k (plCells ((List.range k).map (placeAt xs 1))) ∧ Below w.heap.size w wr) (fun _ i _ => n + 1 - (intOf i).toNat)
  case atStart => exact ⟨0, by omega, rfl, World.ownsRow_nil _ _ _ _, LaterW.below _ (Below.refl _ _)⟩
  case round =>
    obtain ⟨k, hk, rfl, hown, hbel⟩ := hrel
    have HO := Lib.hid hown
    clear hown
    by_cases hlt : (k + 1) * 3 ≤ n
    · obtain ⟨b1, o1, rfl, l1, c1⟩ := HA.out.resolve_left (fun h => by rw [h] at hn; simp at hn; omega)
      have m1 : b1 < w.heap.size := by omega
      have q : ∀ j, j < 3 → wr.cell? ⟨b1, o1 + (k * 3 + j), none⟩ = some (fl xs[k * 3 + j]!) := fun j hj => (hbel.cell (p := ⟨b1, o1 + (k * 3 + j), none⟩) m1).trans (c1 _ (by omega))
      have q0 := q 0 (by omega)
      have q1 := q 1 (by omega)
      have q2 := q 2 (by omega)
      rw [Nat.add_zero] at q0
      have m2 : b1 < wr.heap.size := Nat.lt_of_lt_of_le m1 hbel.size
      clear c1 q
      have HP : Hid (placeAt xs 1 k = ⟨xs[k * 3]!, xs[k * 3 + 1]!, xs[k * 3 + 2]!, 0⟩) := rfl
      generalize xs[k * 3]! = vx at *
      generalize xs[k * 3 + 1]! = vy at *
      generalize xs[k * 3 + 2]! = vz at *
      go_wp2_with fail
      go_region
      go_wp2_with (at_builtin; refine wpList_append_own _ rfl _ _ 27 rfl w.heap.size 119 i0 (.agg #[fl 0, fl 0, fl 0, fl 0]) 4 32 Try.underlying27 hi hz0 hz1 hz2 rfl (by decide) _ _ _ rfl (own_below HO.out (by repeat (first | with_reducible exact Below.refl _ _ | with_reducible exact HBEL.out | with_reducible assumption | with_reducible refine Below.setCell ?_ (by first | (dsimp only; omega) | (simp; try omega)) _ | with_reducible refine LaterW.below _ ?_ | with_reducible refine below_alloc ?_ _ | with_reducible refine below_drewN' ?_ _ | with_reducible refine Below.drew ?_ | with_reducible exact below_drewN _))) ⟨wr.heap.size + 1, 0, none⟩ 1 1 [fl vx, fl vy, fl vz, fl 0] rfl rfl ?c1 ?c2 ?c3 ?c4 ?c5 ?_)
      case c1 =>
        intro j u hj
        match j, hj with
        | 0, hj => simp at hj; subst hj; simp [Addr.add]
        | 1, hj => simp at hj; subst hj; simp [Addr.add]
        | 2, hj => simp at hj; subst hj; simp [Addr.add]
        | 3, hj => simp at hj; subst hj; simp [Addr.add]
      case c2 => intro u hu; simp at hu; rcases hu with rfl | rfl | rfl | rfl <;> rfl
      case c3 => unfold maxLen; omega
      case c4 => omega
      case c5 => have := hbel.size; simp; omega
      intro v' w1 hown' hgrow _
      have hb1 : Below w.heap.size w w1 := Below.grown (by repeat (first | with_reducible exact Below.refl _ _ | with_reducible exact HBEL.out | with_reducible assumption | with_reducible refine Below.setCell ?_ (by first | (dsimp only; omega) | (simp; try omega)) _ | with_reducible refine LaterW.below _ ?_ | with_reducible refine below_alloc ?_ _ | with_reducible refine below_drewN' ?_ _ | with_reducible refine Below.drew ?_ | with_reducible exact below_drewN _)) hgrow (by have := hbel.size; simp; omega) (fun k hk => (HO.out.lt k hk).1)
      go_wp2_with fail
      exact ⟨⟨k + 1, by omega, by go_num, by rw [plCells_snoc, HP.out]; exact hown', hb1⟩, by simp [intOf]; omega⟩
    · have hk2 : n / 3 = k := by omega
      go_wp2_with fail
      go_ret
      exact ⟨_, rfl, by rw [hk2]; exact HO.out, hbel⟩
theorem places_2 {a : Option Addr} {n ca B : Nat} {xs : List Nat} {w : World} (ha : NumsIs w B a xs) (hB : B ≤ w.heap.size) (hn : xs.length = n) (hl : n ≤ 4000) :
    Calls Try.prog 45 #[.slice a n ca, .int .i64 2] w fun e w' => ∃ v, e = .returned v ∧ w'.ownsRow w.heap.size 119 4 v (n / 3) (plCells ((List.range (n / 3)).map (placeAt xs 2))) ∧ Below w.heap.size w w' := by
  have HA := Lib.hid ha
  clear ha
  obtain ⟨i0, hi, hz0, hz1, hz2⟩ := info_parts infoPl
  go_enter Try.func45, Try.ntmps45
  go_wp2_with ((go_at_call 38; (with_reducible refine (width_any (r := 3) (by decide) (by decide) rfl _).mono ?_); rintro e w1 ⟨rfl, hb⟩; (first | (obtain ⟨x1, rfl⟩ := LaterW.of2 hb) | (obtain ⟨x1, rfl⟩ := LaterW.of hb)); clear hb))
  go_loopw [5, 7] (fun v i wr => ∃ k : Nat, k * 3 ≤ n ∧ i = .int .i64 ↑(k * 3) ∧ wr.ownsRow w.heap.size 119 4 v k (plCells ((List.range k).map (placeAt xs 2))) ∧ Below w.heap.size w wr) (fun _ i _ => n + 1 - (intOf i).toNat)
  case atStart => exact ⟨0, by omega, rfl, World.ownsRow_nil _ _ _ _, LaterW.below _ (Below.refl _ _)⟩
  case round =>
    obtain ⟨k, hk, rfl, hown, hbel⟩ := hrel
    have HO := Lib.hid hown
    clear hown
    by_cases hlt : (k + 1) * 3 ≤ n
    · obtain ⟨b1, o1, rfl, l1, c1⟩ := HA.out.resolve_left (fun h => by rw [h] at hn; simp at hn; omega)
      have m1 : b1 < w.heap.size := by omega
      have q : ∀ j, j < 3 → wr.cell? ⟨b1, o1 + (k * 3 + j), none⟩ = some (fl xs[k * 3 + j]!) := fun j hj => (hbel.cell (p := ⟨b1, o1 + (k * 3 + j), none⟩) m1).trans (c1 _ (by omega))
      have q0 := q 0 (by omega)
      have q1 := q 1 (by omega)
      have q2 := q 2 (by omega)
      rw [Nat.add_zero] at q0
      have m2 : b1 < wr.heap.size := Nat.lt_of_lt_of_le m1 hbel.size
      clear c1 q
      have HP : Hid (placeAt xs 2 k = ⟨xs[k * 3]!, xs[k * 3 + 1]!, 0, xs[k * 3 + 2]!⟩) := rfl
      generalize xs[k * 3]! = vx at *
      generalize xs[k * 3 + 1]! = vy at *
      generalize xs[k * 3 + 2]! = vz at *
      go_wp2_with fail
      go_region
      go_wp2_with (at_builtin; refine wpList_append_own _ rfl _ _ 27 rfl w.heap.size 119 i0 (.agg #[fl 0, fl 0, fl 0, fl 0]) 4 32 Try.underlying27 hi hz0 hz1 hz2 rfl (by decide) _ _ _ rfl (own_below HO.out (by repeat (first | with_reducible exact Below.refl _ _ | with_reducible exact HBEL.out | with_reducible assumption | with_reducible refine Below.setCell ?_ (by first | (dsimp only; omega) | (simp; try omega)) _ | with_reducible refine LaterW.below _ ?_ | with_reducible refine below_alloc ?_ _ | with_reducible refine below_drewN' ?_ _ | with_reducible refine Below.drew ?_ | with_reducible exact below_drewN _))) ⟨wr.heap.size + 1, 0, none⟩ 1 1 [fl vx, fl vy, fl 0, fl vz] rfl rfl ?c1 ?c2 ?c3 ?c4 ?c5 ?_)
      case c1 =>
        intro j u hj
        match j, hj with
        | 0, hj => simp at hj; subst hj; simp [Addr.add]
        | 1, hj => simp at hj; subst hj; simp [Addr.add]
        | 2, hj => simp at hj; subst hj; simp [Addr.add]
        | 3, hj => simp at hj; subst hj; simp [Addr.add]
      case c2 => intro u hu; simp at hu; rcases hu with rfl | rfl | rfl | rfl <;> rfl
      case c3 => unfold maxLen; omega
      case c4 => omega
      case c5 => have := hbel.size; simp; omega
      intro v' w1 hown' hgrow _
      have hb1 : Below w.heap.size w w1 := Below.grown (by repeat (first | with_reducible exact Below.refl _ _ | with_reducible exact HBEL.out | with_reducible assumption | with_reducible refine Below.setCell ?_ (by first | (dsimp only; omega) | (simp; try omega)) _ | with_reducible refine LaterW.below _ ?_ | with_reducible refine below_alloc ?_ _ | with_reducible refine below_drewN' ?_ _ | with_reducible refine Below.drew ?_ | with_reducible exact below_drewN _)) hgrow (by have := hbel.size; simp; omega) (fun k hk => (HO.out.lt k hk).1)
      go_wp2_with fail
      exact ⟨⟨k + 1, by omega, by go_num, by rw [plCells_snoc, HP.out]; exact hown', hb1⟩, by simp [intOf]; omega⟩
    · have hk2 : n / 3 = k := by omega
      go_wp2_with fail
      go_ret
      exact ⟨_, rfl, by rw [hk2]; exact HO.out, hbel⟩
theorem places_3 {a : Option Addr} {n ca B : Nat} {xs : List Nat} {w : World} (ha : NumsIs w B a xs) (hB : B ≤ w.heap.size) (hn : xs.length = n) (hl : n ≤ 4000) :
    Calls Try.prog 45 #[.slice a n ca, .int .i64 3] w fun e w' => ∃ v, e = .returned v ∧ w'.ownsRow w.heap.size 119 4 v (n / 4) (plCells ((List.range (n / 4)).map (placeAt xs 3))) ∧ Below w.heap.size w w' := by
  have HA := Lib.hid ha
  clear ha
  obtain ⟨i0, hi, hz0, hz1, hz2⟩ := info_parts infoPl
  go_enter Try.func45, Try.ntmps45
  go_wp2_with ((go_at_call 38; (with_reducible refine (width_any (r := 4) (by decide) (by decide) rfl _).mono ?_); rintro e w1 ⟨rfl, hb⟩; (first | (obtain ⟨x1, rfl⟩ := LaterW.of2 hb) | (obtain ⟨x1, rfl⟩ := LaterW.of hb)); clear hb))
  go_loopw [5, 7] (fun v i wr => ∃ k : Nat, k * 4 ≤ n ∧ i = .int .i64 ↑(k * 4) ∧ wr.ownsRow w.heap.size 119 4 v k (plCells ((List.range k).map (placeAt xs 3))) ∧ Below w.heap.size w wr) (fun _ i _ => n + 1 - (intOf i).toNat)
  case atStart => exact ⟨0, by omega, rfl, World.ownsRow_nil _ _ _ _, LaterW.below _ (Below.refl _ _)⟩
  case round =>
    obtain ⟨k, hk, rfl, hown, hbel⟩ := hrel
    have HO := Lib.hid hown
    clear hown
    by_cases hlt : (k + 1) * 4 ≤ n
    · obtain ⟨b1, o1, rfl, l1, c1⟩ := HA.out.resolve_left (fun h => by rw [h] at hn; simp at hn; omega)
      have m1 : b1 < w.heap.size := by omega
      have q : ∀ j, j < 4 → wr.cell? ⟨b1, o1 + (k * 4 + j), none⟩ = some (fl xs[k * 4 + j]!) := fun j hj => (hbel.cell (p := ⟨b1, o1 + (k * 4 + j), none⟩) m1).trans (c1 _ (by omega))
      have q0 := q 0 (by omega)
      have q1 := q 1 (by omega)
      have q2 := q 2 (by omega)
      have q3 := q 3 (by omega)
      rw [Nat.add_zero] at q0
      have m2 : b1 < wr.heap.size := Nat.lt_of_lt_of_le m1 hbel.size
      clear c1 q
      have HP : Hid (placeAt xs 3 k = ⟨xs[k * 4]!, xs[k * 4 + 1]!, xs[k * 4 + 2]!, xs[k * 4 + 3]!⟩) := rfl
      generalize xs[k * 4]! = vx at *
      generalize xs[k * 4 + 1]! = vy at *
      generalize xs[k * 4 + 2]! = vz at *
      generalize xs[k * 4 + 3]! = vm at *
      go_wp2_with fail
      go_region
      go_wp2_with (at_builtin; refine wpList_append_own _ rfl _ _ 27 rfl w.heap.size 119 i0 (.agg #[fl 0, fl 0, fl 0, fl 0]) 4 32 Try.underlying27 hi hz0 hz1 hz2 rfl (by decide) _ _ _ rfl (own_below HO.out (by repeat (first | with_reducible exact Below.refl _ _ | with_reducible exact HBEL.out | with_reducible assumption | with_reducible refine Below.setCell ?_ (by first | (dsimp only; omega) | (simp; try omega)) _ | with_reducible refine LaterW.below _ ?_ | with_reducible refine below_alloc ?_ _ | with_reducible refine below_drewN' ?_ _ | with_reducible refine Below.drew ?_ | with_reducible exact below_drewN _))) ⟨wr.heap.size + 1, 0, none⟩ 1 1 [fl vx, fl vy, fl vz, fl vm] rfl rfl ?c1 ?c2 ?c3 ?c4 ?c5 ?_)
      case c1 =>
        intro j u hj
        match j, hj with
        | 0, hj => simp at hj; subst hj; simp [Addr.add]
        | 1, hj => simp at hj; subst hj; simp [Addr.add]
        | 2, hj => simp at hj; subst hj; simp [Addr.add]
        | 3, hj => simp at hj; subst hj; simp [Addr.add]
      case c2 => intro u hu; simp at hu; rcases hu with rfl | rfl | rfl | rfl <;> rfl
      case c3 => unfold maxLen; omega
      case c4 => omega
      case c5 => have := hbel.size; simp; omega
      intro v' w1 hown' hgrow _
      have hb1 : Below w.heap.size w w1 := Below.grown (by repeat (first | with_reducible exact Below.refl _ _ | with_reducible exact HBEL.out | with_reducible assumption | with_reducible refine Below.setCell ?_ (by first | (dsimp only; omega) | (simp; try omega)) _ | with_reducible refine LaterW.below _ ?_ | with_reducible refine below_alloc ?_ _ | with_reducible refine below_drewN' ?_ _ | with_reducible refine Below.drew ?_ | with_reducible exact below_drewN _)) hgrow (by have := hbel.size; simp; omega) (fun k hk => (HO.out.lt k hk).1)
      go_wp2_with fail
      exact ⟨⟨k + 1, by omega, by go_num, by rw [plCells_snoc, HP.out]; exact hown', hb1⟩, by simp [intOf]; omega⟩
    · have hk2 : n / 4 = k := by omega
      go_wp2_with fail
      go_ret
      exact ⟨_, rfl, by rw [hk2]; exact HO.out, hbel⟩
theorem places_any {a : Option Addr} {n ca B : Nat} {xs : List Nat} {d : Int} {w : World} (ha : NumsIs w B a xs) (hB : B ≤ w.heap.size) (hn : xs.length = n) (hl : n ≤ 4000) (h0 : 0 ≤ d) (h3 : d ≤ 3) :
    Calls Try.prog 45 #[.slice a n ca, .int .i64 d] w fun e w' => ∃ v, e = .returned v ∧ w'.ownsRow w.heap.size 119 4 v (placesOf xs d).length (plCells (placesOf xs d)) ∧ Below w.heap.size w w' := by
  have e : (placesOf xs d).length = n / widthN d := by simp [placesOf, hn]
  rw [e]
  unfold placesOf
  rw [hn]
  rcases width_all d h0 h3 with rfl | rfl | rfl | rfl
  · exact places_0 ha hB hn hl
  · exact places_1 ha hB hn hl
  · exact places_2 ha hB hn hl
  · exact places_3 ha hB hn hl
end Go.Proofs.Ytihkmkcjjlmkhaa
