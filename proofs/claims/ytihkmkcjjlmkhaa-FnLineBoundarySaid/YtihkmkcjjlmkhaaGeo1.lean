/- The statements' own look at sizes: laws.zzFits2, gWeight, gSmall. No condition. -/
import Derived.Test.YtihkmkcjjlmkhaaGeom
namespace Go.Proofs.Ytihkmkcjjlmkhaa
set_option maxRecDepth 100000
open Go.ChangeShapes Go.WideShapes Go.ChangeAt Go.RowKit Go.Deep

abbrev vGeom (k d : Int) (a : Option Addr) (na ca : Nat) (kk : Option Addr) (nk ck : Nat) : Value := .agg #[.int .i64 k, .int .i64 d, .slice a na ca, .slice kk nk ck]
def fitsB (na nk : Nat) : Bool := decide (na ≤ 2147483647) && decide (nk ≤ 2147483647)
theorem zzFits2_any (k d : Int) (a kk : Option Addr) {na nk : Nat} (ca ck : Nat) {r : Bool} (h : fitsB na nk = r) (h1 : na ≤ 9223372036854775807) (h2 : nk ≤ 9223372036854775807) (w : World) :
    Calls Try.prog 11 #[vGeom k d a na ca kk nk ck] w fun e w' => e = .returned (.bool r) ∧ Below w.heap.size w w' := by
  have H := Lib.hid h
  clear h
  by_cases c1 : na ≤ 2147483647 <;> by_cases c2 : nk ≤ 2147483647
  all_goals
    go_enter Try.func11, Try.ntmps11
    go_wp2_with fail
    go_ret
    exact ⟨ret_bool (by rw [← H.out]; simp [fitsB, *]), (by repeat (first | with_reducible exact Below.refl _ _ | with_reducible exact HBEL.out | with_reducible assumption | with_reducible refine Below.setCell ?_ (by first | (dsimp only; omega) | (simp; try omega)) _ | with_reducible refine LaterW.below _ ?_ | with_reducible refine below_alloc ?_ _ | with_reducible refine below_drewN' ?_ _ | with_reducible refine Below.drew ?_ | with_reducible exact below_drewN _))⟩

/-- What is left of a size. -/
def GT.weight : Nat → GT → Int → Int
  | 0, _, _ => -1
  | n + 1, g, left => if left < 1 ∨ left < g.nums.length ∨ left < g.kids.length then -1 else
      g.kids.foldl (fun l k => if l < 0 then l else k.weight n l) (left - 1 - g.nums.length)
theorem weight_mk (n : Nat) (k d : Int) (ns : List Nat) (ks : List GT) (left : Int) : (GT.mk k d ns ks).weight (n + 1) left = if left < 1 ∨ left < (ns.length : Int) ∨ left < (ks.length : Int) then -1 else ks.foldl (fun l k => if l < 0 then l else k.weight n l) (left - 1 - ns.length) := rfl
theorem foldl_le {n : Nat} (ih : ∀ (g : GT) (l : Int), 0 ≤ l → -1 ≤ g.weight n l ∧ g.weight n l ≤ l) : ∀ (ks : List GT) (l : Int), -1 ≤ l → -1 ≤ ks.foldl (fun l k => if l < 0 then l else k.weight n l) l ∧ ks.foldl (fun l k => if l < 0 then l else k.weight n l) l ≤ l
  | [], l, h => ⟨h, Int.le_refl _⟩
  | k :: r, l, h => by
    simp only [List.foldl_cons]
    by_cases hl : l < 0
    · rw [if_pos hl]; exact foldl_le ih r l h
    · rw [if_neg hl]
      have h1 := ih k l (by omega)
      have h2 := foldl_le ih r _ h1.1
      exact ⟨h2.1, by omega⟩
theorem weight_le : ∀ (n : Nat) (g : GT) (l : Int), 0 ≤ l → -1 ≤ g.weight n l ∧ g.weight n l ≤ l
  | 0, _, l, h => by simp only [GT.weight]; omega
  | n + 1, g, l, h => by
    simp only [GT.weight]
    split
    · omega
    · have := foldl_le (weight_le n) g.kids (l - 1 - g.nums.length) (by omega)
      omega

theorem GeomIs.four {w : World} {B n : Nat} {g : GT} {cs : List Value} (h : GeomIs w B n g cs) : ∃ (k d : Int) (a : Option Addr) (na ca : Nat) (kk : Option Addr) (nk ck : Nat), cs = [.int .i64 k, .int .i64 d, .slice a na ca, .slice kk nk ck] := by
  cases n with
  | zero => exact h.elim
  | succ n =>
    obtain ⟨_, _, _, _, _, a, kk, ac, kc, hcs, _⟩ := h
    exact ⟨_, _, a, _, ac, kk, _, kc, hcs⟩
theorem foldl_take_succ {α β : Type} [Inhabited α] (f : β → α → β) (b : β) (l : List α) (k : Nat) (h : k < l.length) : (l.take (k + 1)).foldl f b = f ((l.take k).foldl f b) l[k]! := by
  rw [List.take_succ_eq_append_getElem h, List.foldl_append, getElem!_pos l k h]
  rfl
theorem foldl_neg {n : Nat} : ∀ (ks : List GT) (l : Int), l < 0 → ks.foldl (fun l k => if l < 0 then l else k.weight n l) l = l
  | [], _, _ => rfl
  | k :: r, l, h => by simp only [List.foldl_cons, if_pos h]; exact foldl_neg r l h
theorem gWeight_any (n : Nat) : ∀ (g : GT) (cs : List Value) (B : Nat) (left r : Int) (w : World), GeomIs w B n g cs → B ≤ w.heap.size → 0 ≤ left → left ≤ 2000 → g.weight n left = r →
    Calls Try.prog 63 #[.agg cs.toArray, .int .i64 left] w fun e w' => e = .returned (.int .i64 r) ∧ Below w.heap.size w w' := by
  induction n with
  | zero => exact fun _ _ _ _ _ _ h => h.elim
  | succ n ih =>
    rintro ⟨k', d, ns, ks⟩ cs B left r w ⟨_, _, _, h4, h5, a, kk, ac, kc, hcs, _, _, _, h8⟩ hB hl hl2 hr
    subst hcs
    simp only [GT.kind, GT.dim, GT.nums, GT.kids] at *
    rw [weight_mk] at hr
    have IH := Lib.hid ih
    clear ih
    have H8 := Lib.hid h8
    clear h8
    by_cases c : left < 1 ∨ left < (ns.length : Int) ∨ left < (ks.length : Int)
    · rw [if_pos c] at hr
      subst hr
      generalize ns.length = nn at *
      generalize ks.length = nk at *
      by_cases c1 : left < 1
      · go_enter Try.func63, Try.ntmps63
        go_wp2_with fail
        go_ret
        exact ⟨rfl, (by repeat (first | with_reducible exact Below.refl _ _ | with_reducible exact HBEL.out | with_reducible assumption | with_reducible refine Below.setCell ?_ (by first | (dsimp only; omega) | (simp; try omega)) _ | with_reducible refine LaterW.below _ ?_ | with_reducible refine below_alloc ?_ _ | with_reducible refine below_drewN' ?_ _ | with_reducible refine Below.drew ?_ | with_reducible exact below_drewN _))⟩
      · by_cases c2 : left < (nn : Int)
        · go_enter Try.func63, Try.ntmps63
          go_wp2_with fail
          go_ret
          exact ⟨rfl, (by repeat (first | with_reducible exact Below.refl _ _ | with_reducible exact HBEL.out | with_reducible assumption | with_reducible refine Below.setCell ?_ (by first | (dsimp only; omega) | (simp; try omega)) _ | with_reducible refine LaterW.below _ ?_ | with_reducible refine below_alloc ?_ _ | with_reducible refine below_drewN' ?_ _ | with_reducible refine Below.drew ?_ | with_reducible exact below_drewN _))⟩
        · have c3 : left < (nk : Int) := by omega
          go_enter Try.func63, Try.ntmps63
          go_wp2_with fail
          go_ret
          exact ⟨rfl, (by repeat (first | with_reducible exact Below.refl _ _ | with_reducible exact HBEL.out | with_reducible assumption | with_reducible refine Below.setCell ?_ (by first | (dsimp only; omega) | (simp; try omega)) _ | with_reducible refine LaterW.below _ ?_ | with_reducible refine below_alloc ?_ _ | with_reducible refine below_drewN' ?_ _ | with_reducible refine Below.drew ?_ | with_reducible exact below_drewN _))⟩
    · rw [if_neg c] at hr
      have HR := Lib.hid hr
      clear hr
      have c1 : ¬ left < 1 := by omega
      have c2 : ¬ left < (ns.length : Int) := by omega
      have c3 : ¬ left < (ks.length : Int) := by omega
      clear c
      generalize hnn : ns.length = nn at *
      generalize hnk : ks.length = nk at *
      go_enter Try.func63, Try.ntmps63
      go_wp2_with fail
      go_loopw [1, 5] (fun l i wr => ∃ k : Nat, k ≤ nk ∧ i = .int .i64 k ∧ l = .int .i64 ((ks.take k).foldl (fun l k => if l < 0 then l else k.weight n l) (left - 1 - nn)) ∧ ∃ x : LaterW (w.alloc (.cells #[.int .i64 k', .int .i64 d, .slice a nn ac, .slice kk nk kc] 25)), wr = x.val) (fun _ i _ => nk - (intOf i).toNat)
      case atStart => exact ⟨0, Nat.zero_le _, rfl, rfl, LaterW.of (Below.refl _ _)⟩
      case round =>
        obtain ⟨i, hi, rfl, rfl, x, rfl⟩ := hrel
        have hb := foldl_le (weight_le n) (ks.take i) (left - 1 - nn) (by omega)
        have HS : Hid (∀ h : i < nk, (ks.take (i + 1)).foldl (fun l k => if l < 0 then l else GT.weight n k l) (left - 1 - (nn : Int)) = _) := fun h => foldl_take_succ (fun l k => if l < 0 then l else GT.weight n k l) (left - 1 - (nn : Int)) ks i (by rw [hnk]; exact h)
        have hE : ks.foldl (fun l k => if l < 0 then l else GT.weight n k l) (left - 1 - (nn : Int)) = (ks.drop i).foldl (fun l k => if l < 0 then l else GT.weight n k l) ((ks.take i).foldl (fun l k => if l < 0 then l else GT.weight n k l) (left - 1 - (nn : Int))) := by
          rw [← List.foldl_append, List.take_append_drop]
        generalize (ks.take i).foldl (fun l k => if l < 0 then l else GT.weight n k l) (left - 1 - (nn : Int)) = L at *
        by_cases hlt : i < nk
        · by_cases hL : L < 0
          · have HQ : Hid (L = r) := by
              show L = r
              rw [← HR.out, hE, foldl_neg _ _ hL]
            clear hE
            go_wp2_with fail
            go_ret
            exact ⟨by rw [HQ.out]; rfl, (by repeat (first | with_reducible exact Below.refl _ _ | with_reducible exact HBEL.out | with_reducible assumption | with_reducible refine Below.setCell ?_ (by first | (dsimp only; omega) | (simp; try omega)) _ | with_reducible refine LaterW.below _ ?_ | with_reducible refine below_alloc ?_ _ | with_reducible refine below_drewN' ?_ _ | with_reducible refine Below.drew ?_ | with_reducible exact below_drewN _))⟩
          · obtain ⟨b, o, rfl, hbB, hkid⟩ := H8.out.resolve_left (fun h => by rw [h] at hnk; simp at hnk; omega)
            obtain ⟨cs', hc, hg⟩ := hkid i hlt
            have hbl : b < (w.alloc (.cells #[.int .i64 k', .int .i64 d, .slice a nn ac, .slice (some ⟨b, o, none⟩) nk kc] 25)).heap.size := by simp; omega
            have hbel : Below w.heap.size w x.val := (by repeat (first | with_reducible exact Below.refl _ _ | with_reducible exact HBEL.out | with_reducible assumption | with_reducible refine Below.setCell ?_ (by first | (dsimp only; omega) | (simp; try omega)) _ | with_reducible refine LaterW.below _ ?_ | with_reducible refine below_alloc ?_ _ | with_reducible refine below_drewN' ?_ _ | with_reducible refine Below.drew ?_ | with_reducible exact below_drewN _))
            have hc2 := hc.mono (w' := x.val) (fun j => hbel.cell (p := ⟨b, j, none⟩) (by show b < w.heap.size; omega))
            have hg2 := Lib.hid (hg.below hbel hB)
            obtain ⟨k2, d2, a2, na2, ca2, kk2, nk2, ck2, rfl⟩ := hg.four
            simp only [CellsAt] at hc2
            obtain ⟨q0, q1, q2, q3, _⟩ := hc2
            have hsz := Lib.hid hbel.size
            clear hc hg hkid hE hbel
            have hv : ∃ r2, GT.weight n ks[i]! L = r2 := ⟨_, rfl⟩
            obtain ⟨r2, hr2⟩ := hv
            have HV := Lib.hid hr2
            clear hr2
            go_wp2_with (go_at_call 63; refine (IH.out _ _ B L r2 _ hg2.out (Nat.le_trans hB hsz.out) (by omega) (by omega) HV.out).mono ?_; rintro e w1 ⟨rfl, hb1⟩; obtain ⟨x1, rfl⟩ := LaterW.of2 hb1; clear hb1)
            exact ⟨⟨i + 1, by omega, by go_num, by rw [HS.out hlt, if_neg (by omega), HV.out], x1, rfl⟩, by simp [intOf]; omega⟩
        · have HQ : Hid (L = r) := by
            show L = r
            rw [← HR.out, hE, List.drop_of_length_le (by omega)]
            rfl
          clear hE
          go_wp2_with fail
          go_ret
          exact ⟨by rw [HQ.out]; rfl, (by repeat (first | with_reducible exact Below.refl _ _ | with_reducible exact HBEL.out | with_reducible assumption | with_reducible refine Below.setCell ?_ (by first | (dsimp only; omega) | (simp; try omega)) _ | with_reducible refine LaterW.below _ ?_ | with_reducible refine below_alloc ?_ _ | with_reducible refine below_drewN' ?_ _ | with_reducible refine Below.drew ?_ | with_reducible exact below_drewN _))⟩
/-- gSmall of one. -/
def smallB (n : Nat) (g : GT) : Bool := decide (0 ≤ g.weight n 2000)
theorem gSmall_one {n : Nat} {g : GT} {cs : List Value} {B b cap : Nat} {r : Bool} {w : World} (hg : GeomIs w B n g cs) (hB : B ≤ w.heap.size) (hc : CellsAt w b 0 cs) (hr : smallB n g = r) :
    Calls Try.prog 22 #[.slice (some ⟨b, 0, none⟩) 1 cap] w fun e w' => e = .returned (.bool r) ∧ Below w.heap.size w w' := by
  obtain ⟨k, d, a, na, ca, kk, nk, ck, rfl⟩ := hg.four
  have HG := Lib.hid hg
  simp only [CellsAt] at hc
  obtain ⟨c0, c1, c2, c3, _⟩ := hc
  simp only [Nat.zero_add, Nat.reduceAdd] at c0 c1 c2 c3
  have hw := weight_le n g 2000 (by omega)
  obtain ⟨v, hv⟩ : ∃ v, g.weight n 2000 = v := ⟨_, rfl⟩
  have HV := Lib.hid hv
  have HR : Hid (decide (0 ≤ v) = r) := by show _ = _; rw [← hr, ← hv]; rfl
  rw [hv] at hw
  clear hr hg hv
  by_cases h0 : 0 ≤ v
  all_goals
    go_enter Try.func22, Try.ntmps22
    go_wp2_with fail
    refine wp_loop_rounds 2 ?_
    rw [rounds_succ]
    go_wp2_with (go_at_call 63; refine (gWeight_any n _ _ B 2000 v _ HG.out hB (by omega) (by omega) HV.out).mono ?_; rintro e w1 ⟨rfl, hb1⟩; obtain ⟨x1, rfl⟩ := LaterW.of hb1; clear hb1)
    rw [rounds_succ]
    go_wp2_with fail
    go_ret
    exact ⟨ret_bool (by rw [← HR.out]; first | done | simp [h0]), (by repeat (first | with_reducible exact Below.refl _ _ | with_reducible exact HBEL.out | with_reducible assumption | with_reducible refine Below.setCell ?_ (by first | (dsimp only; omega) | (simp; try omega)) _ | with_reducible refine LaterW.below _ ?_ | with_reducible refine below_alloc ?_ _ | with_reducible refine below_drewN' ?_ _ | with_reducible refine Below.drew ?_ | with_reducible exact below_drewN _))⟩
end Go.Proofs.Ytihkmkcjjlmkhaa
