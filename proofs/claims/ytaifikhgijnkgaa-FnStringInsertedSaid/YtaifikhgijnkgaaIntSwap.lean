/- Contracts of (sort.IntSlice).Swap, impl.IntSwap, laws.equal[int]. Conditions: the places lie inside. -/
import Derived.Test.YtaifikhgijnkgaaEqualZ
import Derived.Test.YtaifikhgijnkgaaIntLess
import Derived.RegionTactic
import Derived.ChangeAlike
import Derived.BigRegion
namespace Go.Proofs.Ytaifikhgijnkgaa
open Go.RowKit
set_option linter.unusedVariables false

theorem Try.info3 : (Try.prog.info? 3).map (fun i => (i.zero, i.size, i.bytes)) = some (some (.int .i64 0), 1, 8) := by kernel_rfl

abbrev encZ (x : Int) : List Value := [Value.int .i64 x]

set_option maxHeartbeats 400000 in
theorem intSlice_Swap (g len cap i j : Nat) (x y : Int) (w : World) (hi : i < len) (hj : j < len) (hl : len < 4611686018427387904)
    (ci : w.cell? ⟨g, i, none⟩ = some (.int .i64 x)) (cj : w.cell? ⟨g, j, none⟩ = some (.int .i64 y)) (fi : w.frozen? ⟨g, i, none⟩ = false) (fj : w.frozen? ⟨g, j, none⟩ = false) :
    Calls Try.prog 98 #[.slice (some ⟨g, 0, none⟩) len cap, .int .i64 i, .int .i64 j] w fun e w' => e = .returned (.tuple #[]) ∧ ∃ q, w' = ((w.setCell ⟨g, i, none⟩ (.int .i64 y)).setCell ⟨g, j, none⟩ (.int .i64 x)).drewN q := by
  have hi' : (i : Int) < len := by omega
  have hj' : (j : Int) < len := by omega
  obtain ⟨v', hy'⟩ := cell?_setCell_some (w := w) (p := ⟨g, i, none⟩) (x := .int .i64 y) (q := ⟨g, j, none⟩) cj
  go_enter Try.func98, Try.ntmps98
  go_wp2
  go_region
  all_goals (try go_wp2)
  all_goals go_end0
  all_goals exact ⟨rfl, 1, rfl⟩

/-- What impl.IntSwap gives. -/
def swapped (xs : List Int) (i j : Int) : List Int := if insB xs.length i j then swapL xs i.toNat j.toNat else xs

def GivesZ (w : World) (xs : List Int) (e : Ending) (w' : World) : Prop := ∃ v, e = .returned v ∧ Own 1 encZ 3 w' w.heap.size v xs ∧ Below w.heap.size w w'

set_option maxHeartbeats 1000000 in
theorem impl_IntSwap (a : Option Addr) (len cap : Nat) (xs : List Int) (i j : Int) (w : World) (hs : Sl (Value.int .i64) w a len cap xs) (hb : len * 8 ≤ 140737488351232) :
    Calls Try.prog 51 #[.slice a len cap, .int .i64 i, .int .i64 j] w (GivesZ w (swapped xs i j)) := by
  have hlen := hs.1
  have hcap := hs.2.1
  have hk := hs.slk
  have HK := Lib.hid hk
  clear hk hs
  cases h : insB len i j with
  | false =>
    have HL := Lib.hid hlen
    clear hlen
    go_enter Try.func51, Try.ntmps51
    go_wp2_with (first
      | (at_builtin; refine wpList_copy rfl _ _ 22 rfl 3 (.int .i64 0) 1 8 encZ Try.underlying22 Try.info3 rfl (by decide) (fun _ => rfl) (by simp [Value.oneCell']) rfl a len cap xs rfl HK.out (by unfold maxLen; omega) (by omega) ?_; intro a' cap' w1 hown hbel)
      | (go_at_call 90; refine (inside_impl_at _ _ _ _ _ h).mono ?_; rintro e w' ⟨rfl, rfl⟩))
    go_ret
    refine ⟨_, rfl, ?_, hbel⟩
    unfold swapped
    rw [HL.out, h]
    exact hown
  | true =>
    obtain ⟨h1, h2, h3, h4⟩ := insB_true h
    obtain ⟨i, rfl⟩ := Int.eq_ofNat_of_zero_le h1
    obtain ⟨j, rfl⟩ := Int.eq_ofNat_of_zero_le h3
    have HL := Lib.hid hlen
    clear hlen
    go_enter Try.func51, Try.ntmps51
    go_wp2_with (first
      | (at_builtin; refine wpList_copy rfl _ _ 22 rfl 3 (.int .i64 0) 1 8 encZ Try.underlying22 Try.info3 rfl (by decide) (fun _ => rfl) (by simp [Value.oneCell']) rfl a len cap xs rfl HK.out (by unfold maxLen; omega) (by omega) ?_; intro a' cap' w1 hown hbel)
      | (go_at_call 90; refine (inside_impl_at _ _ _ _ _ h).mono ?_; rintro e w' ⟨rfl, rfl⟩))
    obtain ⟨g, rfl, hgb, hgs, hfz, hxl⟩ := hown.at (by omega)
    have hsw := intSlice_Swap g len cap' i j (el xs i) (el xs j) w1 (by omega) (by omega) (by omega) (hown.cell1 hxl i (by omega)) (hown.cell1 hxl j (by omega)) (hfz i) (hfz j)
    have HO := Lib.hid hown
    have HX := Lib.hid hxl
    clear hown hxl hfz
    refine hsw.mono ?_
    rintro e w2 ⟨rfl, q, rfl⟩
    clear hsw
    go_wp2
    go_ret
    refine ⟨_, rfl, ?_, ?_⟩
    · unfold swapped
      rw [HL.out, h]
      exact HO.out.swap1 HX.out i j q
    · exact Below.drewN ((hbel.setCell (p := ⟨g, i, none⟩) hgb _).setCell (p := ⟨g, j, none⟩) hgb _) q

theorem swapped_length (xs : List Int) (i j : Int) : (swapped xs i j).length = xs.length := by
  unfold swapped; split
  · exact swapL_length _ _ _
  · rfl

set_option maxHeartbeats 1000000 in
theorem walk_FnIntSwap (a0 : Option Addr) (len0 cap0 : Nat) (x0 : List Int) (x1 : Int) (x2 : Int) (w : World)
    (s0 : Sl (Value.int .i64) w a0 len0 cap0 x0) (g0 : ∀ x ∈ x0, (Lit.int .i64 x).wf = true) (b0 : cap0 * 8 ≤ 140737488351232) (g1 : (Lit.int .i64 x1).wf = true) (g2 : (Lit.int .i64 x2).wf = true) :
    Calls Try.prog 8 #[.slice a0 len0 cap0, .int .i64 x1, .int .i64 x2] w (Good w) := by
  clear g0 g1 g2
  have hlen := s0.1
  have hcap := s0.2.1
  have HK := Lib.hid s0.slk
  have HS := Lib.hid s0
  have HL := Lib.hid hlen
  cases h : insB len0 x1 x2 with
  | false =>
    clear hlen s0
    go_enter Try.func8, Try.ntmps8
    go_wp2_with (first
      | (at_builtin; refine wpList_copy rfl _ _ 22 rfl 3 (.int .i64 0) 1 8 encZ Try.underlying22 Try.info3 rfl (by decide) (fun _ => rfl) (by simp [Value.oneCell']) rfl a0 len0 cap0 x0 rfl HK.out (by unfold maxLen; omega) (by omega) ?_; intro a' cap' w1 hown hbel)
      | (go_at_call 41; refine (inside_laws_at _ _ _ _ _ h).mono ?_; rintro e w' ⟨rfl, rfl⟩))
    refine (impl_IntSwap a0 len0 cap0 x0 x1 x2 w1 (HS.out.below hbel) (by omega)).mono ?_
    rintro e w2 ⟨v, rfl, hv, hb2⟩
    have e1 : swapped x0 x1 x2 = x0 := by unfold swapped; rw [HL.out, h]; rfl
    rw [e1] at hv
    obtain ⟨av, cv, rfl, hsv, _, _⟩ := hv.sl
    rw [HL.out] at hsv ⊢
    have hso : Sl (Value.int .i64) w2 a' len0 cap' x0 := by
      obtain ⟨aa, cc, hv', hs', _, _⟩ := hown.sl
      cases hv'
      rw [HL.out] at hs'
      exact hs'.below hb2
    have HC := Lib.hid (equal_int av len0 cv x0 a' len0 cap' x0 w2 hsv hso (by omega))
    have HB := Lib.hid (hbel.trans (hb2.mono hbel.size))
    clear hown hv hsv hso hbel hb2 e1
    go_wp2_with fail
    refine HC.out.mono ?_
    rintro e w3 ⟨rfl, q, rfl⟩
    go_wp2_with fail
    go_ret
    exact ⟨by simp, Below.drewN HB.out _⟩
  | true =>
    obtain ⟨h1, h2, h3, h4⟩ := insB_true h
    obtain ⟨i, rfl⟩ := Int.eq_ofNat_of_zero_le h1
    obtain ⟨j, rfl⟩ := Int.eq_ofNat_of_zero_le h3
    obtain ⟨b, off, rfl, hbs, hc⟩ : ∃ b off, a0 = some ⟨b, off, none⟩ ∧ b < w.heap.size ∧ ∀ i, i < len0 → w.cell? ⟨b, off + i, none⟩ = some (.int .i64 (el x0 i)) := by
      rcases s0.2.2.2 with h0 | h0
      · omega
      · exact h0
    have ci := hc i (by omega)
    have cj := hc j (by omega)
    clear hlen s0 hc
    go_enter Try.func8, Try.ntmps8
    go_wp2_with (first
      | (at_builtin; refine wpList_copy rfl _ _ 22 rfl 3 (.int .i64 0) 1 8 encZ Try.underlying22 Try.info3 rfl (by decide) (fun _ => rfl) (by simp [Value.oneCell']) rfl _ len0 cap0 x0 rfl HK.out (by unfold maxLen; omega) (by omega) ?_; intro a' cap' w1 hown hbel)
      | (go_at_call 41; refine (inside_laws_at _ _ _ _ _ h).mono ?_; rintro e w' ⟨rfl, rfl⟩))
    obtain ⟨g, rfl, hgb, hgs, hfz, hxl⟩ := hown.at (by omega)
    have wi : w1.cell? ⟨b, off + i, none⟩ = some (.int .i64 (el x0 i)) := by rw [hbel.cell (p := ⟨b, off + i, none⟩) hbs]; exact ci
    have wj : w1.cell? ⟨b, off + j, none⟩ = some (.int .i64 (el x0 j)) := by rw [hbel.cell (p := ⟨b, off + j, none⟩) hbs]; exact cj
    have gi := hown.cell1 hxl i (by omega)
    have gj := hown.cell1 hxl j (by omega)
    have fi := hfz i
    have fj := hfz j
    obtain ⟨v', hy'⟩ := cell?_setCell_some (w := w1) (p := ⟨g, i, none⟩) (x := .int .i64 (el x0 j)) (q := ⟨g, j, none⟩) gj
    have HO := Lib.hid hown
    have HX := Lib.hid hxl
    have HB := Lib.hid hbel
    clear hown hxl hfz ci cj hbel
    go_region
    all_goals (try go_wp2_with fail)
    all_goals
      have hb2 : Below w.heap.size w ((w1.setCell ⟨g, i, none⟩ (.int .i64 (el x0 j))).setCell ⟨g, j, none⟩ (.int .i64 (el x0 i))).drew := Below.drew ((HB.out.setCell (p := ⟨g, i, none⟩) hgb _).setCell (p := ⟨g, j, none⟩) hgb _)
      have ho2 := HO.out.swap1 HX.out i j 1
      generalize hw2 : ((w1.setCell ⟨g, i, none⟩ (.int .i64 (el x0 j))).setCell ⟨g, j, none⟩ (.int .i64 (el x0 i))) = w2 at *
      have HW := Lib.hid hw2
      clear hw2 hy' gi gj fi fj wi wj
      refine (impl_IntSwap _ len0 cap0 x0 i j w2.drew (HS.out.below hb2) (by omega)).mono ?_
      rintro e w3 ⟨v, rfl, hv, hb3⟩
      have e1 : swapped x0 i j = swapL x0 i j := by unfold swapped; rw [HL.out, h]; rfl
      rw [e1] at hv
      obtain ⟨av, cv, rfl, hsv, _, _⟩ := hv.sl
      have hL2 : (swapL x0 i j).length = len0 := by rw [swapL_length]; exact HL.out
      rw [hL2] at hsv ⊢
      have hso : Sl (Value.int .i64) w3 (some ⟨g, 0, none⟩) len0 cap' (swapL x0 i j) := by
        obtain ⟨aa, cc, hv', hs', _, _⟩ := Own.sl (enc := Value.int .i64) (w := w2.drew) ho2
        rw [hL2] at hs' hv'
        cases hv'
        exact hs'.below hb3
      have HC := Lib.hid (equal_int av len0 cv _ _ len0 cap' _ w3 hsv hso (by omega))
      have HB := Lib.hid (hb2.trans (hb3.mono hb2.size))
      clear hv hsv hso hb2 hb3 e1 ho2 hL2
      go_wp2_with fail
      refine HC.out.mono ?_
      rintro e w4 ⟨rfl, q, rfl⟩
      go_wp2_with fail
      go_ret
      exact ⟨by simp, Below.drewN HB.out _⟩

theorem swapL_perm {α : Type} [Inhabited α] (xs : List α) (i j : Nat) (hi : i < xs.length) (hj : j < xs.length) : (swapL xs i j).Perm xs := by
  have h := Array.swap_perm (xs := xs.toArray) (i := i) (j := j) (by simpa using hi) (by simpa using hj)
  have e : swapL xs i j = (xs.toArray.swap i j (by simpa using hi) (by simpa using hj)).toList := by
    simp [swapL, Array.swap, el_eq xs i hi, el_eq xs j hj]
  rw [e]
  simpa [Array.perm_iff_toList_perm] using h

theorem swapped_perm (xs : List Int) (i j : Int) : (swapped xs i j).Perm xs := by
  unfold swapped; split
  · rename_i h
    obtain ⟨h1, h2, h3, h4⟩ := insB_true h
    exact swapL_perm _ _ _ (by omega) (by omega)
  · exact List.Perm.refl _

theorem swapped_twice (xs : List Int) (i j : Int) : swapped (swapped xs i j) i j = xs := by
  have hl := swapped_length xs i j
  cases h : insB xs.length i j with
  | false =>
    have e : swapped xs i j = xs := by unfold swapped; rw [h]; rfl
    rw [e, e]
  | true =>
    obtain ⟨h1, h2, h3, h4⟩ := insB_true h
    have e : swapped xs i j = swapL xs i.toNat j.toNat := by unfold swapped; rw [h]; rfl
    have e2 : swapped (swapped xs i j) i j = swapL (swapped xs i j) i.toNat j.toNat := by
      generalize swapped xs i j = zs at hl
      unfold swapped
      rw [hl, h]; rfl
    rw [e2, e]
    exact swapL_twice xs _ _ (by omega) (by omega)

theorem swapped_self (xs : List Int) (i : Int) : swapped xs i i = xs := by
  unfold swapped; split
  · rename_i h
    obtain ⟨h1, h2, h3, h4⟩ := insB_true h
    exact swapL_self _ _ (by omega)
  · rfl

theorem equal_int_true (a : Option Addr) (la ca : Nat) (xs : List Int) (b : Option Addr) (lb cb : Nat) (w : World)
    (sa : Sl (Value.int .i64) w a la ca xs) (sb : Sl (Value.int .i64) w b lb cb xs) (hla : la < 4611686018427387904) :
    Calls Try.prog 50 #[.slice a la ca, .slice b lb cb] w fun e w' => e = .returned (.bool true) ∧ ∃ q, w' = w.drewN q :=
  (equal_int a la ca xs b lb cb xs w sa sb hla).mono fun e w' h => ⟨by rw [h.1]; simp, h.2⟩

/-- impl.IntSwap's row, opened. -/
theorem impl_IntSwap' (a : Option Addr) (len cap : Nat) (xs ys : List Int) (i j : Int) (w : World) (hs : Sl (Value.int .i64) w a len cap xs) (hb : len * 8 ≤ 140737488351232) (hy : swapped xs i j = ys) :
    Calls Try.prog 51 #[.slice a len cap, .int .i64 i, .int .i64 j] w fun e w' => ∃ a' c', e = .returned (.slice a' len c') ∧ Own 1 encZ 3 w' w.heap.size (.slice a' len c') ys ∧ Sl (Value.int .i64) w' a' len c' ys ∧ Below w.heap.size w w' :=
  (impl_IntSwap a len cap xs i j w hs hb).mono fun e w' h => by
    obtain ⟨v, rfl, hv, hb⟩ := h
    rw [hy] at hv
    have hl : ys.length = len := by rw [← hy, swapped_length]; exact hs.1
    obtain ⟨a', c', rfl, h1, _, _⟩ := hv.sl
    rw [hl] at h1 hv ⊢
    exact ⟨a', c', rfl, hv, h1, hb⟩

set_option maxHeartbeats 1000000 in
theorem walk_FnIntSwapTwice (a0 : Option Addr) (len0 cap0 : Nat) (x0 : List Int) (x1 : Int) (x2 : Int) (w : World)
    (s0 : Sl (Value.int .i64) w a0 len0 cap0 x0) (g0 : ∀ x ∈ x0, (Lit.int .i64 x).wf = true) (b0 : cap0 * 8 ≤ 140737488351232) (g1 : (Lit.int .i64 x1).wf = true) (g2 : (Lit.int .i64 x2).wf = true) :
    Calls Try.prog 9 #[.slice a0 len0 cap0, .int .i64 x1, .int .i64 x2] w (Good w) := by
  clear g0 g1 g2
  have hcap := s0.2.1
  have HS := Lib.hid s0
  clear s0
  obtain ⟨ys, hy⟩ : ∃ ys, swapped x0 x1 x2 = ys := ⟨_, rfl⟩
  have HY := Lib.hid hy
  clear hy
  go_enter Try.func9, Try.ntmps9
  go_wp2_with fail
  refine (impl_IntSwap' a0 len0 cap0 x0 ys x1 x2 w HS.out (by omega) HY.out).mono ?_
  rintro e w1 ⟨a1, c1, rfl, ho1, s1, hb1⟩
  have S1 := Lib.hid s1
  have B1 := Lib.hid hb1
  clear s1 hb1 ho1
  go_wp2_with fail
  refine (permuted_int a1 len0 c1 ys a0 len0 cap0 x0 w1 S1.out (HS.out.below B1.out) (by omega) (by rw [← HY.out]; exact swapped_perm _ _ _)).mono ?_
  rintro e w' ⟨rfl, rfl⟩
  go_wp2_with fail
  refine (impl_IntSwap' a1 len0 c1 ys x0 x1 x2 w1 S1.out (by omega) (by rw [← HY.out]; exact swapped_twice _ _ _)).mono ?_
  rintro e w2 ⟨a2, c2, rfl, ho2, s2, hb2⟩
  have S2 := Lib.hid s2
  have B2 := Lib.hid (B1.out.trans (hb2.mono B1.out.size))
  clear s2 hb2 ho2
  go_wp2_with fail
  refine (equal_int_true a2 len0 c2 x0 a0 len0 cap0 w2 S2.out (HS.out.below B2.out) (by omega)).mono ?_
  rintro e w3 ⟨rfl, q, rfl⟩
  go_wp2_with fail
  refine (impl_IntSwap' a0 len0 cap0 x0 x0 x1 x1 _ (HS.out.below (Below.drewN B2.out q)) (by omega) (swapped_self _ _)).mono ?_
  rintro e w4 ⟨a4, c4, rfl, ho4, s4, hb4⟩
  have S4 := Lib.hid s4
  have B4 := Lib.hid ((Below.drewN B2.out q).trans (hb4.mono (Below.drewN B2.out q).size))
  clear s4 hb4 ho4
  go_wp2_with fail
  refine (equal_int_true a4 len0 c4 x0 a0 len0 cap0 w4 S4.out (HS.out.below B4.out) (by omega)).mono ?_
  rintro e w5 ⟨rfl, q', rfl⟩
  go_wp2_with fail
  go_ret
  exact ⟨rfl, Below.drewN B4.out _⟩

theorem impl_IntLess_at (r : Bool) (b off len cap i j : Nat) (xs : List Int) (w : World) (hi : i < len) (hj : j < len) (hl : len < 4611686018427387904)
    (ci : w.cell? ⟨b, off + i, none⟩ = some (.int .i64 (el xs i))) (cj : w.cell? ⟨b, off + j, none⟩ = some (.int .i64 (el xs j))) (hr : decide (el xs i < el xs j) = r) :
    Calls Try.prog 40 #[.slice (some ⟨b, off, none⟩) len cap, .int .i64 i, .int .i64 j] w fun e w' => e = .returned (.bool r) ∧ ∃ q, w' = w.drewN q := by
  subst hr; exact impl_IntLess_yes b off len cap i j xs w hi hj hl ci cj

set_option maxHeartbeats 2000000 in
theorem walk_FnIntLessTotal (a0 : Option Addr) (len0 cap0 : Nat) (x0 : List Int) (x1 : Int) (x2 : Int) (w : World)
    (s0 : Sl (Value.int .i64) w a0 len0 cap0 x0) (g0 : ∀ x ∈ x0, (Lit.int .i64 x).wf = true) (b0 : cap0 * 8 ≤ 140737488351232) (g1 : (Lit.int .i64 x1).wf = true) (g2 : (Lit.int .i64 x2).wf = true) :
    Calls Try.prog 10 #[.slice a0 len0 cap0, .int .i64 x1, .int .i64 x2] w (Good w) := by
  clear g0 g1 g2
  have hlen := s0.1
  have hcap := s0.2.1
  cases h : insB len0 x1 x2 with
  | false =>
    clear hlen s0
    go_enter Try.func10, Try.ntmps10
    go_wp2_with (go_at_call 41; refine (inside_laws_at _ _ _ _ _ h).mono ?_; rintro e w' ⟨rfl, rfl⟩)
    go_ret
    exact ⟨rfl, Below.refl _ _⟩
  | true =>
    obtain ⟨h1, h2, h3, h4⟩ := insB_true h
    obtain ⟨i, rfl⟩ := Int.eq_ofNat_of_zero_le h1
    obtain ⟨j, rfl⟩ := Int.eq_ofNat_of_zero_le h3
    obtain ⟨b, off, rfl, hbs, hc⟩ : ∃ b off, a0 = some ⟨b, off, none⟩ ∧ b < w.heap.size ∧ ∀ i, i < len0 → w.cell? ⟨b, off + i, none⟩ = some (.int .i64 (el x0 i)) := by
      rcases s0.2.2.2 with h0 | h0
      · omega
      · exact h0
    have ci := hc i (by omega)
    have cj := hc j (by omega)
    have HS := Lib.hid s0
    obtain ⟨ys, hy⟩ : ∃ ys, swapped x0 i j = ys := ⟨_, rfl⟩
    have hyl : ys = swapL x0 i j := by rw [← hy]; unfold swapped; rw [hlen, h]; rfl
    have ei : el ys i = el x0 j := by rw [hyl, el_swapL _ _ _ _ (by omega)]; split <;> simp_all
    have ej : el ys j = el x0 i := by rw [hyl, el_swapL _ _ _ _ (by omega)]; simp
    have HY := Lib.hid hy
    have EI := Lib.hid ei
    have EJ := Lib.hid ej
    clear s0 hc hlen hy hyl ei ej
    have h3 : (decide (el x0 i < el x0 j) = false ∧ decide (el x0 j < el x0 i) = false ∧ (el x0 i == el x0 j) = true) ∨ (decide (el x0 i < el x0 j) = true ∧ decide (el x0 j < el x0 i) = false ∧ (el x0 i == el x0 j) = false) ∨ (decide (el x0 i < el x0 j) = false ∧ decide (el x0 j < el x0 i) = true ∧ (el x0 i == el x0 j) = false) := by
      simp only [decide_eq_true_eq, decide_eq_false_iff_not, beq_iff_eq, beq_eq_false_iff_ne]
      omega
    rcases h3 with ⟨hu, hv, he⟩ | ⟨hu, hv, he⟩ | ⟨hu, hv, he⟩
    all_goals
      have HU := Lib.hid hu
      have HV := Lib.hid hv
      clear hu hv
      go_enter Try.func10, Try.ntmps10
      go_wp2_with (go_at_call 41; refine (inside_laws_at _ _ _ _ _ h).mono ?_; rintro e w' ⟨rfl, rfl⟩)
      refine (impl_IntLess_at _ b off len0 cap0 i j x0 w (by omega) (by omega) (by omega) ci cj HU.out).mono ?_
      rintro e w' ⟨rfl, q, rfl⟩
      go_wp2_with fail
      refine (impl_IntLess_at _ b off len0 cap0 j i x0 (w.drewN q) (by omega) (by omega) (by omega) cj ci HV.out).mono ?_
      rintro e w' ⟨rfl, q', rfl⟩
      go_wp2_with fail
      refine (impl_IntSwap' _ len0 cap0 x0 ys i j _ (HS.out.below (Below.drewN (Below.refl _ _) _)) (by omega) HY.out).mono ?_
      rintro e w1 ⟨a1, c1, rfl, ho1, s1, hb1⟩
      obtain ⟨g, rfl, hgb, hgs, hfz, hxl⟩ := ho1.at (by omega)
      have gi := ho1.cell1 hxl i (by omega)
      have gj := ho1.cell1 hxl j (by omega)
      have di : w1.cell? ⟨b, off + i, none⟩ = some (.int .i64 (el x0 i)) := by rw [hb1.cell (p := ⟨b, off + i, none⟩) hbs]; exact ci
      have dj : w1.cell? ⟨b, off + j, none⟩ = some (.int .i64 (el x0 j)) := by rw [hb1.cell (p := ⟨b, off + j, none⟩) hbs]; exact cj
      have hij := fun n => impl_IntLess_at _ g 0 len0 c1 i j ys (w1.drewN n) (by omega) (by omega) (by omega) (by rw [Nat.zero_add]; exact gi) (by rw [Nat.zero_add]; exact gj) (by rw [EI.out, EJ.out, HV.out])
      have hji := fun n => impl_IntLess_at _ g 0 len0 c1 j i ys (w1.drewN n) (by omega) (by omega) (by omega) (by rw [Nat.zero_add]; exact gj) (by rw [Nat.zero_add]; exact gi) (by rw [EI.out, EJ.out, HU.out])
      have HIJ := Lib.hid hij
      have HJI := Lib.hid hji
      have HB := Lib.hid (Below.trans (Below.drewN (Below.refl w.heap.size w) (q + q')) hb1)
      clear ho1 hxl hfz gi gj hij hji s1 hb1
      go_wp2_with fail
      go_quiet ((go_at_call 40; first | with_reducible exact Calls.quiet_of (HIJ.out _) | with_reducible exact Calls.quiet_of (HJI.out _)))
      go_wp2
      go_ret
      exact ⟨by simp, Below.drewN HB.out _⟩
#print axioms impl_IntSwap
#print axioms walk_FnIntSwap
#print axioms walk_FnIntLessTotal
#print axioms walk_FnIntSwapTwice
end Go.Proofs.Ytaifikhgijnkgaa
