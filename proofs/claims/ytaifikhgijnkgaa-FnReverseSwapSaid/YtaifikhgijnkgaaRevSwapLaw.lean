/- The walk of laws.FnReverseSwap. No conditions. -/
import Derived.Test.YtaifikhgijnkgaaRevSwap
import Derived.Test.YtaifikhgijnkgaaEqualIt
namespace Go.Proofs.Ytaifikhgijnkgaa
open Go.RowKit
set_option linter.unusedVariables false

theorem equal_it_true (a : Option Addr) (la ca : Nat) (xs : List It) (b : Option Addr) (lb cb : Nat) (w : World)
    (sa : SlK 2 encIt w a la ca xs) (sb : SlK 2 encIt w b lb cb xs) (hla : la < 4611686018427387904) :
    Calls Try.prog 58 #[.slice a la ca, .slice b lb cb] w fun e w' => e = .returned (.bool true) ∧ ∃ q, w' = w.drewN q :=
  (equal_it a la ca xs b lb cb xs w sa sb hla).mono fun e w' h => ⟨by rw [h.1]; simp, h.2⟩

set_option maxHeartbeats 4000000 in
set_option maxRecDepth 100000 in
theorem walk_FnReverseSwap (a0 : Option Addr) (len0 cap0 : Nat) (x0 : List It) (n1 : Int) (a1 : Option Addr) (len1 cap1 : Nat) (x1 : List Bool) (x2 : Int) (x3 : Int) (w : World)
    (s0 : SlK 2 encIt w a0 len0 cap0 x0) (g0 : ∀ x ∈ x0, okIt x) (b0 : cap0 * 16 ≤ 140737488351232) (g1 : (Lit.int .i64 n1).wf = true) (s1 : Sl Value.bool w a1 len1 cap1 x1) (b1 : cap1 ≤ 9223372036854775807) (g2 : (Lit.int .i64 x2).wf = true) (g3 : (Lit.int .i64 x3).wf = true) :
    Calls Try.prog 13 #[.slice a0 len0 cap0, .agg #[.int .i64 n1, .slice a1 len1 cap1], .int .i64 x2, .int .i64 x3] w (Good w) := by
  clear g0 g1 g2 g3 s1 x1
  have hlen := s0.1
  have hcap := s0.2.1
  have HL := Lib.hid hlen
  have HS := Lib.hid s0
  have hz : w.heap.size < (w.alloc (.cells #[.int .i64 n1, .slice a1 len1 cap1] 33)).heap.size := by simp
  have HZ := Lib.hid hz
  have C0 := Lib.hid (show (w.alloc (.cells #[.int .i64 n1, .slice a1 len1 cap1] 33)).cell? ⟨w.heap.size, 0, none⟩ = some (.int .i64 n1) by simp)
  have C1 := Lib.hid (show (w.alloc (.cells #[.int .i64 n1, .slice a1 len1 cap1] 33)).cell? ⟨w.heap.size, 1, none⟩ = some (.slice a1 len1 cap1) by simp)
  clear hz
  cases h : insB len0 x2 x3 with
  | false =>
    clear hlen s0
    go_enter Try.func13, Try.ntmps13
    go_wp2_with (first
      | (at_builtin; refine wpList_copy rfl _ _ 30 rfl 52 (.agg #[.int .i64 0, .int .i64 0]) 2 16 encIt Try.underlying30 Try.info52 rfl (by decide) (fun _ => rfl) (by simp [encIt, Value.oneCell']) rfl a0 len0 cap0 x0 rfl (HS.out.belowS (below1 w _)) (by unfold maxLen; omega) (by omega) ?_; intro a' cap' w2 hown hbel)
      | fail)
    refine (inside_laws_at _ _ _ _ _ h).mono ?_
    rintro e w' ⟨rfl, rfl⟩
    have c0 := (hbel.cell (p := ⟨w.heap.size, 0, none⟩) HZ.out).trans C0.out
    have c1 := (hbel.cell (p := ⟨w.heap.size, 1, none⟩) HZ.out).trans C1.out
    have HB := Lib.hid ((below1 w (.cells #[.int .i64 n1, .slice a1 len1 cap1] 33)).trans (hbel.mono (by simp)))
    have HO := Lib.hid (hown.base (show w.heap.size ≤ _ by simp))
    have hz2 : w.heap.size < w2.heap.size := Nat.lt_of_lt_of_le HZ.out hbel.size
    clear hown hbel
    go_wp2_with fail
    refine (impl_ReverseSwap a0 len0 cap0 x0 n1 a1 len1 cap1 x2 x3 w2 (HS.out.belowS HB.out) (by omega)).mono ?_
    rintro e w3 ⟨a3, c3, rfl, ho3, s3, hb3⟩
    have e1 : swappedIt x0 x2 x3 = x0 := by unfold swappedIt; rw [HL.out, h]; rfl
    rw [e1] at s3
    have hs2 : SlK 2 encIt w3 a' len0 cap' x0 := by
      obtain ⟨aa, cc, hv', hs', _, _⟩ := Own.slk (C := 2) (encL := encIt) (fun _ => rfl) (HO.out.below hb3)
      rw [HL.out] at hv' hs'
      cases hv'
      exact hs'
    have d0 := (hb3.cell (p := ⟨w.heap.size, 0, none⟩) hz2).trans c0
    have d1 := (hb3.cell (p := ⟨w.heap.size, 1, none⟩) hz2).trans c1
    have HB3 := Lib.hid (HB.out.trans (hb3.mono HB.out.size))
    have HE := Lib.hid (equal_it_true a3 len0 c3 x0 a' len0 cap' w3 s3 hs2 (by omega))
    clear c0 c1 hb3 ho3 s3 hs2 e1
    go_wp2_with fail
    refine HE.out.mono ?_
    rintro e w4 ⟨rfl, q, rfl⟩
    go_wp2_with fail
    refine (impl_ReverseLen a0 len0 cap0 n1 a1 len1 cap1 _).mono ?_
    rintro e w5 ⟨rfl, hb5⟩
    have HB5 := Lib.hid ((Below.drewN HB3.out q).trans (hb5.mono (Below.drewN HB3.out q).size))
    clear hb5 d0 d1
    go_wp2_with fail
    go_ret
    exact ⟨by simp, HB5.out⟩
  | true =>
    obtain ⟨h1, h2, h3, h4⟩ := insB_true h
    obtain ⟨i, rfl⟩ := Int.eq_ofNat_of_zero_le h1
    obtain ⟨j, rfl⟩ := Int.eq_ofNat_of_zero_le h3
    obtain ⟨b, off, rfl, hbs, hc⟩ : ∃ b off, a0 = some ⟨b, off, none⟩ ∧ b < w.heap.size ∧ ∀ i, i < len0 → ∀ j, j < 2 → w.cell? ⟨b, off + i * 2 + j, none⟩ = (encIt (el x0 i))[j]? := by
      rcases s0.2.2.2 with h0 | h0
      · omega
      · exact h0
    have ci := it_cells hc i (by omega)
    have cj := it_cells hc j (by omega)
    have CI := Lib.hid ci
    have CJ := Lib.hid cj
    clear hlen s0 hc ci cj
    go_enter Try.func13, Try.ntmps13
    go_wp2_with (first
      | (at_builtin; refine wpList_copy rfl _ _ 30 rfl 52 (.agg #[.int .i64 0, .int .i64 0]) 2 16 encIt Try.underlying30 Try.info52 rfl (by decide) (fun _ => rfl) (by simp [encIt, Value.oneCell']) rfl _ len0 cap0 x0 rfl (HS.out.belowS (below1 w _)) (by unfold maxLen; omega) (by omega) ?_; intro a' cap' w2 hown hbel)
      | fail)
    refine (inside_laws_at _ _ _ _ _ h).mono ?_
    rintro e w' ⟨rfl, rfl⟩
    obtain ⟨g, rfl, hgb, hgs, hfz, hxl⟩ := hown.at (by omega)
    have c0 := (hbel.cell (p := ⟨w.heap.size, 0, none⟩) HZ.out).trans C0.out
    have c1 := (hbel.cell (p := ⟨w.heap.size, 1, none⟩) HZ.out).trans C1.out
    have HB := Lib.hid ((below1 w (.cells #[.int .i64 n1, .slice a1 len1 cap1] 33)).trans (hbel.mono (by simp)))
    have HO := Lib.hid (hown.base (show w.heap.size ≤ _ by simp))
    have hz2 : w.heap.size < w2.heap.size := Nat.lt_of_lt_of_le HZ.out hbel.size
    have hgw : w.heap.size + 1 ≤ g := by simp at hgb; omega
    have k0 := (HB.out.cell (p := ⟨b, off + i * 2, none⟩) hbs).trans CI.out.1
    have k1 := (HB.out.cell (p := ⟨b, off + i * 2 + 1, none⟩) hbs).trans CI.out.2
    have k2 := (HB.out.cell (p := ⟨b, off + j * 2, none⟩) hbs).trans CJ.out.1
    have k3 := (HB.out.cell (p := ⟨b, off + j * 2 + 1, none⟩) hbs).trans CJ.out.2
    have gi := hown.cells2 hxl i (by omega)
    have gj := hown.cells2 hxl j (by omega)
    obtain ⟨gi0, gi1⟩ := gi
    obtain ⟨gj0, gj1⟩ := gj
    obtain ⟨v1, e1⟩ := cell?_setCell_some (w := w2) (p := ⟨g, i * 2, none⟩) (x := .int .i64 (el x0 j).1) (q := ⟨g, j * 2, none⟩) gj0
    obtain ⟨v2, e2⟩ := cell?_setCell_some (p := ⟨g, i * 2 + 1, none⟩) (x := .int .i64 (el x0 j).2) (q := ⟨g, j * 2, none⟩) e1
    obtain ⟨v3, e3⟩ := cell?_setCell_some (w := w2) (p := ⟨g, i * 2, none⟩) (x := .int .i64 (el x0 j).1) (q := ⟨g, j * 2 + 1, none⟩) gj1
    obtain ⟨v4, e4⟩ := cell?_setCell_some (p := ⟨g, i * 2 + 1, none⟩) (x := .int .i64 (el x0 j).2) (q := ⟨g, j * 2 + 1, none⟩) e3
    obtain ⟨v5, e5⟩ := cell?_setCell_some (p := ⟨g, j * 2, none⟩) (x := .int .i64 (el x0 i).1) (q := ⟨g, j * 2 + 1, none⟩) e4
    have hb4 : Below w.heap.size w (put4 w2 g (i * 2) (j * 2) (el x0 i) (el x0 j)).drew := (put4_below HB.out (by omega)).drew
    have ho4 := HO.out.swap2 hxl i j 1
    have HO4 := Lib.hid ho4
    have HB4 := Lib.hid hb4
    have d0 : (put4 w2 g (i * 2) (j * 2) (el x0 i) (el x0 j)).drew.cell? ⟨w.heap.size, 0, none⟩ = some (.int .i64 n1) :=
      ((put4_below (B := w.heap.size + 1) (Below.refl _ w2) hgw).cell (p := ⟨w.heap.size, 0, none⟩) (Nat.lt_succ_self _)).trans c0
    have d1 : (put4 w2 g (i * 2) (j * 2) (el x0 i) (el x0 j)).drew.cell? ⟨w.heap.size, 1, none⟩ = some (.slice a1 len1 cap1) :=
      ((put4_below (B := w.heap.size + 1) (Below.refl _ w2) hgw).cell (p := ⟨w.heap.size, 1, none⟩) (Nat.lt_succ_self _)).trans c1
    have hsz4 : w2.heap.size ≤ (put4 w2 g (i * 2) (j * 2) (el x0 i) (el x0 j)).drew.heap.size := (put4_below (B := w.heap.size + 1) (Below.refl _ w2) hgw).size
    have D0 := Lib.hid d0
    have D1 := Lib.hid d1
    clear hown hbel hgb e1 e3 e4 hb4 ho4 c0 c1 d0 d1
    go_wp2_with fail
    go_region
    have hw4 : ∃ w4, w4 = put4 w2 g (i * 2) (j * 2) (el x0 i) (el x0 j) := ⟨_, rfl⟩
    obtain ⟨w4, hw4⟩ := hw4
    have hw4' := hw4
    unfold put4 at hw4'
    rw [← hw4']
    rw [← hw4] at HB4 D0 D1 hsz4
    have HO4' : Hid (Own 2 encIt 52 w4.drew w.heap.size (.slice (some ⟨g, 0, none⟩) len0 cap') (swapL x0 i j)) := by rw [hw4]; exact HO4.out
    have d0 := D0.out
    have d1 := D1.out
    have HX := Lib.hid hxl
    clear hw4 hw4' HO4 e2 e5 gi0 gi1 gj0 gj1 k0 k1 k2 k3 hfz hxl
    have d0' : w4.cell? ⟨w.heap.size, 0, none⟩ = some (.int .i64 n1) := d0
    have d1' : w4.cell? ⟨w.heap.size, 1, none⟩ = some (.slice a1 len1 cap1) := d1
    go_wp2_with fail
    refine (impl_ReverseSwap _ len0 cap0 x0 n1 a1 len1 cap1 i j w4.drew (HS.out.belowS HB4.out) (by omega)).mono ?_
    rintro e w5 ⟨a5, c5, rfl, ho5, s5, hb5⟩
    have e1 : swappedIt x0 i j = swapL x0 i j := by unfold swappedIt; rw [HL.out, h]; rfl
    rw [e1] at s5
    have hl2 : (swapL x0 i j).length = len0 := by rw [swapL_length]; exact HL.out
    have hs2 : SlK 2 encIt w5 (some ⟨g, 0, none⟩) len0 cap' (swapL x0 i j) := by
      obtain ⟨aa, cc, hv', hs', _, _⟩ := Own.slk (C := 2) (encL := encIt) (fun _ => rfl) (HO4'.out.below hb5)
      rw [hl2] at hv' hs'
      cases hv'
      exact hs'
    have hz4 : w.heap.size < w4.drew.heap.size := Nat.lt_of_lt_of_le hz2 hsz4
    have f0 := (hb5.cell (p := ⟨w.heap.size, 0, none⟩) hz4).trans d0
    have f1 := (hb5.cell (p := ⟨w.heap.size, 1, none⟩) hz4).trans d1
    have HB5 := Lib.hid (HB4.out.trans (hb5.mono HB4.out.size))
    have HE := Lib.hid (equal_it_true a5 len0 c5 _ _ len0 cap' w5 s5 hs2 (by omega))
    clear d0 d1 d0' d1' hb5 ho5 s5 hs2 e1 hl2
    go_wp2_with fail
    refine HE.out.mono ?_
    rintro e w6 ⟨rfl, q, rfl⟩
    go_wp2_with fail
    refine (impl_ReverseLen _ len0 cap0 n1 a1 len1 cap1 _).mono ?_
    rintro e w7 ⟨rfl, hb7⟩
    have HB7 := Lib.hid ((Below.drewN HB5.out q).trans (hb7.mono (Below.drewN HB5.out q).size))
    clear hb7 f0 f1
    go_wp2_with fail
    go_ret
    exact ⟨by simp, HB7.out⟩
#print axioms walk_FnReverseSwap
end Go.Proofs.Ytaifikhgijnkgaa
