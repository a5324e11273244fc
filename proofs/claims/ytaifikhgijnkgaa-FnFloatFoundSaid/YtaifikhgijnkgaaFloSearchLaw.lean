/- The walks of laws.FnSearchFloat64s and laws.FnFloat64Search. No conditions. -/
import Derived.Test.YtaifikhgijnkgaaFloSearch
import Derived.Test.YtaifikhgijnkgaaFloS
namespace Go.Proofs.Ytaifikhgijnkgaa
open Go.RowKit
open Go.Sort hiding Below
set_option linter.unusedVariables false

theorem el_map_toNat (O : List Int) (k : Nat) (h : k < O.length) : el (O.map Int.toNat) k = (el O k).toNat := by
  rw [el_eq _ k (by rw [List.length_map]; exact h), el_eq O k h, List.getElem_map]

/-- In sorted floats without NaN: below the place all are less, from it on none is. -/
theorem fAt_spec {O : List Int} {x : Int} {len : Nat} (hl : O.length = len) (hso : (O.map Int.toNat).Pairwise fun x y => fLt y x = false) (hN : ∀ y ∈ O, fNaN y.toNat = false) (hx : fNaN x.toNat = false) :
    fAt O x len ≤ len ∧ (∀ k, k < fAt O x len → fLt (el O k).toNat x.toNat = true) ∧ (∀ k, fAt O x len ≤ k → k < len → fLt (el O k).toNat x.toNat = false) := by
  have hp : ∀ k, k < len → fGe (el (O.map Int.toNat) k) x.toNat = !fLt (el O k).toNat x.toNat := fun k hk => by
    rw [el_map_toNat O k (by omega)]
    refine fGe_not _ _ (hN _ ?_) hx
    rw [el_eq O k (by omega)]
    exact List.getElem_mem _
  have hord : ∀ i k, i ≤ k → k < len → fLt (el O k).toNat (el O i).toNat = false := fun i k hik hk => by
    rcases Nat.lt_or_ge i k with h | h
    · rw [← el_map_toNat O k (by omega), ← el_map_toNat O i (by omega), el_eq _ k (by rw [List.length_map]; omega), el_eq _ i (by rw [List.length_map]; omega)]
      exact List.pairwise_iff_getElem.1 hso i k (by rw [List.length_map]; omega) (by rw [List.length_map]; omega) h
    · obtain rfl : i = k := by omega
      exact fLt_swo.irrefl _
  obtain ⟨b1, b2, b3⟩ := bsearch_spec (fun k => fGe (el (O.map Int.toNat) k) x.toNat) len len 0 len (by omega) (by omega) (by omega) (.inl rfl) (.inl rfl)
  change fAt O x len ≤ len at b1
  change fAt O x len = 0 ∨ fGe (el (O.map Int.toNat) (fAt O x len - 1)) x.toNat = false at b2
  change fAt O x len = len ∨ fGe (el (O.map Int.toNat) (fAt O x len)) x.toNat = true at b3
  generalize fAt O x len = r at *
  refine ⟨b1, fun k hk => ?_, fun k hk hkl => ?_⟩
  · rcases b2 with b2 | b2
    · omega
    · rw [hp (r - 1) (by omega)] at b2
      cases hv : fLt (el O k).toNat x.toNat
      · have h1 := hord k (r - 1) (by omega) (by omega)
        have h2 := fLt_swo.ntrans _ _ _ h1 hv
        rw [h2] at b2
        cases b2
      · rfl
  · rcases b3 with b3 | b3
    · omega
    · rw [hp r (by omega)] at b3
      have h1 := hord r k hk hkl
      refine fLt_swo.ntrans _ _ _ h1 ?_
      cases hv : fLt (el O r).toNat x.toNat
      · rfl
      · rw [hv] at b3; cases b3

theorem one_slice (w : World) (x : Int) : Sl (Value.int .u64) (w.alloc (.cells #[.int .u64 x] 48)) (some ⟨w.heap.size, 0, none⟩) 1 1 [x] := by
  refine ⟨rfl, Nat.le_refl _, ?_, .inr ⟨w.heap.size, 0, rfl, by simp, fun i hi => ?_⟩⟩
  · first | exact Nat.le_refl _ | decide | simp
  · obtain rfl : i = 0 := by omega
    simp [el]

theorem search_agree {O xs : List Int} {x : Int} {len : Nat} (hl : xs.length = len) (hp : O.Perm xs) (hso : (O.map Int.toNat).Pairwise fun x y => fLt y x = false) (hN : anyNaN xs = false) (hx : fNaN x.toNat = false) :
    fAt O x len ≤ len ∧ (∀ k, k < fAt O x len → fGe (el O k).toNat x.toNat = false) ∧ (fAt O x len < len → fGe (el O (fAt O x len)).toNat x.toNat = true) := by
  have hOl : O.length = len := by rw [hp.length_eq]; exact hl
  have hNO : ∀ y ∈ O, fNaN y.toNat = false := fun y hy => anyNaN_false hN y (hp.mem_iff.1 hy)
  obtain ⟨s1, s2, s3⟩ := fAt_spec hOl hso hNO hx
  have hm : ∀ k, k < len → el O k ∈ O := fun k hk => by rw [el_eq O k (by omega)]; exact List.getElem_mem _
  refine ⟨s1, fun k hk => ?_, fun h => ?_⟩
  · rw [fGe_not _ _ (hNO _ (hm k (by omega))) hx, s2 k hk]; rfl
  · rw [fGe_not _ _ (hNO _ (hm _ h)) hx, s3 _ (Nat.le_refl _) h]; rfl

set_option maxHeartbeats 2000000 in
set_option maxRecDepth 100000 in
theorem walk_FnSearchFloat64s (a0 : Option Addr) (len0 cap0 : Nat) (x0 : List Int) (x1 : Int) (w : World)
    (s0 : Sl (Value.int .u64) w a0 len0 cap0 x0) (g0 : ∀ x ∈ x0, (Lit.int .u64 x).wf = true) (b0 : cap0 * 8 ≤ 140737488351232) (g1 : (Lit.int .u64 x1).wf = true) :
    Calls Try.prog 34 #[.slice a0 len0 cap0, .int .u64 x1] w (Good w) := by
  have hcap := s0.2.1
  have HL := Lib.hid s0.1
  have HS := Lib.hid s0
  have HC := Lib.hid (impl_Float64s a0 len0 cap0 x0 w s0 (by omega) (nonneg_u g0))
  clear s0 g0 g1
  go_enter Try.func34, Try.ntmps34
  go_wp2_with fail
  refine HC.out.mono ?_
  rintro e w1 ⟨g, O, rfl, hs1, hp, hso, hb1⟩
  have HB1 := Lib.hid hb1
  have HS1 := Lib.hid hs1
  have HP := Lib.hid hp
  have HSO := Lib.hid hso
  have HN := fun r h => Lib.hid (laws_hasNaN r a0 len0 cap0 x0 w1 h (HS.out.below hb1) (by omega))
  clear hs1 hp hso hb1 HC
  cases hN : anyNaN x0 with
  | true =>
    have HN1 := HN true hN
    clear HN hN
    go_wp2_with fail
    refine HN1.out.mono ?_
    rintro e w2 ⟨rfl, rfl⟩
    go_wp2_with fail
    go_ret
    exact ⟨rfl, HB1.out⟩
  | false =>
    have HN1 := HN false hN
    have HNF := Lib.hid hN
    have B2 := Lib.hid (belowA w1 (.cells #[.int .u64 x1] 48))
    have HO2 := Lib.hid (HS1.out.below B2.out)
    have HM := fun r h => Lib.hid (laws_hasNaN r _ 1 1 [x1] _ h (one_slice w1 x1) (by omega))
    clear HN hN
    cases hX : fNaN x1.toNat with
    | true =>
      have HM1 := HM true (by simp [anyNaN, hX])
      clear HM hX
      go_wp2_with fail
      refine HN1.out.mono ?_
      rintro e w2 ⟨rfl, rfl⟩
      go_wp2_with fail
      refine HM1.out.mono ?_
      rintro e w2 ⟨rfl, rfl⟩
      go_wp2_with fail
      go_ret
      exact ⟨rfl, HB1.out.trans (B2.out.mono HB1.out.size)⟩
    | false =>
      have HM1 := HM false (by simp [anyNaN, hX])
      have HA := Lib.hid (search_agree (x := x1) HL.out HP.out HSO.out HNF.out hX)
      clear HM hX
      go_wp2_with fail
      refine HN1.out.mono ?_
      rintro e w2 ⟨rfl, rfl⟩
      go_wp2_with fail
      refine HM1.out.mono ?_
      rintro e w2 ⟨rfl, rfl⟩
      have HB2 := Lib.hid (HB1.out.trans (B2.out.mono HB1.out.size))
      clear HN1 HM1
      generalize w1.alloc (.cells #[.int .u64 x1] 48) = w2 at *
      have HI := Lib.hid (impl_SearchFloat64s _ len0 len0 O x1 w2 HO2.out (by omega))
      go_wp2_with fail
      refine HI.out.mono ?_
      rintro e w3 ⟨rfl, hb3⟩
      have HK := Lib.hid (spec_Search _ len0 len0 O x1 (fAt O x1 len0) w3 (HO2.out.below hb3) (by omega) HA.out.1 HA.out.2.1 HA.out.2.2)
      have HB3 := Lib.hid (HB2.out.trans (hb3.mono HB2.out.size))
      clear hb3 HI
      go_wp2_with fail
      refine HK.out.mono ?_
      rintro e w4 ⟨rfl, rfl⟩
      go_wp2_with fail
      go_ret
      exact ⟨by simp, HB3.out⟩
#print axioms walk_FnSearchFloat64s
end Go.Proofs.Ytaifikhgijnkgaa
