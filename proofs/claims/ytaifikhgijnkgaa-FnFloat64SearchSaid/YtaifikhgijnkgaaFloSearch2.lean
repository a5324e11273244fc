/- The walk of laws.FnFloat64Search. No conditions. -/
import Derived.Test.YtaifikhgijnkgaaFloSearchLaw
namespace Go.Proofs.Ytaifikhgijnkgaa
open Go.RowKit
open Go.Sort hiding Below
set_option linter.unusedVariables false

set_option maxHeartbeats 2000000 in
set_option maxRecDepth 100000 in
theorem walk_FnFloat64Search (a0 : Option Addr) (len0 cap0 : Nat) (x0 : List Int) (x1 : Int) (w : World)
    (s0 : Sl (Value.int .u64) w a0 len0 cap0 x0) (g0 : ∀ x ∈ x0, (Lit.int .u64 x).wf = true) (b0 : cap0 * 8 ≤ 140737488351232) (g1 : (Lit.int .u64 x1).wf = true) :
    Calls Try.prog 35 #[.slice a0 len0 cap0, .int .u64 x1] w (Good w) := by
  have hcap := s0.2.1
  have HL := Lib.hid s0.1
  have HS := Lib.hid s0
  have HC := Lib.hid (impl_Float64s a0 len0 cap0 x0 w s0 (by omega) (nonneg_u g0))
  clear s0 g0 g1
  go_enter Try.func35, Try.ntmps35
  go_wp2_with fail
  refine HC.out.mono ?_
  rintro e w1 ⟨g, O, rfl, hs1, hp, hso, hb1⟩
  have HB1 := Lib.hid hb1
  have HS1 := Lib.hid hs1
  have HP := Lib.hid hp
  have HSO := Lib.hid hso
  have HI := Lib.hid (impl_Float64Search _ len0 len0 O x1 w1 hs1 (by omega))
  clear hs1 hp hso hb1 HC
  go_wp2_with fail
  refine HI.out.mono ?_
  rintro e w2 ⟨rfl, hb2⟩
  have HB2 := Lib.hid (HB1.out.trans (hb2.mono HB1.out.size))
  have HS2 := Lib.hid (HS1.out.below hb2)
  have HI2 := Lib.hid (impl_SearchFloat64s _ len0 len0 O x1 w2 HS2.out (by omega))
  clear hb2 HI
  have HAG := Lib.hid (fun h1 h2 => search_agree (x := x1) HL.out HP.out HSO.out h1 h2)
  generalize hR : fAt O x1 len0 = R at *
  clear hR
  go_wp2_with fail
  refine HI2.out.mono ?_
  rintro e w3 ⟨rfl, hb3⟩
  have HB3 := Lib.hid (HB2.out.trans (hb3.mono HB2.out.size))
  have HS3 := Lib.hid (HS2.out.below hb3)
  have HN := fun r h => Lib.hid (laws_hasNaN r a0 len0 cap0 x0 w3 h (HS.out.below HB3.out) (by omega))
  clear hb3 HI2
  cases hN : anyNaN x0 with
  | true =>
    have HN1 := HN true hN
    clear HN hN
    go_wp2_with fail
    refine HN1.out.mono ?_
    rintro e w4 ⟨rfl, rfl⟩
    go_wp2_with fail
    go_ret
    exact ⟨rfl, HB3.out⟩
  | false =>
    have HN1 := HN false hN
    have HNF := Lib.hid hN
    have B4 := Lib.hid (belowA w3 (.cells #[.int .u64 x1] 48))
    have HS4 := Lib.hid (HS3.out.below B4.out)
    have HB4 := Lib.hid (HB3.out.trans (B4.out.mono HB3.out.size))
    have HM := fun r h => Lib.hid (laws_hasNaN r _ 1 1 [x1] _ h (one_slice w3 x1) (by omega))
    clear HN hN
    cases hX : fNaN x1.toNat with
    | true =>
      have HM1 := HM true (by simp [anyNaN, hX])
      clear HM hX
      go_wp2_with fail
      refine HN1.out.mono ?_
      rintro e w4 ⟨rfl, rfl⟩
      go_wp2_with fail
      refine HM1.out.mono ?_
      rintro e w4 ⟨rfl, rfl⟩
      go_wp2_with fail
      go_ret
      exact ⟨rfl, HB4.out⟩
    | false =>
      have HM1 := HM false (by simp [anyNaN, hX])
      obtain ⟨A1, A2, A3⟩ := HAG.out HNF.out hX
      have HK := Lib.hid (spec_Search _ len0 len0 O x1 R _ HS4.out (by omega) A1 A2 A3)
      clear HM hX A1 A2 A3
      go_wp2_with fail
      refine HN1.out.mono ?_
      rintro e w4 ⟨rfl, rfl⟩
      go_wp2_with fail
      refine HM1.out.mono ?_
      rintro e w4 ⟨rfl, rfl⟩
      go_wp2_with fail
      refine HK.out.mono ?_
      rintro e w4 ⟨rfl, rfl⟩
      go_wp2_with fail
      go_ret
      exact ⟨by simp, HB4.out⟩
#print axioms walk_FnFloat64Search
end Go.Proofs.Ytaifikhgijnkgaa
