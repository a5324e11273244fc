/- The walk of laws.FnFloatSortedByLess. No conditions. -/
import Derived.Test.YtaifikhgijnkgaaFloSorted
namespace Go.Proofs.Ytaifikhgijnkgaa
open Go.RowKit
set_option linter.unusedVariables false

set_option maxHeartbeats 2000000 in
theorem walk_FnFloatSortedByLess (a0 : Option Addr) (len0 cap0 : Nat) (x0 : List Int) (w : World)
    (s0 : Sl (Value.int .u64) w a0 len0 cap0 x0) (g0 : ∀ x ∈ x0, (Lit.int .u64 x).wf = true) (b0 : cap0 * 8 ≤ 140737488351232) :
    Calls Try.prog 20 #[.slice a0 len0 cap0] w (Good w) := by
  have hcap := s0.2.1
  have HS := Lib.hid s0
  have HL := Lib.hid s0.1
  have HLM := Lib.hid (show (x0.map Int.toNat).length = len0 by rw [List.length_map]; exact s0.1)
  clear s0 g0
  go_enter Try.func20, Try.ntmps20
  go_wp2
  go_loopg [3, 4] (len0 + 1) (fun n s3 s4 wr => ∃ (r : Bool) (k : Nat), s3 = .bool r ∧ s4 = .int .i64 k ∧ 1 ≤ k ∧ k ≤ len0 + 1 ∧ n = len0 + 1 - k + 1 ∧ Below w.heap.size w wr ∧ (r = true ↔ ∀ t, 0 < t → t < k → t < len0 → fLt (el x0 t).toNat (el x0 (t - 1)).toNat = false))
  case atStart => exact ⟨true, 1, rfl, rfl, by omega, by omega, by omega, Below.refl _ _, by simp; intro t h1 h2; omega⟩
  case round =>
    obtain ⟨r, k, rfl, rfl, h1, h2, hn, hb, hI⟩ := hrel
    have HI := Lib.hid hI
    have HB := Lib.hid hb
    have HN := Lib.hid hn
    clear hI hb hn
    by_cases hlt : k < len0
    · have hlt' : (k : Int) < len0 := by omega
      cases r
      · go_wp2
        go_roundg (len0 + 1 - (k + 1) + 1)
        case measure => have := HN.out; omega
        case rel =>
          refine ⟨false, k + 1, rfl, by go_num, by omega, by omega, rfl, HB.out, ?_⟩
          refine ⟨fun h => (by cases h), fun h => ?_⟩
          exact HI.out.2 fun t h1 h2 h3 => h t h1 (by omega) h3
      · have hcall := impl_Float64Less_yes a0 len0 cap0 x0 k (k - 1) wr (HS.out.below HB.out) (by omega) hlt (by omega)
        rw [show ((k - 1 : Nat) : Int) = (k : Int) - 1 by omega] at hcall
        cases hv : fLt (el x0 k).toNat (el x0 (k - 1)).toNat
        · rw [hv] at hcall
          have HC := Lib.hid hcall
          have HV := Lib.hid hv
          clear hcall hv
          go_wp2_with fail
          refine HC.out.mono ?_
          rintro e w1 ⟨rfl, hb1⟩
          have HB1 := Lib.hid (HB.out.trans (hb1.mono HB.out.size))
          clear hb1
          go_wp2_with fail
          go_roundg (len0 + 1 - (k + 1) + 1)
          case measure => have := HN.out; omega
          case rel =>
            refine ⟨true, k + 1, rfl, by go_num, by omega, by omega, rfl, HB1.out, ⟨fun _ t h1 h2 h3 => ?_, fun _ => rfl⟩⟩
            by_cases htk : t = k
            · subst htk; exact HV.out
            · exact HI.out.1 (by first | rfl | trivial) t h1 (by omega) h3
        · rw [hv] at hcall
          have HC := Lib.hid hcall
          have HV := Lib.hid hv
          clear hcall hv
          go_wp2_with fail
          refine HC.out.mono ?_
          rintro e w1 ⟨rfl, hb1⟩
          have HB1 := Lib.hid (HB.out.trans (hb1.mono HB.out.size))
          clear hb1
          go_wp2_with fail
          go_roundg (len0 + 1 - (k + 1) + 1)
          case measure => have := HN.out; omega
          case rel =>
            refine ⟨false, k + 1, rfl, by go_num, by omega, by omega, rfl, HB1.out, ⟨fun h => (by cases h), fun h => ?_⟩⟩
            have := h k (by omega) (by omega) hlt
            rw [HV.out] at this
            cases this
    · have HE := Lib.hid (show adjB fLt (x0.map Int.toNat) = r by
        rw [Bool.eq_iff_iff, adjB_iff, HI.out]
        constructor
        · intro h t h1 h2 h3
          have := h t h1 (by rw [HLM.out]; exact h3)
          rw [el_map _ _ _ (by rw [HL.out]; exact h3), el_map _ _ _ (by rw [HL.out]; omega)] at this
          exact this
        · intro h t h1 h2
          rw [HLM.out] at h2
          rw [el_map _ _ _ (by rw [HL.out]; exact h2), el_map _ _ _ (by rw [HL.out]; omega)]
          exact h t h1 (by omega) h2)
      have hcall := impl_Float64sAreSorted a0 len0 cap0 x0 wr (HS.out.below HB.out) (by omega)
      rw [HE.out] at hcall
      have HC := Lib.hid hcall
      clear hcall
      go_wp2_with fail
      refine HC.out.mono ?_
      rintro e w1 ⟨rfl, hb1⟩
      have HB1 := Lib.hid (HB.out.trans (hb1.mono HB.out.size))
      clear hb1
      go_wp2_with fail
      go_ret
      exact ⟨by simp, HB1.out⟩
#print axioms walk_FnFloatSortedByLess
end Go.Proofs.Ytaifikhgijnkgaa
