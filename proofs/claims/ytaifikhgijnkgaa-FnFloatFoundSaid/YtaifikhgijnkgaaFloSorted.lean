/- Contracts of slices.IsSorted[[]float64,float64], sort.Float64sAreSorted, impl.Float64sAreSorted, spec.FloatsSorted; the walk of laws.FnFloat64sAreSorted. No conditions. -/
import Derived.Test.YtaifikhgijnkgaaFloLess
import Derived.Test.YtaifikhgijnkgaaFloPlain
import Derived.Test.YtaifikhgijnkgaaSorted
namespace Go.Proofs.Ytaifikhgijnkgaa
open Go.RowKit
set_option linter.unusedVariables false

set_option maxHeartbeats 2000000 in
theorem slices_IsSorted (g off len cap : Nat) (ys : List Nat) (w : World) (hs : Sl (Value.float .f64) w (some ⟨g, off, none⟩) len cap ys) (hl : len < 4611686018427387904) :
    Calls Try.prog 126 #[.slice (some ⟨g, off, none⟩) len cap] w fun e w' => e = .returned (.bool (adjB fLt ys)) ∧ ∃ q, w' = w.drewN q := by
  have HL := Lib.hid hs.1
  have HC : Hid (∀ i, i < len → w.cell? ⟨g, off + i, none⟩ = some (.float .f64 (el ys i))) := by
    rcases hs.2.2.2 with h | ⟨b, o, ha, _, hc⟩
    · intro i hi; omega
    · cases ha; exact hc
  clear hs
  go_enter Try.func126, Try.ntmps126
  go_wp2
  go_loopg [3] len (fun n s wr => ∃ (i : Int) (q : Nat), s = .int .i64 i ∧ i < len ∧ -1 ≤ i ∧ i < n ∧ (n : Int) ≤ i + 1 + (if i < 0 then 1 else 0) ∧ wr = w.drewN q ∧ ∀ t : Nat, i < t → t < len → 0 < t → fLt (el ys t) (el ys (t - 1)) = false)
  case atStart => exact ⟨(len : Int) - 1, 0, rfl, by omega, by omega, by omega, by split <;> omega, rfl, fun t h1 h2 h3 => by omega⟩
  case round =>
    obtain ⟨i, q, rfl, h1, h2, h3, h3', rfl, hI⟩ := hrel
    have HI := Lib.hid hI
    clear hI h3'
    by_cases hpos : 0 < i
    · obtain ⟨k, rfl⟩ := Int.eq_ofNat_of_zero_le (show 0 ≤ i by omega)
      have hk : k < len := by omega
      have ck : (w.drewN q).cell? ⟨g, off + k, none⟩ = some (.float .f64 (el ys k)) := HC.out k hk
      have ck1 : (w.drewN q).cell? ⟨g, off + (k - 1), none⟩ = some (.float .f64 (el ys (k - 1))) := HC.out (k - 1) (by omega)
      have hkm : ((k : Int) - 1).toNat = k - 1 := by omega
      have hwr : IntKind.i64.wrap ((k : Int) - 1) = (k : Int) - 1 := IntWalk.i64_in _ (by omega)
      have h0k : (0 : Int) ≤ (k : Int) - 1 := by omega
      have h1k : (1 : Int) ≤ (k : Int) := by omega
      have hlk : (k : Int) - 1 < len := by omega
      generalize hq : w.drewN q = wq at ck ck1 ⊢
      have HQ := Lib.hid hq
      clear hq
      have hcall : ∀ n, Calls Try.prog 154 #[.float .f64 (el ys k), .float .f64 (el ys (k - 1))] (wq.drewN n) fun e w' => e = .returned (.bool (fLt (el ys k) (el ys (k - 1)))) ∧ wq.drewN n = w' := fun n => cmp_Less _ _ _
      cases hv : fLt (el ys k) (el ys (k - 1))
      · rw [hv] at hcall
        have HCL := Lib.hid hcall
        have HV := Lib.hid hv
        clear hcall hv
        go_wp2_with fail
        go_quiet ((go_at_call 154; exact quiet_eq (HCL.out _)))
        go_wp2
        go_roundg k
        case measure => omega
        case rel =>
          refine ⟨(k : Int) - 1, _, rfl, by omega, by omega, by omega, by split <;> omega, by rw [← HQ.out]; exact World.drewN_drewN _ _ _, fun t ht1 ht2 ht3 => ?_⟩
          by_cases htk : t = k
          · subst htk; exact HV.out
          · exact HI.out t (by omega) ht2 ht3
      · rw [hv] at hcall
        have HCL := Lib.hid hcall
        have HF := Lib.hid (show adjB fLt ys = false by
          cases h : adjB fLt ys
          · rfl
          · rw [(adjB_iff fLt ys).1 h k (by omega) (by rw [HL.out]; exact hk)] at hv; cases hv)
        clear hcall hv
        go_wp2_with fail
        go_quiet ((go_at_call 154; exact quiet_eq (HCL.out _)))
        go_wp2
        go_ret
        exact ⟨ret_b (by rw [HF.out]), _, by rw [← HQ.out]; exact World.drewN_drewN _ _ _⟩
    · have HF := Lib.hid (show adjB fLt ys = true from (adjB_iff fLt ys).2 fun t h0 ht => HI.out t (by omega) (by rw [HL.out] at ht; exact ht) h0)
      go_wp2
      go_ret
      exact ⟨ret_b (by rw [HF.out]), _, rfl⟩

set_option maxHeartbeats 1000000 in
theorem impl_Float64sAreSorted (a : Option Addr) (len cap : Nat) (xs : List Int) (w : World) (hs : Sl (Value.int .u64) w a len cap xs) (hb : len * 8 ≤ 140737488351232) :
    Calls Try.prog 56 #[.slice a len cap] w fun e w' => e = .returned (.bool (adjB fLt (xs.map Int.toNat))) ∧ Below w.heap.size w w' := by
  have HL := Lib.hid hs.1
  have HF := Lib.hid (impl_floats a len cap xs w hs hb)
  clear hs
  go_enter Try.func56, Try.ntmps56
  go_wp2_with fail
  refine HF.out.mono ?_
  rintro e w1 ⟨g, rfl, hg, ho, hb1⟩
  have hl : (xs.map Int.toNat).length = len := by rw [List.length_map]; exact HL.out
  have hsl : Sl (Value.float .f64) w1 (some ⟨g, 0, none⟩) len len (xs.map Int.toNat) := by
    obtain ⟨aa, cc, hv, h, _, _⟩ := ho.sl
    rw [hl] at hv h
    cases hv
    exact h
  have HC := Lib.hid (slices_IsSorted g 0 len len _ w1 hsl (by omega))
  have HB := Lib.hid hb1
  clear ho hb1 hl hsl
  have h2 : Calls Try.prog 105 #[.slice (some ⟨g, 0, none⟩) len len] w1 fun e w' => e = .returned (.bool (adjB fLt (xs.map Int.toNat))) ∧ ∃ q, w' = w1.drewN q := by
    go_enter Try.func105, Try.ntmps105
    go_wp2_with fail
    refine HC.out.mono ?_
    rintro e w2 ⟨rfl, q, rfl⟩
    go_wp2_with fail
    go_ret
    exact ⟨rfl, _, rfl⟩
  have H2 := Lib.hid h2
  clear h2
  go_wp2_with fail
  refine H2.out.mono ?_
  rintro e w2 ⟨rfl, q, rfl⟩
  go_wp2_with fail
  go_ret
  exact ⟨rfl, Below.drewN HB.out q⟩

set_option maxHeartbeats 2000000 in
theorem spec_FloatsSorted (a : Option Addr) (len cap : Nat) (xs : List Int) (w : World) (hs : Sl (Value.int .u64) w a len cap xs) (hl : len < 4611686018427387904) :
    Calls Try.prog 75 #[.slice a len cap] w fun e w' => e = .returned (.bool (pairB fLt (xs.map Int.toNat))) ∧ ∃ q, w' = w.drewN q := by
  have HL := Lib.hid hs.1
  have HLM := Lib.hid (show (xs.map Int.toNat).length = len by rw [List.length_map]; exact hs.1)
  have hcl := hs.2.1
  by_cases h0 : len = 0
  · subst h0
    have HF := Lib.hid (show pairB fLt (xs.map Int.toNat) = true from (pairB_iff _ _).2 fun i k hk hi => by rw [HLM.out] at hi; omega)
    clear hs hcl
    go_enter Try.func75, Try.ntmps75
    go_wp2
    go_loopw [7] (fun s wr => s = .int .i64 0 ∧ wr = w) (fun _ _ => 0)
    case atStart => exact ⟨rfl, rfl⟩
    case round =>
      obtain ⟨rfl, rfl⟩ := hrel
      go_wp2
      go_ret
      exact ⟨ret_b (by rw [HF.out]), 0, rfl⟩
  · obtain ⟨b, off, rfl, hbs, hc⟩ : ∃ b off, a = some ⟨b, off, none⟩ ∧ b < w.heap.size ∧ ∀ i, i < len → w.cell? ⟨b, off + i, none⟩ = some (.int .u64 (el xs i)) := by
      rcases hs.2.2.2 with h | h
      · omega
      · exact h
    have HC := Lib.hid hc
    clear hs hc
    go_enter Try.func75, Try.ntmps75
    go_wp2
    go_loopg [7] len (fun n s wr => ∃ i q : Nat, s = .int .i64 i ∧ i ≤ len ∧ n = len - i ∧ wr = w.drewN q ∧ ∀ t k, k < t → t < i → fLt (el xs t).toNat (el xs k).toNat = false)
    case atStart => exact ⟨0, 0, rfl, by omega, by omega, rfl, fun t k h1 h2 => by omega⟩
    case round =>
      obtain ⟨i, q, rfl, hi, hn, rfl, hI⟩ := hrel
      have HI := Lib.hid hI
      have HN := Lib.hid hn
      clear hI hn
      by_cases hlt : i < len
      · have hlt' : (i : Int) < len := by omega
        have hic : (i : Int) ≤ cap := by omega
        have ci : (w.drewN q).cell? ⟨b, off + i, none⟩ = some (.int .u64 (el xs i)) := HC.out i hlt
        obtain ⟨gn, rfl⟩ : ∃ gn : Nat, gn = gk := ⟨_, rfl⟩
        go_wp2
        clear ci
        go_loopg [14] i (fun n s wr2 => ∃ k q2 : Nat, s = .int .i64 k ∧ k ≤ i ∧ n = i - k ∧ wr2 = w.drewN q2 ∧ ∀ t, t < k → fLt (el xs i).toNat (el xs t).toNat = false)
        case atStart => exact ⟨0, q, rfl, by omega, by omega, rfl, fun t ht => by omega⟩
        case round =>
          obtain ⟨k, q2, rfl, hk, hn2, rfl, hK⟩ := hrel
          have HK := Lib.hid hK
          have HN2 := Lib.hid hn2
          clear hK hn2
          by_cases hki : k < i
          · have hki' : (k : Int) < i := by omega
            have hkl : (k : Int) < len := by omega
            have ci : (w.drewN q2).cell? ⟨b, off + i, none⟩ = some (.int .u64 (el xs i)) := HC.out i hlt
            have ck : (w.drewN q2).cell? ⟨b, off + k, none⟩ = some (.int .u64 (el xs k)) := HC.out k (by omega)
            generalize hq : w.drewN q2 = wq at ci ck ⊢
            have HQ := Lib.hid hq
            clear hq
            have hcall : ∀ n, Calls Try.prog 55 #[.int .u64 (el xs i), .int .u64 (el xs k)] (wq.drewN n) fun e w' => e = .returned (.bool (fLt (el xs i).toNat (el xs k).toNat)) ∧ wq.drewN n = w' := fun n => spec_FloatBefore _ _ _
            cases hv : fLt (el xs i).toNat (el xs k).toNat
            · rw [hv] at hcall
              have HCL := Lib.hid hcall
              have HV := Lib.hid hv
              clear hcall hv
              go_wp2_with fail
              go_quiet ((go_at_call 55; exact quiet_eq (HCL.out _)))
              go_wp2
              go_roundg (i - (k + 1))
              case measure => have := HN2.out; omega
              case rel =>
                refine ⟨k + 1, _, by go_num, by omega, rfl, by rw [← HQ.out]; exact World.drewN_drewN _ _ _, fun t ht => ?_⟩
                by_cases htk : t = k
                · subst htk; exact HV.out
                · exact HK.out t (by omega)
            · rw [hv] at hcall
              have HCL := Lib.hid hcall
              have HF := Lib.hid (show pairB fLt (xs.map Int.toNat) = false by
                cases h : pairB fLt (xs.map Int.toNat)
                · rfl
                · have := (pairB_iff fLt _).1 h i k hki (by rw [HLM.out]; exact hlt)
                  rw [el_map _ _ _ (by rw [HL.out]; omega), el_map _ _ _ (by rw [HL.out]; omega), hv] at this
                  cases this)
              clear hcall hv
              go_wp2_with fail
              go_quiet ((go_at_call 55; exact quiet_eq (HCL.out _)))
              go_wp2
              go_ret
              exact ⟨ret_b (by rw [HF.out]), _, by rw [← HQ.out]; exact World.drewN_drewN _ _ _⟩
          · obtain rfl : k = i := by omega
            go_wp2
            go_roundg (len - (k + 1))
            case measure => have := HN.out; omega
            case rel =>
              refine ⟨k + 1, q2, by go_num, by omega, rfl, rfl, fun t m h1 h2 => ?_⟩
              by_cases htk : t = k
              · subst htk; exact HK.out m h1
              · exact HI.out t m h1 (by omega)
      · obtain rfl : i = len := by omega
        have HF := Lib.hid (show pairB fLt (xs.map Int.toNat) = true from (pairB_iff _ _).2 fun t k hk ht => by
          rw [HLM.out] at ht
          rw [el_map _ _ _ (by rw [HL.out]; omega), el_map _ _ _ (by rw [HL.out]; omega)]
          exact HI.out t k hk ht)
        go_wp2
        go_ret
        exact ⟨ret_b (by rw [HF.out]), _, rfl⟩

set_option maxHeartbeats 1000000 in
theorem walk_FnFloat64sAreSorted (a0 : Option Addr) (len0 cap0 : Nat) (x0 : List Int) (w : World)
    (s0 : Sl (Value.int .u64) w a0 len0 cap0 x0) (g0 : ∀ x ∈ x0, (Lit.int .u64 x).wf = true) (b0 : cap0 * 8 ≤ 140737488351232) :
    Calls Try.prog 19 #[.slice a0 len0 cap0] w (Good w) := by
  have hcap := s0.2.1
  have H1 := Lib.hid (impl_Float64sAreSorted a0 len0 cap0 x0 w s0 (by omega))
  have HS := Lib.hid s0
  have HE := Lib.hid (adj_pair fLt fLt_swo (x0.map Int.toNat))
  clear s0 g0
  go_enter Try.func19, Try.ntmps19
  go_wp2_with fail
  refine H1.out.mono ?_
  rintro e w1 ⟨rfl, hb1⟩
  have H2 := Lib.hid (spec_FloatsSorted a0 len0 cap0 x0 w1 (HS.out.below hb1) (by omega))
  rw [HE.out]
  have HB := Lib.hid hb1
  clear hb1
  go_wp2_with fail
  refine H2.out.mono ?_
  rintro e w2 ⟨rfl, q, rfl⟩
  go_wp2_with fail
  go_ret
  exact ⟨by simp, Below.drewN HB.out q⟩
#print axioms slices_IsSorted
#print axioms walk_FnFloat64sAreSorted
end Go.Proofs.Ytaifikhgijnkgaa
