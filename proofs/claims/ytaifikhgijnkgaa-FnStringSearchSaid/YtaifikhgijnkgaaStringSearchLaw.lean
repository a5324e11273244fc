/- The walk of laws.FnStringSearch. No conditions. -/
import Derived.Test.YtaifikhgijnkgaaSelS
import Derived.Test.YtaifikhgijnkgaaSearchS
import Derived.Test.YtaifikhgijnkgaaIntSearchLaw
namespace Go.Proofs.Ytaifikhgijnkgaa
open Go.RowKit
set_option linter.unusedVariables false

set_option maxHeartbeats 1000000 in
theorem walk_FnStringSearch (a0 : Option Addr) (len0 cap0 : Nat) (x0 : List ByteArray) (x1 : ByteArray) (w : World)
    (s0 : Sl Value.string w a0 len0 cap0 x0) (g0 : ∀ x ∈ x0, x.size ≤ maxLen) (b0 : cap0 * 16 ≤ 140737488351232) (g1 : x1.size ≤ maxLen) (b1 : x1.size ≤ 140737488351232) :
    Calls Try.prog 17 #[.slice a0 len0 cap0, .string x1] w (Good w) := by
  have hcap := s0.2.1
  have HC := Lib.hid (spec_StringSort a0 len0 cap0 x0 w s0 (by omega) g0)
  have HG := Lib.hid g0
  have HG1 := Lib.hid g1
  clear s0 g0 g1
  go_enter Try.func17, Try.ntmps17
  go_wp2_with fail
  refine HC.out.mono ?_
  rintro e w1 ⟨a1, c1, O, rfl, hs1, ho1, hp, hpw, hb1⟩
  obtain ⟨h1, h2, h3⟩ := bsearch_least sLe (fun y => !sLt y x1) O hpw (fun a b hab hb => by
    simp at hb ⊢
    cases h : sLt a x1
    · cases h' : sLt b a
      · -- b < x1, not b < a, not a < x1
        have e1 : sLt b x1 = true := hb
        cases h2 : sLt a b
        · have := sLt_total h2 h'; subst this; rw [e1] at h; cases h
        · rw [sLt_trans h2 e1] at h; cases h
      · unfold sLe at hab; rw [hab] at h'; cases h'
    · rfl) len0 hs1.1
  have hz : ∀ k, k < len0 → (el O k).size ≤ maxLen := fun k hk => by
    have hm : el O k ∈ O := by rw [el_eq O k (by rw [hs1.1]; exact hk)]; exact List.getElem_mem _
    exact HG.out _ (hp.mem_iff.1 hm)
  have HZ := Lib.hid hz
  have HS := Lib.hid (impl_StringSearch a1 len0 c1 O x1 w1 hs1 (by omega))
  have HS1 := Lib.hid hs1
  have H2 := Lib.hid h2
  have H3 := Lib.hid h3
  have HB := Lib.hid hb1
  clear hs1 ho1 hp hpw hb1 h2 h3 hz
  generalize bsearch (fun k => !sLt (el O k) x1) len0 0 len0 = r at *
  go_wp2_with fail
  refine HS.out.mono ?_
  rintro e w2 ⟨rfl, hb2⟩
  have HS2 := Lib.hid (spec_StringSearch a1 len0 c1 O x1 r w2 (HS1.out.below hb2) (by omega) HZ.out HG1.out h1 (fun k hk => by have := H2.out k hk; simpa using this) (fun hr => by have := H3.out hr; simpa using this))
  have HB2 := Lib.hid (HB.out.trans (hb2.mono HB.out.size))
  clear hb2
  go_wp2_with fail
  refine HS2.out.mono ?_
  rintro e w3 ⟨rfl, q, rfl⟩
  go_wp2_with fail
  go_ret
  exact ⟨by simp, Below.drewN HB2.out q⟩
#print axioms walk_FnStringSearch
end Go.Proofs.Ytaifikhgijnkgaa
