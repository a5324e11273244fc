/- The walk of laws.FnSliceAny. No conditions. -/
import Derived.Test.YtaifikhgijnkgaaLawKit
import Derived.Test.YtaifikhgijnkgaaSliceSort
import Derived.Test.YtaifikhgijnkgaaEqualIt
namespace Go.Proofs.Ytaifikhgijnkgaa
open Go.RowKit
set_option linter.unusedVariables false


set_option maxHeartbeats 4000000 in
set_option maxRecDepth 100000 in
theorem walk_FnSliceAny (a0 : Option Addr) (len0 cap0 : Nat) (x0 : List It) (n1 : Int) (a1 : Option Addr) (len1 cap1 : Nat) (x1 : List Bool) (w : World)
    (s0 : SlK 2 encIt w a0 len0 cap0 x0) (g0 : ∀ x ∈ x0, okIt x) (b0 : cap0 * 16 ≤ 140737488351232) (g1 : (Lit.int .i64 n1).wf = true) (s1 : Sl Value.bool w a1 len1 cap1 x1) (b1 : cap1 ≤ 9223372036854775807) :
    Calls Try.prog 38 #[.slice a0 len0 cap0, .agg #[.int .i64 n1, .slice a1 len1 cap1]] w (Good w) := by
  have hcap := s0.2.1
  have HL := Lib.hid s0.1
  have B1 := Lib.hid (below1 w (.cells #[.int .i64 n1, .slice a1 len1 cap1] 33))
  have HS := Lib.hid (s0.belowS B1.out)
  have HT := Lib.hid (s1.below B1.out)
  have HP := Lib.hid (box2_new w n1 (.slice a1 len1 cap1) 33)
  clear s0 s1 g0 g1
  have HC := Lib.hid (impl_Slice a0 len0 cap0 x0 n1 a1 len1 cap1 x1 _ HS.out (by omega) HT.out)
  go_enter Try.func38, Try.ntmps38
  go_wp2_with fail
  refine HC.out.mono ?_
  rintro e w2 ⟨O, ⟨a2, c2, rfl, ho2, hs2, hb2⟩, hso⟩
  have HB2 := Lib.hid hb2
  have HS2 := Lib.hid hs2
  have HSO := Lib.hid hso
  clear ho2 hso HC
  clear hb2 hs2
  have HS1 := Lib.hid (HS.out.belowS HB2.out)
  generalize w.alloc (.cells #[.int .i64 n1, .slice a1 len1 cap1] 33) = w1 at *
  go_wp2_with fail
  refine (permuted_it a2 len0 c2 O a0 len0 cap0 x0 _ HS2.out HS1.out (by omega) HSO.out.1).mono ?_
  rintro e w3 ⟨rfl, hb3⟩
  have HB3 := Lib.hid (HB2.out.trans (hb3.mono HB2.out.size))
  clear hb3
  go_wp2_with fail
  go_ret
  exact ⟨rfl, B1.out.trans (HB3.out.mono B1.out.size)⟩
#print axioms walk_FnSliceAny
end Go.Proofs.Ytaifikhgijnkgaa
