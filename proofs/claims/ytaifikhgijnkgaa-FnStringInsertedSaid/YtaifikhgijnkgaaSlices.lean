/- What 'x[:m:m]' and 'x[m:]' give. No conditions beyond the bounds. -/
import Derived.Test.YtaifikhgijnkgaaOwn2
namespace Go.Proofs.Ytaifikhgijnkgaa
open Go.RowKit
set_option linter.unusedVariables false

theorem slice_pre {P : Program} {t e : TypeId} (ht : P.underlying t = some (.slice e)) (hsz : ∀ w : World, (sizeOf e).run P w = .ok 1 w) (b off k cl m : Nat) (h : m ≤ cl) (w : World) :
    (Instr.slice t (.slice (some ⟨b, off, none⟩) k cl) none (some (.int .i64 (m : Int))) (some (.int .i64 (m : Int)))).run P w = .ok (.slice (some ⟨b, off, none⟩) m m) w := by
  simp [Instr.slice, run_underlying ht, Instr.sliceBounds, Instr.sliceBound, asIntOf, h, hsz, addr_add]

/-- Where the rest of a slice begins. -/
def restAt (b off cl m : Nat) : Option Addr := if cl = m then some ⟨b, off, none⟩ else some ⟨b, off + m, none⟩

theorem restAt_lt {b off cl m : Nat} (h : m < cl) : restAt b off cl m = some ⟨b, off + m, none⟩ := by
  unfold restAt; rw [if_neg (by omega)]

theorem slice_rest {P : Program} {t e : TypeId} (ht : P.underlying t = some (.slice e)) (hsz : ∀ w : World, (sizeOf e).run P w = .ok 1 w) (b off k cl m : Nat) (z : Int) (hz : z = m) (h : m ≤ k) (w : World) :
    (Instr.slice t (.slice (some ⟨b, off, none⟩) k cl) (some (.int .i64 z)) none none).run P w = .ok (.slice (restAt b off cl m) (k - m) (cl - m)) w := by
  subst hz
  unfold restAt
  by_cases hc : cl = m
  · simp [Instr.slice, run_underlying ht, Instr.sliceBounds, Instr.sliceBound, asIntOf, h, hsz, hc]
  · simp [Instr.slice, run_underlying ht, Instr.sliceBounds, Instr.sliceBound, asIntOf, h, hsz, hc, addr_add]
theorem size3 (w : World) : (sizeOf 3).run Try.prog w = .ok 1 w := by kernel_rfl
theorem size9 (w : World) : (sizeOf 9).run Try.prog w = .ok 1 w := by kernel_rfl
#print axioms slice_rest
end Go.Proofs.Ytaifikhgijnkgaa
