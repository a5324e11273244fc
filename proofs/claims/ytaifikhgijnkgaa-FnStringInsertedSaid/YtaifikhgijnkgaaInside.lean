/- Contracts of impl.inside and laws.inside: both places lie inside. No conditions. -/
import Derived.Test.YtaifikhgijnkgaaRows
import Derived.WalkKit
import Derived.Lib.Hide
import Derived.Below
import Derived.Outline
import Derived.Deep.QuietTactic
import Derived.BigQuiet
import Derived.WalkLawsBesides
namespace Go.Proofs.Ytaifikhgijnkgaa
open Go.RowKit

/-- Both places lie among n. -/
def insB (n i j : Int) : Bool := decide (0 ≤ i ∧ i < n ∧ 0 ≤ j ∧ j < n)

theorem insB_true {n i j : Int} (h : insB n i j = true) : 0 ≤ i ∧ i < n ∧ 0 ≤ j ∧ j < n := by simpa [insB] using h
theorem insB_false {n i j : Int} (h : insB n i j = false) : ¬ (0 ≤ i ∧ i < n ∧ 0 ≤ j ∧ j < n) := by simpa [insB] using h

theorem inside_impl (n i j : Int) (w : World) :
    Calls Try.prog 90 #[.int .i64 n, .int .i64 i, .int .i64 j] w fun e w' => e = .returned (.bool (insB n i j)) ∧ w = w' := by
  by_cases h1 : 0 ≤ i <;> by_cases h2 : i < n <;> by_cases h3 : 0 ≤ j <;> by_cases h4 : j < n
  all_goals
    go_enter Try.func90, Try.ntmps90
    go_wp2
    go_ret
    exact ⟨by simp [insB]; omega, rfl⟩
theorem inside_laws (n i j : Int) (w : World) :
    Calls Try.prog 41 #[.int .i64 n, .int .i64 i, .int .i64 j] w fun e w' => e = .returned (.bool (insB n i j)) ∧ w = w' := by
  by_cases h1 : 0 ≤ i <;> by_cases h2 : i < n <;> by_cases h3 : 0 ≤ j <;> by_cases h4 : j < n
  all_goals
    go_enter Try.func41, Try.ntmps41
    go_wp2
    go_ret
    exact ⟨by simp [insB]; omega, rfl⟩
theorem inside_impl_at (r : Bool) (n i j : Int) (w : World) (h : insB n i j = r) :
    Calls Try.prog 90 #[.int .i64 n, .int .i64 i, .int .i64 j] w fun e w' => e = .returned (.bool r) ∧ w = w' := by
  subst h; exact inside_impl n i j w
theorem inside_laws_at (r : Bool) (n i j : Int) (w : World) (h : insB n i j = r) :
    Calls Try.prog 41 #[.int .i64 n, .int .i64 i, .int .i64 j] w fun e w' => e = .returned (.bool r) ∧ w = w' := by
  subst h; exact inside_laws n i j w
#print axioms inside_impl
#print axioms inside_laws
end Go.Proofs.Ytaifikhgijnkgaa
