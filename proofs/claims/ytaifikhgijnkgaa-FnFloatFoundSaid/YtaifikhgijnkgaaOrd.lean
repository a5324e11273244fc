/- What the ordered sort (slices, float64) asks of the row that it sorts, said abstractly. No conditions. -/
import Derived.Test.YtaifikhgijnkgaaFace
import Derived.Test.YtaifikhgijnkgaaRow
import Derived.Test.YtaifikhgijnkgaaFlos
import Derived.Test.YtaifikhgijnkgaaFloPlain
namespace Go.Proofs.Ytaifikhgijnkgaa
open Go.RowKit
open Go.Sort hiding Below
set_option linter.unusedVariables false
set_option linter.unusedSectionVars false

/-- An element of an array, closed to simp. -/
def bg (d : Array Nat) (i : Nat) : Nat := d[i]!

/-- A row of floats: its cells, and a swap by two stores. -/
structure OFace (St : Array Nat → World → Prop) (B g size : Nat) : Prop extends Base St B g size where
  cell : ∀ {dk w}, St dk w → ∀ i, i < size → w.cell? ⟨g, i, none⟩ = some (.float .f64 (bg dk i))
  fz : ∀ {dk w}, St dk w → ∀ i, w.frozen? ⟨g, i, none⟩ = false
  swap : ∀ {dk w}, St dk w → ∀ i j, i < size → j < size → St (swp dk i j) ((w.setCell ⟨g, i, none⟩ (.float .f64 (bg dk j))).setCell ⟨g, j, none⟩ (.float .f64 (bg dk i)))

theorem cmp_Less_at (r : Bool) (a b : Nat) (w : World) (h : fLt a b = r) : Calls Try.prog 154 #[.float .f64 a, .float .f64 b] w fun e w' => e = .returned (.bool r) ∧ w = w' := by subst h; exact cmp_Less a b w

section
variable {St : Array Nat → World → Prop} {B g size : Nat}

theorem OFace.swapAt (F : OFace St B g size) {w w1 : World} {dk : Array Nat} (h : Lies St g w dk w1) (i j : Nat) (hi : i < size) (hj : j < size) :
    Lies St g w (swp dk i j) (((w1.setCell ⟨g, i, none⟩ (.float .f64 (bg dk j))).setCell ⟨g, j, none⟩ (.float .f64 (bg dk i))).drew) :=
  ⟨F.keep (F.swap h.st i j hi hj) (Below.drewN (Below.refl _ _) 1), (((h.ap.row i _).row j _).drewN 1)⟩
/-- What stands after the first store of a swap. -/
theorem OFace.cell2 (F : OFace St B g size) {w w1 : World} {dk : Array Nat} (h : Lies St g w dk w1) (i j : Nat) (hj : j < size) : ∃ v, (w1.setCell ⟨g, i, none⟩ (.float .f64 (bg dk j))).cell? ⟨g, j, none⟩ = some v := cell?_setCell_some (F.cell h.st j hj)
end
#print axioms OFace.swapAt
end Go.Proofs.Ytaifikhgijnkgaa
