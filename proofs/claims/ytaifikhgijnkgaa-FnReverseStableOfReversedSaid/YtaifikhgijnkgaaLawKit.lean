/- What the law texts of this seat that draw their order share: the cells of an order by value in a box. No conditions. -/
import Derived.Test.YtaifikhgijnkgaaWeak
import Derived.Test.YtaifikhgijnkgaaItems
import Derived.Deep.RegionHeld
namespace Go.Proofs.Ytaifikhgijnkgaa
open Go.RowKit
set_option linter.unusedVariables false

/-- The cells of an order by value in a box. -/
def Box2 (P : Nat) (n : Int) (t : Value) (w : World) : Prop := w.cell? ⟨P, 0, none⟩ = some (.int .i64 n) ∧ w.cell? ⟨P, 1, none⟩ = some t
theorem Box2.keep {P : Nat} {n : Int} {t : Value} {w w' : World} (h : Box2 P n t w) (hb : Below w.heap.size w w') : Box2 P n t w' :=
  ⟨(hb.cell (p := ⟨P, 0, none⟩) (block_of_cell h.1)).trans h.1, (hb.cell (p := ⟨P, 1, none⟩) (block_of_cell h.2)).trans h.2⟩
theorem box2_new (w : World) (n : Int) (t : Value) (ty : TypeId) : Box2 w.heap.size n t (w.alloc (.cells #[.int .i64 n, t] ty)) := ⟨by simp, by simp⟩

/-- The order's box, and that nothing old has turned. -/
abbrev SB2 (P : Nat) (n : Int) (t : Value) (w5 w' : World) : Prop := w'.cell? ⟨P, 0, none⟩ = some (.int .i64 n) ∧ w'.cell? ⟨P, 1, none⟩ = some t ∧ Below w5.heap.size w5 w'
theorem SB2.below {P : Nat} {n : Int} {t : Value} {w5 W : World} (h : SB2 P n t w5 W) : Below w5.heap.size w5 W := h.2.2
theorem SB2.keep {P : Nat} {n : Int} {t : Value} {w5 W W' : World} (h : SB2 P n t w5 W) (hb : Below W.heap.size W W') : SB2 P n t w5 W' :=
  ⟨(hb.cell (p := ⟨P, 0, none⟩) (block_of_cell h.1)).trans h.1, (hb.cell (p := ⟨P, 1, none⟩) (block_of_cell h.2.1)).trans h.2.1, h.2.2.trans (hb.mono h.2.2.size)⟩

theorem sbef_turn (n : Int) (bs : List Bool) : (fun x y : It => sbef n bs false y x) = sbef n bs true := by funext x y; simp [sbef]
theorem sbef_true (n : Int) (bs : List Bool) : (fun x y : It => bef n bs y.1 x.1) = sbef n bs true := by funext x y; simp [sbef]
theorem sbef_false (n : Int) (bs : List Bool) : (fun x y : It => bef n bs x.1 y.1) = sbef n bs false := by funext x y; simp [sbef]
theorem weak_turn {n : Int} {bs : List Bool} {xs : List It} (h : WeakOn (sbef n bs false) xs) : WeakOn (sbef n bs true) xs := by rw [← sbef_turn]; exact h.turn
end Go.Proofs.Ytaifikhgijnkgaa
