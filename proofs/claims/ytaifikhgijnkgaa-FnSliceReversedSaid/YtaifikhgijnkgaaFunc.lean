/- What a sort by a function asks of the row that it sorts: a function value that compares, one that the model stands in for that swaps. No conditions. -/
import Derived.Test.YtaifikhgijnkgaaFace
import Derived.Test.YtaifikhgijnkgaaRevLess
namespace Go.Proofs.Ytaifikhgijnkgaa
open Go.RowKit
open Go.Sort hiding Below
set_option linter.unusedVariables false
set_option linter.unusedSectionVars false
section
variable {α : Type} [Inhabited α]

/-- The value lessSwap: 'less' bound to lb, 'swap' bound to sb. -/
abbrev lsV (gl : Nat) (lb : Array Value) (sf : Nat) (sb : Array Value) : Value := .agg #[.func (.func gl) #[] lb, .func (.func sf) #[] sb]

/-- The functions that sort the row. -/
structure FFace (lt : α → α → Bool) (St : Array α → World → Prop) (B g size : Nat) (gl : Nat) (lb : Array Value) (sf : Nat) (sb : Array Value) : Prop extends Base St B g size where
  enterL : ∀ args w, (callFunc gl args).run Try.prog w = .ok (.enter gl args) w
  less : ∀ {dk w} (i j : Nat), St dk w → i < size → j < size → Calls Try.prog gl (#[.int .i64 i, .int .i64 j] ++ lb) w fun e w' => e = .returned (.bool (lt dk[i]! dk[j]!)) ∧ Below w.heap.size w w'
  swap : ∀ {dk w} (i j : Nat), St dk w → i < size → j < size → ∃ w', (callFunc sf (#[.int .i64 i, .int .i64 j] ++ sb)).run Try.prog w = .ok (.value (.tuple #[])) w' ∧ St (swp dk i j) w' ∧ Apart g w w'

variable {lt : α → α → Bool} {St : Array α → World → Prop} {B g size : Nat} {gl : Nat} {lb : Array Value} {sf : Nat} {sb : Array Value}

theorem FFace.lessAt (F : FFace lt St B g size gl lb sf sb) {w w1 : World} {dk : Array α} (h : Lies St g w dk w1) (i j : Nat) (hi : i < size) (hj : j < size) {x y : Int} (hx : x = i) (hy : y = j) {v : Bool} (hv : lt dk[i]! dk[j]! = v) :
    Calls Try.prog gl (#[.int .i64 x, .int .i64 y] ++ lb) w1 fun e w' => e = .returned (.bool v) ∧ Lies St g w dk w' := by
  subst hx hy hv
  exact (F.less i j h.st hi hj).mono fun _ _ ⟨he, hb⟩ => ⟨he, h.quiet F.toBase hb⟩

theorem FFace.swapAt (F : FFace lt St B g size gl lb sf sb) {w w1 : World} {dk : Array α} (h : Lies St g w dk w1) (i j : Nat) (hi : i < size) (hj : j < size) (x y : Int) (hx : x = i) (hy : y = j) :
    ∃ w', (callFunc sf (#[.int .i64 x, .int .i64 y] ++ sb)).run Try.prog w1 = .ok (.value (.tuple #[])) w' ∧ Lies St g w (swp dk i j) w' := by
  subst hx hy
  obtain ⟨w', h1, h2, h3⟩ := F.swap i j h.st hi hj
  exact ⟨w', h1, h2, h.ap.trans h3⟩

/-- A function of the family begins by laying its argument into a box. -/
theorem FFace.pre (F : FFace lt St B g size gl lb sf sb) {d : Array α} {w0 w : World} (hS : St d w0) (hw : w0.alloc (.cells #[.func (.func gl) #[] lb, .func (.func sf) #[] sb] 114) = w) :
    Lies St g w d w ∧ (∀ d' w', Lies St g w d' w' → Lies St g w0 d' w') ∧ (∀ dk wr, Lies St g w dk wr → wr.cell? ⟨w0.heap.size, 0, none⟩ = some (.func (.func gl) #[] lb) ∧ wr.cell? ⟨w0.heap.size, 1, none⟩ = some (.func (.func sf) #[] sb)) ∧ B ≤ w0.heap.size ∧ w0.heap.size < w.heap.size := by
  have hB := F.base hS
  have hgB := F.gB
  have h0 : Lies St g w0 d w := by rw [← hw]; exact (Lies.start hS).alloc F.toBase _
  refine ⟨Lies.start h0.st, fun d' w' h => h0.trans h, fun dk wr h => ?_, hB, by rw [← hw]; simp⟩
  have hz : w0.heap.size < w.heap.size := by rw [← hw]; simp
  refine ⟨(h.ap.cell (p := ⟨w0.heap.size, 0, none⟩) hz (by show w0.heap.size ≠ g; omega)).trans ?_, (h.ap.cell (p := ⟨w0.heap.size, 1, none⟩) hz (by show w0.heap.size ≠ g; omega)).trans ?_⟩
  · rw [← hw]; simp
  · rw [← hw]; simp
end
end Go.Proofs.Ytaifikhgijnkgaa
