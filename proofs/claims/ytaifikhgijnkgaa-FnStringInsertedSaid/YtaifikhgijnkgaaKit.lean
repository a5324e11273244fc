/- Words shared by the walks of this seat: how a slice of one-cell elements lies in memory. No conditions. -/
import Derived.Test.YtaifikhgijnkgaaInside
import Derived.Deep.QuietTactic
import Derived.BigQuiet
import Derived.OwnWalk
import Derived.Deep.LoopGhost
namespace Go.Proofs.Ytaifikhgijnkgaa
open Go.RowKit
set_option linter.unusedVariables false

/-- An element of a list by its place (closed to simp). -/
def el {α : Type} [Inhabited α] (xs : List α) (i : Nat) : α := xs.getD i default

theorem el_eq {α : Type} [Inhabited α] (xs : List α) (i : Nat) (h : i < xs.length) : el xs i = xs[i] := by
  simp [el, h]

/-- The slice value (a, len, cap) reads as the list xs, an element a cell. -/
def Sl {α : Type} [Inhabited α] (enc : α → Value) (w : World) (a : Option Addr) (len cap : Nat) (xs : List α) : Prop :=
  xs.length = len ∧ len ≤ cap ∧ (a = none → cap = 0) ∧
    (len = 0 ∨ ∃ b off, a = some ⟨b, off, none⟩ ∧ b < w.heap.size ∧ ∀ i, i < len → w.cell? ⟨b, off + i, none⟩ = some (enc (el xs i)))

/-- The slice value (a, len, cap) reads as the list xs, C cells an element. -/
def SlK {α : Type} [Inhabited α] (C : Nat) (enc : α → List Value) (w : World) (a : Option Addr) (len cap : Nat) (xs : List α) : Prop :=
  xs.length = len ∧ len ≤ cap ∧ (a = none → cap = 0) ∧
    (len = 0 ∨ ∃ b off, a = some ⟨b, off, none⟩ ∧ b < w.heap.size ∧ ∀ i, i < len → ∀ j, j < C → w.cell? ⟨b, off + i * C + j, none⟩ = (enc (el xs i))[j]?)

/-- An item: its key, its tag. -/
abbrev It := Int × Int
/-- An item's two numbers fit. -/
def okIt (x : It) : Prop := (Lit.int .i64 x.1).wf = true ∧ (Lit.int .i64 x.2).wf = true
def encIt (x : It) : List Value := [.int .i64 x.1, .int .i64 x.2]

theorem block_of_cell {w : World} {b off : Nat} {v : Value} (h : w.cell? ⟨b, off, none⟩ = some v) : b < w.heap.size := by
  refine Nat.lt_of_not_le fun hle => ?_
  have : w.heap[b]? = none := Array.getElem?_eq_none hle
  simp [World.cell?, this] at h

theorem addr_add (b off n : Nat) : (⟨b, off, none⟩ : Addr).add n = ⟨b, off + n, none⟩ := by
  rcases Nat.eq_zero_or_pos n with h | h
  · subst h; rfl
  · unfold Addr.add; split
    · omega
    · rfl

theorem SlK.one {α : Type} [Inhabited α] {enc : α → Value} {w : World} {a : Option Addr} {len cap : Nat} {xs : List α} (h : SlK 1 (fun x => [enc x]) w a len cap xs) : Sl enc w a len cap xs := by
  obtain ⟨h1, h2, h3, h4⟩ := h
  refine ⟨h1, h2, h3, h4.imp id ?_⟩
  rintro ⟨b, off, ha, hb, hc⟩
  exact ⟨b, off, ha, hb, fun i hi => by simpa using hc i hi 0 (by omega)⟩

/-- What a law's walk must come to. -/
def Good (w : World) (e : Ending) (w' : World) : Prop := e = .returned (.bool true) ∧ Below w.heap.size w w'

theorem ret_b {a b : Bool} (h : b = a) : Ending.returned (.bool a) = .returned (.bool b) := by rw [h]

theorem Below.drewN {B : Nat} {a w : World} (h : Below B a w) (q : Nat) : Below B a (w.drewN q) := ⟨h.os, h.tape, h.output, h.size, h.block⟩

/-- A callee that leaves the world as it was, inside a region that draws its order. -/
theorem quiet_eq {P : Program} {f : FuncId} {args : Array Value} {w : World} {n : Nat} {v : Value}
    (h : Calls P f args (w.drewN n) fun e w' => e = .returned v ∧ w.drewN n = w') : Calls P f args (w.drewN n) fun e w'' => e = .returned v ∧ ∃ m, w'' = w.drewN m :=
  h.mono fun _ _ ⟨he, hm⟩ => ⟨he, n, hm.symm⟩

theorem intLess (b off len cap i j : Nat) (xs : List Int) (w : World) (hi : i < len) (hj : j < len) (hl : len < 4611686018427387904)
    (ci : w.cell? ⟨b, off + i, none⟩ = some (.int .i64 (el xs i))) (cj : w.cell? ⟨b, off + j, none⟩ = some (.int .i64 (el xs j))) :
    Calls Try.prog 91 #[.slice (some ⟨b, off, none⟩) len cap, .int .i64 i, .int .i64 j] w fun e w' => e = .returned (.bool (decide (el xs i < el xs j))) ∧ ∃ q, w' = w.drewN q := by
  have hi' : (i : Int) < len := by omega
  have hj' : (j : Int) < len := by omega
  go_enter Try.func91, Try.ntmps91
  go_wp2
  go_quiet (fail)
  go_wp2
  go_ret
  exact ⟨rfl, _, rfl⟩
#print axioms intLess
end Go.Proofs.Ytaifikhgijnkgaa
