/- What a sort asks of the row that it sorts, said abstractly: a state of the world for each content of the row; how the methods Less and Swap are found, what they do. No conditions. -/
import Derived.Test.YtaifikhgijnkgaaKit
import Derived.Sort.AssemblyPlain
import Derived.Sort.Walk13
import Derived.Sort.WalkA6
import Derived.Sort.WalkC4
import Derived.Sort.Walk7
import Derived.Sort.Walk11
import Derived.Deep.Cut
namespace Go.Proofs.Ytaifikhgijnkgaa
open Go.RowKit
set_option linter.unusedVariables false
set_option linter.unusedSectionVars false

/-- Of what lay in w nothing but block g has turned in w'. -/
structure Apart (g : Nat) (w w' : World) : Prop where
  os : w'.os = w.os
  tape : w'.tape = w.tape
  output : w'.output = w.output
  size : w.heap.size ≤ w'.heap.size
  block : ∀ k, k < w.heap.size → k ≠ g → w'.heap[k]? = w.heap[k]?

theorem Apart.refl (g : Nat) (w : World) : Apart g w w := ⟨rfl, rfl, rfl, Nat.le_refl _, fun _ _ _ => rfl⟩
theorem Apart.trans {g : Nat} {a b c : World} (h : Apart g a b) (k : Apart g b c) : Apart g a c :=
  ⟨k.os.trans h.os, k.tape.trans h.tape, k.output.trans h.output, Nat.le_trans h.size k.size, fun i hi hg => (k.block i (Nat.lt_of_lt_of_le hi h.size) hg).trans (h.block i hi hg)⟩
theorem Apart.of_below {g B : Nat} {w w' : World} (h : Below B w w') (hB : w.heap.size ≤ B) : Apart g w w' := ⟨h.os, h.tape, h.output, h.size, fun k hk _ => h.block k (Nat.lt_of_lt_of_le hk hB)⟩
theorem Apart.cell {g : Nat} {w w' : World} (h : Apart g w w') {p : Addr} (hp : p.block < w.heap.size) (hg : p.block ≠ g) : w'.cell? p = w.cell? p := World.cell?_of_block (w := w) (h.block p.block hp hg)
theorem Apart.frozen {g : Nat} {w w' : World} (h : Apart g w w') {p : Addr} (hp : p.block < w.heap.size) (hg : p.block ≠ g) : w'.frozen? p = w.frozen? p := World.frozen?_of_block (w := w) (h.block p.block hp hg)
/-- Where the row is one of the call's own, nothing old has turned. -/
theorem Apart.below {g B : Nat} {w w' : World} (h : Apart g w w') (hB : B ≤ w.heap.size) (hg : B ≤ g) : Below B w w' := ⟨h.os, h.tape, h.output, h.size, fun k hk => h.block k (by omega) (by omega)⟩
/-- A store into a block that did not lie in w. -/
theorem Apart.own {g : Nat} {w w1 : World} (h : Apart g w w1) {p : Addr} (hp : w.heap.size ≤ p.block) (u : Value) : Apart g w (w1.setCell p u) :=
  ⟨h.os, h.tape, h.output, by simpa [World.setCell] using h.size, fun k hk hg => (Below.heap_setCell _ _ _ _ (by omega)).trans (h.block k hk hg)⟩

section
variable {α : Type} [Inhabited α]

/-- From w on to w': the row holds dk; nothing else of what lay in w has turned. -/
structure Lies (St : Array α → World → Prop) (g : Nat) (w : World) (dk : Array α) (w' : World) : Prop where
  st : St dk w'
  ap : Apart g w w'

theorem Lies.start {St : Array α → World → Prop} {g : Nat} {w : World} {d : Array α} (h : St d w) : Lies St g w d w := ⟨h, Apart.refl _ _⟩
theorem Lies.trans {St : Array α → World → Prop} {g : Nat} {w w1 w2 : World} {d d' : Array α} (h : Lies St g w d w1) (k : Lies St g w1 d' w2) : Lies St g w d' w2 := ⟨k.st, h.ap.trans k.ap⟩

/-- What does not hang on how Less and Swap are called. -/
structure Base (St : Array α → World → Prop) (B g size : Nat) : Prop where
  len : ∀ {dk w}, St dk w → dk.size = size
  keep : ∀ {dk w w'}, St dk w → Below B w w' → St dk w'
  base : ∀ {dk w}, St dk w → B ≤ w.heap.size
  gB : g < B

theorem Lies.alloc {St : Array α → World → Prop} {B g size : Nat} {w w1 : World} {d : Array α} (F : Base St B g size) (h : Lies St g w d w1) (o : Obj) : Lies St g w d (w1.alloc o) :=
  ⟨F.keep h.st ((Below.refl _ _).alloc (F.base h.st) _), h.ap.trans (Apart.of_below ((Below.refl _ _).alloc (Nat.le_refl _) _) (Nat.le_refl _))⟩
theorem Lies.drewN {St : Array α → World → Prop} {B g size : Nat} {w w1 : World} {d : Array α} (F : Base St B g size) (h : Lies St g w d w1) (q : Nat) : Lies St g w d (w1.drewN q) :=
  ⟨F.keep h.st (Below.drewN (Below.refl _ _) q), h.ap.trans (Apart.of_below (Below.drewN (Below.refl _ _) q) (Nat.le_refl _))⟩
theorem Lies.own {St : Array α → World → Prop} {B g size : Nat} {w w1 : World} {d : Array α} (F : Base St B g size) (hB : B ≤ w.heap.size) (h : Lies St g w d w1) {p : Addr} (hp : w.heap.size ≤ p.block) (u : Value) : Lies St g w d (w1.setCell p u) :=
  ⟨F.keep h.st ((Below.refl _ _).setCell (by omega) _), h.ap.own hp u⟩
/-- A world in which nothing that lay has turned. -/
theorem Lies.quiet {St : Array α → World → Prop} {B g size : Nat} {w w1 w2 : World} {d : Array α} (F : Base St B g size) (h : Lies St g w d w1) (hb : Below w1.heap.size w1 w2) : Lies St g w d w2 :=
  ⟨F.keep h.st (hb.mono (F.base h.st)), h.ap.trans (Apart.of_below hb (Nat.le_refl _))⟩

/-- The interface value '.iface T rv' whose methods sort the row. -/
structure Face (lt : α → α → Bool) (St : Array α → World → Prop) (B g size : Nat) (T : TypeId) (rv : Value) (gl : Nat) (rl : Value) (gs : Nat) (rs : Value) : Prop extends Base St B g size where
  findL : ∀ {dk w}, St dk w → Sem.run Try.prog (method 285 T rv "Less") w = .ok (gl, rl) w
  findS : ∀ {dk w}, St dk w → Sem.run Try.prog (method 285 T rv "Swap") w = .ok (gs, rs) w
  enterL : ∀ args w, (callFunc gl args).run Try.prog w = .ok (.enter gl args) w
  enterS : ∀ args w, (callFunc gs args).run Try.prog w = .ok (.enter gs args) w
  less : ∀ {dk w} (i j : Nat), St dk w → i < size → j < size → Calls Try.prog gl #[rl, .int .i64 i, .int .i64 j] w fun e w' => e = .returned (.bool (lt dk[i]! dk[j]!)) ∧ Below w.heap.size w w'
  swap : ∀ {dk w} (i j : Nat), St dk w → i < size → j < size → Calls Try.prog gs #[rs, .int .i64 i, .int .i64 j] w fun e w' => e = .returned (.tuple #[]) ∧ St (Sort.swp dk i j) w' ∧ Apart g w w'

variable {lt : α → α → Bool} {St : Array α → World → Prop} {B g size : Nat} {T : TypeId} {rv : Value} {gl : Nat} {rl : Value} {gs : Nat} {rs : Value}

theorem Face.lessAt (F : Face lt St B g size T rv gl rl gs rs) {w w1 : World} {dk : Array α} (h : Lies St g w dk w1) (i j : Nat) (hi : i < size) (hj : j < size) {x y : Int} (hx : x = i) (hy : y = j) {v : Bool} (hv : lt dk[i]! dk[j]! = v) :
    Calls Try.prog gl #[rl, .int .i64 x, .int .i64 y] w1 fun e w' => e = .returned (.bool v) ∧ Lies St g w dk w' := by
  subst hx hy hv
  exact (F.less i j h.st hi hj).mono fun _ _ ⟨he, hb⟩ => ⟨he, h.quiet F.toBase hb⟩

theorem Face.swapAt (F : Face lt St B g size T rv gl rl gs rs) {w w1 : World} {dk : Array α} (h : Lies St g w dk w1) (i j : Nat) (hi : i < size) (hj : j < size) {x y : Int} (hx : x = i) (hy : y = j) :
    Calls Try.prog gs #[rs, .int .i64 x, .int .i64 y] w1 fun e w' => e = .returned (.tuple #[]) ∧ Lies St g w (Sort.swp dk i j) w' := by
  subst hx hy
  exact (F.swap i j h.st hi hj).mono fun _ _ ⟨he, hs, ha⟩ => ⟨he, hs, h.ap.trans ha⟩

/-! ### Where a partition's cut lies, whatever the relation -/
theorem partition_range (d : Array α) (a b pivot : Nat) (hp : a ≤ pivot) (hpb : pivot < b) (hb : b ≤ d.size) : a ≤ (Sort.partition lt d a b pivot).1 ∧ (Sort.partition lt d a b pivot).1 < b := by
  rw [Sort.partition_fst]
  have h := Sort.partLoop_spec lt a b _ (a + 1) (b - 1) (Sort.swp d a pivot) (Nat.le_refl _) (by omega) (by omega) (by omega) (by rw [Sort.size_swp]; exact hb) (fun t h1 h2 => by omega) (fun t h1 h2 => by omega)
  exact ⟨h.1, h.2.1⟩

theorem partitionEqual_range (d : Array α) (a b pivot : Nat) (hp : a ≤ pivot) (hpb : pivot < b) (hb : b ≤ d.size) : a < (Sort.partitionEqual lt d a b pivot).1 ∧ (Sort.partitionEqual lt d a b pivot).1 ≤ b := by
  have h := Sort.partEqLoop_spec lt a b _ (a + 1) (b - 1) (Sort.swp d a pivot) (Nat.le_refl _) (by omega) (by omega) (by omega) (by rw [Sort.size_swp]; exact hb) (fun t h1 h2 => by omega) (fun t h1 h2 => by omega)
  exact ⟨h.1, h.2.1⟩
end
#print axioms partition_range
#print axioms partitionEqual_range
#print axioms Face.swapAt
end Go.Proofs.Ytaifikhgijnkgaa
