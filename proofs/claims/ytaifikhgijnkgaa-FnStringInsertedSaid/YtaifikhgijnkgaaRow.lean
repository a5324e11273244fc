/- Rows of the call's own as the sort's state; sort.Sort over rows of one-cell elements: the same elements, sorted. No conditions. -/
import Derived.Test.YtaifikhgijnkgaaFcSort
import Derived.Test.YtaifikhgijnkgaaOwn2
import Derived.Test.YtaifikhgijnkgaaIntSwap
import Derived.Shelf.Abstract
namespace Go.Proofs.Ytaifikhgijnkgaa
open Go.RowKit
open Go.Sort hiding Below
set_option linter.unusedVariables false
set_option linter.unusedSectionVars false

section
variable {α : Type} [Inhabited α]

theorem bang_el (d : Array α) (i : Nat) : d[i]! = el d.toList i := by
  simp [el, getElem!_def, List.getD_eq_getElem?_getD]
  cases h : d[i]? <;> simp

theorem swp_toList (d : Array α) (i j : Nat) : (swp d i j).toList = swapL d.toList i j := by
  simp [swp, swapL, bang_el]

theorem Own.keep {C : Nat} {encL : α → List Value} {e : TypeId} {w w' : World} {base g n cap : Nat} {xs : List α} (h : Own C encL e w base (.slice (some ⟨g, 0, none⟩) n cap) xs) (hb : w'.heap[g]? = w.heap[g]?) : Own C encL e w' base (.slice (some ⟨g, 0, none⟩) n cap) xs := by
  obtain ⟨h1, h2 | ⟨g', cap', cur, hv, hg, hh, r⟩⟩ := h
  · cases h2.1
  · cases hv
    exact ⟨h1, .inr ⟨g, cap, cur, rfl, hg, by rw [hb]; exact hh, r⟩⟩

theorem Own.fz {C : Nat} {encL : α → List Value} {e : TypeId} {w : World} {base g n cap : Nat} {ys : List α} (h : Own C encL e w base (.slice (some ⟨g, 0, none⟩) n cap) ys) (hn : ys.length = n) (k : Nat) : w.frozen? ⟨g, k, none⟩ = false := by
  unfold Own at h
  subst hn
  exact h.frozenAt k

/-- The row in block g holds dk, which has the elements of xs; X holds of the world besides. -/
structure StR (C : Nat) (encL : α → List Value) (e : TypeId) (base B g n cap : Nat) (xs : List α) (X : World → Prop) (dk : Array α) (w : World) : Prop where
  own : Own C encL e w base (.slice (some ⟨g, 0, none⟩) n cap) dk.toList
  perm : dk.toList.Perm xs
  sz : B ≤ w.heap.size
  x : X w

/-- What X asks of the world: blocks below B other than g. -/
def Stays (B g : Nat) (X : World → Prop) : Prop := ∀ w w', X w → w.heap.size ≤ w'.heap.size → (∀ k, k < B → k ≠ g → w'.heap[k]? = w.heap[k]?) → X w'

theorem StR.base {C : Nat} {encL : α → List Value} {e : TypeId} {base B g n cap : Nat} {xs : List α} {X : World → Prop} (hgB : g < B) (hl : xs.length = n) (hX : Stays B g X) : Base (StR C encL e base B g n cap xs X) B g n where
  len := fun h => by rw [← hl, ← h.perm.length_eq]; simp
  keep := fun h hb => ⟨h.own.keep (hb.block g hgB), h.perm, Nat.le_trans h.sz hb.size, hX _ _ h.x hb.size fun k hk _ => hb.block k hk⟩
  base := fun h => h.sz
  gB := hgB

theorem StR.len {C : Nat} {encL : α → List Value} {e : TypeId} {base B g n cap : Nat} {xs : List α} {X : World → Prop} {dk : Array α} {w : World} (h : StR C encL e base B g n cap xs X dk w) (hl : xs.length = n) : dk.toList.length = n := by rw [← hl, h.perm.length_eq]

theorem Apart.row {g : Nat} {w w1 : World} (h : Apart g w w1) (o : Nat) (u : Value) : Apart g w (w1.setCell ⟨g, o, none⟩ u) :=
  ⟨h.os, h.tape, h.output, by simpa [World.setCell] using h.size, fun k hk hg => (Below.heap_setCell _ _ _ _ hg).trans (h.block k hk hg)⟩
theorem Apart.drewN {g : Nat} {w w1 : World} (h : Apart g w w1) (q : Nat) : Apart g w (w1.drewN q) := ⟨h.os, h.tape, h.output, h.size, h.block⟩

theorem StR.swap1 {enc : α → Value} {e : TypeId} {base B g n cap : Nat} {xs : List α} {dk : Array α} {w : World} (h : StR 1 (fun x => [enc x]) e base B g n cap xs (fun _ => True) dk w) (hl : xs.length = n) (i j q : Nat) (hi : i < n) (hj : j < n) :
    StR 1 (fun x => [enc x]) e base B g n cap xs (fun _ => True) (swp dk i j) (((w.setCell ⟨g, i, none⟩ (enc (el dk.toList j))).setCell ⟨g, j, none⟩ (enc (el dk.toList i))).drewN q) ∧
    Apart g w (((w.setCell ⟨g, i, none⟩ (enc (el dk.toList j))).setCell ⟨g, j, none⟩ (enc (el dk.toList i))).drewN q) := by
  have hn := h.len hl
  refine ⟨⟨?_, ?_, ?_, trivial⟩, (((Apart.refl g w).row i _).row j _).drewN q⟩
  · rw [swp_toList]; exact h.own.swap1 hn i j q
  · rw [swp_toList]; exact (swapL_perm _ i j (by omega) (by omega)).trans h.perm
  · have := h.sz; simpa [World.setCell] using this

theorem enters_try {f : FuncId} {fn : Func} {c : Code} (hf : Try.prog.funcs[f]? = some fn) (hname : (fn.name == "runtime.NumGoroutine") = false) (hb : fn.body = some c) : ∀ args w, (callFunc f args).run Try.prog w = .ok (.enter f args) w := enters_of hf hname hb

/-- sort.Sort over a slice of one-cell elements with methods on the value. -/
theorem Sort_row1 {enc : α → Value} {e : TypeId} {lt : α → α → Bool} (hO : SWO lt) (T : TypeId) (gl gs gn : Nat)
    (face : ∀ base B g n cap xs, g < B → xs.length = n → n < 4611686018427387904 → Face lt (StR 1 (fun x => [enc x]) e base B g n cap xs (fun _ => True)) B g n T (.slice (some ⟨g, 0, none⟩) n cap) gl (.slice (some ⟨g, 0, none⟩) n cap) gs (.slice (some ⟨g, 0, none⟩) n cap))
    (findN : ∀ v w, Sem.run Try.prog (method 285 T v "Len") w = .ok (gn, v) w) (enterN : ∀ args w, (callFunc gn args).run Try.prog w = .ok (.enter gn args) w)
    (len : ∀ a n cap w, Calls Try.prog gn #[.slice a n cap] w fun e w' => e = .returned (.int .i64 n) ∧ Below w.heap.size w w')
    (a : Option Addr) (n cap base : Nat) (xs : List α) (w : World) (ho : Own 1 (fun x => [enc x]) e w base (.slice a n cap) xs) (hl : xs.length = n) (hbase : base ≤ w.heap.size) (hn : n < 4611686018427387904) :
    Calls Try.prog 109 #[.iface T (.slice a n cap)] w fun r w' => r = .returned (.tuple #[]) ∧ ∃ O, Own 1 (fun x => [enc x]) e w' base (.slice a n cap) O ∧ O.Perm xs ∧ O.Pairwise (fun x y => lt y x = false) ∧ Below base w w' := by
  by_cases h1 : n ≤ 1
  · refine (fc_Sort_tiny T _ gn _ n w (findN _ _) enterN h1 (len a n cap w)).mono ?_
    rintro r w' ⟨rfl, hb⟩
    refine ⟨rfl, xs, ho.below hb, List.Perm.refl _, ?_, hb.mono hbase⟩
    match xs, hl with
    | [], _ => exact List.Pairwise.nil
    | [x], _ => exact List.pairwise_singleton _ _
    | x :: y :: t, hl => simp at hl; omega
  · obtain ⟨g, rfl, hgb, hgs, hfz, hxl⟩ := ho.at (by omega)
    have F := face base w.heap.size g n cap xs hgs hl hn
    refine (fc_Sort F hn (by omega) gn _ xs.toArray w ⟨by simpa using ho, by simp, Nat.le_refl _, trivial⟩ (findN _ _) enterN (len _ n cap w)).mono ?_
    rintro r w' ⟨rfl, hL⟩
    have hb := pdq_both hO xs.toArray n (bitsLen n) (by simpa using hl)
    refine ⟨rfl, _, hL.st.own, hL.st.perm, sortedIn_pairwise hb.2 ?_, hL.ap.below hbase hgb⟩
    have := hb.1.length_eq
    simp at this
    omega
end
#print axioms Sort_row1
end Go.Proofs.Ytaifikhgijnkgaa
