/- A relation that is a strict weak order on the members of a list; its extension to all. No conditions. -/
import Derived.Test.YtaifikhgijnkgaaRow
namespace Go.Proofs.Ytaifikhgijnkgaa
open Go.Sort hiding Below
set_option linter.unusedVariables false
set_option linter.unusedSectionVars false
section
variable {α : Type} [Inhabited α]

/-- A strict weak order of the members of xs. -/
structure WeakOn (r : α → α → Bool) (xs : List α) : Prop where
  irr : ∀ x ∈ xs, r x x = false
  tr : ∀ x ∈ xs, ∀ y ∈ xs, ∀ z ∈ xs, r x y = true → r y z = true → r x z = true
  ntr : ∀ x ∈ xs, ∀ y ∈ xs, ∀ z ∈ xs, r x y = false → r y z = false → r x z = false

theorem WeakOn.turn {r : α → α → Bool} {xs : List α} (h : WeakOn r xs) : WeakOn (fun x y => r y x) xs :=
  ⟨h.irr, fun x hx y hy z hz h1 h2 => h.tr z hz y hy x hx h2 h1, fun x hx y hy z hz h1 h2 => h.ntr z hz y hy x hx h2 h1⟩
theorem WeakOn.perm {r : α → α → Bool} {xs ys : List α} (h : WeakOn r xs) (hp : ys.Perm xs) : WeakOn r ys :=
  ⟨fun x hx => h.irr x (hp.mem_iff.1 hx), fun x hx y hy z hz => h.tr x (hp.mem_iff.1 hx) y (hp.mem_iff.1 hy) z (hp.mem_iff.1 hz), fun x hx y hy z hz => h.ntr x (hp.mem_iff.1 hx) y (hp.mem_iff.1 hy) z (hp.mem_iff.1 hz)⟩
theorem WeakOn.asymm {r : α → α → Bool} {xs : List α} (h : WeakOn r xs) {x y : α} (hx : x ∈ xs) (hy : y ∈ xs) (hxy : r x y = true) : r y x = false := by
  cases hyx : r y x
  · rfl
  · have := h.tr x hx y hy x hx hxy hyx
    rw [h.irr x hx] at this; cases this

open Classical in
/-- A member, or the first one. -/
noncomputable def memOr (xs : List α) (x : α) : α := if x ∈ xs then x else el xs 0
theorem memOr_mem {xs : List α} (h : xs ≠ []) (x : α) : memOr xs x ∈ xs := by
  unfold memOr
  split
  · assumption
  · rw [el_eq xs 0 (List.length_pos_iff.2 h)]; exact List.getElem_mem _
theorem memOr_of {xs : List α} {x : α} (h : x ∈ xs) : memOr xs x = x := by unfold memOr; rw [if_pos h]

/-- The relation of the members, led to all. -/
noncomputable def ext (r : α → α → Bool) (xs : List α) (x y : α) : Bool := r (memOr xs x) (memOr xs y)
theorem ext_mem {r : α → α → Bool} {xs : List α} {x y : α} (hx : x ∈ xs) (hy : y ∈ xs) : ext r xs x y = r x y := by unfold ext; rw [memOr_of hx, memOr_of hy]
theorem ext_swo {r : α → α → Bool} {xs : List α} (h0 : xs ≠ []) (h : WeakOn r xs) : SWO (ext r xs) :=
  ⟨fun x => h.irr _ (memOr_mem h0 x), fun x y z => h.tr _ (memOr_mem h0 x) _ (memOr_mem h0 y) _ (memOr_mem h0 z), fun x y z => h.ntr _ (memOr_mem h0 x) _ (memOr_mem h0 y) _ (memOr_mem h0 z)⟩

theorem pairwise_ext {r : α → α → Bool} {xs O : List α} (hp : O.Perm xs) (h : O.Pairwise fun x y => ext r xs y x = false) : O.Pairwise fun x y => r y x = false :=
  h.imp_of_mem fun ha hb hr => (ext_mem (r := r) (hp.mem_iff.1 hb) (hp.mem_iff.1 ha)).symm.trans hr

/-- What a sort must come to. -/
def SortedBy (r : α → α → Bool) (xs O : List α) : Prop := O.Perm xs ∧ (WeakOn r xs → O.Pairwise fun x y => r y x = false)

/-- What pdqsort makes of the row. -/
theorem pdq_sortedBy (r : α → α → Bool) (xs : List α) (n lim : Nat) (hn : xs.length = n) (h0 : xs ≠ []) (hp : (pdq (ext r xs) xs.toArray 0 n lim true true).toList.Perm xs) : SortedBy r xs (pdq (ext r xs) xs.toArray 0 n lim true true).toList := by
  refine ⟨hp, fun hw => pairwise_ext hp ?_⟩
  have hb := pdq_both (ext_swo h0 hw) xs.toArray n lim (by simpa using hn)
  refine sortedIn_pairwise hb.2 ?_
  have := hb.1.length_eq
  simp at this
  omega

theorem short_sortedBy (r : α → α → Bool) (xs : List α) (h : xs.length ≤ 1) : SortedBy r xs xs := by
  refine ⟨List.Perm.refl _, fun _ => ?_⟩
  match xs, h with
  | [], _ => exact List.Pairwise.nil
  | [x], _ => exact List.pairwise_singleton _ _

theorem countP_le_of_range {α : Type} [Inhabited α] (p : α → Bool) (ys : List α) (i : Nat) (h : ∀ k, k < ys.length → i ≤ k → p (el ys k) = false) : ys.countP p ≤ i := by
  have e : ys = ys.take i ++ ys.drop i := (List.take_append_drop i ys).symm
  rw [e, List.countP_append]
  have h2 : (ys.drop i).countP p = 0 := by
    rw [List.countP_eq_zero]
    intro a ha
    obtain ⟨k, hk, rfl⟩ := List.getElem_of_mem ha
    simp only [List.length_drop] at hk
    have := h (i + k) (by omega) (by omega)
    rw [el_eq ys (i + k) (by omega)] at this
    simp [this]
  rw [h2]
  have h3 : (ys.take i).countP p ≤ (ys.take i).length := List.countP_le_length
  simp at h3
  omega

theorem le_countP_of_range {α : Type} [Inhabited α] (p : α → Bool) (ys : List α) (i : Nat) (hi : i < ys.length) (h : ∀ k, k ≤ i → p (el ys k) = true) : i + 1 ≤ ys.countP p := by
  have e : ys = ys.take (i + 1) ++ ys.drop (i + 1) := (List.take_append_drop (i + 1) ys).symm
  rw [e, List.countP_append]
  have h2 : (ys.take (i + 1)).countP p = (ys.take (i + 1)).length := by
    rw [List.countP_eq_length]
    intro a ha
    obtain ⟨k, hk, rfl⟩ := List.getElem_of_mem ha
    simp only [List.length_take] at hk
    have := h k (by omega)
    rw [el_eq ys k (by omega)] at this
    simpa using this
  rw [h2, List.length_take]
  omega

/-- Two sorted lists of the same elements are equal, place by place, by the order. -/
theorem sorted_same {r : α → α → Bool} {xs A B : List α} (hw : WeakOn r xs) (ha : A.Perm xs) (hb : B.Perm xs) (sa : A.Pairwise fun x y => r y x = false) (sb : B.Pairwise fun x y => r y x = false) (i : Nat) (hi : i < A.length) : r (el A i) (el B i) = false := by
  have hlb : B.length = A.length := by rw [hb.length_eq, ha.length_eq]
  cases h : r (el A i) (el B i)
  · rfl
  · exfalso
    have mA : ∀ k, k < A.length → el A k ∈ xs := fun k hk => ha.mem_iff.1 (by rw [el_eq A k hk]; exact List.getElem_mem _)
    have mB : ∀ k, k < B.length → el B k ∈ xs := fun k hk => hb.mem_iff.1 (by rw [el_eq B k hk]; exact List.getElem_mem _)
    have pA : ∀ k, k < i → r (el A i) (el A k) = false := fun k hk => by
      rw [el_eq A i hi, el_eq A k (by omega)]
      exact List.pairwise_iff_getElem.1 sa k i (by omega) hi hk
    have pB : ∀ k, k < B.length → i < k → r (el B k) (el B i) = false := fun k hk hik => by
      rw [el_eq B k hk, el_eq B i (by omega)]
      exact List.pairwise_iff_getElem.1 sb i k (by omega) hk hik
    have h1 : i + 1 ≤ A.countP fun x => r x (el B i) := le_countP_of_range _ A i hi fun k hk => by
      by_cases hki : k = i
      · rw [hki]; exact h
      · cases hc : r (el A k) (el B i)
        · have := hw.ntr _ (mA i hi) _ (mA k (by omega)) _ (mB i (by omega)) (pA k (by omega)) hc
          rw [h] at this; cases this
        · rfl
    have h2 : (B.countP fun x => r x (el B i)) ≤ i := countP_le_of_range _ B i fun k hk hik => by
      by_cases hki : k = i
      · rw [hki]; exact hw.irr _ (mB i (by omega))
      · exact pB k hk (by omega)
    have h3 := (ha.trans hb.symm).countP_eq (fun x => r x (el B i))
    omega
end
#print axioms sorted_same
#print axioms pdq_sortedBy
end Go.Proofs.Ytaifikhgijnkgaa
