/- Sorted by neighbours and sorted by pairs: one thing for a strict weak order. No conditions. -/
import Derived.Test.YtaifikhgijnkgaaOwn
import Derived.Sort.Statements
namespace Go.Proofs.Ytaifikhgijnkgaa
set_option linter.unusedVariables false
section
variable {α : Type} [Inhabited α] (lt : α → α → Bool)

/-- No one comes before the one just ahead of it. -/
def adjB (xs : List α) : Bool := (List.range xs.length).all fun i => i == 0 || !lt (el xs i) (el xs (i - 1))
/-- No one comes before one that is ahead of it. -/
def pairB (xs : List α) : Bool := (List.range xs.length).all fun i => (List.range i).all fun k => !lt (el xs i) (el xs k)

theorem adjB_iff (xs : List α) : adjB lt xs = true ↔ ∀ i, 0 < i → i < xs.length → lt (el xs i) (el xs (i - 1)) = false := by
  unfold adjB
  simp only [List.all_eq_true, List.mem_range, Bool.or_eq_true, beq_iff_eq, Bool.not_eq_true']
  exact ⟨fun h i h0 hi => (h i hi).resolve_left (by omega), fun h i hi => by
    by_cases h0 : i = 0
    · exact .inl h0
    · exact .inr (h i (by omega) hi)⟩

theorem pairB_iff (xs : List α) : pairB lt xs = true ↔ ∀ i k, k < i → i < xs.length → lt (el xs i) (el xs k) = false := by
  unfold pairB
  simp only [List.all_eq_true, List.mem_range, Bool.not_eq_true']
  exact ⟨fun h i k hk hi => h i hi k hk, fun h i hi k hk => h i k hk hi⟩

theorem adj_pair_of {xs : List α} (nt : ∀ x ∈ xs, ∀ y ∈ xs, ∀ z ∈ xs, lt x y = false → lt y z = false → lt x z = false) : adjB lt xs = pairB lt xs := by
  rw [Bool.eq_iff_iff, adjB_iff, pairB_iff]
  have hm : ∀ i, i < xs.length → el xs i ∈ xs := fun i hi => by rw [el_eq xs i hi]; exact List.getElem_mem _
  constructor
  · intro h i k hk hi
    have key : ∀ d i, i < xs.length → d < i → lt (el xs i) (el xs (i - (d + 1))) = false := by
      intro d
      induction d with
      | zero => intro i hi hd; exact h i (by omega) hi
      | succ d ih =>
        intro i hi hd
        have h1 := ih i hi (by omega)
        have h2 := h (i - (d + 1)) (by omega) (by omega)
        have e : i - (d + 1) - 1 = i - (d + 1 + 1) := by omega
        rw [e] at h2
        exact nt _ (hm i hi) _ (hm _ (by omega)) _ (hm _ (by omega)) h1 h2
    have := key (i - k - 1) i hi (by omega)
    rwa [show i - (i - k - 1 + 1) = k by omega] at this
  · intro h i h0 hi
    exact h i (i - 1) (by omega) hi

theorem adj_pair (h : Sort.SWO lt) (xs : List α) : adjB lt xs = pairB lt xs := adj_pair_of lt fun x _ y _ z _ => h.ntrans x y z
end
#print axioms adj_pair
end Go.Proofs.Ytaifikhgijnkgaa
