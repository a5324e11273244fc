/- Ranks of the places of a list by a strict weak order and the places; the stable sort by ranks. No conditions. -/
import Derived.Test.YtaifikhgijnkgaaWeakly
namespace Go.Proofs.Ytaifikhgijnkgaa
set_option linter.unusedVariables false
set_option linter.unusedSectionVars false

theorem nodup_le : ∀ (n : Nat) (l : List Nat), l.Nodup → (∀ x ∈ l, x < n) → l.length ≤ n := by
  intro n
  induction n with
  | zero => intro l _ h; cases l with
    | nil => simp
    | cons x t => exact absurd (h x (by simp)) (by omega)
  | succ n ih =>
    intro l hn h
    by_cases hm : n ∈ l
    · have h1 := ih (l.erase n) (hn.erase n) (fun x hx => by
        have hx' := hn.mem_erase_iff.1 hx
        have := h x hx'.2
        omega)
      rw [List.length_erase_of_mem hm] at h1
      omega
    · have := ih l hn (fun x hx => by
        have h1 := h x hx
        have h2 : x ≠ n := fun e => hm (e ▸ hx)
        omega)
      omega

theorem nodup_perm : ∀ (n : Nat) (l : List Nat), l.Nodup → (∀ x ∈ l, x < n) → l.length = n → l.Perm (List.range n) := by
  intro n
  induction n with
  | zero => intro l _ _ h; rw [List.length_eq_zero_iff.1 h]; simp
  | succ n ih =>
    intro l hn h hl
    by_cases hm : n ∈ l
    · have h1 := ih (l.erase n) (hn.erase n) (fun x hx => by
        have hx' := hn.mem_erase_iff.1 hx
        have := h x hx'.2
        omega) (by rw [List.length_erase_of_mem hm]; omega)
      rw [List.range_succ]
      exact ((List.perm_cons_erase hm).trans (h1.cons n)).trans (List.perm_append_singleton n (List.range n)).symm
    · have := nodup_le n l hn (fun x hx => by
        have h1 := h x hx
        have h2 : x ≠ n := fun e => hm (e ▸ hx)
        omega)
      omega

theorem countP_lt {α : Type} (p q : α → Bool) : ∀ l : List α, (∀ k ∈ l, p k = true → q k = true) → (∃ i ∈ l, q i = true ∧ p i = false) → l.countP p < l.countP q := by
  intro l
  induction l with
  | nil => rintro _ ⟨i, hi, _⟩; simp at hi
  | cons x t ih =>
    intro h he
    have hle : t.countP p ≤ t.countP q := List.countP_mono_left fun k hk => h k (List.mem_cons_of_mem _ hk)
    obtain ⟨i, hi, hq, hp⟩ := he
    rcases List.mem_cons.1 hi with rfl | hi
    · simp only [List.countP_cons, hq, hp]
      simp
      omega
    · have := ih (fun k hk => h k (List.mem_cons_of_mem _ hk)) ⟨i, hi, hq, hp⟩
      have hx := h x (by simp)
      simp only [List.countP_cons]
      cases hpx : p x
      · simp; omega
      · rw [hx hpx]; simp; omega

section
variable {α : Type} [Inhabited α] (r : α → α → Bool) (xs : List α)

/-- The place k stands before the place i: its element comes before, or is equal and earlier. -/
def prec (k i : Nat) : Bool := r (el xs k) (el xs i) || (decide (k < i) && !r (el xs i) (el xs k))
def rankTo (i m : Nat) : Nat := (List.range m).countP fun k => prec r xs k i
def rank (i : Nat) : Nat := rankTo r xs i xs.length

theorem rankTo_zero (i : Nat) : rankTo r xs i 0 = 0 := by simp [rankTo]
theorem rankTo_succ (i m : Nat) : rankTo r xs i (m + 1) = rankTo r xs i m + if prec r xs m i = true then 1 else 0 := by
  simp [rankTo, List.range_succ, List.countP_append, List.countP_cons]
theorem rankTo_le (i m : Nat) : rankTo r xs i m ≤ m := by
  have := List.countP_le_length (p := fun k => prec r xs k i) (l := List.range m)
  simpa [rankTo] using this

/-- What the stable sort makes of xs. -/
def StableOf (S : List α) : Prop := S.length = xs.length ∧ ∀ t, t < xs.length → el S (rank r xs t) = el xs t

variable {r xs}
theorem prec_self (hw : WeakOn r xs) {i : Nat} (hi : i < xs.length) : prec r xs i i = false := by
  simp [prec, hw.irr _ (el_mem' hi)]
where el_mem' {i : Nat} (hi : i < xs.length) : el xs i ∈ xs := by rw [el_eq xs i hi]; exact List.getElem_mem _

theorem mem_el {i : Nat} (hi : i < xs.length) : el xs i ∈ xs := by rw [el_eq xs i hi]; exact List.getElem_mem _

theorem prec_total {i j : Nat} (hij : i ≠ j) : prec r xs i j = true ∨ prec r xs j i = true := by
  unfold prec
  cases h1 : r (el xs i) (el xs j) <;> cases h2 : r (el xs j) (el xs i) <;> simp
  omega

theorem prec_not {i j : Nat} (hw : WeakOn r xs) (hi : i < xs.length) (hj : j < xs.length) (h : prec r xs i j = true) : r (el xs j) (el xs i) = false := by
  unfold prec at h
  cases h1 : r (el xs i) (el xs j)
  · rw [h1] at h; simp at h; exact h.2
  · exact hw.asymm (mem_el hi) (mem_el hj) h1

theorem prec_trans (hw : WeakOn r xs) {i j k : Nat} (hi : i < xs.length) (hj : j < xs.length) (hk : k < xs.length) (h1 : prec r xs i j = true) (h2 : prec r xs j k = true) : prec r xs i k = true := by
  have mi := mem_el hi
  have mj := mem_el hj
  have mk := mem_el hk
  have n1 := prec_not hw hi hj h1
  have n2 := prec_not hw hj hk h2
  have n3 : r (el xs k) (el xs i) = false := hw.ntr _ mk _ mj _ mi n2 n1
  unfold prec at h1 h2 ⊢
  cases h3 : r (el xs i) (el xs k)
  · -- then both are equal by the order
    have e1 : r (el xs i) (el xs j) = false := hw.ntr _ mi _ mk _ mj h3 n2
    have e2 : r (el xs j) (el xs k) = false := hw.ntr _ mj _ mi _ mk n1 h3
    rw [e1] at h1
    rw [e2] at h2
    simp at h1 h2
    simp [n3]
    omega
  · simp

theorem prec_asymm (hw : WeakOn r xs) {i j : Nat} (hi : i < xs.length) (hj : j < xs.length) (h1 : prec r xs i j = true) : prec r xs j i = false := by
  cases h : prec r xs j i
  · rfl
  · have := prec_trans hw hi hj hi h1 h
    rw [prec_self hw hi] at this; cases this

theorem rank_mono (hw : WeakOn r xs) {i j : Nat} (hi : i < xs.length) (hj : j < xs.length) (h : prec r xs i j = true) : rank r xs i < rank r xs j :=
  countP_lt _ _ _ (fun k hk h1 => prec_trans hw (List.mem_range.1 hk) hi hj h1 h) ⟨i, List.mem_range.2 hi, h, prec_self hw hi⟩

theorem rank_lt (hw : WeakOn r xs) {i : Nat} (hi : i < xs.length) : rank r xs i < xs.length := by
  have h1 := rankTo_le r xs i xs.length
  rcases Nat.lt_or_ge (rank r xs i) xs.length with h | h
  · exact h
  · have h2 : (List.range xs.length).countP (fun k => prec r xs k i) = (List.range xs.length).length := by
      rw [List.length_range]
      exact Nat.le_antisymm h1 h
    have := (List.countP_eq_length.1 h2) i (List.mem_range.2 hi)
    rw [prec_self hw hi] at this; cases this

theorem rank_inj (hw : WeakOn r xs) {i j : Nat} (hi : i < xs.length) (hj : j < xs.length) (h : rank r xs i = rank r xs j) : i = j := by
  by_cases hij : i = j
  · exact hij
  · rcases prec_total (r := r) (xs := xs) hij with h1 | h1
    · have := rank_mono hw hi hj h1; omega
    · have := rank_mono hw hj hi h1; omega

theorem rank_perm (hw : WeakOn r xs) : ((List.range xs.length).map (rank r xs)).Perm (List.range xs.length) := by
  refine nodup_perm _ _ ?_ ?_ (by simp)
  · rw [List.nodup_iff_pairwise_ne, List.pairwise_map]
    refine (List.nodup_range (n := xs.length)).imp_of_mem fun {a b} ha hb hab he => hab (rank_inj hw (List.mem_range.1 ha) (List.mem_range.1 hb) he)
  · intro x hx
    obtain ⟨i, hi, rfl⟩ := List.mem_map.1 hx
    exact rank_lt hw (List.mem_range.1 hi)

theorem rank_onto (hw : WeakOn r xs) {p : Nat} (hp : p < xs.length) : ∃ i, i < xs.length ∧ rank r xs i = p := by
  have := (rank_perm hw).mem_iff.2 (List.mem_range.2 hp)
  obtain ⟨i, hi, h⟩ := List.mem_map.1 this
  exact ⟨i, List.mem_range.1 hi, h⟩

theorem range_map_el (S : List α) : (List.range S.length).map (fun t => el S t) = S := by
  refine List.ext_getElem (by simp) fun k h1 h2 => ?_
  simp only [List.getElem_map, List.getElem_range]
  exact el_eq S k h2

theorem StableOf.perm (hw : WeakOn r xs) {S : List α} (h : StableOf r xs S) : S.Perm xs := by
  have e1 : xs = ((List.range xs.length).map (rank r xs)).map fun t => el S t := by
    rw [List.map_map]
    conv => lhs; rw [← range_map_el xs]
    exact List.map_congr_left fun t ht => (h.2 t (List.mem_range.1 ht)).symm
  have e2 : S = (List.range xs.length).map fun t => el S t := by
    rw [← h.1]; exact (range_map_el S).symm
  have := ((rank_perm hw).map fun t => el S t).symm
  rw [← e1, ← e2] at this
  exact this

theorem StableOf.sorted (hw : WeakOn r xs) {S : List α} (h : StableOf r xs S) : S.Pairwise fun x y => r y x = false := by
  rw [List.pairwise_iff_getElem]
  intro p q hp hq hpq
  rw [← el_eq S p hp, ← el_eq S q hq]
  rw [h.1] at hp hq
  obtain ⟨i, hi, rfl⟩ := rank_onto hw hp
  obtain ⟨j, hj, rfl⟩ := rank_onto hw hq
  rw [h.2 i hi, h.2 j hj]
  have hij : i ≠ j := fun e => by subst e; omega
  rcases prec_total (r := r) (xs := xs) hij with h1 | h1
  · exact prec_not hw hi hj h1
  · have := rank_mono hw hj hi h1; omega

/-- There is but one. -/
theorem StableOf.unique (hw : WeakOn r xs) {S T : List α} (h : StableOf r xs S) (h' : StableOf r xs T) : S = T := by
  refine ext_el (by rw [h.1, h'.1]) fun p hp => ?_
  rw [h.1] at hp
  obtain ⟨i, hi, rfl⟩ := rank_onto hw hp
  rw [h.2 i hi, h'.2 i hi]
end
#print axioms StableOf.perm
#print axioms StableOf.sorted
#print axioms StableOf.unique
end Go.Proofs.Ytaifikhgijnkgaa
