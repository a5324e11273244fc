/- Elements by the places that they had: a sort of places, sorted by the order and the places, is the stable sort; a row as the row of its places. No conditions. -/
import Derived.Test.YtaifikhgijnkgaaRanks
import Derived.Test.YtaifikhgijnkgaaStab
namespace Go.Proofs.Ytaifikhgijnkgaa
open Go.Sort hiding Below
set_option linter.unusedVariables false
set_option linter.unusedSectionVars false
section
variable {α : Type} [Inhabited α]

/-- The places of xs, in the order of the stable sort. -/
def SortedTags (r : α → α → Bool) (xs : List α) (p : List Nat) : Prop := p.Perm (List.range xs.length) ∧ p.Pairwise fun i j => prec r xs j i = false

theorem perm_range_lt {n : Nat} {p : List Nat} (h : p.Perm (List.range n)) {k : Nat} (hk : k < p.length) : el p k < n := by
  rw [el_eq p k hk]
  exact List.mem_range.1 (h.mem_iff.1 (List.getElem_mem hk))

theorem tags_stable {r : α → α → Bool} {xs : List α} {p : List Nat} (hw : WeakOn r xs) (h : SortedTags r xs p) : StableOf r xs (p.map (el xs)) := by
  obtain ⟨hp, hs⟩ := h
  have hl : p.length = xs.length := by rw [hp.length_eq, List.length_range]
  have hnd : p.Nodup := hp.nodup_iff.2 List.nodup_range
  refine ⟨by rw [List.length_map, hl], fun t ht => ?_⟩
  obtain ⟨k, hk, hkt⟩ := List.getElem_of_mem (hp.mem_iff.2 (List.mem_range.2 ht))
  have hrank : rank r xs t = k := by
    have e : rank r xs t = p.countP fun q => prec r xs q t := (hp.countP_eq _).symm
    rw [e]
    refine Nat.le_antisymm (countP_le_of_range _ p k fun q hq hkq => ?_) ?_
    · rcases Nat.lt_or_ge k q with h1 | h1
      · rw [el_eq p q hq, ← hkt]
        exact List.pairwise_iff_getElem.1 hs k q hk hq h1
      · obtain rfl : k = q := by omega
        rw [el_eq p k hq, hkt]
        exact prec_self hw ht
    · cases k with
      | zero => exact Nat.zero_le _
      | succ k =>
        refine le_countP_of_range _ p k (by omega) fun q hq => ?_
        have hql : q < p.length := by omega
        have hne : el p q ≠ t := fun e1 => by
          rw [el_eq p q hql, ← hkt] at e1
          have := (List.getElem_inj hnd).1 e1
          omega
        rcases prec_total (r := r) (xs := xs) hne with h1 | h1
        · exact h1
        · have h2 := List.pairwise_iff_getElem.1 hs q (k + 1) hql hk (by omega)
          rw [hkt, ← el_eq p q hql, h1] at h2
          cases h2
  rw [hrank, el_eq _ _ (by rw [List.length_map]; exact hk), List.getElem_map, hkt]

theorem el_reverse (xs : List α) (i : Nat) (hi : i < xs.length) : el xs.reverse i = el xs (xs.length - 1 - i) := by
  rw [el_eq _ _ (by simpa using hi), el_eq _ _ (by omega), List.getElem_reverse]

/-- The stable sort by the order the other way round of the list from its end is, from its end, the stable sort. -/
theorem tags_turn {r : α → α → Bool} {xs : List α} {p : List Nat} (h : SortedTags (fun x y => r y x) xs.reverse p) :
    SortedTags r xs ((p.map fun i => xs.length - 1 - i).reverse) ∧ (p.map (el xs.reverse)).reverse = ((p.map fun i => xs.length - 1 - i).reverse).map (el xs) := by
  obtain ⟨hp, hs⟩ := h
  rw [List.length_reverse] at hp
  have hlt : ∀ i ∈ p, i < xs.length := fun i hi => List.mem_range.1 (hp.mem_iff.1 hi)
  refine ⟨⟨?_, ?_⟩, ?_⟩
  · refine (List.reverse_perm _).trans ?_
    refine nodup_perm _ _ ?_ ?_ (by rw [List.length_map, hp.length_eq, List.length_range])
    · rw [List.nodup_iff_pairwise_ne, List.pairwise_map]
      refine (hp.nodup_iff.2 List.nodup_range).imp_of_mem fun {a b} ha hb hab he => hab ?_
      have := hlt a ha
      have := hlt b hb
      omega
    · intro x hx
      obtain ⟨i, hi, rfl⟩ := List.mem_map.1 hx
      have := hlt i hi
      omega
  · rw [List.pairwise_reverse, List.pairwise_map]
    refine hs.imp_of_mem fun {a b} ha hb hab => ?_
    have la := hlt a ha
    have lb := hlt b hb
    unfold prec at hab ⊢
    rw [el_reverse xs a la, el_reverse xs b lb] at hab
    rw [show decide (xs.length - 1 - a < xs.length - 1 - b) = decide (b < a) by rw [decide_eq_decide]; omega]
    exact hab
  · rw [List.map_reverse, List.map_map]
    congr 1
    refine List.map_congr_left fun i hi => ?_
    exact el_reverse xs i (hlt i hi)

/-- Places by the order of their elements; equal ones by the places. -/
def tagged (lt : Nat → Nat → Bool) (i j : Nat) : Bool := lt i j || (decide (i < j) && !lt j i)

theorem tagged_swo {lt : Nat → Nat → Bool} (hO : SWO lt) : SWO (tagged lt) := by
  have hf : ∀ i j, tagged lt i j = false ↔ lt i j = false ∧ (i < j → lt j i = true) := fun i j => by
    unfold tagged
    cases lt i j <;> cases lt j i <;> simp
  have ht : ∀ i j, tagged lt i j = true ↔ lt i j = true ∨ (i < j ∧ lt j i = false) := fun i j => by
    unfold tagged
    cases lt i j <;> cases lt j i <;> simp
  refine ⟨fun i => by simp [tagged, hO.irrefl], fun i j k h1 h2 => ?_, fun i j k h1 h2 => ?_⟩
  · rw [ht] at h1 h2 ⊢
    rcases h1 with h1 | ⟨h1, h1'⟩
    · rcases h2 with h2 | ⟨h2, h2'⟩
      · exact .inl (hO.trans _ _ _ h1 h2)
      · left
        cases h3 : lt i k
        · have := hO.ntrans _ _ _ h3 h2'; rw [h1] at this; cases this
        · rfl
    · rcases h2 with h2 | ⟨h2, h2'⟩
      · left
        cases h3 : lt i k
        · have := hO.ntrans _ _ _ h1' h3; rw [h2] at this; cases this
        · rfl
      · exact .inr ⟨by omega, hO.ntrans _ _ _ h2' h1'⟩
  · rw [hf] at h1 h2 ⊢
    refine ⟨hO.ntrans _ _ _ h1.1 h2.1, fun hik => ?_⟩
    cases h3 : lt k i
    · have e1 : lt j i = false := hO.ntrans _ _ _ h2.1 h3
      have e2 : lt k j = false := hO.ntrans _ _ _ h3 h1.1
      have n1 : ¬ i < j := fun h => by rw [h1.2 h] at e1; cases e1
      have n2 : ¬ j < k := fun h => by rw [h2.2 h] at e2; cases e2
      omega
    · rfl

theorem tagged_agrees (lt : Nat → Nat → Bool) {i j : Nat} (h : i < j) : lt j i = tagged lt j i := by
  unfold tagged
  have : ¬ j < i := by omega
  simp [this]

theorem range_agrees (lt : Nat → Nat → Bool) (n : Nat) : Agrees lt (tagged lt) n (Array.range n) := by
  intro x y hxy hy
  rw [getElem!_pos _ y (by simpa using hy), getElem!_pos _ x (by simp; omega), Array.getElem_range, Array.getElem_range]
  exact tagged_agrees lt hxy

theorem swp_map {β : Type} [Inhabited β] (f : β → α) (d : Array β) (i j : Nat) (hi : i < d.size) (hj : j < d.size) : (swp d i j).map f = swp (d.map f) i j := by
  refine Array.ext (by simp [swp]) fun k h1 h2 => ?_
  have hk : k < d.size := by simpa [swp] using h1
  have g1 := swp_get d hi hj k
  have g2 := swp_get (d.map f) (i := i) (j := j) (by simpa using hi) (by simpa using hj) k
  have b : ∀ t, t < d.size → (d.map f)[t]! = f d[t]! := fun t ht => by rw [getElem!_pos _ t (by simpa using ht), getElem!_pos d t ht, Array.getElem_map]
  have e1 : ((swp d i j).map f)[k] = f (swp d i j)[k]! := by rw [Array.getElem_map, getElem!_pos _ k (by simpa [swp] using hk)]
  have e2 : (swp (d.map f) i j)[k] = (swp (d.map f) i j)[k]! := by rw [getElem!_pos _ k h2]
  rw [e1, e2, g1, g2, b i hi, b j hj, b k hk]
  split
  · rfl
  · split <;> rfl

/-- The state of a row, said by the places. -/
def StTag (St : Array α → World → Prop) (xs : List α) (p : Array Nat) (w : World) : Prop := p.size = xs.length ∧ St (p.map (el xs)) w

theorem Face.tags {lt : α → α → Bool} {St : Array α → World → Prop} {B g size : Nat} {T : TypeId} {rv : Value} {gl : Nat} {rl : Value} {gs : Nat} {rs : Value} (F : Face lt St B g size T rv gl rl gs rs) (xs : List α) (hl : xs.length = size) :
    Face (fun i j => lt (el xs i) (el xs j)) (StTag St xs) B g size T rv gl rl gs rs :=
  have b : ∀ (p : Array Nat) t, t < p.size → (p.map (el xs))[t]! = el xs p[t]! := fun p t ht => by rw [getElem!_pos _ t (by simpa using ht), getElem!_pos p t ht, Array.getElem_map]
  { len := fun h => h.1.trans hl
    keep := fun h hb => ⟨h.1, F.keep h.2 hb⟩
    base := fun h => F.base h.2
    gB := F.gB
    findL := fun h => F.findL h.2
    findS := fun h => F.findS h.2
    enterL := F.enterL
    enterS := F.enterS
    less := fun {p w} i j h hi hj => by
      have hs : p.size = size := h.1.trans hl
      have := F.less i j h.2 hi hj
      rw [b p i (by omega), b p j (by omega)] at this
      exact this
    swap := fun {p w} i j h hi hj => by
      have hs : p.size = size := h.1.trans hl
      refine (F.swap i j h.2 hi hj).mono ?_
      rintro e w' ⟨he, hst, hap⟩
      refine ⟨he, ⟨by rw [size_swp]; exact h.1, ?_⟩, hap⟩
      rw [swp_map (el xs) p i j (by omega) (by omega)]
      exact hst }

theorem range_map_arr (xs : List α) : (Array.range xs.length).map (el xs) = xs.toArray := by
  apply Array.toList_inj.1
  rw [Array.toList_map, Array.toList_range]
  exact range_map_el xs

/-- A sort of the places, sorted by the extended order and the places. -/
theorem sortedTags_of {r : α → α → Bool} {xs : List α} {p : Array Nat} (hp : PermIn 0 xs.length (Array.range xs.length) p) (hs : SortedIn (tagged fun i j => ext r xs (el xs i) (el xs j)) 0 xs.length p) : SortedTags r xs p.toList := by
  have h1 : p.toList.Perm (List.range xs.length) := by
    have := permIn_perm hp (by simp)
    rwa [Array.toList_range] at this
  have hsz : p.size = xs.length := by rw [hp.1]; simp
  refine ⟨h1, (sortedIn_pairwise hs hsz).imp_of_mem fun {a b} ha hb hab => ?_⟩
  have la := List.mem_range.1 (h1.mem_iff.1 ha)
  have lb := List.mem_range.1 (h1.mem_iff.1 hb)
  unfold tagged at hab
  dsimp only at hab
  rw [ext_mem (mem_el la) (mem_el lb), ext_mem (mem_el lb) (mem_el la)] at hab
  exact hab
end
#print axioms tags_stable
#print axioms tags_turn
#print axioms tagged_swo
#print axioms Face.tags
#print axioms sortedTags_of
end Go.Proofs.Ytaifikhgijnkgaa
