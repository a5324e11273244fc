/- The parts of the stable sort in plain Lean: rotations, the two binary searches, the merge of two neighbours, the blocks; sorted by a strict weak order that agrees with the comparison wherever a later element is held against an earlier one. No conditions. -/
import Derived.Sort.AssemblyPlain
namespace Go.Proofs.Ytaifikhgijnkgaa
open Go.Sort hiding Below
set_option linter.unusedVariables false
set_option linter.unusedSectionVars false
section
variable {α : Type} [Inhabited α]

/-! ### Exchanging two ranges, rotating -/
/-- The first n places from x and from y are exchanged. -/
structure SwR (x y n : Nat) (d d' : Array α) : Prop where
  perm : PermIn x (y + n) d d'
  lo : ∀ t, t < n → d'[x + t]! = d[y + t]!
  hi : ∀ t, t < n → d'[y + t]! = d[x + t]!
  rest : ∀ t, (t < x ∨ x + n ≤ t) → (t < y ∨ y + n ≤ t) → d'[t]! = d[t]!

theorem SwR.zero (x y : Nat) (d : Array α) : SwR x y 0 d d := ⟨permIn_refl _ _ _, fun t h => by omega, fun t h => by omega, fun t _ _ => rfl⟩

theorem SwR.step {x y n : Nat} {d d' : Array α} (h : SwR x y n d d') (hxy : x + n + 1 ≤ y) (hb : y + n + 1 ≤ d.size) : SwR x y (n + 1) d (swp d' (x + n) (y + n)) := by
  have hs : d'.size = d.size := h.perm.1
  have g := swp_get d' (i := x + n) (j := y + n) (by omega) (by omega)
  refine ⟨?_, fun t ht => ?_, fun t ht => ?_, fun t h1 h2 => ?_⟩
  · exact permIn_trans _ _ _ _ _ (permIn_mono _ _ _ _ _ _ (Nat.le_refl _) (by omega) (by omega) h.perm) (swp_permIn _ _ _ _ _ (by omega) (by omega) (by omega) (by omega) (by omega))
  · rw [g]
    by_cases h1 : t = n
    · subst h1
      rw [if_neg (by omega), if_pos rfl, h.rest _ (Or.inr (by omega)) (Or.inr (by omega))]
    · rw [if_neg (by omega), if_neg (by omega), h.lo t (by omega)]
  · rw [g]
    by_cases h1 : t = n
    · subst h1
      rw [if_pos rfl, h.rest _ (Or.inr (by omega)) (Or.inl (by omega))]
    · rw [if_neg (by omega), if_neg (by omega), h.hi t (by omega)]
  · rw [g, if_neg (by omega), if_neg (by omega), h.rest t (by omega) (by omega)]

/-- [x, y) and [y, z) have changed places. -/
structure Rot (x y z : Nat) (d d' : Array α) : Prop where
  perm : PermIn x z d d'
  fst : ∀ t, x ≤ t → t < x + (z - y) → d'[t]! = d[t + (y - x)]!
  snd : ∀ t, x + (z - y) ≤ t → t < z → d'[t]! = d[t - (z - y)]!

theorem Rot.out {x y z : Nat} {d d' : Array α} (h : Rot x y z d d') (t : Nat) (ht : t < x ∨ z ≤ t) : d'[t]! = d[t]! := h.perm.2.1 t ht
theorem Rot.none (x y : Nat) (d : Array α) (hxy : x ≤ y) : Rot x y y d d := ⟨permIn_refl _ _ _, fun t h1 h2 => by omega, fun t h1 h2 => by rw [show t - (y - y) = t by omega]⟩

theorem Rot.last {m i : Nat} {d d' : Array α} (hi : i ≤ m) (h : SwR (m - i) m i d d') : Rot (m - i) m (m + i) d d' := by
  refine ⟨h.perm, fun t h1 h2 => ?_, fun t h1 h2 => ?_⟩
  · have := h.lo (t - (m - i)) (by omega)
    rw [show m - i + (t - (m - i)) = t by omega] at this
    rw [this]; congr 1; omega
  · have := h.hi (t - m) (by omega)
    rw [show m + (t - m) = t by omega] at this
    rw [this]; congr 1; omega

theorem Rot.gt {m i j : Nat} {d d1 d' : Array α} (hi : i ≤ m) (hij : j < i) (hb : m + j ≤ d.size) (h1 : SwR (m - i) m j d d1) (h2 : Rot (m - (i - j)) m (m + j) d1 d') : Rot (m - i) m (m + j) d d' := by
  refine ⟨permIn_trans _ _ _ _ _ h1.perm (permIn_mono _ _ _ _ _ _ (by omega) (Nat.le_refl _) (by rw [h1.perm.1]; omega) h2.perm), fun t h3 h4 => ?_, fun t h3 h4 => ?_⟩
  · rw [h2.out t (Or.inl (by omega))]
    have := h1.lo (t - (m - i)) (by omega)
    rw [show m - i + (t - (m - i)) = t by omega] at this
    rw [this]; congr 1; omega
  · by_cases h5 : t < m - (i - j) + j
    · rw [h2.fst t (by omega) (by omega)]
      have := h1.hi (t + (m - (m - (i - j))) - m) (by omega)
      rw [show m + (t + (m - (m - (i - j))) - m) = t + (m - (m - (i - j))) by omega] at this
      rw [this]; congr 1; omega
    · rw [h2.snd t (by omega) (by omega), h1.rest _ (Or.inr (by omega)) (Or.inl (by omega))]

theorem Rot.lt {m i j : Nat} {d d1 d' : Array α} (hi : i ≤ m) (hij : i < j) (hb : m + j ≤ d.size) (h1 : SwR (m - i) (m + j - i) i d d1) (h2 : Rot (m - i) m (m + (j - i)) d1 d') : Rot (m - i) m (m + j) d d' := by
  have e : m + j - i + i = m + j := by omega
  have hp := h1.perm
  rw [e] at hp
  refine ⟨permIn_trans _ _ _ _ _ hp (permIn_mono _ _ _ _ _ _ (Nat.le_refl _) (by omega) (by rw [h1.perm.1]; omega) h2.perm), fun t h3 h4 => ?_, fun t h3 h4 => ?_⟩
  · by_cases h5 : t < m - i + (j - i)
    · rw [h2.fst t (by omega) (by omega), h1.rest _ (Or.inr (by omega)) (Or.inl (by omega))]
    · rw [h2.snd t (by omega) (by omega)]
      have := h1.lo (t - (m + (j - i) - m) - (m - i)) (by omega)
      rw [show m - i + (t - (m + (j - i) - m) - (m - i)) = t - (m + (j - i) - m) by omega] at this
      rw [this]; congr 1; omega
  · rw [h2.out t (Or.inr (by omega))]
    have := h1.hi (t - (m + j - i)) (by omega)
    rw [show m + j - i + (t - (m + j - i)) = t by omega] at this
    rw [this]; congr 1; omega

/-- One element wanders up. -/
theorem Rot.up {a k : Nat} {d d' : Array α} (h : Rot a (a + 1) (k + 1) d d') (hak : a ≤ k) (hb : k + 1 < d.size) : Rot a (a + 1) (k + 2) d (swp d' k (k + 1)) := by
  have hs : d'.size = d.size := h.perm.1
  have g := swp_get d' (i := k) (j := k + 1) (by omega) (by omega)
  refine ⟨permIn_trans _ _ _ _ _ (permIn_mono _ _ _ _ _ _ (Nat.le_refl _) (by omega) (by omega) h.perm) (swp_permIn _ _ _ _ _ (by omega) (by omega) (by omega) (by omega) (by omega)), fun t h1 h2 => ?_, fun t h1 h2 => ?_⟩
  · rw [g]
    by_cases h3 : t = k
    · rw [if_neg (by omega), if_pos h3, h.out _ (Or.inr (by omega))]; congr 1; omega
    · rw [if_neg (by omega), if_neg h3, h.fst t (by omega) (by omega)]
  · rw [g, if_pos (by omega), h.snd k (by omega) (by omega)]; congr 1; omega

/-- One element wanders down: m is its first place, k the place where it is. -/
theorem Rot.down {m k : Nat} {d d' : Array α} (h : Rot k m (m + 1) d d') (h0 : 0 < k) (hkm : k ≤ m) (hb : m < d.size) : Rot (k - 1) m (m + 1) d (swp d' k (k - 1)) := by
  have hs : d'.size = d.size := h.perm.1
  have g := swp_get d' (i := k) (j := k - 1) (by omega) (by omega)
  refine ⟨permIn_trans _ _ _ _ _ (permIn_mono _ _ _ _ _ _ (by omega) (Nat.le_refl _) (by omega) h.perm) (swp_permIn _ _ _ _ _ (by omega) (by omega) (by omega) (by omega) (by omega)), fun t h1 h2 => ?_, fun t h1 h2 => ?_⟩
  · rw [g, if_pos (by omega), h.fst k (by omega) (by omega)]; congr 1; omega
  · rw [g, if_neg (by omega)]
    by_cases h3 : t = k
    · rw [if_pos h3, h.out _ (Or.inl (by omega))]; congr 1; omega
    · rw [if_neg h3, h.snd t (by omega) (by omega)]

/-! ### A binary search -/
/-- r lies where p turns from true to false (or at an end). -/
structure Turns (p : Nat → Bool) (i j r : Nat) : Prop where
  lo : i ≤ r
  hi : r ≤ j
  left : r = i ∨ p (r - 1) = true
  right : r = j ∨ p r = false

theorem Turns.stop (p : Nat → Bool) (i : Nat) : Turns p i i i := ⟨Nat.le_refl _, Nat.le_refl _, .inl rfl, .inl rfl⟩
theorem Turns.up {p : Nat → Bool} {i j h r : Nat} (hih : i ≤ h) (hp : p h = true) (ht : Turns p (h + 1) j r) : Turns p i j r :=
  ⟨by have := ht.lo; omega, ht.hi, .inr (by rcases ht.left with h1 | h1; · rw [h1]; exact hp
                                            · exact h1), ht.right⟩
theorem Turns.down {p : Nat → Bool} {i j h r : Nat} (hhj : h ≤ j) (hp : p h = false) (ht : Turns p i h r) : Turns p i j r :=
  ⟨ht.lo, by have := ht.hi; omega, ht.left, .inr (by rcases ht.right with h1 | h1; · rw [h1]; exact hp
                                                     · exact h1)⟩

/-! ### Merging two sorted neighbours -/
variable {lt R : α → α → Bool}

/-- Held against an earlier one of [a, m), a later one of [m, b) is less by lt just if it is by R. -/
def Cross (lt R : α → α → Bool) (a m b : Nat) (d : Array α) : Prop := ∀ x y, a ≤ x → x < m → m ≤ y → y < b → lt d[y]! d[x]! = R d[y]! d[x]!

/-- What a merge makes of [a, m) and [m, b). -/
def Merged (lt R : α → α → Bool) (a m b : Nat) (d d' : Array α) : Prop :=
  PermIn a b d d' ∧ (SWO R → SortedIn R a m d → SortedIn R m b d → Cross lt R a m b d → SortedIn R a b d')

theorem sle {a b : Nat} {d : Array α} (hO : SWO R) (h : SortedIn R a b d) {i j : Nat} (h1 : a ≤ i) (h2 : i ≤ j) (h3 : j < b) : R d[j]! d[i]! = false := by
  rcases Nat.lt_or_ge i j with h4 | h4
  · exact h i j h1 h4 h3
  · obtain rfl : i = j := by omega
    exact hO.irrefl _

/-- One element on the left. -/
theorem merged_one {a b i : Nat} {d d' : Array α} (hab : a + 1 < b) (hT : Turns (fun h => lt d[h]! d[a]!) (a + 1) b i) (hR : Rot a (a + 1) i d d') (hb : b ≤ d.size) : Merged lt R a (a + 1) b d d' := by
  have h1 := hT.lo
  have h2 := hT.hi
  refine ⟨permIn_mono _ _ _ _ _ _ (Nat.le_refl _) h2 hb hR.perm, fun hO sl sr hc => ?_⟩
  have hL : ∀ t, a + 1 ≤ t → t < i → R d[t]! d[a]! = true := fun t h3 h4 => by
    rcases hT.left with h5 | h5
    · omega
    · have h5 : lt d[i - 1]! d[a]! = true := h5
      rw [hc a (i - 1) (Nat.le_refl _) (by omega) (by omega) (by omega)] at h5
      cases h6 : R d[t]! d[a]!
      · have h7 := sle hO sr (i := t) (j := i - 1) (by omega) (by omega) (by omega)
        have := hO.ntrans _ _ _ h7 h6
        rw [h5] at this; cases this
      · rfl
  have hG : ∀ t, i ≤ t → t < b → R d[t]! d[a]! = false := fun t h3 h4 => by
    rcases hT.right with h5 | h5
    · omega
    · have h5 : lt d[i]! d[a]! = false := h5
      rw [hc a i (Nat.le_refl _) (by omega) (by omega) (by omega)] at h5
      exact hO.ntrans _ _ _ (sle hO sr (i := i) (j := t) (by omega) (by omega) (by omega)) h5
  intro s t h3 h4 h5
  by_cases hs1 : s < a + (i - (a + 1))
  · rw [hR.fst s h3 hs1]
    by_cases ht1 : t < a + (i - (a + 1))
    · rw [hR.fst t (by omega) ht1]
      exact sr _ _ (by omega) (by omega) (by omega)
    · by_cases ht2 : t < i
      · rw [hR.snd t (by omega) ht2, show t - (i - (a + 1)) = a by omega]
        exact hO.asymmA (hL _ (by omega) (by omega))
      · rw [hR.out t (Or.inr (by omega))]
        exact sr _ _ (by omega) (by omega) (by omega)
  · by_cases hs2 : s < i
    · rw [hR.snd s (by omega) hs2, show s - (i - (a + 1)) = a by omega, hR.out t (Or.inr (by omega))]
      exact hG t (by omega) (by omega)
    · rw [hR.out s (Or.inr (by omega)), hR.out t (Or.inr (by omega))]
      exact sr _ _ (by omega) (by omega) (by omega)

/-- One element on the right. -/
theorem merged_last {a m i : Nat} {d d' : Array α} (ham : a < m) (hT : Turns (fun h => !lt d[m]! d[h]!) a m i) (hR : Rot i m (m + 1) d d') (hb : m + 1 ≤ d.size) : Merged lt R a m (m + 1) d d' := by
  have h1 := hT.lo
  have h2 := hT.hi
  refine ⟨permIn_mono _ _ _ _ _ _ h1 (Nat.le_refl _) hb hR.perm, fun hO sl sr hc => ?_⟩
  have hL : ∀ t, a ≤ t → t < i → R d[m]! d[t]! = false := fun t h3 h4 => by
    rcases hT.left with h5 | h5
    · omega
    · have h5 : (!lt d[m]! d[i - 1]!) = true := h5
      rw [hc (i - 1) m (by omega) (by omega) (Nat.le_refl _) (by omega)] at h5
      exact hO.ntrans _ _ _ (by simpa using h5) (sle hO sl (i := t) (j := i - 1) (by omega) (by omega) (by omega))
  have hG : ∀ t, i ≤ t → t < m → R d[m]! d[t]! = true := fun t h3 h4 => by
    rcases hT.right with h5 | h5
    · omega
    · have h5 : (!lt d[m]! d[i]!) = false := h5
      rw [hc i m (by omega) (by omega) (Nat.le_refl _) (by omega)] at h5
      cases h6 : R d[m]! d[t]!
      · have h7 := hO.ntrans _ _ _ h6 (sle hO sl (i := i) (j := t) (by omega) (by omega) (by omega))
        rw [h7] at h5; cases h5
      · rfl
  intro s t h3 h4 h5
  by_cases hs1 : s < i
  · rw [hR.out s (Or.inl hs1)]
    by_cases ht1 : t < i
    · rw [hR.out t (Or.inl ht1)]
      exact sl _ _ (by omega) (by omega) (by omega)
    · by_cases ht2 : t = i
      · rw [hR.fst t (by omega) (by omega), show t + (m - i) = m by omega]
        exact hL s (by omega) (by omega)
      · rw [hR.snd t (by omega) (by omega)]
        exact sl _ _ (by omega) (by omega) (by omega)
  · by_cases hs2 : s = i
    · rw [hR.fst s (by omega) (by omega), show s + (m - i) = m by omega, hR.snd t (by omega) (by omega)]
      exact hO.asymmA (hG _ (by omega) (by omega))
    · rw [hR.snd s (by omega) (by omega), hR.snd t (by omega) (by omega)]
      exact sl _ _ (by omega) (by omega) (by omega)

/-- The middle: cut, rotate, merge both halves. -/
theorem merged_mid {a m b mid n s0 r0 st en : Nat} {d d1 d2 d3 : Array α} (ham : a < m) (hmb : m < b) (hb : b ≤ d.size) (hmid : mid = (a + b) / 2) (hn : n = mid + m)
    (hs : (mid < m ∧ s0 = n - b ∧ r0 = mid) ∨ (m ≤ mid ∧ s0 = a ∧ r0 = m)) (hT : Turns (fun c => !lt d[n - 1 - c]! d[c]!) s0 r0 st) (he : en = n - st)
    (h1 : (st < m ∧ m < en ∧ Rot st m en d d1) ∨ (¬ (st < m ∧ m < en) ∧ d1 = d))
    (h2 : (a < st ∧ st < mid ∧ Merged lt R a st mid d1 d2) ∨ (¬ (a < st ∧ st < mid) ∧ d2 = d1))
    (h3 : (mid < en ∧ en < b ∧ Merged lt R mid en b d2 d3) ∨ (¬ (mid < en ∧ en < b) ∧ d3 = d2)) : Merged lt R a m b d d3 := by
  have hlo := hT.lo
  have hhi := hT.hi
  have hast : a ≤ st := by omega
  have hstm : st ≤ m := by omega
  have hsmid : st ≤ mid := by omega
  have hmen : m ≤ en := by omega
  have henb : en ≤ b := by omega
  have hmide : mid = st + (en - m) := by omega
  have hRot : Rot st m en d d1 := by
    rcases h1 with ⟨_, _, h⟩ | ⟨h, rfl⟩
    · exact h
    · by_cases h4 : m < en
      · obtain rfl : st = m := by omega
        exact ⟨permIn_refl _ _ _, fun t _ _ => by rw [Nat.sub_self, Nat.add_zero], fun t _ _ => by omega⟩
      · obtain rfl : m = en := by omega
        exact Rot.none _ _ _ hstm
  have sz1 : d1.size = d.size := hRot.perm.1
  have p2 : PermIn a mid d1 d2 := by
    rcases h2 with ⟨_, _, h⟩ | ⟨_, rfl⟩
    · exact h.1
    · exact permIn_refl _ _ _
  have sz2 : d2.size = d1.size := p2.1
  have p3 : PermIn mid b d2 d3 := by
    rcases h3 with ⟨_, _, h⟩ | ⟨_, rfl⟩
    · exact h.1
    · exact permIn_refl _ _ _
  refine ⟨permIn_trans _ _ _ _ _ (permIn_mono _ _ _ _ _ _ hast henb hb hRot.perm) (permIn_trans _ _ _ _ _ (permIn_mono _ _ _ _ _ _ (Nat.le_refl _) (by omega) (by omega) p2) (permIn_mono _ _ _ _ _ _ (by omega) (Nat.le_refl _) (by omega) p3)), fun hO sl sr hc => ?_⟩
  -- the four parts
  have u1v2 : ∀ x y, a ≤ x → x < st → en ≤ y → y < b → R d[y]! d[x]! = false := fun x y k1 k2 k3 k4 => by
    rcases hT.left with h5 | h5
    · omega
    · have h5 : (!lt d[n - 1 - (st - 1)]! d[st - 1]!) = true := h5
      rw [show n - 1 - (st - 1) = en by omega, hc (st - 1) en (by omega) (by omega) hmen (by omega)] at h5
      have h6 : R d[en]! d[st - 1]! = false := by simpa using h5
      exact hO.ntrans _ _ _ (sle hO sr (i := en) (j := y) hmen k3 k4) (hO.ntrans _ _ _ h6 (sle hO sl (i := x) (j := st - 1) k1 (by omega) (by omega)))
  have v1u2 : ∀ x y, m ≤ x → x < en → st ≤ y → y < m → R d[x]! d[y]! = true := fun x y k1 k2 k3 k4 => by
    rcases hT.right with h5 | h5
    · omega
    · have h5 : (!lt d[n - 1 - st]! d[st]!) = false := h5
      rw [show n - 1 - st = en - 1 by omega, hc st (en - 1) (by omega) (by omega) (by omega) (by omega)] at h5
      have h6 : R d[en - 1]! d[st]! = true := by simpa using h5
      cases h7 : R d[x]! d[y]!
      · have h8 := hO.ntrans _ _ _ (hO.ntrans _ _ _ (sle hO sr (i := x) (j := en - 1) k1 (by omega) (by omega)) h7) (sle hO sl (i := st) (j := y) hast k3 k4)
        rw [h6] at h8; cases h8
      · rfl
  -- where they lie behind the rotation
  have gU1 : ∀ t, t < st → d1[t]! = d[t]! := fun t h => hRot.out t (Or.inl h)
  have gV1 : ∀ t, st ≤ t → t < mid → d1[t]! = d[t + (m - st)]! := fun t k1 k2 => hRot.fst t k1 (by omega)
  have gU2 : ∀ t, mid ≤ t → t < en → d1[t]! = d[t - (en - m)]! := fun t k1 k2 => hRot.snd t (by omega) k2
  have gV2 : ∀ t, en ≤ t → d1[t]! = d[t]! := fun t h => hRot.out t (Or.inr h)
  -- the left half, the right half
  have cross1 : ∀ x y, a ≤ x → x < mid → mid ≤ y → y < b → R d1[y]! d1[x]! = false := fun x y k1 k2 k3 k4 => by
    by_cases hx : x < st
    · rw [gU1 x hx]
      by_cases hy : y < en
      · rw [gU2 y k3 hy]; exact sl _ _ k1 (by omega) (by omega)
      · rw [gV2 y (by omega)]; exact u1v2 x y k1 hx (by omega) k4
    · rw [gV1 x (by omega) k2]
      by_cases hy : y < en
      · rw [gU2 y k3 hy]; exact hO.asymmA (v1u2 _ _ (by omega) (by omega) (by omega) (by omega))
      · rw [gV2 y (by omega)]; exact sr _ _ (by omega) (by omega) k4
  have cross2 : ∀ x y, a ≤ x → x < mid → mid ≤ y → y < b → R d2[y]! d2[x]! = false := fun x y k1 k2 k3 k4 =>
    permIn_all d1 d2 a mid (fun v => R d2[y]! v = false) (by omega) p2 (fun t k5 k6 => by
      rw [p2.2.1 y (Or.inr k3)]; exact cross1 t y k5 k6 k3 k4) x k1 k2
  have cross3 : ∀ x y, a ≤ x → x < mid → mid ≤ y → y < b → R d3[y]! d3[x]! = false := fun x y k1 k2 k3 k4 =>
    permIn_all d2 d3 mid b (fun v => R v d3[x]! = false) (by omega) p3 (fun t k5 k6 => by
      rw [p3.2.1 x (Or.inl k2)]; exact cross2 x t k1 k2 k5 k6) y k3 k4
  have left2 : SortedIn R a mid d2 := by
    rcases h2 with ⟨k1, k2, h⟩ | ⟨k1, rfl⟩
    · refine h.2 hO ?_ ?_ ?_
      · intro i j j1 j2 j3
        rw [gU1 i (by omega), gU1 j j3]; exact sl _ _ j1 j2 (by omega)
      · intro i j j1 j2 j3
        rw [gV1 i j1 (by omega), gV1 j (by omega) j3]; exact sr _ _ (by omega) (by omega) (by omega)
      · intro x y j1 j2 j3 j4
        rw [gU1 x j2, gV1 y j3 j4]; exact hc _ _ j1 (by omega) (by omega) (by omega)
    · intro i j j1 j2 j3
      by_cases hst : st ≤ a
      · rw [gV1 i (by omega) (by omega), gV1 j (by omega) j3]; exact sr _ _ (by omega) (by omega) (by omega)
      · rw [gU1 i (by omega), gU1 j (by omega)]; exact sl _ _ j1 j2 (by omega)
  have right3 : SortedIn R mid b d3 := by
    have e2 : ∀ t, mid ≤ t → d2[t]! = d1[t]! := fun t h => p2.2.1 t (Or.inr h)
    rcases h3 with ⟨k1, k2, h⟩ | ⟨k1, rfl⟩
    · refine h.2 hO ?_ ?_ ?_
      · intro i j j1 j2 j3
        rw [e2 i j1, e2 j (by omega), gU2 i j1 (by omega), gU2 j (by omega) j3]; exact sl _ _ (by omega) (by omega) (by omega)
      · intro i j j1 j2 j3
        rw [e2 i (by omega), e2 j (by omega), gV2 i j1, gV2 j (by omega)]; exact sr _ _ (by omega) j2 j3
      · intro x y j1 j2 j3 j4
        rw [e2 x j1, e2 y (by omega), gU2 x j1 j2, gV2 y j3]; exact hc _ _ (by omega) (by omega) (by omega) j4
    · intro i j j1 j2 j3
      rw [e2 i j1, e2 j (by omega)]
      by_cases hst : en ≤ mid
      · rw [gV2 i (by omega), gV2 j (by omega)]; exact sr _ _ (by omega) j2 j3
      · rw [gU2 i (by omega) (by omega), gU2 j (by omega) (by omega)]; exact sl _ _ (by omega) (by omega) (by omega)
  intro i j j1 j2 j3
  by_cases hj : j < mid
  · rw [p3.2.1 i (Or.inl (by omega)), p3.2.1 j (Or.inl hj)]; exact left2 i j j1 j2 hj
  · by_cases hi : i < mid
    · exact cross3 i j j1 hi (by omega) j3
    · exact right3 i j (by omega) j2 j3

/-! ### insertionSort where lt and R agree -/
theorem insInner_agree (a : Nat) : ∀ (j : Nat) (d : Array α), a ≤ j → j < d.size → (∀ t, a ≤ t → t < j → lt d[j]! d[t]! = R d[j]! d[t]!) → insInner lt a j d = insInner R a j d
  | 0, d, _, _, _ => rfl
  | j + 1, d, ha, hj, h => by
    rw [insInner, insInner]
    by_cases h1 : j + 1 > a
    · rw [h j (by omega) (by omega)]
      cases h2 : R d[j + 1]! d[j]!
      · simp
      · simp only [h1, decide_true, Bool.and_self, if_true]
        have g := swp_get d (i := j + 1) (j := j) hj (by omega)
        refine insInner_agree a j _ (by omega) (by rw [size_swp]; omega) fun t h3 h4 => ?_
        rw [g, g, if_pos rfl, if_neg (by omega), if_neg (by omega)]
        exact h t h3 (by omega)
    · simp [h1]

theorem insInner_perm (hO : SWO R) (a b i : Nat) (hib : i < b) (d : Array α) (hai : a ≤ i) (hb : b ≤ d.size) (hs : SortedIn R a i d) : PermIn a (i + 1) d (insInner R a i d) ∧ SortedIn R a (i + 1) (insInner R a i d) :=
  insInner_spec hO swp_permIn permIn_refl permIn_trans a (i + 1) i (by omega) i d hai (Nat.le_refl _) (by omega) ⟨fun p q hap hpq hqi _ hq => hs p q hap hpq (by omega), fun q h1 h2 => by omega⟩

theorem io_go (f : α → α → Bool) {a b i : Nat} (d : Array α) (h : i < b) : insOuter f a b i d = insOuter f a b (i + 1) (insInner f a i d) := by rw [insOuter, if_pos h]
theorem io_stop (f : α → α → Bool) {a b i : Nat} (d : Array α) (h : ¬ i < b) : insOuter f a b i d = d := by rw [insOuter, if_neg h]

theorem insOuter_agree (hO : SWO R) (a b : Nat) : ∀ (n i : Nat) (d : Array α), b - i = n → a < i → i ≤ b → b ≤ d.size → SortedIn R a i d → (∀ s t, a ≤ s → s < t → i ≤ t → t < b → lt d[t]! d[s]! = R d[t]! d[s]!) → insOuter lt a b i d = insOuter R a b i d
  | 0, i, d, hn, _, hib, _, _, _ => by
    rw [io_stop lt d (by omega), io_stop R d (by omega)]
  | n + 1, i, d, hn, hai, hib, hb, hs, h => by
    have hlt : i < b := by omega
    rw [io_go lt d hlt, io_go R d hlt, insInner_agree a i d (by omega) (by omega) (fun t h1 h2 => h t i h1 h2 (Nat.le_refl _) hlt)]
    have hp := insInner_perm hO a b i hlt d (by omega) hb hs
    refine insOuter_agree hO a b n (i + 1) _ (by omega) (by omega) (by omega) (by rw [hp.1.1]; exact hb) hp.2 fun s t h1 h2 h3 h4 => ?_
    rw [hp.1.2.1 t (Or.inr h3)]
    by_cases h5 : s < i + 1
    · exact permIn_all d _ a (i + 1) (fun v => lt d[t]! v = R d[t]! v) (by omega) hp.1 (fun q h6 h7 => h q t h6 (by omega) (by omega) h4) s h1 h5
    · rw [hp.1.2.1 s (Or.inr (by omega))]
      exact h s t h1 h2 (by omega) h4

theorem insertionSort_agree (hO : SWO R) (a b : Nat) (d : Array α) (hab : a ≤ b) (hb : b ≤ d.size) (h : ∀ s t, a ≤ s → s < t → t < b → lt d[t]! d[s]! = R d[t]! d[s]!) : SortedIn R a b (insertionSort lt d a b) := by
  have e : insertionSort lt d a b = insertionSort R d a b := by
    unfold insertionSort
    by_cases hab' : a = b
    · rw [io_stop lt d (by omega), io_stop R d (by omega)]
    · exact insOuter_agree hO a b _ (a + 1) d rfl (by omega) (by omega) hb (fun i j h1 h2 h3 => by omega) fun s t h1 h2 h3 h4 => h s t h1 h2 h4
  rw [e]
  exact (insertionSort_holds hO d a b hab hb).2

theorem insInner_permAny (a b : Nat) : ∀ (j : Nat) (d : Array α), j < b → b ≤ d.size → PermIn a b d (insInner lt a j d)
  | 0, d, _, _ => permIn_refl _ _ _
  | j + 1, d, hj, hb => by
    unfold insInner
    split
    · rename_i hc
      simp only [Bool.and_eq_true, decide_eq_true_eq] at hc
      exact permIn_trans _ _ _ _ _ (swp_permIn _ _ _ _ _ (by omega) hj (by omega) (by omega) hb) (insInner_permAny a b j _ (by omega) (by rw [size_swp]; exact hb))
    · exact permIn_refl _ _ _

theorem insOuter_permAny (a b : Nat) : ∀ (n i : Nat) (d : Array α), b - i = n → b ≤ d.size → PermIn a b d (insOuter lt a b i d)
  | 0, i, d, hn, _ => by rw [io_stop lt d (by omega)]; exact permIn_refl _ _ _
  | n + 1, i, d, hn, hb => by
    rw [io_go lt d (by omega)]
    have hp := insInner_permAny (lt := lt) a b i d (by omega) hb
    exact permIn_trans _ _ _ _ _ hp (insOuter_permAny a b n (i + 1) _ (by omega) (by rw [hp.1]; exact hb))

theorem insertionSort_permAny (a b : Nat) (d : Array α) (hb : b ≤ d.size) : PermIn a b d (insertionSort lt d a b) := insOuter_permAny a b _ _ d rfl hb

/-! ### The blocks -/
theorem dvd_le {s a c : Nat} (hc : s ∣ c) (ha : s ∣ a) (h : c < a + s) : c ≤ a := by
  obtain ⟨k, rfl⟩ := hc
  obtain ⟨l, rfl⟩ := ha
  have h1 : s * k < s * (l + 1) := by rw [Nat.mul_add, Nat.mul_one]; exact h
  have h2 : k < l + 1 := Nat.lt_of_mul_lt_mul_left h1
  exact Nat.mul_le_mul_left s (by omega)

theorem dvd_lt {s a c : Nat} (hc : s ∣ c) (ha : s ∣ a) (h : c < a) : c + s ≤ a := by
  rcases Nat.lt_or_ge a (c + s) with h1 | h1
  · have := dvd_le ha hc h1; omega
  · exact h1

/-- A cut at c: later ones against earlier ones. -/
abbrev CutAt (lt R : α → α → Bool) (n c : Nat) (d : Array α) : Prop := Cross lt R 0 c n d

theorem CutAt.perm {n c a b : Nat} {d d' : Array α} (h : CutAt lt R n c d) (hp : PermIn a b d d') (hb : b ≤ n) (hn : n ≤ d.size) (hc : c ≤ a ∨ b ≤ c) : CutAt lt R n c d' := by
  have key : ∀ (P : α → Prop) (l u : Nat), (u ≤ a ∨ b ≤ u) → (l ≤ a ∨ b ≤ l) → u ≤ n → (∀ t, l ≤ t → t < u → P d[t]!) → ∀ t, l ≤ t → t < u → P d'[t]! := fun P l u h1 h2 h3 h4 t h5 h6 => by
    by_cases h7 : t < a ∨ b ≤ t
    · rw [hp.2.1 t h7]; exact h4 t h5 h6
    · exact permIn_all d d' a b P (by omega) hp (fun q h8 h9 => h4 q (by omega) (by omega)) t (by omega) (by omega)
  intro x y h1 h2 h3 h4
  refine key (fun v => lt v d'[x]! = R v d'[x]!) c n (by omega) hc (Nat.le_refl _) (fun y' h5 h6 => ?_) y h3 h4
  exact key (fun v => lt d[y']! v = R d[y']! v) 0 c hc (by omega) (by omega) (fun x' h7 h8 => h x' y' h7 h8 h5 h6) x h1 h2

/-- Blocks of s are sorted; at their ends the relations agree. -/
def Blocks (lt R : α → α → Bool) (n s : Nat) (d : Array α) : Prop := ∀ c, s ∣ c → SortedIn R c (min (c + s) n) d ∧ CutAt lt R n c d

/-- In the middle of a pass: blocks of 2 s ahead of a, of s behind it. -/
structure Pass (lt R : α → α → Bool) (n s a : Nat) (d : Array α) : Prop where
  done : ∀ c, 2 * s ∣ c → c < a → SortedIn R c (c + 2 * s) d
  left : ∀ c, s ∣ c → a ≤ c → SortedIn R c (min (c + s) n) d
  cuts : ∀ c, 2 * s ∣ c → CutAt lt R n c d
  cutl : ∀ c, s ∣ c → a ≤ c → CutAt lt R n c d

theorem dvd_two {s c : Nat} (h : 2 * s ∣ c) : s ∣ c := Nat.dvd_trans (Nat.dvd_mul_left s 2) h

theorem Pass.start {n s : Nat} {d : Array α} (h : Blocks lt R n s d) : Pass lt R n s 0 d :=
  ⟨fun c _ h1 => by omega, fun c h1 _ => (h c h1).1, fun c h1 => (h c (dvd_two h1)).2, fun c h1 _ => (h c h1).2⟩

theorem ssame {a b : Nat} {d d' : Array α} (h : SortedIn R a b d) (he : ∀ t, a ≤ t → t < b → d'[t]! = d[t]!) : SortedIn R a b d' := fun i j h1 h2 h3 => by
  rw [he i h1 (by omega), he j (by omega) h3]; exact h i j h1 h2 h3

/-- A merge of two blocks. -/
theorem Pass.step {n s a : Nat} {d d' : Array α} (hO : SWO R) (h : Pass lt R n s a d) (hn : n = d.size) (ha : 2 * s ∣ a) (hb : a + 2 * s ≤ n) (hs : 0 < s) (hm : Merged lt R a (a + s) (a + 2 * s) d d') : Pass lt R n s (a + 2 * s) d' := by
  have hp := hm.1
  have sA := h.left a (dvd_two ha) (Nat.le_refl _)
  have sB := h.left (a + s) (Nat.dvd_add (dvd_two ha) (Nat.dvd_refl s)) (by omega)
  rw [Nat.min_eq_left (by omega)] at sA sB
  rw [show a + s + s = a + 2 * s by omega] at sB
  have hcut := h.cutl (a + s) (Nat.dvd_add (dvd_two ha) (Nat.dvd_refl s)) (by omega)
  have hS := hm.2 hO sA sB (fun x y h1 h2 h3 h4 => hcut x y (Nat.zero_le _) h2 h3 (by omega))
  refine ⟨fun c h1 h2 => ?_, fun c h1 h2 => ?_, fun c h1 => ?_, fun c h1 h2 => ?_⟩
  · rcases Nat.lt_or_ge c a with h3 | h3
    · have h4 := dvd_lt h1 ha h3
      exact ssame (h.done c h1 h3) fun t h5 h6 => hp.2.1 t (Or.inl (by omega))
    · obtain rfl : c = a := by have := dvd_le h1 ha (by omega); omega
      exact hS
  · exact ssame (h.left c h1 (by omega)) fun t h5 h6 => hp.2.1 t (Or.inr (by omega))
  · refine (h.cuts c h1).perm hp hb (by omega) ?_
    rcases Nat.lt_or_ge c (a + 2 * s) with h3 | h3
    · exact Or.inl (dvd_le h1 ha h3)
    · exact Or.inr h3
  · exact (h.cutl c h1 (by omega)).perm hp hb (by omega) (Or.inr h2)

/-- The end of a pass: one block and a part of another one are left, and are merged. -/
theorem Pass.last {n s a : Nat} {d d' : Array α} (hO : SWO R) (h : Pass lt R n s a d) (hn : n = d.size) (ha : 2 * s ∣ a) (han : a ≤ n) (hb : n < a + 2 * s) (hlt : a + s < n) (hm : Merged lt R a (a + s) n d d') : Blocks lt R n (2 * s) d' := by
  have hp := hm.1
  have sA := h.left a (dvd_two ha) (Nat.le_refl _)
  have sB := h.left (a + s) (Nat.dvd_add (dvd_two ha) (Nat.dvd_refl s)) (by omega)
  rw [Nat.min_eq_left (by omega)] at sA
  rw [Nat.min_eq_right (by omega)] at sB
  have hcut := h.cutl (a + s) (Nat.dvd_add (dvd_two ha) (Nat.dvd_refl s)) (by omega)
  have hS := hm.2 hO sA sB (fun x y h1 h2 h3 h4 => hcut x y (Nat.zero_le _) h2 h3 (by omega))
  refine fun c hc => ⟨?_, ?_⟩
  · rcases Nat.lt_or_ge c a with h3 | h3
    · have h4 := dvd_lt hc ha h3
      rw [Nat.min_eq_left (by omega)]
      exact ssame (h.done c hc h3) fun t h5 h6 => hp.2.1 t (Or.inl (by omega))
    · rcases Nat.lt_or_ge c (a + 2 * s) with h4 | h4
      · obtain rfl : c = a := by have := dvd_le hc ha (by omega); omega
        rw [Nat.min_eq_right (by omega)]
        exact hS
      · intro i j h1 h2 h3; omega
  · refine (h.cuts c hc).perm hp (Nat.le_refl _) (by omega) ?_
    rcases Nat.lt_or_ge c (a + 2 * s) with h3 | h3
    · exact Or.inl (dvd_le hc ha h3)
    · exact Or.inr (by omega)

/-- The end of a pass: at most one block is left. -/
theorem Pass.end {n s a : Nat} {d : Array α} (h : Pass lt R n s a d) (ha : 2 * s ∣ a) (han : a ≤ n) (hb : n < a + 2 * s) (hlt : ¬ a + s < n) : Blocks lt R n (2 * s) d := by
  refine fun c hc => ⟨?_, h.cuts c hc⟩
  rcases Nat.lt_or_ge c a with h3 | h3
  · have h4 := dvd_lt hc ha h3
    rw [Nat.min_eq_left (by omega)]
    exact h.done c hc h3
  · rcases Nat.lt_or_ge c (a + 2 * s) with h4 | h4
    · obtain rfl : c = a := by have := dvd_le hc ha (by omega); omega
      have := h.left c (dvd_two ha) (Nat.le_refl _)
      rw [Nat.min_eq_right (by omega)] at this ⊢
      exact this
    · intro i j h1 h2 h3; omega

/-- In the middle of the first pass: blocks of s ahead of a are sorted, the rest is as it was. -/
structure First (lt R : α → α → Bool) (n s a : Nat) (d0 d : Array α) : Prop where
  done : ∀ c, s ∣ c → c < a → SortedIn R c (c + s) d
  cuts : ∀ c, s ∣ c → CutAt lt R n c d
  same : ∀ t, a ≤ t → d[t]! = d0[t]!

/-- Each later one against each earlier one. -/
def Agrees (lt R : α → α → Bool) (n : Nat) (d : Array α) : Prop := ∀ x y, x < y → y < n → lt d[y]! d[x]! = R d[y]! d[x]!

theorem First.start {n s : Nat} {d : Array α} (h : Agrees lt R n d) : First lt R n s 0 d d :=
  ⟨fun c _ h1 => by omega, fun c _ x y _ h2 h3 h4 => h x y (by omega) h4, fun t _ => rfl⟩

theorem First.step {n s a : Nat} {d0 d : Array α} (hO : SWO R) (hA : Agrees lt R n d0) (h : First lt R n s a d0 d) (hn : n = d.size) (ha : s ∣ a) (hb : a + s ≤ n) : First lt R n s (a + s) d0 (insertionSort lt d a (a + s)) := by
  have hp := insertionSort_permAny (lt := lt) a (a + s) d (by omega)
  have hS := insertionSort_agree (lt := lt) hO a (a + s) d (by omega) (by omega) (fun x y h1 h2 h3 => by rw [h.same x h1, h.same y (by omega)]; exact hA x y h2 (by omega))
  refine ⟨fun c h1 h2 => ?_, fun c h1 => ?_, fun t h1 => ?_⟩
  · rcases Nat.lt_or_ge c a with h3 | h3
    · have h4 := dvd_lt h1 ha h3
      exact ssame (h.done c h1 h3) fun t h5 h6 => hp.2.1 t (Or.inl (by omega))
    · obtain rfl : c = a := by have := dvd_le h1 ha (by omega); omega
      exact hS
  · refine (h.cuts c h1).perm hp hb (by omega) ?_
    rcases Nat.lt_or_ge c (a + s) with h3 | h3
    · exact Or.inl (dvd_le h1 ha h3)
    · exact Or.inr h3
  · rw [hp.2.1 t (Or.inr (by omega))]; exact h.same t (by omega)

theorem First.last {n s a : Nat} {d0 d : Array α} (hO : SWO R) (hA : Agrees lt R n d0) (h : First lt R n s a d0 d) (hn : n = d.size) (ha : s ∣ a) (han : a ≤ n) (hb : n < a + s) : Blocks lt R n s (insertionSort lt d a n) := by
  have hp := insertionSort_permAny (lt := lt) a n d (by omega)
  have hS := insertionSort_agree (lt := lt) hO a n d (by omega) (by omega) (fun x y h1 h2 h3 => by rw [h.same x h1, h.same y (by omega)]; exact hA x y h2 (by omega))
  refine fun c hc => ⟨?_, ?_⟩
  · rcases Nat.lt_or_ge c a with h3 | h3
    · have h4 := dvd_lt hc ha h3
      rw [Nat.min_eq_left (by omega)]
      exact ssame (h.done c hc h3) fun t h5 h6 => hp.2.1 t (Or.inl (by omega))
    · rcases Nat.lt_or_ge c (a + s) with h4 | h4
      · obtain rfl : c = a := by have := dvd_le hc ha (by omega); omega
        rw [Nat.min_eq_right (by omega)]
        exact hS
      · intro i j h1 h2 h3; omega
  · refine (h.cuts c hc).perm hp (Nat.le_refl _) (by omega) ?_
    rcases Nat.lt_or_ge c (a + s) with h3 | h3
    · exact Or.inl (dvd_le hc ha h3)
    · exact Or.inr (by omega)

theorem Blocks.all {n s : Nat} {d : Array α} (h : Blocks lt R n s d) (hn : n ≤ s) : SortedIn R 0 n d := by
  have := (h 0 (Nat.dvd_zero s)).1
  rwa [Nat.zero_add, Nat.min_eq_right hn] at this
end
#print axioms merged_mid
#print axioms Pass.last
#print axioms First.last
end Go.Proofs.Ytaifikhgijnkgaa
