/- Rows that a call has made itself: what they hold, that they stay, what a store does. No conditions. -/
import Derived.Test.YtaifikhgijnkgaaKit
import Derived.Laws.AppendOwnNone
namespace Go.Proofs.Ytaifikhgijnkgaa
open Go.RowKit
set_option linter.unusedVariables false
set_option linter.unusedSectionVars false

section
variable {α : Type} [Inhabited α]

theorem flat_length (C : Nat) (encL : α → List Value) (hC : ∀ x, (encL x).length = C) (xs : List α) : (xs.flatMap encL).length = xs.length * C := by
  induction xs with
  | nil => simp
  | cons x xs ih => simp [hC, ih, Nat.add_mul]; omega

theorem flat_get (C : Nat) (encL : α → List Value) (hC : ∀ x, (encL x).length = C) (xs : List α) (i j : Nat) (hi : i < xs.length) (hj : j < C) :
    (xs.flatMap encL)[i * C + j]? = (encL (el xs i))[j]? := by
  induction xs generalizing i with
  | nil => simp at hi
  | cons x xs ih =>
    rw [List.flatMap_cons]
    cases i with
    | zero => rw [List.getElem?_append_left (by rw [hC]; omega)]; simp [el]
    | succ i =>
      have h1 : (i + 1) * C + j = i * C + j + C := by rw [Nat.add_mul]; omega
      rw [List.getElem?_append_right (by rw [hC, h1]; omega), hC, h1, Nat.add_sub_cancel, ih i (by simpa using hi)]
      simp [el]

/-- The slice v is a row that the call has made (from block base on), and holds xs. -/
def Own (C : Nat) (encL : α → List Value) (e : TypeId) (w : World) (base : Nat) (v : Value) (xs : List α) : Prop := w.ownsRow base e C v xs.length (xs.flatMap encL)

theorem Own.slk {C : Nat} {encL : α → List Value} {e : TypeId} {w : World} {base : Nat} {v : Value} {xs : List α} (hC : ∀ x, (encL x).length = C) (h : Own C encL e w base v xs) :
    ∃ a cap, v = .slice a xs.length cap ∧ SlK C encL w a xs.length cap xs ∧ cap ≤ maxLen ∧ (∀ ad, a = some ad → base ≤ ad.block) := by
  obtain ⟨_, ⟨hv, hn⟩ | ⟨g, cap, cur, hv, hg, hh, hn, hm, hs, ht⟩⟩ := h
  · refine ⟨none, 0, by rw [hv, hn], ⟨rfl, by omega, fun _ => rfl, .inl hn⟩, by simp [maxLen], by simp⟩
  · refine ⟨some ⟨g, 0, none⟩, cap, hv, ⟨rfl, hn, (fun h => by cases h), ?_⟩, hm, fun ad h => by cases h; exact hg⟩
    right
    have hb : g < w.heap.size := by
      rcases Nat.lt_or_ge g w.heap.size with h | h
      · exact h
      · rw [Array.getElem?_eq_none h] at hh; cases hh
    refine ⟨g, 0, rfl, hb, fun i hi j hj => ?_⟩
    have h1 : i * C + j < xs.length * C := by
      have : (i + 1) * C ≤ xs.length * C := Nat.mul_le_mul_right _ hi
      rw [Nat.add_mul] at this; omega
    rw [← flat_get C encL hC xs i j hi hj, ← ht]
    rw [List.getElem?_take_of_lt h1]
    simp [World.cell?, hh]

theorem SlK.below {C : Nat} {encL : α → List Value} {w w' : World} {B : Nat} {a : Option Addr} {len cap : Nat} {xs : List α} (h : SlK C encL w a len cap xs) (hb : Below B w w') (hB : ∀ ad, a = some ad → ad.block < B) : SlK C encL w' a len cap xs := by
  obtain ⟨h1, h2, h3, h4⟩ := h
  refine ⟨h1, h2, h3, h4.imp id ?_⟩
  rintro ⟨b, off, ha, hbk, hc⟩
  have hlt := hB _ ha
  exact ⟨b, off, ha, Nat.lt_of_lt_of_le hbk hb.size, fun i hi j hj => by rw [hb.cell (p := ⟨b, off + i * C + j, none⟩) hlt]; exact hc i hi j hj⟩

theorem Sl.below' {enc : α → Value} {w w' : World} {B : Nat} {a : Option Addr} {len cap : Nat} {xs : List α} (h : Sl enc w a len cap xs) (hb : Below B w w') (hB : len ≠ 0 → ∀ ad, a = some ad → ad.block < B) : Sl enc w' a len cap xs := by
  obtain ⟨h1, h2, h3, h4⟩ := h
  rcases h4 with h4 | ⟨b, off, ha, hbk, hc⟩
  · exact ⟨h1, h2, h3, .inl h4⟩
  · by_cases h0 : len = 0
    · exact ⟨h1, h2, h3, .inl h0⟩
    · have hlt := hB h0 _ ha
      exact ⟨h1, h2, h3, .inr ⟨b, off, ha, Nat.lt_of_lt_of_le hbk hb.size, fun i hi => by rw [hb.cell (p := ⟨b, off + i, none⟩) hlt]; exact hc i hi⟩⟩

/-- What a slice read, it reads where nothing that was there has turned. -/
theorem Sl.below {enc : α → Value} {w w' : World} {a : Option Addr} {len cap : Nat} {xs : List α} (h : Sl enc w a len cap xs) (hb : Below w.heap.size w w') : Sl enc w' a len cap xs := by
  obtain ⟨h1, h2, h3, h4⟩ := h
  rcases h4 with h4 | ⟨b, off, ha, hbk, hc⟩
  · exact ⟨h1, h2, h3, .inl h4⟩
  · exact ⟨h1, h2, h3, .inr ⟨b, off, ha, Nat.lt_of_lt_of_le hbk hb.size, fun i hi => by rw [hb.cell (p := ⟨b, off + i, none⟩) hbk]; exact hc i hi⟩⟩

theorem SlK.belowS {C : Nat} {encL : α → List Value} {w w' : World} {a : Option Addr} {len cap : Nat} {xs : List α} (h : SlK C encL w a len cap xs) (hb : Below w.heap.size w w') : SlK C encL w' a len cap xs := by
  obtain ⟨h1, h2, h3, h4⟩ := h
  rcases h4 with h4 | ⟨b, off, ha, hbk, hc⟩
  · exact ⟨h1, h2, h3, .inl h4⟩
  · exact ⟨h1, h2, h3, .inr ⟨b, off, ha, Nat.lt_of_lt_of_le hbk hb.size, fun i hi j hj => by rw [hb.cell (p := ⟨b, off + i * C + j, none⟩) hbk]; exact hc i hi j hj⟩⟩

/-- The source of an append: the cells of the slice, one behind the other. -/
theorem SlK.src {C : Nat} {encL : α → List Value} (hC : ∀ x, (encL x).length = C) (hp : 0 < C) {w : World} {ad : Addr} {len cap : Nat} {xs : List α} (h : SlK C encL w (some ad) len cap xs) :
    ∀ j u, (xs.flatMap encL)[j]? = some u → w.cell? (ad.add j) = some u := by
  obtain ⟨h1, _, _, h4⟩ := h
  intro j u hu
  have hl : j < xs.length * C := by rw [← flat_length C encL hC]; exact (List.getElem?_eq_some_iff.1 hu).1
  rcases h4 with h4 | ⟨b, off, ha, _, hc⟩
  · rw [h1, h4] at hl; simp at hl
  · cases ha
    have hdm := Nat.div_add_mod j C
    have h2 : j / C < xs.length := Nat.div_lt_of_lt_mul (by rw [Nat.mul_comm]; exact hl)
    have h3 := Nat.mod_lt j hp
    have h5 := hc (j / C) (by omega) (j % C) h3
    rw [← flat_get C encL hC xs (j / C) (j % C) h2 h3] at h5
    have h6 : j / C * C + j % C = j := by rw [Nat.mul_comm]; exact hdm
    rw [Nat.add_assoc, h6] at h5
    rw [addr_add, h5, hu]

theorem Sl.slk {enc : α → Value} {w : World} {a : Option Addr} {len cap : Nat} {xs : List α} (h : Sl enc w a len cap xs) : SlK 1 (fun x => [enc x]) w a len cap xs := by
  obtain ⟨h1, h2, h3, h4⟩ := h
  refine ⟨h1, h2, h3, h4.imp id ?_⟩
  rintro ⟨b, off, ha, hb, hc⟩
  refine ⟨b, off, ha, hb, fun i hi j hj => ?_⟩
  obtain rfl : j = 0 := by omega
  simpa using hc i hi

theorem Own.sl {enc : α → Value} {e : TypeId} {w : World} {base : Nat} {v : Value} {xs : List α} (h : Own 1 (fun x => [enc x]) e w base v xs) :
    ∃ a cap, v = .slice a xs.length cap ∧ Sl enc w a xs.length cap xs ∧ cap ≤ maxLen ∧ (∀ ad, a = some ad → base ≤ ad.block) := by
  obtain ⟨a, cap, h1, h2, h3, h4⟩ := Own.slk (C := 1) (encL := fun x => [enc x]) (fun _ => rfl) h
  exact ⟨a, cap, h1, h2.one, h3, h4⟩

/-- Two places exchanged. -/
def swapL (xs : List α) (i j : Nat) : List α := (xs.set i (el xs j)).set j (el xs i)

theorem swapL_length (xs : List α) (i j : Nat) : (swapL xs i j).length = xs.length := by simp [swapL]

theorem el_set (xs : List α) (i k : Nat) (x : α) (hk : k < xs.length) : el (xs.set i x) k = if i = k then x else el xs k := by
  rw [el_eq _ _ (by simpa using hk), List.getElem_set]
  split
  · rfl
  · rw [el_eq _ _ hk]

theorem el_swapL (xs : List α) (i j k : Nat) (hk : k < xs.length) : el (swapL xs i j) k = if j = k then el xs i else if i = k then el xs j else el xs k := by
  unfold swapL
  rw [el_set _ _ _ _ (by simpa using hk), el_set _ _ _ _ hk]

theorem ext_el {xs ys : List α} (hl : xs.length = ys.length) (h : ∀ k, k < xs.length → el xs k = el ys k) : xs = ys := by
  refine List.ext_getElem hl fun k h1 h2 => ?_
  rw [← el_eq, ← el_eq]
  exact h k h1

theorem swapL_self (xs : List α) (i : Nat) (hi : i < xs.length) : swapL xs i i = xs := by
  refine ext_el (swapL_length _ _ _) fun k hk => ?_
  rw [swapL_length] at hk
  rw [el_swapL _ _ _ _ hk]
  split <;> simp_all

theorem swapL_twice (xs : List α) (i j : Nat) (hi : i < xs.length) (hj : j < xs.length) : swapL (swapL xs i j) i j = xs := by
  refine ext_el (by simp [swapL_length]) fun k hk => ?_
  simp only [swapL_length] at hk
  rw [el_swapL _ _ _ _ (by rw [swapL_length]; exact hk), el_swapL _ _ _ _ hi, el_swapL _ _ _ _ hj, el_swapL _ _ _ _ hk]
  split
  · subst_vars; split
    · subst_vars; rfl
    · simp
  · split
    · subst_vars; simp
    · simp_all

theorem Own.swap1 {enc : α → Value} {e : TypeId} {w : World} {base g n cap : Nat} {xs : List α} (h : Own 1 (fun x => [enc x]) e w base (.slice (some ⟨g, 0, none⟩) n cap) xs) (hn : xs.length = n) (i j q : Nat) :
    Own 1 (fun x => [enc x]) e (((w.setCell ⟨g, i, none⟩ (enc (el xs j))).setCell ⟨g, j, none⟩ (enc (el xs i))).drewN q) base (.slice (some ⟨g, 0, none⟩) n cap) (swapL xs i j) := by
  unfold Own at *
  subst hn
  have h2 := ((h.stored i (enc (el xs j))).1.stored j (enc (el xs i))).1
  rw [swapL_length]
  have e1 : (swapL xs i j).flatMap (fun x => [enc x]) = ((xs.flatMap (fun x => [enc x])).set i (enc (el xs j))).set j (enc (el xs i)) := by
    simp [swapL, ← List.map_eq_flatMap, List.map_set]
  rw [e1]
  exact h2

/-- A row that is not empty lies at the head of a block of the call's own. -/
theorem Own.at {C : Nat} {encL : α → List Value} {e : TypeId} {w : World} {base : Nat} {a : Option Addr} {len cap : Nat} {xs : List α} (h : Own C encL e w base (.slice a len cap) xs) (h0 : 0 < len) :
    ∃ g, a = some ⟨g, 0, none⟩ ∧ base ≤ g ∧ g < w.heap.size ∧ (∀ j, w.frozen? ⟨g, j, none⟩ = false) ∧ xs.length = len := by
  have h' := h
  obtain ⟨_, ⟨hv, hn⟩ | ⟨g, cap', cur, hv, hg, hh, hn, hm, hs, ht⟩⟩ := h
  · cases hv; omega
  · cases hv
    have hb : g < w.heap.size := by
      rcases Nat.lt_or_ge g w.heap.size with h | h
      · exact h
      · rw [Array.getElem?_eq_none h] at hh; cases hh
    exact ⟨g, rfl, hg, hb, fun j => World.ownsRow.frozenAt h' j, rfl⟩

theorem Own.cell1 {enc : α → Value} {e : TypeId} {w : World} {base g len cap : Nat} {xs : List α} (h : Own 1 (fun x => [enc x]) e w base (.slice (some ⟨g, 0, none⟩) len cap) xs) (hl : xs.length = len) (i : Nat) (hi : i < len) :
    w.cell? ⟨g, i, none⟩ = some (enc (el xs i)) := by
  unfold Own at h
  subst hl
  rw [h.cellAt i (by omega)]
  have := flat_get 1 (fun x => [enc x]) (fun _ => rfl) xs i 0 hi (by omega)
  simpa using this

/-- 'append([]T(nil), l...)': a new row that holds what l holds. -/
theorem wpList_copy {P : Program} {w : World} {ops : Array Oper} {rest : List Oper} {o : Oper} {a : Act} {Q : Exit → Act → World → Prop} (hgd : o.guard = none) (s x : Operand) (t : TypeId)
    (ho : o.op = .call { callee := .builtin .append, args := #[s, x], argTypes := #[t, t] })
    (e : TypeId) (z : Value) (C bytes : Nat) (encL : α → List Value) (ht : P.underlying t = some (.slice e)) (hinfo : (P.info? e).map (fun i => (i.zero, i.size, i.bytes)) = some (some z, C, bytes))
    (hzs : z.cells.size = C) (hsz : 0 < C) (hC : ∀ x, (encL x).length = C) (h1 : ∀ x, ∀ u ∈ encL x, u.oneCell' = true)
    (hs : a.eval s = .slice none 0 0) (ad : Option Addr) (len cap : Nat) (xs : List α) (hx : a.eval x = .slice ad len cap) (hsl : SlK C encL w ad len cap xs)
    (h63 : len ≤ maxLen) (hbytes : len * bytes ≤ 140737488355328)
    (h : ∀ a' cap' w', Own C encL e w' w.heap.size (.slice a' len cap') xs → Below w.heap.size w w' → wpList P ops Q rest (a.put o.dst (.slice a' len cap')) w') : wpList P ops Q (o :: rest) a w := by
  obtain ⟨i, hi, hz, hi1, hi2⟩ := info_parts hinfo
  have hlen := hsl.1
  cases ad with
  | none =>
    obtain rfl : cap = 0 := hsl.2.2.1 rfl
    obtain rfl : len = 0 := by have := hsl.2.1; omega
    obtain rfl : xs = [] := List.length_eq_zero_iff.1 hlen
    refine wpList_append_own_none hgd s x t ho w.heap.size e i C ht hi _ 0 [] hs (World.ownsRow_nil _ _ _ _) hx ?_
    exact h none 0 w (World.ownsRow_nil _ _ _ _) (Below.refl _ _)
  | some ad =>
    refine wpList_append_own _ hgd s x t ho w.heap.size e i z C bytes ht hi hz hi1 hi2 hzs hsz _ 0 [] hs (World.ownsRow_nil _ _ _ _) ad len cap (xs.flatMap encL) hx (by rw [flat_length C encL hC, hlen]) (hsl.src hC hsz) ?_ (by omega) (by rw [Nat.zero_add]; exact hbytes) (Nat.le_refl _) ?_
    · intro u hu
      obtain ⟨x, _, hx⟩ := List.mem_flatMap.1 hu
      exact h1 x u hx
    · intro v' w' hown hg _
      simp only [Nat.zero_add, List.nil_append] at hown
      have hown' : Own C encL e w' w.heap.size v' xs := by unfold Own; rw [hlen]; exact hown
      obtain ⟨a', cap', hv, _⟩ := hown'.slk hC
      rw [hlen] at hv
      subst hv
      exact h a' cap' w' hown' ((Below.refl _ _).grown hg (Nat.le_refl _) (fun k hk => by simp [Value.ownBlock] at hk))
end
#print axioms wpList_copy
#print axioms Own.swap1
#print axioms swapL_twice
#print axioms Own.sl
#print axioms SlK.src
end Go.Proofs.Ytaifikhgijnkgaa
