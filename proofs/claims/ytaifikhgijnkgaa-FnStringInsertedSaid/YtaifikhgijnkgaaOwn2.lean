/- 'append(x[:n:n], y...)': a new row, or x itself where y is empty. No conditions. -/
import Derived.Test.YtaifikhgijnkgaaOwn
import Derived.ArgAppend
import Derived.Deep.Upon
import Derived.Deep.AppendLies
namespace Go.Proofs.Ytaifikhgijnkgaa
open Go.RowKit
set_option linter.unusedVariables false

theorem Own.base {α : Type} [Inhabited α] {C : Nat} {encL : α → List Value} {e : TypeId} {w : World} {base base' : Nat} {v : Value} {xs : List α} (h : Own C encL e w base v xs) (hb : base' ≤ base) : Own C encL e w base' v xs := by
  obtain ⟨h1, h2 | ⟨g, cap, cur, hv, hg, r⟩⟩ := h
  · exact ⟨h1, .inl h2⟩
  · exact ⟨h1, .inr ⟨g, cap, cur, hv, by omega, r⟩⟩

theorem Own.below {α : Type} [Inhabited α] {C : Nat} {encL : α → List Value} {e : TypeId} {w w' : World} {base : Nat} {v : Value} {xs : List α} (h : Own C encL e w base v xs) (hb : Below w.heap.size w w') : Own C encL e w' base v xs := by
  obtain ⟨h1, h2 | ⟨g, cap, cur, hv, hg, hh, r⟩⟩ := h
  · exact ⟨h1, .inl h2⟩
  · refine ⟨h1, .inr ⟨g, cap, cur, hv, hg, ?_, r⟩⟩
    rw [hb.block g ?_]
    · exact hh
    · rcases Nat.lt_or_ge g w.heap.size with h | h
      · exact h
      · rw [Array.getElem?_eq_none h] at hh; cases hh

theorem src_empty {P : Program} {size : Nat} {t e : TypeId} (ht : P.underlying t = some (.slice e)) (ad : Option Addr) (c : Nat) (w : World) : Src P size t (.slice ad 0 c) 0 [] w := by
  have h : ∀ w : World, (Builtin.firstCells size 0 (.slice ad 0 c)).run P w = .ok #[] w := fun w => by
    cases ad <;> simp [Builtin.firstCells, loadCells, go_sem]
  exact ⟨.inl ⟨e, ht⟩, fun w' => by simp [Builtin.lenOf, go_sem], h w, h w.drew, by simp, by simp⟩

theorem wpList_append_full {α : Type} [Inhabited α] {P : Program} {w : World} {ops : Array Oper} {rest : List Oper} {o : Oper} {a : Act} {Q : Exit → Act → World → Prop} (hgd : o.guard = none) (s x : Operand) (t : TypeId)
    (ho : o.op = .call { callee := .builtin .append, args := #[s, x], argTypes := #[t, t] })
    (e : TypeId) (z : Value) (C bytes : Nat) (encL : α → List Value) (ht : P.underlying t = some (.slice e)) (hinfo : (P.info? e).map (fun i => (i.zero, i.size, i.bytes)) = some (some z, C, bytes))
    (hzs : z.cells.size = C) (hsz : 0 < C) (hC : ∀ x, (encL x).length = C) (h1 : ∀ x, ∀ u ∈ encL x, u.oneCell' = true)
    (ao : Option Addr) (n : Nat) (xs : List α) (hs : a.eval s = .slice ao n n) (hxs : SlK C encL w ao n n xs)
    (ad : Option Addr) (m c : Nat) (ys : List α) (hx : a.eval x = .slice ad m c) (hys : m ≠ 0 → SlK C encL w ad m c ys) (hy0 : ys.length = m)
    (h63 : n + m ≤ maxLen) (hbytes : (n + m) * bytes ≤ 140737488355328)
    (h : ∀ a' cap' w', SlK C encL w' a' (n + m) cap' (xs ++ ys) → Below w.heap.size w w' → (a' = ao ∨ ∀ ad, a' = some ad → w.heap.size ≤ ad.block) → wpList P ops Q rest (a.put o.dst (.slice a' (n + m) cap')) w') : wpList P ops Q (o :: rest) a w := by
  obtain ⟨i, hi, hz, hi1, hi2⟩ := info_parts hinfo
  by_cases hm : m = 0
  · subst hm
    obtain rfl : ys = [] := List.length_eq_zero_iff.1 hy0
    refine wpList_plain hgd fun K hK => ?_
    have hrun := run_append_nothing (P := P) w t t o.type e i ht hi ao n n (Nat.le_refl _) (.slice ad 0 c) (src_empty ht ad c w)
    unfold Oper.wp
    simp [execOp, ho, resolve, invoke, builtin, hs, hx, hrun, Result.andThen]
    have h' := h ao n w (by simpa using hxs) (Below.refl _ _) (.inl rfl)
    exact hK _ _ h'
  · have hys' := hys hm
    obtain ⟨bb, oo, rfl, _, _⟩ : ∃ b off, ad = some ⟨b, off, none⟩ ∧ True ∧ True := by
      rcases hys'.2.2.2 with h0 | ⟨b, off, ha, _⟩
      · exact absurd h0 hm
      · exact ⟨b, off, ha, trivial, trivial⟩
    have hxl := hxs.1
    refine wpList_append_grows w hgd s x t ho e i z C bytes ht hi hz hi1 hi2 hzs hsz ao n n (xs.flatMap encL) hs ?_ (by rw [flat_length C encL hC, hxl]) ?_ _ m c (ys.flatMap encL) hx (by rw [flat_length C encL hC, hy0]) (hys'.src hC hsz) ?_ (by omega) h63 hbytes ?_
    · intro h0; have := hxs.2.2.1 h0; exact ⟨this, this⟩
    · intro b hb j u hu
      subst hb
      exact hxs.src hC hsz j u hu
    · intro u hu
      obtain ⟨x, _, hx⟩ := List.mem_flatMap.1 hu
      exact h1 x u hx
    · intro v' w' hown hg
      have hown' : Own C encL e w' w.heap.size v' (xs ++ ys) := by
        unfold Own
        rw [List.flatMap_append, List.length_append, hxl, hy0]
        exact hown
      obtain ⟨a', cap', hv, hsl, _, hlow⟩ := hown'.slk hC
      rw [List.length_append, hxl, hy0] at hv hsl
      subst hv
      exact h a' cap' w' hsl ((Below.refl _ _).grown hg (Nat.le_refl _) (fun k hk => by cases hk)) (.inr hlow)

/-- 'out = append(out, y)': the row holds y besides; it is the old row, or a new one. -/
theorem wpList_push {α : Type} [Inhabited α] {P : Program} {w : World} {ops : Array Oper} {rest : List Oper} {o : Oper} {a : Act} {Q : Exit → Act → World → Prop} (hgd : o.guard = none) (s x : Operand) (t : TypeId)
    (ho : o.op = .call { callee := .builtin .append, args := #[s, x], argTypes := #[t, t] })
    (e : TypeId) (z : Value) (C bytes : Nat) (encL : α → List Value) (ht : P.underlying t = some (.slice e)) (hinfo : (P.info? e).map (fun i => (i.zero, i.size, i.bytes)) = some (some z, C, bytes))
    (hzs : z.cells.size = C) (hsz : 0 < C) (hC : ∀ x, (encL x).length = C) (h1 : ∀ x, ∀ u ∈ encL x, u.oneCell' = true)
    (base : Nat) (ao : Option Addr) (n co : Nat) (xs : List α) (hs : a.eval s = .slice ao n co) (hown : Own C encL e w base (.slice ao n co) xs) (hn : xs.length = n)
    (g0 c0 : Nat) (y : α) (hx : a.eval x = .slice (some ⟨g0, 0, none⟩) 1 c0) (hy : ∀ j u, (encL y)[j]? = some u → w.cell? ⟨g0, j, none⟩ = some u)
    (h63 : n + 1 ≤ maxLen) (hbytes : (n + 1) * bytes ≤ 140737488355328) (hbase : base ≤ w.heap.size) (H : Nat) (hH : w.heap.size = H)
    (h : ∀ g cap' w', Own C encL e w' base (.slice (some ⟨g, 0, none⟩) (n + 1) cap') (xs ++ [y]) → w.grownBy w' (ao.map (·.block)) → (ao.map (·.block) = some g ∨ g = H) → g < w'.heap.size →
      wpList P ops Q rest (a.put o.dst (.slice (some ⟨g, 0, none⟩) (n + 1) cap')) w') : wpList P ops Q (o :: rest) a w := by
  obtain ⟨i, hi, hz, hi1, hi2⟩ := info_parts hinfo
  have hob : Value.ownBlock (.slice ao n co) = ao.map (·.block) := by cases ao <;> rfl
  unfold Own at hown
  rw [hn] at hown
  refine wpList_append_lies w hgd s x t ho base e i z C bytes ht hi hz hi1 hi2 hzs hsz _ n _ hs hown ⟨g0, 0, none⟩ 1 c0 (encL y) hx (by rw [hC]; omega) (fun j u hu => by rw [addr_add, Nat.zero_add]; exact hy j u hu) (h1 y) (by omega) h63 hbytes hbase H hH ?_
  intro g cap' w' ho2 hg hat hlt
  rw [hob] at hg hat
  refine h g cap' w' ?_ hg hat hlt
  unfold Own
  rw [List.flatMap_append, List.length_append, hn]
  simpa using ho2
#print axioms wpList_append_full
#print axioms wpList_push
end Go.Proofs.Ytaifikhgijnkgaa
