/- 'append' at one operation (for regions that draw their order): onto nothing, onto a row of the call's own; parts of a slice. No conditions. -/
import Derived.Test.YtaifikhgijnkgaaOwn2
namespace Go.Proofs.Ytaifikhgijnkgaa
open Go.RowKit
set_option linter.unusedVariables false
section
variable {α : Type} [Inhabited α]

/-- 'append(s, x...)', s a row of the call's own. -/
theorem wp_extend {P : Program} {w : World} {o : Oper} {a : Act} {K : Act → World → Prop} {Q : Exit → Act → World → Prop} (s x : Operand) (t : TypeId)
    (ho : o.op = .call { callee := .builtin .append, args := #[s, x], argTypes := #[t, t] })
    (e : TypeId) (z : Value) (C bytes : Nat) (encL : α → List Value) (ht : P.underlying t = some (.slice e)) (hinfo : (P.info? e).map (fun i => (i.zero, i.size, i.bytes)) = some (some z, C, bytes))
    (hzs : z.cells.size = C) (hsz : 0 < C) (hC : ∀ x, (encL x).length = C) (h1 : ∀ x, ∀ u ∈ encL x, u.oneCell' = true)
    (base : Nat) (ao : Option Addr) (n co : Nat) (xs : List α) (hs : a.eval s = .slice ao n co) (hown : Own C encL e w base (.slice ao n co) xs) (hn : xs.length = n)
    (ad : Option Addr) (m c : Nat) (ys : List α) (hx : a.eval x = .slice ad m c) (hys : SlK C encL w ad m c ys)
    (h63 : n + m ≤ maxLen) (hbytes : (n + m) * bytes ≤ 140737488355328) (hbase : base ≤ w.heap.size)
    (h : ∀ a' cap' w', Own C encL e w' base (.slice a' (n + m) cap') (xs ++ ys) → Below base w w' → K (a.put o.dst (.slice a' (n + m) cap')) w') : o.wp P a w K Q := by
  obtain ⟨i, hi, hz, hi1, hi2⟩ := info_parts hinfo
  have hlen := hys.1
  cases ad with
  | none =>
    obtain rfl : c = 0 := hys.2.2.1 rfl
    obtain rfl : m = 0 := by have := hys.2.1; omega
    obtain rfl : ys = [] := List.length_eq_zero_iff.1 hlen
    have hcap : n ≤ co := by
      obtain ⟨a', c', hv, hsl, _⟩ := hown.slk hC
      rw [hn] at hv hsl
      cases hv
      exact hsl.2.1
    have hrun := run_append_nothing (P := P) w t t o.type e i ht hi ao n co hcap (.slice none 0 0) (src_empty ht none 0 w)
    unfold Oper.wp
    simp [execOp, ho, resolve, invoke, builtin, hs, hx, hrun, Result.andThen]
    exact h ao co w (by simpa using hown) (Below.refl _ _)
  | some ad =>
    have hown' := hown
    unfold Own at hown'
    rw [hn] at hown'
    refine wp_append_own w s x t ho base e i z C bytes ht hi hz hi1 hi2 hzs hsz _ n _ hs hown' ad m c (ys.flatMap encL) hx (by rw [flat_length C encL hC, hlen]) (hys.src hC hsz) ?_ h63 hbytes hbase ?_
    · intro u hu
      obtain ⟨x, _, hx⟩ := List.mem_flatMap.1 hu
      exact h1 x u hx
    · intro v' w' ho2 hg _
      have ho3 : Own C encL e w' base v' (xs ++ ys) := by
        unfold Own
        rw [List.flatMap_append, List.length_append, hn, hlen]
        exact ho2
      obtain ⟨a', cap', hv, _⟩ := ho3.slk hC
      rw [List.length_append, hn, hlen] at hv
      subst hv
      refine h a' cap' w' ho3 ((Below.refl _ _).grown hg hbase (fun k hk => ?_))
      obtain ⟨a2, c2, hv2, _, _, hlo⟩ := hown.slk hC
      cases hv2
      cases ao with
      | none => simp [Value.ownBlock] at hk
      | some ad2 =>
        simp [Value.ownBlock] at hk
        have := hlo ad2 rfl
        omega

/-- 'append([]T(nil), x...)'. -/
theorem wp_copy {P : Program} {w : World} {o : Oper} {a : Act} {K : Act → World → Prop} {Q : Exit → Act → World → Prop} (s x : Operand) (t : TypeId)
    (ho : o.op = .call { callee := .builtin .append, args := #[s, x], argTypes := #[t, t] })
    (e : TypeId) (z : Value) (C bytes : Nat) (encL : α → List Value) (ht : P.underlying t = some (.slice e)) (hinfo : (P.info? e).map (fun i => (i.zero, i.size, i.bytes)) = some (some z, C, bytes))
    (hzs : z.cells.size = C) (hsz : 0 < C) (hC : ∀ x, (encL x).length = C) (h1 : ∀ x, ∀ u ∈ encL x, u.oneCell' = true)
    (hs : a.eval s = .slice none 0 0) (ad : Option Addr) (m c : Nat) (ys : List α) (hx : a.eval x = .slice ad m c) (hys : SlK C encL w ad m c ys)
    (h63 : m ≤ maxLen) (hbytes : m * bytes ≤ 140737488355328)
    (h : ∀ a' cap' w', Own C encL e w' w.heap.size (.slice a' m cap') ys → Below w.heap.size w w' → K (a.put o.dst (.slice a' m cap')) w') : o.wp P a w K Q := by
  refine wp_extend s x t ho e z C bytes encL ht hinfo hzs hsz hC h1 w.heap.size none 0 0 [] hs (World.ownsRow_nil _ _ _ _) rfl ad m c ys hx hys (by omega) (by rw [Nat.zero_add]; exact hbytes) (Nat.le_refl _) ?_
  intro a' cap' w' ho2 hb2
  rw [Nat.zero_add, List.nil_append] at ho2
  rw [Nat.zero_add]
  exact h a' cap' w' ho2 hb2

theorem el_take (xs : List α) (n i : Nat) (hi : i < n) (hn : n ≤ xs.length) : el (xs.take n) i = el xs i := by
  rw [el_eq _ _ (by simp; omega), el_eq _ _ (by omega), List.getElem_take]
theorem el_drop (xs : List α) (n i : Nat) (hn : n + i < xs.length) : el (xs.drop n) i = el xs (n + i) := by
  rw [el_eq _ _ (by simp; omega), el_eq _ _ hn, List.getElem_drop]

/-- 'x[:n]'. -/
theorem SlK.front {C : Nat} {encL : α → List Value} {w : World} {a : Option Addr} {len cap : Nat} {xs : List α} (h : SlK C encL w a len cap xs) (n : Nat) (hn : n ≤ len) : SlK C encL w a n cap (xs.take n) := by
  obtain ⟨h1, h2, h3, h4⟩ := h
  refine ⟨by rw [List.length_take]; omega, by omega, h3, ?_⟩
  rcases h4 with h4 | ⟨b, off, ha, hb, hc⟩
  · exact .inl (by omega)
  · exact .inr ⟨b, off, ha, hb, fun i hi j hj => by rw [el_take xs n i hi (by omega)]; exact hc i (by omega) j hj⟩

/-- 'x[n:]'. -/
theorem SlK.back {C : Nat} {encL : α → List Value} {w : World} {b off : Nat} {len cap : Nat} {xs : List α} (h : SlK C encL w (some ⟨b, off, none⟩) len cap xs) (n : Nat) (hn : n ≤ len) : SlK C encL w (some ⟨b, off + n * C, none⟩) (len - n) (cap - n) (xs.drop n) := by
  obtain ⟨h1, h2, h3, h4⟩ := h
  refine ⟨by rw [List.length_drop]; omega, by omega, (fun h => by cases h), ?_⟩
  rcases h4 with h4 | ⟨b', off', ha, hb, hc⟩
  · exact .inl (by omega)
  · cases ha
    by_cases h0 : len - n = 0
    · exact .inl h0
    · refine .inr ⟨b, off + n * C, rfl, hb, fun i hi j hj => ?_⟩
      rw [el_drop xs n i (by omega)]
      have := hc (n + i) (by omega) j hj
      rw [Nat.add_mul] at this
      rw [← this]
      congr 2
      omega
/-- 'x[n:]', as the machine has it: an empty end does not move. -/
theorem SlK.backIf {C : Nat} {encL : α → List Value} {w : World} {b off : Nat} {len cap : Nat} {xs : List α} (h : SlK C encL w (some ⟨b, off, none⟩) len cap xs) (n : Nat) (hn : n ≤ len) : SlK C encL w (if cap = n then some ⟨b, off, none⟩ else some ⟨b, off + n * C, none⟩) (len - n) (cap - n) (xs.drop n) := by
  split
  · have h1 := h.1
    have h2 := h.2.1
    exact ⟨by rw [List.length_drop]; omega, by omega, (fun h => by cases h), .inl (by omega)⟩
  · exact h.back n hn

/-- The same in a plain region. -/
theorem wpList_extend {P : Program} {w : World} {ops : Array Oper} {rest : List Oper} {o : Oper} {a : Act} {Q : Exit → Act → World → Prop} (hgd : o.guard = none) (s x : Operand) (t : TypeId)
    (ho : o.op = .call { callee := .builtin .append, args := #[s, x], argTypes := #[t, t] })
    (e : TypeId) (z : Value) (C bytes : Nat) (encL : α → List Value) (ht : P.underlying t = some (.slice e)) (hinfo : (P.info? e).map (fun i => (i.zero, i.size, i.bytes)) = some (some z, C, bytes))
    (hzs : z.cells.size = C) (hsz : 0 < C) (hC : ∀ x, (encL x).length = C) (h1 : ∀ x, ∀ u ∈ encL x, u.oneCell' = true)
    (base : Nat) (ao : Option Addr) (n co : Nat) (xs : List α) (hs : a.eval s = .slice ao n co) (hown : Own C encL e w base (.slice ao n co) xs) (hn : xs.length = n)
    (ad : Option Addr) (m c : Nat) (ys : List α) (hx : a.eval x = .slice ad m c) (hys : SlK C encL w ad m c ys)
    (h63 : n + m ≤ maxLen) (hbytes : (n + m) * bytes ≤ 140737488355328) (hbase : base ≤ w.heap.size)
    (h : ∀ a' cap' w', Own C encL e w' base (.slice a' (n + m) cap') (xs ++ ys) → Below base w w' → wpList P ops Q rest (a.put o.dst (.slice a' (n + m) cap')) w') : wpList P ops Q (o :: rest) a w :=
  wpList_plain hgd fun _ hK => wp_extend s x t ho e z C bytes encL ht hinfo hzs hsz hC h1 base ao n co xs hs hown hn ad m c ys hx hys h63 hbytes hbase fun a' cap' w' h2 h3 => hK _ _ (h a' cap' w' h2 h3)

/-- A new slice of one element. -/
theorem box1 (enc : α → Value) (w : World) (x : α) (t : TypeId) : SlK 1 (fun x => [enc x]) (w.alloc (.cells #[enc x] t)) (some ⟨w.heap.size, 0, none⟩) 1 1 [x] := by
  refine ⟨rfl, Nat.le_refl _, (fun h => by cases h), .inr ⟨w.heap.size, 0, rfl, by simp, fun i hi j hj => ?_⟩⟩
  obtain rfl : i = 0 := by omega
  obtain rfl : j = 0 := by omega
  simp [el]

/-- Where the search says, put in: sorted, and the same elements. -/
theorem inserted {le : α → α → Prop} (trans : ∀ a b c, le a b → le b c → le a c) {xs O : List α} {x : α} {r : Nat} (hp : O.Perm xs) (hs : O.Pairwise le) (hr : r ≤ O.length) (h2 : ∀ k, k < r → le (el O k) x) (h3 : r < O.length → le x (el O r)) :
    (O.take r ++ [x] ++ O.drop r).Pairwise le ∧ (O.take r ++ [x] ++ O.drop r).Perm (xs ++ [x]) := by
  have hd : ∀ b ∈ O.drop r, le x b := fun b hb => by
    obtain ⟨k, hk, rfl⟩ := List.getElem_of_mem hb
    simp only [List.length_drop] at hk
    rw [List.getElem_drop]
    have h0 := h3 (by omega)
    rw [el_eq O r (by omega)] at h0
    rcases Nat.eq_zero_or_pos k with h4 | h4
    · subst h4; exact h0
    · exact trans _ _ _ h0 (List.pairwise_iff_getElem.1 hs r (r + k) (by omega) (by omega) (by omega))
  have hf : ∀ a ∈ O.take r, le a x := fun a ha => by
    obtain ⟨k, hk, rfl⟩ := List.getElem_of_mem ha
    simp only [List.length_take] at hk
    rw [List.getElem_take, ← el_eq O k (by omega)]
    exact h2 k (by omega)
  refine ⟨?_, ?_⟩
  · rw [List.append_assoc, List.pairwise_append]
    refine ⟨hs.sublist (List.take_sublist r O), ?_, fun a ha b hb => ?_⟩
    · rw [List.singleton_append, List.pairwise_cons]
      exact ⟨hd, hs.sublist (List.drop_sublist r O)⟩
    · rcases List.mem_append.1 hb with hb | hb
      · rw [List.mem_singleton.1 hb]; exact hf a ha
      · exact trans _ _ _ (hf a ha) (hd b hb)
  · have e1 : (O.take r ++ [x] ++ O.drop r).Perm (O.take r ++ O.drop r ++ [x]) := by
      rw [List.append_assoc, List.append_assoc]
      exact List.Perm.append_left _ List.perm_append_comm
    rw [List.take_append_drop] at e1
    exact e1.trans (hp.append_right [x])
end
#print axioms wpList_extend
#print axioms box1
#print axioms inserted
#print axioms wp_extend
#print axioms wp_copy
#print axioms SlK.back
end Go.Proofs.Ytaifikhgijnkgaa
