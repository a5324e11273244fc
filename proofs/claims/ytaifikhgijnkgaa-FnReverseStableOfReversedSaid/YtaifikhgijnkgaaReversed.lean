/- The contract of laws.reversed[impl.Item]: the items the other way round, in a row of the call's own. No conditions. -/
import Derived.Test.YtaifikhgijnkgaaItems
namespace Go.Proofs.Ytaifikhgijnkgaa
open Go.RowKit
set_option linter.unusedVariables false

theorem drop_rev_el {α : Type} [Inhabited α] (xs : List α) (k : Nat) (h0 : 0 < k) (h : k ≤ xs.length) : (xs.drop (k - 1)).reverse = (xs.drop k).reverse ++ [el xs (k - 1)] := by
  obtain ⟨j, rfl⟩ : ∃ j, k = j + 1 := ⟨k - 1, by omega⟩
  rw [Nat.add_sub_cancel, List.drop_eq_getElem_cons (show j < xs.length by omega), List.reverse_cons, el_eq xs j (by omega)]

set_option maxHeartbeats 2000000 in
set_option maxRecDepth 100000 in
theorem laws_reversed (a : Option Addr) (len cap : Nat) (xs : List It) (w : World) (hs : SlK 2 encIt w a len cap xs) (hb : len * 16 ≤ 140737488351232) :
    Calls Try.prog 68 #[.slice a len cap] w (GivesIts 52 w len xs.reverse) := by
  have HL := Lib.hid hs.1
  have HS := Lib.hid hs
  clear hs
  go_enter Try.func68, Try.ntmps68
  go_wp2
  go_loopg [3, 4] len (fun k s3 s4 wr => ∃ (ao : Option Addr) (co : Nat), s3 = .slice ao (len - k : Nat) co ∧ s4 = .int .i64 ((k : Int) - 1) ∧ k ≤ len ∧ Own 2 encIt 52 wr w.heap.size (.slice ao (len - k : Nat) co) (xs.drop k).reverse ∧ Below w.heap.size w wr)
  case atStart => exact ⟨none, 0, by rw [Nat.sub_self], rfl, Nat.le_refl _, by rw [Nat.sub_self, List.drop_of_length_le (by rw [HL.out]; exact Nat.le_refl _)]; exact World.ownsRow_nil _ _ _ _, Below.refl _ _⟩
  case round =>
    obtain ⟨ao, co, rfl, rfl, hk, ho, hbw⟩ := hrel
    have HO := Lib.hid ho
    have HB := Lib.hid hbw
    have HTL := Lib.hid (show (xs.drop gk).reverse.length = len - gk by rw [List.length_reverse, List.length_drop, HL.out])
    have hsz := hbw.size
    clear ho hbw
    by_cases hlt : 0 < gk
    · obtain ⟨m, rfl⟩ : ∃ m, gk = m + 1 := ⟨gk - 1, by omega⟩
      have e1 : ((m + 1 : Nat) : Int) - 1 = (m : Int) := by omega
      rw [e1]
      have hlt' : (m : Int) < len := by omega
      have hge : (0 : Int) ≤ (m : Int) := by omega
      obtain ⟨b, off, rfl, hbs, hc⟩ : ∃ b off, a = some ⟨b, off, none⟩ ∧ b < w.heap.size ∧ ∀ i, i < len → ∀ j, j < 2 → w.cell? ⟨b, off + i * 2 + j, none⟩ = (encIt (el xs i))[j]? := by
        rcases HS.out.2.2.2 with h | h
        · omega
        · exact h
      obtain ⟨c0, c1⟩ := it_cells hc m (by omega)
      have d0 := (HB.out.cell (p := ⟨b, off + m * 2, none⟩) hbs).trans c0
      have d1 := (HB.out.cell (p := ⟨b, off + m * 2 + 1, none⟩) hbs).trans c1
      clear hc c0 c1
      go_wp2_with (first
        | (at_builtin; refine wpList_push rfl _ _ 30 rfl 52 (.agg #[.int .i64 0, .int .i64 0]) 2 16 encIt Try.underlying30 Try.info52' rfl (by decide) (fun _ => rfl) (by simp [encIt, Value.oneCell']) w.heap.size ao (len - (m + 1)) co (xs.drop (m + 1)).reverse rfl (Own.below HO.out (belowA wr _)) HTL.out wr.heap.size 1 (el xs m) rfl (fun j u hu => two_new wr (el xs m) 52 j u hu) (by unfold maxLen; omega) (by omega) (by simp; omega) (wr.heap.size + 1) (by simp) ?_; intro g cg w3 ho3 hg3 hat3 hlt3)
        | fail)
      have hbw3 : Below w.heap.size w w3 := (HB.out.alloc HB.out.size _).grown hg3 (by have := HB.out.size; simp; omega) (fun kk hkk => by
        rcases ao with _ | ad
        · cases hkk
        · simp at hkk
          obtain ⟨aa, cc, hv, _, _, hlo2⟩ := Own.slk (C := 2) (encL := encIt) (fun _ => rfl) HO.out
          have := hlo2 ad (Value.slice.inj hv).1.symm
          omega)
      have HB3 := Lib.hid hbw3
      have HO3 := Lib.hid ho3
      clear hbw3 ho3 hg3 hat3 hlt3
      have hwrap : IntKind.i64.wrap ((m : Int) - 1) = (m : Int) - 1 := IntWalk.i64_in _ (by omega)
      go_roundg m
      case measure => omega
      case rel =>
        have ho := HO3.out
        have e := drop_rev_el xs (m + 1) (by omega) (by rw [HL.out]; exact hk)
        rw [Nat.add_sub_cancel] at e
        rw [← e] at ho
        rw [show len - m = len - (m + 1) + 1 by omega]
        exact ⟨some ⟨g, 0, none⟩, cg, rfl, by go_num, by omega, ho, HB3.out⟩
    · obtain rfl : gk = 0 := by omega
      have hz : ¬ (0 : Int) ≤ ((0 : Nat) : Int) - 1 := by omega
      go_wp2
      go_ret
      have ho := HO.out
      rw [List.drop_zero, Nat.sub_zero] at ho
      obtain ⟨aa, cc, hv, h, _, _⟩ := Own.slk (C := 2) (encL := encIt) (fun _ => rfl) ho
      rw [List.length_reverse, HL.out] at hv h
      cases hv
      exact ⟨ao, co, rfl, ho, h, HB.out⟩
#print axioms laws_reversed
end Go.Proofs.Ytaifikhgijnkgaa
