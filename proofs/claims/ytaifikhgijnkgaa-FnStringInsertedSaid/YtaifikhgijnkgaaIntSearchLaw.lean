/- The walk of laws.FnIntSearch. No conditions. -/
import Derived.Test.YtaifikhgijnkgaaSelZ
import Derived.Test.YtaifikhgijnkgaaSearchZ
namespace Go.Proofs.Ytaifikhgijnkgaa
open Go.RowKit
set_option linter.unusedVariables false

theorem pairwise_el {α : Type} [Inhabited α] {R : α → α → Prop} {xs : List α} (h : xs.Pairwise R) {i j : Nat} (hij : i < j) (hj : j < xs.length) : R (el xs i) (el xs j) := by
  rw [el_eq xs i (by omega), el_eq xs j hj]
  exact List.pairwise_iff_getElem.1 h i j (by omega) hj hij

/-- In sorted numbers the search by halves comes to the least place of one that is not less. -/
theorem bsearch_least {α : Type} [Inhabited α] (le : α → α → Prop) (p : α → Bool) (xs : List α) (hs : xs.Pairwise le) (hmono : ∀ a b, le a b → p b = false → p a = false) (n : Nat) (hn : xs.length = n) :
    bsearch (fun k => p (el xs k)) n 0 n ≤ n ∧ (∀ k, k < bsearch (fun k => p (el xs k)) n 0 n → p (el xs k) = false) ∧ (bsearch (fun k => p (el xs k)) n 0 n < n → p (el xs (bsearch (fun k => p (el xs k)) n 0 n)) = true) := by
  obtain ⟨h1, h2, h3⟩ := bsearch_spec (fun k => p (el xs k)) n n 0 n (by omega) (by omega) (by omega) (.inl rfl) (.inl rfl)
  generalize bsearch (fun k => p (el xs k)) n 0 n = r at *
  refine ⟨h1, fun k hk => ?_, fun hr => ?_⟩
  · rcases h2 with h2 | h2
    · omega
    · by_cases hkr : k = r - 1
      · rw [hkr]; exact h2
      · exact hmono _ _ (pairwise_el hs (show k < r - 1 by omega) (by omega)) h2
  · rcases h3 with h3 | h3
    · omega
    · exact h3

set_option maxHeartbeats 1000000 in
theorem walk_FnIntSearch (a0 : Option Addr) (len0 cap0 : Nat) (x0 : List Int) (x1 : Int) (w : World)
    (s0 : Sl (Value.int .i64) w a0 len0 cap0 x0) (g0 : ∀ x ∈ x0, (Lit.int .i64 x).wf = true) (b0 : cap0 * 8 ≤ 140737488351232) (g1 : (Lit.int .i64 x1).wf = true) :
    Calls Try.prog 15 #[.slice a0 len0 cap0, .int .i64 x1] w (Good w) := by
  have hcap := s0.2.1
  have HC := Lib.hid (spec_IntSort a0 len0 cap0 x0 w s0 (by omega))
  clear s0 g0 g1
  go_enter Try.func15, Try.ntmps15
  go_wp2_with fail
  refine HC.out.mono ?_
  rintro e w1 ⟨a1, c1, O, rfl, hs1, ho1, hp, hpw, hb1⟩
  obtain ⟨h1, h2, h3⟩ := bsearch_least (· ≤ ·) (fun y => decide (x1 ≤ y)) O hpw (fun a b hab hb => by simp at hb ⊢; omega) len0 hs1.1
  have HS := Lib.hid (impl_IntSearch a1 len0 c1 O x1 w1 hs1 (by omega))
  have HS1 := Lib.hid hs1
  have H2 := Lib.hid h2
  have H3 := Lib.hid h3
  have HB := Lib.hid hb1
  clear hs1 ho1 hp hpw hb1 h2 h3
  generalize bsearch (fun k => decide (x1 ≤ el O k)) len0 0 len0 = r at *
  go_wp2_with fail
  refine HS.out.mono ?_
  rintro e w2 ⟨rfl, hb2⟩
  have HS2 := Lib.hid (spec_IntSearch a1 len0 c1 O x1 r w2 (HS1.out.below hb2) (by omega) h1 (fun k hk => by have := H2.out k hk; simp at this; exact this) (fun hr => by have := H3.out hr; simpa using this))
  have HB2 := Lib.hid (HB.out.trans (hb2.mono HB.out.size))
  clear hb2
  go_wp2_with fail
  refine HS2.out.mono ?_
  rintro e w3 ⟨rfl, rfl⟩
  go_wp2_with fail
  go_ret
  exact ⟨by simp, HB2.out⟩
#print axioms walk_FnIntSearch
end Go.Proofs.Ytaifikhgijnkgaa
