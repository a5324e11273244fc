/- The contract of sort.Search, for every function value that only reads. Conditions: what the function value gives. -/
import Derived.Test.YtaifikhgijnkgaaOwn
import Derived.Shelf.Abstract
namespace Go.Proofs.Ytaifikhgijnkgaa
open Go.RowKit
set_option linter.unusedVariables false

/-- The search by halves, as the text goes. -/
def bsearch (p : Nat → Bool) : Nat → Nat → Nat → Nat
  | 0, i, _ => i
  | f + 1, i, j => if i < j then (if p ((i + j) / 2) then bsearch p f i ((i + j) / 2) else bsearch p f ((i + j) / 2 + 1) j) else i

theorem bsearch_stop (p : Nat → Bool) (f i j : Nat) (h : ¬ i < j) : bsearch p f i j = i := by
  cases f <;> simp [bsearch, h]

theorem bsearch_spec (p : Nat → Bool) (n : Nat) : ∀ (f i j : Nat), j - i ≤ f → i ≤ j → j ≤ n → (i = 0 ∨ p (i - 1) = false) → (j = n ∨ p j = true) →
    bsearch p f i j ≤ n ∧ (bsearch p f i j = 0 ∨ p (bsearch p f i j - 1) = false) ∧ (bsearch p f i j = n ∨ p (bsearch p f i j) = true) := by
  intro f
  induction f with
  | zero =>
    intro i j h1 h2 h3 h4 h5
    obtain rfl : i = j := by omega
    exact ⟨h3, h4, h5⟩
  | succ f ih =>
    intro i j h1 h2 h3 h4 h5
    unfold bsearch
    split
    · split
      · exact ih _ _ (by omega) (by omega) (by omega) h4 (.inr (by assumption))
      · exact ih _ _ (by omega) (by omega) h3 (.inr (by rw [Nat.add_sub_cancel]; cases hv : p ((i + j) / 2) <;> simp_all)) h5
    · obtain rfl : i = j := by omega
      exact ⟨h3, h4, h5⟩

theorem shr_one (k : Nat) (h : k < 9223372036854775808) : (k : Int) / 2 = ((k / 2 : Nat) : Int) := by omega

set_option maxHeartbeats 1000000 in
theorem sort_Search (p : Nat → Bool) (g n : Nat) (lb : Array Value) (w : World) (hn : n < 4611686018427387904) (eg : ∀ args w, (callFunc g args).run Try.prog w = .ok (.enter g args) w)
    (hp : ∀ (q k : Nat), k < n → Calls Try.prog g (#[.int .i64 k] ++ lb) (w.drewN q) fun e w' => e = .returned (.bool (p k)) ∧ ∃ m, w' = (w.drewN q).drewN m) :
    Calls Try.prog 132 #[.int .i64 n, .func (.func g) #[] lb] w fun e w' => e = .returned (.int .i64 (bsearch p n 0 n : Nat)) ∧ ∃ q, w' = w.drewN q := by
  have HP := Lib.hid hp
  clear hp
  go_enter Try.func132, Try.ntmps132
  go_wp2
  go_loopw [5, 6] (fun s t wr => ∃ i j q f : Nat, s = .int .i64 i ∧ t = .int .i64 j ∧ i ≤ j ∧ j ≤ n ∧ j - i ≤ f ∧ wr = w.drewN q ∧ bsearch p f i j = bsearch p n 0 n) (fun s t _ => (intOf t).toNat - (intOf s).toNat)
  case atStart => exact ⟨0, n, 0, n, rfl, rfl, by omega, by omega, by omega, rfl, rfl⟩
  case round =>
    obtain ⟨i, j, q, f, rfl, rfl, hij, hj, hf, rfl, hI⟩ := hrel
    by_cases hlt : i < j
    · obtain ⟨f, rfl⟩ : ∃ f', f = f' + 1 := ⟨f - 1, by omega⟩
      have hc := HP.out q ((i + j) / 2) (by omega)
      rw [show (((i + j) / 2 : Nat) : Int) = ((i : Int) + (j : Int)) / 2 by omega] at hc
      cases hpv : p ((i + j) / 2)
      · rw [hpv] at hc
        have HI := Lib.hid (show bsearch p f ((i + j) / 2 + 1) j = bsearch p n 0 n by rw [← hI]; simp [bsearch, hlt, hpv])
        have HC := Lib.hid hc
        clear hI hc hpv
        go_wp2_with fail
        refine HC.out.mono ?_
        rintro e w' ⟨rfl, m, rfl⟩
        go_wp2_with fail
        go_roundw
        case rel => exact ⟨(i + j) / 2 + 1, j, q + m, f, by congr 1 <;> omega, rfl, by omega, hj, by omega, by first | rfl | exact World.drewN_drewN _ _ _, HI.out⟩
        case measure => simp [intOf]; omega
      · rw [hpv] at hc
        have HI := Lib.hid (show bsearch p f i ((i + j) / 2) = bsearch p n 0 n by rw [← hI]; simp [bsearch, hlt, hpv])
        have HC := Lib.hid hc
        clear hI hc hpv
        go_wp2_with fail
        refine HC.out.mono ?_
        rintro e w' ⟨rfl, m, rfl⟩
        go_wp2_with fail
        go_roundw
        case rel => exact ⟨i, (i + j) / 2, q + m, f, rfl, by congr 1 <;> omega, by omega, by omega, by omega, by first | rfl | exact World.drewN_drewN _ _ _, HI.out⟩
        case measure => simp [intOf]; omega
    · have HI := Lib.hid (show i = bsearch p n 0 n by rw [← hI, bsearch_stop p f i j hlt])
      clear hI
      go_wp2
      go_ret
      exact ⟨by rw [← HI.out]; rfl, _, rfl⟩
#print axioms sort_Search
#print axioms bsearch_spec
end Go.Proofs.Ytaifikhgijnkgaa
