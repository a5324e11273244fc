/- Contracts of impl.IntLess, and the walk of laws.FnIntLess. No conditions. -/
import Derived.Test.YtaifikhgijnkgaaKit
namespace Go.Proofs.Ytaifikhgijnkgaa
open Go.RowKit
set_option linter.unusedVariables false

theorem impl_IntLess_no (a : Option Addr) (len cap : Nat) (i j : Int) (w : World) (h : insB len i j = false) :
    Calls Try.prog 40 #[.slice a len cap, .int .i64 i, .int .i64 j] w fun e w' => e = .returned (.bool false) ∧ w = w' := by
  go_enter Try.func40, Try.ntmps40
  go_wp2_with (go_at_call 90; refine (inside_impl_at _ _ _ _ _ h).mono ?_; rintro e w' ⟨rfl, rfl⟩)
  go_ret
  exact ⟨rfl, rfl⟩

theorem impl_IntLess_yes (b off len cap i j : Nat) (xs : List Int) (w : World) (hi : i < len) (hj : j < len) (hl : len < 4611686018427387904)
    (ci : w.cell? ⟨b, off + i, none⟩ = some (.int .i64 (el xs i))) (cj : w.cell? ⟨b, off + j, none⟩ = some (.int .i64 (el xs j))) :
    Calls Try.prog 40 #[.slice (some ⟨b, off, none⟩) len cap, .int .i64 i, .int .i64 j] w fun e w' => e = .returned (.bool (decide (el xs i < el xs j))) ∧ ∃ q, w' = w.drewN q := by
  have h : insB len i j = true := by simp [insB]; omega
  have hc := intLess b off len cap i j xs w hi hj hl ci cj
  have H := Lib.hid hc
  clear hc
  go_enter Try.func40, Try.ntmps40
  go_wp2_with (first | (go_at_call 90; refine (inside_impl_at _ _ _ _ _ h).mono ?_; rintro e w' ⟨rfl, rfl⟩) | (go_at_call 91; refine H.out.mono ?_; rintro e w' ⟨rfl, q, rfl⟩))
  go_ret
  exact ⟨rfl, _, rfl⟩

theorem walk_FnIntLess (a : Option Addr) (len cap : Nat) (xs : List Int) (i j : Int) (w : World) (hs : Sl (Value.int .i64) w a len cap xs) (g0 : ∀ x ∈ xs, (Lit.int .i64 x).wf = true) (hb : cap * 8 ≤ 140737488351232)
    (g1 : (Lit.int .i64 i).wf = true) (g2 : (Lit.int .i64 j).wf = true) :
    Calls Try.prog 4 #[.slice a len cap, .int .i64 i, .int .i64 j] w (Good w) := by
  clear g0 g1 g2
  obtain ⟨hlen, hcap, _, hcells⟩ := hs
  cases h : insB len i j with
  | false =>
    clear hcells hlen
    go_enter Try.func4, Try.ntmps4
    go_wp2
    go_quiet (first | (go_at_call 40; exact quiet_eq (impl_IntLess_no _ _ _ _ _ _ h)) | (go_at_call 41; exact quiet_eq (inside_laws_at _ _ _ _ _ h)))
    go_wp2
    go_ret
    exact ⟨rfl, Below.drewN (Below.refl _ _) _⟩
  | true =>
    obtain ⟨h1, h2, h3, h4⟩ := insB_true h
    obtain ⟨i, rfl⟩ := Int.eq_ofNat_of_zero_le h1
    obtain ⟨j, rfl⟩ := Int.eq_ofNat_of_zero_le h3
    rcases hcells with h0 | ⟨b, off, rfl, hbz, hc⟩
    · omega
    · have ci := hc i (by omega)
      have cj := hc j (by omega)
      have Hc := Lib.hid (fun n => impl_IntLess_yes b off len cap i j xs (w.drewN n) (by omega) (by omega) (by omega) ci cj)
      clear hc hlen
      go_enter Try.func4, Try.ntmps4
      go_wp2
      go_quiet (first | (go_at_call 40; exact Calls.quiet_of (Hc.out _)) | (go_at_call 41; exact quiet_eq (inside_laws_at _ _ _ _ _ h)))
      go_wp2
      go_ret
      exact ⟨by simp, Below.drewN (Below.refl _ _) _⟩
theorem impl_IntLen (a : Option Addr) (len cap : Nat) (w : World) : Calls Try.prog 39 #[.slice a len cap] w fun e w' => e = .returned (.int .i64 len) ∧ w = w' := by
  go_enter Try.func39, Try.ntmps39
  go_wp2
  go_ret
  exact ⟨rfl, rfl⟩

theorem walk_FnIntLen (a0 : Option Addr) (len0 cap0 : Nat) (x0 : List Int) (w : World)
    (s0 : Sl (Value.int .i64) w a0 len0 cap0 x0) (g0 : ∀ x ∈ x0, (Lit.int .i64 x).wf = true) (b0 : cap0 * 8 ≤ 140737488351232) :
    Calls Try.prog 3 #[.slice a0 len0 cap0] w (Good w) := by
  clear s0 g0
  go_enter Try.func3, Try.ntmps3
  go_wp2_with (go_at_call 39; refine (impl_IntLen _ _ _ _).mono ?_; rintro e w' ⟨rfl, rfl⟩)
  go_ret
  exact ⟨by simp, Below.refl _ _⟩
#print axioms walk_FnIntLess
#print axioms walk_FnIntLen
end Go.Proofs.Ytaifikhgijnkgaa
