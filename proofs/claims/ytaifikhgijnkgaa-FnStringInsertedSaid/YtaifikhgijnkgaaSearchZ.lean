/- Contracts of sort.SearchInts, (sort.IntSlice).Search, impl.IntSearch, spec.IntSearch. No conditions. -/
import Derived.Test.YtaifikhgijnkgaaSearch
namespace Go.Proofs.Ytaifikhgijnkgaa
open Go.RowKit
set_option linter.unusedVariables false

set_option maxHeartbeats 1000000 in
theorem searchInts_lit (b off len cap P Q k : Nat) (y x : Int) (w : World) (hk : k < len) (hl : len < 4611686018427387904)
    (c0 : w.cell? ⟨P, 0, none⟩ = some (.slice (some ⟨b, off, none⟩) len cap)) (c1 : w.cell? ⟨Q, 0, none⟩ = some (.int .i64 x)) (c2 : w.cell? ⟨b, off + k, none⟩ = some (.int .i64 y)) :
    Calls Try.prog 155 #[.int .i64 k, .pointer (some ⟨P, 0, none⟩), .pointer (some ⟨Q, 0, none⟩)] w fun e w' => e = .returned (.bool (decide (x ≤ y))) ∧ ∃ m, w' = w.drewN m := by
  have hk' : (k : Int) < len := by omega
  go_enter Try.func155, Try.ntmps155
  go_wp2
  go_quiet (fail)
  go_wp2
  go_ret
  exact ⟨rfl, _, rfl⟩

set_option maxHeartbeats 1000000 in
theorem sort_SearchInts (a : Option Addr) (len cap : Nat) (xs : List Int) (x : Int) (w : World) (hs : Sl (Value.int .i64) w a len cap xs) (hl : len < 4611686018427387904) :
    Calls Try.prog 128 #[.slice a len cap, .int .i64 x] w fun e w' => e = .returned (.int .i64 (bsearch (fun k => decide (x ≤ el xs k)) len 0 len : Nat)) ∧ Below w.heap.size w w' := by
  have eg : ∀ args w, (callFunc 155 args).run Try.prog w = .ok (.enter 155 args) w := enters_of Try.func155 (by kernel_rfl) rfl
  have B2 := Lib.hid ((Below.refl w.heap.size w).alloc (Nat.le_refl _) (.cells #[.slice a len cap] 22) |>.alloc (by simp) (.cells #[.int .i64 x] 3))
  have c0 : ((w.alloc (.cells #[.slice a len cap] 22)).alloc (.cells #[.int .i64 x] 3)).cell? ⟨w.heap.size, 0, none⟩ = some (.slice a len cap) := by simp
  have c1 : ((w.alloc (.cells #[.slice a len cap] 22)).alloc (.cells #[.int .i64 x] 3)).cell? ⟨w.heap.size + 1, 0, none⟩ = some (.int .i64 x) := by simp
  have hS : Calls Try.prog 132 #[.int .i64 len, .func (.func 155) #[] #[.pointer (some ⟨w.heap.size, 0, none⟩), .pointer (some ⟨w.heap.size + 1, 0, none⟩)]] ((w.alloc (.cells #[.slice a len cap] 22)).alloc (.cells #[.int .i64 x] 3)) fun e w' => e = .returned (.int .i64 (bsearch (fun k => decide (x ≤ el xs k)) len 0 len : Nat)) ∧ ∃ q, w' = ((w.alloc (.cells #[.slice a len cap] 22)).alloc (.cells #[.int .i64 x] 3)).drewN q := by
    refine sort_Search _ 155 len _ _ hl eg fun q k hk => ?_
    obtain ⟨_, _, _, hc⟩ := hs
    rcases hc with h0 | ⟨b, off, rfl, hb, hc⟩
    · omega
    exact searchInts_lit b off len cap _ _ k (el xs k) x _ hk hl c0 c1 ((B2.out.cell (p := ⟨b, off + k, none⟩) hb).trans (hc k hk))
  have HS := Lib.hid hS
  clear hS hs c1
  go_enter Try.func128, Try.ntmps128
  go_wp2_with fail
  refine HS.out.mono ?_
  rintro e w' ⟨rfl, q, rfl⟩
  go_wp2_with fail
  go_ret
  exact ⟨rfl, Below.drewN B2.out q⟩

set_option maxHeartbeats 1000000 in
theorem impl_IntSearch (a : Option Addr) (len cap : Nat) (xs : List Int) (x : Int) (w : World) (hs : Sl (Value.int .i64) w a len cap xs) (hl : len < 4611686018427387904) :
    Calls Try.prog 65 #[.slice a len cap, .int .i64 x] w fun e w' => e = .returned (.int .i64 (bsearch (fun k => decide (x ≤ el xs k)) len 0 len : Nat)) ∧ Below w.heap.size w w' := by
  have HS := Lib.hid (sort_SearchInts a len cap xs x w hs hl)
  clear hs
  have h2 : Calls Try.prog 108 #[.slice a len cap, .int .i64 x] w fun e w' => e = .returned (.int .i64 (bsearch (fun k => decide (x ≤ el xs k)) len 0 len : Nat)) ∧ Below w.heap.size w w' := by
    go_enter Try.func108, Try.ntmps108
    go_wp2_with fail
    refine HS.out.mono ?_
    rintro e w' ⟨rfl, hb⟩
    go_wp2_with fail
    go_ret
    exact ⟨rfl, hb⟩
  have H2 := Lib.hid h2
  clear h2
  go_enter Try.func65, Try.ntmps65
  go_wp2_with fail
  refine H2.out.mono ?_
  rintro e w' ⟨rfl, hb⟩
  go_wp2_with fail
  go_ret
  exact ⟨rfl, hb⟩

set_option maxHeartbeats 1000000 in
/-- In sorted numbers the search by halves and the search one by one come to one place. -/
theorem spec_IntSearch (a : Option Addr) (len cap : Nat) (xs : List Int) (x : Int) (r : Nat) (w : World) (hs : Sl (Value.int .i64) w a len cap xs) (hl : len < 4611686018427387904)
    (hr : r ≤ len) (h1 : ∀ k, k < r → el xs k < x) (h2 : r < len → x ≤ el xs r) :
    Calls Try.prog 66 #[.slice a len cap, .int .i64 x] w fun e w' => e = .returned (.int .i64 r) ∧ w = w' := by
  obtain ⟨ea, _, _, hca⟩ := hs
  have H1 := Lib.hid h1
  have H2 := Lib.hid h2
  clear h1 h2
  by_cases h0 : len = 0
  · subst h0
    obtain rfl : r = 0 := by omega
    clear hca ea
    go_enter Try.func66, Try.ntmps66
    go_wp2
    go_loopw [9] (fun s wr => s = .int .i64 0 ∧ wr = w) (fun _ _ => 0)
    case atStart => exact ⟨rfl, rfl⟩
    case round =>
      obtain ⟨rfl, rfl⟩ := hrel
      go_wp2
      go_ret
      exact ⟨by simp, rfl⟩
  · rcases hca with hca | ⟨ba, oa, rfl, _, hca⟩
    · exact absurd hca h0
    have HA := Lib.hid hca
    clear hca ea
    go_enter Try.func66, Try.ntmps66
    go_wp2
    go_loopw [9] (fun s wr => ∃ k : Nat, s = .int .i64 k ∧ k ≤ r ∧ wr = w) (fun s _ => len - (intOf s).toNat)
    case atStart => exact ⟨0, rfl, by omega, rfl⟩
    case round =>
      obtain ⟨k, rfl, hk, rfl⟩ := hrel
      by_cases hlt : k < r
      · have hlt' : (k : Int) < len := by omega
        have ck := HA.out k (by omega)
        have hx := H1.out k hlt
        go_wp2
        go_roundw
        case rel => exact ⟨k + 1, by go_num, by omega, by first | rfl | trivial⟩
        case measure => simp [intOf]; omega
      · obtain rfl : k = r := by omega
        by_cases hlen : k < len
        · have hlt' : (k : Int) < len := by omega
          have ck := HA.out k hlen
          have hx := H2.out hlen
          go_wp2
          go_ret
          exact ⟨rfl, rfl⟩
        · obtain rfl : k = len := by omega
          go_wp2
          go_ret
          exact ⟨rfl, rfl⟩
#print axioms impl_IntSearch
#print axioms spec_IntSearch
end Go.Proofs.Ytaifikhgijnkgaa
