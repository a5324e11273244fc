/- Contracts of sort.SearchStrings, (sort.StringSlice).Search, impl.StringSearch, spec.StringSearch. No conditions. -/
import Derived.Test.YtaifikhgijnkgaaSearch
import Derived.Test.YtaifikhgijnkgaaStr
namespace Go.Proofs.Ytaifikhgijnkgaa
open Go.RowKit
set_option linter.unusedVariables false

set_option maxHeartbeats 1000000 in
theorem searchStrings_lit (b off len cap P Q k : Nat) (y x : ByteArray) (w : World) (hk : k < len) (hl : len < 4611686018427387904)
    (c0 : w.cell? ⟨P, 0, none⟩ = some (.slice (some ⟨b, off, none⟩) len cap)) (c1 : w.cell? ⟨Q, 0, none⟩ = some (.string x)) (c2 : w.cell? ⟨b, off + k, none⟩ = some (.string y)) :
    Calls Try.prog 164 #[.int .i64 k, .pointer (some ⟨P, 0, none⟩), .pointer (some ⟨Q, 0, none⟩)] w fun e w' => e = .returned (.bool (!sLt y x)) ∧ ∃ m, w' = w.drewN m := by
  have hk' : (k : Int) < len := by omega
  go_enter Try.func164, Try.ntmps164
  go_wp2
  go_quiet (fail)
  go_wp2
  go_ret
  exact ⟨rfl, _, rfl⟩

set_option maxHeartbeats 1000000 in
theorem sort_SearchStrings (a : Option Addr) (len cap : Nat) (xs : List ByteArray) (x : ByteArray) (w : World) (hs : Sl Value.string w a len cap xs) (hl : len < 4611686018427387904) :
    Calls Try.prog 130 #[.slice a len cap, .string x] w fun e w' => e = .returned (.int .i64 (bsearch (fun k => !sLt (el xs k) x) len 0 len : Nat)) ∧ Below w.heap.size w w' := by
  have eg : ∀ args w, (callFunc 164 args).run Try.prog w = .ok (.enter 164 args) w := enters_of Try.func164 (by kernel_rfl) rfl
  have B2 := Lib.hid ((Below.refl w.heap.size w).alloc (Nat.le_refl _) (.cells #[.slice a len cap] 27) |>.alloc (by simp) (.cells #[.string x] 9))
  have c0 : ((w.alloc (.cells #[.slice a len cap] 27)).alloc (.cells #[.string x] 9)).cell? ⟨w.heap.size, 0, none⟩ = some (.slice a len cap) := by simp
  have c1 : ((w.alloc (.cells #[.slice a len cap] 27)).alloc (.cells #[.string x] 9)).cell? ⟨w.heap.size + 1, 0, none⟩ = some (.string x) := by simp
  have hS : Calls Try.prog 132 #[.int .i64 len, .func (.func 164) #[] #[.pointer (some ⟨w.heap.size, 0, none⟩), .pointer (some ⟨w.heap.size + 1, 0, none⟩)]] ((w.alloc (.cells #[.slice a len cap] 27)).alloc (.cells #[.string x] 9)) fun e w' => e = .returned (.int .i64 (bsearch (fun k => !sLt (el xs k) x) len 0 len : Nat)) ∧ ∃ q, w' = ((w.alloc (.cells #[.slice a len cap] 27)).alloc (.cells #[.string x] 9)).drewN q := by
    refine sort_Search _ 164 len _ _ hl eg fun q k hk => ?_
    obtain ⟨_, _, _, hc⟩ := hs
    rcases hc with h0 | ⟨b, off, rfl, hb, hc⟩
    · omega
    exact searchStrings_lit b off len cap _ _ k (el xs k) x _ hk hl c0 c1 ((B2.out.cell (p := ⟨b, off + k, none⟩) hb).trans (hc k hk))
  have HS := Lib.hid hS
  clear hS hs c1
  go_enter Try.func130, Try.ntmps130
  go_wp2_with fail
  refine HS.out.mono ?_
  rintro e w' ⟨rfl, q, rfl⟩
  go_wp2_with fail
  go_ret
  exact ⟨rfl, Below.drewN B2.out q⟩

set_option maxHeartbeats 1000000 in
theorem impl_StringSearch (a : Option Addr) (len cap : Nat) (xs : List ByteArray) (x : ByteArray) (w : World) (hs : Sl Value.string w a len cap xs) (hl : len < 4611686018427387904) :
    Calls Try.prog 70 #[.slice a len cap, .string x] w fun e w' => e = .returned (.int .i64 (bsearch (fun k => !sLt (el xs k) x) len 0 len : Nat)) ∧ Below w.heap.size w w' := by
  have HS := Lib.hid (sort_SearchStrings a len cap xs x w hs hl)
  clear hs
  have h2 : Calls Try.prog 110 #[.slice a len cap, .string x] w fun e w' => e = .returned (.int .i64 (bsearch (fun k => !sLt (el xs k) x) len 0 len : Nat)) ∧ Below w.heap.size w w' := by
    go_enter Try.func110, Try.ntmps110
    go_wp2_with fail
    refine HS.out.mono ?_
    rintro e w' ⟨rfl, hb⟩
    go_wp2_with fail
    go_ret
    exact ⟨rfl, hb⟩
  have H2 := Lib.hid h2
  clear h2
  go_enter Try.func70, Try.ntmps70
  go_wp2_with fail
  refine H2.out.mono ?_
  rintro e w' ⟨rfl, hb⟩
  go_wp2_with fail
  go_ret
  exact ⟨rfl, hb⟩

set_option maxHeartbeats 1000000 in
/-- The search one by one. -/
theorem spec_StringSearch (a : Option Addr) (len cap : Nat) (xs : List ByteArray) (x : ByteArray) (r : Nat) (w : World) (hs : Sl Value.string w a len cap xs) (hl : len < 4611686018427387904)
    (hz : ∀ k, k < len → (el xs k).size ≤ maxLen) (hzx : x.size ≤ maxLen) (hr : r ≤ len) (h1 : ∀ k, k < r → sLt (el xs k) x = true) (h2 : r < len → sLt (el xs r) x = false) :
    Calls Try.prog 71 #[.slice a len cap, .string x] w fun e w' => e = .returned (.int .i64 r) ∧ ∃ q, w' = w.drewN q := by
  obtain ⟨ea, _, _, hca⟩ := hs
  have H1 := Lib.hid h1
  have H2 := Lib.hid h2
  have HZ := Lib.hid hz
  have HZX := Lib.hid hzx
  clear h1 h2 hz hzx
  by_cases h0 : len = 0
  · subst h0
    obtain rfl : r = 0 := by omega
    clear hca ea
    go_enter Try.func71, Try.ntmps71
    go_wp2
    go_loopw [9] (fun s wr => s = .int .i64 0 ∧ wr = w) (fun _ _ => 0)
    case atStart => exact ⟨rfl, rfl⟩
    case round =>
      obtain ⟨rfl, rfl⟩ := hrel
      go_wp2
      go_ret
      exact ⟨by simp, 0, rfl⟩
  · rcases hca with hca | ⟨ba, oa, rfl, _, hca⟩
    · exact absurd hca h0
    have HA := Lib.hid hca
    clear hca ea
    go_enter Try.func71, Try.ntmps71
    go_wp2
    go_loopw [9] (fun s wr => ∃ k q : Nat, s = .int .i64 k ∧ k ≤ r ∧ wr = w.drewN q) (fun s _ => len - (intOf s).toNat)
    case atStart => exact ⟨0, 0, rfl, by omega, rfl⟩
    case round =>
      obtain ⟨k, q, rfl, hk, rfl⟩ := hrel
      by_cases hlt : k < r
      · have hlt' : (k : Int) < len := by omega
        have ck := HA.out k (by omega)
        have hcall := spec_StringBefore (el xs k) x (w.drewN q) (HZ.out k (by omega)) HZX.out
        rw [H1.out k hlt] at hcall
        have HCL := Lib.hid hcall
        clear hcall
        go_wp2_with fail
        refine HCL.out.mono ?_
        rintro e w' ⟨rfl, q', rfl⟩
        go_wp2_with fail
        go_roundw
        case rel => exact ⟨k + 1, q + q', by go_num, by omega, by first | rfl | exact World.drewN_drewN _ _ _⟩
        case measure => simp [intOf]; omega
      · obtain rfl : k = r := by omega
        by_cases hlen : k < len
        · have hlt' : (k : Int) < len := by omega
          have ck := HA.out k hlen
          have hcall := spec_StringBefore (el xs k) x (w.drewN q) (HZ.out k (by omega)) HZX.out
          rw [H2.out hlen] at hcall
          have HCL := Lib.hid hcall
          clear hcall
          go_wp2_with fail
          refine HCL.out.mono ?_
          rintro e w' ⟨rfl, q', rfl⟩
          go_wp2_with fail
          go_ret
          exact ⟨rfl, _, rfl⟩
        · obtain rfl : k = len := by omega
          go_wp2
          go_ret
          exact ⟨rfl, _, rfl⟩
#print axioms impl_StringSearch
#print axioms spec_StringSearch
end Go.Proofs.Ytaifikhgijnkgaa
