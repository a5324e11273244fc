/- Contracts of (impl.Order).before, spec.Before, laws.so, spec.Turned. No conditions. -/
import Derived.Test.YtaifikhgijnkgaaOwn
namespace Go.Proofs.Ytaifikhgijnkgaa
open Go.RowKit
set_option linter.unusedVariables false

/-- The key x comes before the key y by the table bs of n x n. -/
def bef (n : Int) (bs : List Bool) (x y : Int) : Bool :=
  decide (0 ≤ x ∧ x < n ∧ 0 ≤ y ∧ y < n ∧ n ≤ bs.length ∧ n ≤ 1048576 ∧ n * x + y < bs.length) && el bs (n * x + y).toNat

theorem bef_no {n : Int} {bs : List Bool} {x y : Int} (h : ¬ (0 ≤ x ∧ x < n ∧ 0 ≤ y ∧ y < n ∧ n ≤ bs.length ∧ n ≤ 1048576 ∧ n * x + y < bs.length)) : bef n bs x y = false := by
  unfold bef; rw [decide_eq_false h]; rfl
theorem bef_yes {n : Int} {bs : List Bool} {x y : Int} (h : 0 ≤ x ∧ x < n ∧ 0 ≤ y ∧ y < n ∧ n ≤ bs.length ∧ n ≤ 1048576 ∧ n * x + y < bs.length) : bef n bs x y = el bs (n * x + y).toNat := by
  unfold bef; rw [decide_eq_true h]; rfl

/-- The ways through the tests. -/
theorem bef_ways (n x y : Int) (len : Nat) : x < 0 ∨ (0 ≤ x ∧ n ≤ x) ∨ (0 ≤ x ∧ x < n ∧ y < 0) ∨ (0 ≤ x ∧ x < n ∧ 0 ≤ y ∧ n ≤ y) ∨ (0 ≤ x ∧ x < n ∧ 0 ≤ y ∧ y < n ∧ (len : Int) < n) ∨ (0 ≤ x ∧ x < n ∧ 0 ≤ y ∧ y < n ∧ n ≤ len ∧ 1048576 < n) ∨
    (0 ≤ x ∧ x < n ∧ 0 ≤ y ∧ y < n ∧ n ≤ len ∧ n ≤ 1048576) := by omega

theorem mul_bound (n x : Int) (h0 : 0 ≤ x) (h1 : x < n) (h2 : n ≤ 1048576) : 0 ≤ n * x ∧ n * x ≤ 1099511627776 := by
  have hn : 0 ≤ n := by omega
  refine ⟨Int.mul_nonneg hn h0, ?_⟩
  have : n * x ≤ 1048576 * 1048576 := Int.mul_le_mul h2 (by omega) h0 (by omega)
  omega

/-- Three new blocks. -/
theorem below3 (w : World) (A B C : Obj) : Below w.heap.size w (((w.alloc A).alloc B).alloc C) :=
  (((Below.refl _ _).alloc (Nat.le_refl _) _).alloc (by simp) _).alloc (by simp; omega) _

set_option maxHeartbeats 1000000 in
theorem impl_before (n : Int) (a : Option Addr) (len cap : Nat) (bs : List Bool) (x y : It) (w : World) (hs : Sl Value.bool w a len cap bs) :
    Calls Try.prog 95 #[.agg #[.int .i64 n, .slice a len cap], .agg #[.int .i64 x.1, .int .i64 x.2], .agg #[.int .i64 y.1, .int .i64 y.2]] w fun e w' => e = .returned (.bool (bef n bs x.1 y.1)) ∧ Below w.heap.size w w' := by
  obtain ⟨x, tx⟩ := x
  obtain ⟨y, ty⟩ := y
  dsimp only
  obtain ⟨hlen, hcap, _, hcells⟩ := hs
  rcases bef_ways n x y len with h | h | h | h | h | h | h
  iterate 6
    · have HN := Lib.hid (bef_no (n := n) (bs := bs) (x := x) (y := y) (by rw [hlen]; omega))
      clear hcells hlen
      go_enter Try.func95, Try.ntmps95
      go_wp2
      go_ret
      exact ⟨ret_b (by rw [HN.out]), below3 _ _ _ _⟩
  · obtain ⟨h1, h2, h3, h4, h5, h6⟩ := h
    obtain ⟨m1, m2⟩ := mul_bound n x h1 h2 h6
    by_cases h7 : n * x + y < len
    · have HN := Lib.hid (bef_yes (n := n) (bs := bs) (x := x) (y := y) (by rw [hlen]; exact ⟨h1, h2, h3, h4, h5, h6, h7⟩))
      rcases hcells with h0 | ⟨b, off, rfl, hb, hc⟩
      · omega
      have hc1 := hc (n * x + y).toNat (by omega)
      have hcell : ∀ A B C, (((w.alloc A).alloc B).alloc C).cell? ⟨b, off + (n * x + y).toNat, none⟩ = some (Value.bool (el bs (n * x + y).toNat)) := fun A B C => by
        rw [(below3 w A B C).cell (p := ⟨b, off + (n * x + y).toNat, none⟩) hb]; exact hc1
      clear hc hlen hc1
      go_enter Try.func95, Try.ntmps95
      go_wp2
      go_ret
      exact ⟨ret_b (by rw [HN.out]), below3 _ _ _ _⟩
    · have HN := Lib.hid (bef_no (n := n) (bs := bs) (x := x) (y := y) (by rw [hlen]; omega))
      clear hcells hlen
      go_enter Try.func95, Try.ntmps95
      go_wp2
      go_ret
      exact ⟨ret_b (by rw [HN.out]), below3 _ _ _ _⟩

set_option maxHeartbeats 1000000 in
theorem spec_Before_plain (n : Int) (a : Option Addr) (len cap : Nat) (bs : List Bool) (x y : It) (w : World) (hs : Sl Value.bool w a len cap bs) :
    Calls Try.prog 63 #[.agg #[.int .i64 n, .slice a len cap, .bool false], .agg #[.int .i64 x.1, .int .i64 x.2], .agg #[.int .i64 y.1, .int .i64 y.2]] w fun e w' => e = .returned (.bool (bef n bs x.1 y.1)) ∧ Below w.heap.size w w' := by
  obtain ⟨x, tx⟩ := x
  obtain ⟨y, ty⟩ := y
  dsimp only
  obtain ⟨hlen, hcap, _, hcells⟩ := hs
  rcases bef_ways n x y len with h | h | h | h | h | h | h
  iterate 6
    · have HN := Lib.hid (bef_no (n := n) (bs := bs) (x := x) (y := y) (by rw [hlen]; omega))
      clear hcells hlen
      go_enter Try.func63, Try.ntmps63
      go_wp2
      go_ret
      exact ⟨ret_b (by rw [HN.out]), below3 _ _ _ _⟩
  · obtain ⟨h1, h2, h3, h4, h5, h6⟩ := h
    obtain ⟨m1, m2⟩ := mul_bound n x h1 h2 h6
    by_cases h7 : n * x + y < len
    · have HN := Lib.hid (bef_yes (n := n) (bs := bs) (x := x) (y := y) (by rw [hlen]; exact ⟨h1, h2, h3, h4, h5, h6, h7⟩))
      rcases hcells with h0 | ⟨b, off, rfl, hb, hc⟩
      · omega
      have hc1 := hc (n * x + y).toNat (by omega)
      have hcell : ∀ A B C, (((w.alloc A).alloc B).alloc C).cell? ⟨b, off + (n * x + y).toNat, none⟩ = some (Value.bool (el bs (n * x + y).toNat)) := fun A B C => by
        rw [(below3 w A B C).cell (p := ⟨b, off + (n * x + y).toNat, none⟩) hb]; exact hc1
      clear hc hlen hc1
      go_enter Try.func63, Try.ntmps63
      go_wp2
      go_ret
      exact ⟨ret_b (by rw [HN.out]), below3 _ _ _ _⟩
    · have HN := Lib.hid (bef_no (n := n) (bs := bs) (x := x) (y := y) (by rw [hlen]; omega))
      clear hcells hlen
      go_enter Try.func63, Try.ntmps63
      go_wp2
      go_ret
      exact ⟨ret_b (by rw [HN.out]), below3 _ _ _ _⟩

set_option maxHeartbeats 1000000 in
theorem spec_Before_turned (n : Int) (a : Option Addr) (len cap : Nat) (bs : List Bool) (x y : It) (w : World) (hs : Sl Value.bool w a len cap bs) :
    Calls Try.prog 63 #[.agg #[.int .i64 n, .slice a len cap, .bool true], .agg #[.int .i64 y.1, .int .i64 y.2], .agg #[.int .i64 x.1, .int .i64 x.2]] w fun e w' => e = .returned (.bool (bef n bs x.1 y.1)) ∧ Below w.heap.size w w' := by
  obtain ⟨x, tx⟩ := x
  obtain ⟨y, ty⟩ := y
  dsimp only
  obtain ⟨hlen, hcap, _, hcells⟩ := hs
  rcases bef_ways n x y len with h | h | h | h | h | h | h
  iterate 6
    · have HN := Lib.hid (bef_no (n := n) (bs := bs) (x := x) (y := y) (by rw [hlen]; omega))
      clear hcells hlen
      go_enter Try.func63, Try.ntmps63
      go_wp2
      go_ret
      exact ⟨ret_b (by rw [HN.out]), below3 _ _ _ _⟩
  · obtain ⟨h1, h2, h3, h4, h5, h6⟩ := h
    obtain ⟨m1, m2⟩ := mul_bound n x h1 h2 h6
    by_cases h7 : n * x + y < len
    · have HN := Lib.hid (bef_yes (n := n) (bs := bs) (x := x) (y := y) (by rw [hlen]; exact ⟨h1, h2, h3, h4, h5, h6, h7⟩))
      rcases hcells with h0 | ⟨b, off, rfl, hb, hc⟩
      · omega
      have hc1 := hc (n * x + y).toNat (by omega)
      have hcell : ∀ A B C, (((w.alloc A).alloc B).alloc C).cell? ⟨b, off + (n * x + y).toNat, none⟩ = some (Value.bool (el bs (n * x + y).toNat)) := fun A B C => by
        rw [(below3 w A B C).cell (p := ⟨b, off + (n * x + y).toNat, none⟩) hb]; exact hc1
      clear hc hlen hc1
      go_enter Try.func63, Try.ntmps63
      go_wp2
      go_ret
      exact ⟨ret_b (by rw [HN.out]), below3 _ _ _ _⟩
    · have HN := Lib.hid (bef_no (n := n) (bs := bs) (x := x) (y := y) (by rw [hlen]; omega))
      clear hcells hlen
      go_enter Try.func63, Try.ntmps63
      go_wp2
      go_ret
      exact ⟨ret_b (by rw [HN.out]), below3 _ _ _ _⟩

/-- The order, turned or not. -/
def sbef (n : Int) (bs : List Bool) (tu : Bool) (x y : It) : Bool := if tu then bef n bs y.1 x.1 else bef n bs x.1 y.1

theorem spec_Before (n : Int) (a : Option Addr) (len cap : Nat) (bs : List Bool) (tu : Bool) (x y : It) (w : World) (hs : Sl Value.bool w a len cap bs) :
    Calls Try.prog 63 #[.agg #[.int .i64 n, .slice a len cap, .bool tu], .agg #[.int .i64 x.1, .int .i64 x.2], .agg #[.int .i64 y.1, .int .i64 y.2]] w fun e w' => e = .returned (.bool (sbef n bs tu x y)) ∧ Below w.heap.size w w' := by
  cases tu
  · exact spec_Before_plain n a len cap bs x y w hs
  · exact spec_Before_turned n a len cap bs y x w hs

theorem laws_so (n : Int) (a : Option Addr) (len cap : Nat) (w : World) :
    Calls Try.prog 46 #[.agg #[.int .i64 n, .slice a len cap]] w fun e w' => e = .returned (.agg #[.int .i64 n, .slice a len cap, .bool false]) ∧ Below w.heap.size w w' := by
  go_enter Try.func46, Try.ntmps46
  go_wp2
  refine bodyPost_ret (v := .agg #[.int .i64 n, .slice a len cap, .bool false]) (by simp [results, Try.results46, go_sem]) rfl ⟨rfl, ?_⟩
  exact ((Below.refl _ _).alloc (Nat.le_refl _) _).alloc (by simp) _

theorem spec_Turned (n : Int) (a : Option Addr) (len cap : Nat) (tu : Bool) (w : World) :
    Calls Try.prog 74 #[.agg #[.int .i64 n, .slice a len cap, .bool tu]] w fun e w' => e = .returned (.agg #[.int .i64 n, .slice a len cap, .bool (!tu)]) ∧ Below w.heap.size w w' := by
  go_enter Try.func74, Try.ntmps74
  go_wp2
  refine bodyPost_ret (v := .agg #[.int .i64 n, .slice a len cap, .bool (!tu)]) (by simp [results, Try.results74, go_sem]) rfl ⟨rfl, ?_⟩
  exact ((Below.refl _ _).alloc (Nat.le_refl _) _).alloc (by simp) _
#print axioms impl_before
#print axioms spec_Before
#print axioms laws_so
#print axioms spec_Turned
end Go.Proofs.Ytaifikhgijnkgaa
