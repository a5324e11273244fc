/- Contracts on floats: isNaN, cmp.Less, (sort.Float64Slice).Less, spec.FloatBefore. Conditions: the places lie inside. -/
import Derived.Test.YtaifikhgijnkgaaOwn2
import Derived.Laws.Cover2
namespace Go.Proofs.Ytaifikhgijnkgaa
open Go.RowKit
set_option linter.unusedVariables false

/-- How two floats stand by their bits. -/
def fOrd (a b : Nat) : Option Ordering := FloatKind.f64.format.order a b
def fNaN (a : Nat) : Bool := fOrd a a != some .eq
/-- Increasing, NaNs ahead. -/
def fLt (a b : Nat) : Bool := (fOrd a b == some .lt) || (fNaN a && !fNaN b)

theorem frombits_run (n : Int) (w : World) : (callFunc 104 #[.int .u64 n]).run Try.prog w = .ok (.value (.float .f64 n.toNat)) w := by kernel_rfl
theorem bits_run (b : Nat) (w : World) : (callFunc 125 #[.float .f64 b]).run Try.prog w = .ok (.value (.int .u64 b)) w := by kernel_rfl

theorem sort_isNaN (a : Nat) (w : World) : Calls Try.prog 127 #[.float .f64 a] w fun e w' => e = .returned (.bool (fNaN a)) ∧ w = w' := by
  go_enter Try.func127, Try.ntmps127
  go_wp2
  go_ret
  exact ⟨rfl, rfl⟩
theorem cmp_isNaN (a : Nat) (w : World) : Calls Try.prog 179 #[.float .f64 a] w fun e w' => e = .returned (.bool (fNaN a)) ∧ w = w' := by
  go_enter Try.func179, Try.ntmps179
  go_wp2
  go_ret
  exact ⟨rfl, rfl⟩
theorem sort_isNaN_at (r : Bool) (a : Nat) (w : World) (h : fNaN a = r) : Calls Try.prog 127 #[.float .f64 a] w fun e w' => e = .returned (.bool r) ∧ w = w' := by subst h; exact sort_isNaN a w
theorem cmp_isNaN_at (r : Bool) (a : Nat) (w : World) (h : fNaN a = r) : Calls Try.prog 179 #[.float .f64 a] w fun e w' => e = .returned (.bool r) ∧ w = w' := by subst h; exact cmp_isNaN a w

set_option maxHeartbeats 1000000 in
theorem cmp_Less (a b : Nat) (w : World) : Calls Try.prog 154 #[.float .f64 a, .float .f64 b] w fun e w' => e = .returned (.bool (fLt a b)) ∧ w = w' := by
  cases h1 : fNaN a <;> cases h2 : fNaN b <;> cases h3 : (FloatKind.f64.format.order a b == some .lt)
  all_goals
    have HF := Lib.hid (show fLt a b = _ by unfold fLt fOrd; rw [h1, h2, h3])
    go_enter Try.func154, Try.ntmps154
    go_wp2_with (go_at_call 179; first | (with_reducible refine (cmp_isNaN_at _ a _ h1).mono ?_; rintro e w' ⟨rfl, rfl⟩) | (with_reducible refine (cmp_isNaN_at _ b _ h2).mono ?_; rintro e w' ⟨rfl, rfl⟩))
    go_ret
    exact ⟨ret_b (by rw [HF.out]; rfl), rfl⟩

/-- The ways through the tests. -/
theorem fLt_ways (a b : Nat) : ((FloatKind.f64.format.order a b == some .lt) = true ∧ fLt a b = true) ∨ ((FloatKind.f64.format.order a b == some .lt) = false ∧ fNaN a = false ∧ fLt a b = false) ∨
    ((FloatKind.f64.format.order a b == some .lt) = false ∧ fNaN a = true ∧ fNaN b = true ∧ fLt a b = false) ∨ ((FloatKind.f64.format.order a b == some .lt) = false ∧ fNaN a = true ∧ fNaN b = false ∧ fLt a b = true) := by
  unfold fLt fOrd
  cases h3 : (FloatKind.f64.format.order a b == some .lt) <;> cases h1 : fNaN a <;> cases h2 : fNaN b <;> simp

set_option maxHeartbeats 2000000 in
theorem floatSlice_Less (b off len cap i j : Nat) (x y : Nat) (w : World) (hi : i < len) (hj : j < len) (hl : len < 4611686018427387904)
    (ci : w.cell? ⟨b, off + i, none⟩ = some (.float .f64 x)) (cj : w.cell? ⟨b, off + j, none⟩ = some (.float .f64 y)) :
    Calls Try.prog 106 #[.slice (some ⟨b, off, none⟩) len cap, .int .i64 i, .int .i64 j] w fun e w' => e = .returned (.bool (fLt x y)) ∧ ∃ q, w' = w.drewN q := by
  have hi' : (i : Int) < len := by omega
  have hj' : (j : Int) < len := by omega
  rcases fLt_ways x y with ⟨h1, hr⟩ | ⟨h1, h2, hr⟩ | ⟨h1, h2, h3, hr⟩ | ⟨h1, h2, h3, hr⟩
  · have HF := Lib.hid hr
    clear hr
    go_enter Try.func106, Try.ntmps106
    go_wp2
    go_quiet (fail)
    go_wp2
    go_ret
    exact ⟨ret_b (by rw [HF.out]), _, rfl⟩
  · have HF := Lib.hid hr
    clear hr
    go_enter Try.func106, Try.ntmps106
    go_wp2
    go_quiet ((go_at_call 127; exact quiet_eq (sort_isNaN_at _ x _ h2)))
    go_wp2
    go_ret
    exact ⟨ret_b (by rw [HF.out]), _, rfl⟩
  · have HF := Lib.hid hr
    clear hr
    go_enter Try.func106, Try.ntmps106
    go_wp2
    go_quiet ((go_at_call 127; first | with_reducible exact quiet_eq (sort_isNaN_at _ x _ h2) | with_reducible exact quiet_eq (sort_isNaN_at _ y _ h3)))
    go_wp2
    go_ret
    exact ⟨ret_b (by rw [HF.out]), _, rfl⟩
  · have HF := Lib.hid hr
    clear hr
    go_enter Try.func106, Try.ntmps106
    go_wp2
    go_quiet ((go_at_call 127; first | with_reducible exact quiet_eq (sort_isNaN_at _ x _ h2) | with_reducible exact quiet_eq (sort_isNaN_at _ y _ h3)))
    go_wp2
    go_ret
    exact ⟨ret_b (by rw [HF.out]), _, rfl⟩

set_option maxHeartbeats 2000000 in
theorem spec_FloatBefore (x y : Int) (w : World) : Calls Try.prog 55 #[.int .u64 x, .int .u64 y] w fun e w' => e = .returned (.bool (fLt x.toNat y.toNat)) ∧ w = w' := by
  have f1 := frombits_run x
  have f2 := frombits_run y
  rcases fLt_ways x.toNat y.toNat with ⟨h1, hr⟩ | ⟨h1, h2, hr⟩ | ⟨h1, h2, h3, hr⟩ | ⟨h1, h2, h3, hr⟩
  · have HF := Lib.hid hr
    clear hr
    go_enter Try.func55, Try.ntmps55
    go_wp2
    go_ret
    exact ⟨ret_b (by rw [HF.out]), rfl⟩
  · have HF := Lib.hid hr
    have h2' : (FloatKind.f64.format.order x.toNat x.toNat != some .eq) = false := h2
    clear hr h2
    go_enter Try.func55, Try.ntmps55
    go_wp2
    go_ret
    exact ⟨ret_b (by rw [HF.out]), rfl⟩
  · have HF := Lib.hid hr
    have h2' : (FloatKind.f64.format.order x.toNat x.toNat != some .eq) = true := h2
    have h3' : (FloatKind.f64.format.order y.toNat y.toNat == some .eq) = false := by unfold fNaN fOrd at h3; simpa using h3
    clear hr h2 h3
    go_enter Try.func55, Try.ntmps55
    go_wp2
    go_ret
    exact ⟨ret_b (by rw [HF.out]), rfl⟩
  · have HF := Lib.hid hr
    have h2' : (FloatKind.f64.format.order x.toNat x.toNat != some .eq) = true := h2
    have h3' : (FloatKind.f64.format.order y.toNat y.toNat == some .eq) = true := by unfold fNaN fOrd at h3; simpa using h3
    clear hr h2 h3
    go_enter Try.func55, Try.ntmps55
    go_wp2
    go_ret
    exact ⟨ret_b (by rw [HF.out]), rfl⟩
#print axioms cmp_Less
#print axioms floatSlice_Less
#print axioms spec_FloatBefore
end Go.Proofs.Ytaifikhgijnkgaa
