/- The contract of impl.Float64Less and the walk of laws.FnFloat64Less. No conditions. -/
import Derived.Test.YtaifikhgijnkgaaFlos
import Derived.Deep.RegionHeld3
namespace Go.Proofs.Ytaifikhgijnkgaa
open Go.RowKit
set_option linter.unusedVariables false

theorem impl_Float64Less_no (a : Option Addr) (len cap : Nat) (i j : Int) (w : World) (h : insB len i j = false) :
    Calls Try.prog 57 #[.slice a len cap, .int .i64 i, .int .i64 j] w fun e w' => e = .returned (.bool false) ∧ w = w' := by
  go_enter Try.func57, Try.ntmps57
  go_wp2_with (go_at_call 90; refine (inside_impl_at _ _ _ _ _ h).mono ?_; rintro e w' ⟨rfl, rfl⟩)
  go_ret
  exact ⟨rfl, rfl⟩

theorem el_map {α β : Type} [Inhabited α] [Inhabited β] (f : α → β) (xs : List α) (i : Nat) (h : i < xs.length) : el (xs.map f) i = f (el xs i) := by
  rw [el_eq _ _ (by simpa using h), el_eq _ _ h, List.getElem_map]

theorem impl_Float64Less_yes (a : Option Addr) (len cap : Nat) (xs : List Int) (i j : Nat) (w : World) (hs : Sl (Value.int .u64) w a len cap xs) (hb : len * 8 ≤ 140737488351232) (hi : i < len) (hj : j < len) :
    Calls Try.prog 57 #[.slice a len cap, .int .i64 i, .int .i64 j] w fun e w' => e = .returned (.bool (fLt (el xs i).toNat (el xs j).toNat)) ∧ Below w.heap.size w w' := by
  have h : insB len i j = true := by simp [insB]; omega
  have HL := Lib.hid hs.1
  have HF := Lib.hid (impl_floats a len cap xs w hs hb)
  clear hs
  go_enter Try.func57, Try.ntmps57
  go_wp2_with (go_at_call 90; refine (inside_impl_at _ _ _ _ _ h).mono ?_; rintro e w' ⟨rfl, rfl⟩)
  refine HF.out.mono ?_
  rintro e w1 ⟨g, rfl, hg, ho, hb1⟩
  have hl : (xs.map Int.toNat).length = len := by rw [List.length_map]; exact HL.out
  have ci := ho.cell1 hl i hi
  have cj := ho.cell1 hl j hj
  rw [el_map _ _ _ (by rw [HL.out]; exact hi)] at ci
  rw [el_map _ _ _ (by rw [HL.out]; exact hj)] at cj
  have HC := Lib.hid (floatSlice_Less g 0 len len i j _ _ w1 hi hj (by omega) (by rw [Nat.zero_add]; exact ci) (by rw [Nat.zero_add]; exact cj))
  have HB := Lib.hid hb1
  clear ho hb1 ci cj hl
  go_wp2_with fail
  refine HC.out.mono ?_
  rintro e w2 ⟨rfl, q, rfl⟩
  go_wp2_with fail
  go_ret
  exact ⟨rfl, Below.drewN HB.out q⟩

set_option maxHeartbeats 2000000 in
set_option maxRecDepth 100000 in
theorem walk_FnFloat64Less (a0 : Option Addr) (len0 cap0 : Nat) (x0 : List Int) (x1 : Int) (x2 : Int) (w : World)
    (s0 : Sl (Value.int .u64) w a0 len0 cap0 x0) (g0 : ∀ x ∈ x0, (Lit.int .u64 x).wf = true) (b0 : cap0 * 8 ≤ 140737488351232) (g1 : (Lit.int .i64 x1).wf = true) (g2 : (Lit.int .i64 x2).wf = true) :
    Calls Try.prog 12 #[.slice a0 len0 cap0, .int .i64 x1, .int .i64 x2] w (Good w) := by
  clear g0 g1 g2
  have hcap := s0.2.1
  cases h : insB len0 x1 x2 with
  | false =>
    clear s0
    go_enter Try.func12, Try.ntmps12
    go_wp2
    go_quiet (first | (go_at_call 57; exact quiet_eq (impl_Float64Less_no _ _ _ _ _ _ h)) | (go_at_call 41; exact quiet_eq (inside_laws_at _ _ _ _ _ h)))
    go_wp2
    go_ret
    exact ⟨rfl, Below.drewN (Below.refl _ _) _⟩
  | true =>
    obtain ⟨h1, h2, h3, h4⟩ := insB_true h
    obtain ⟨i, rfl⟩ := Int.eq_ofNat_of_zero_le h1
    obtain ⟨j, rfl⟩ := Int.eq_ofNat_of_zero_le h3
    obtain ⟨b, off, rfl, hbs, hc⟩ : ∃ b off, a0 = some ⟨b, off, none⟩ ∧ b < w.heap.size ∧ ∀ i, i < len0 → w.cell? ⟨b, off + i, none⟩ = some (.int .u64 (el x0 i)) := by
      rcases s0.2.2.2 with h | h
      · omega
      · exact h
    have ci := hc i (by omega)
    have cj := hc j (by omega)
    have C57 : ∀ W, (W.cell? ⟨b, off + i, none⟩ = some (.int .u64 (el x0 i)) ∧ W.cell? ⟨b, off + j, none⟩ = some (.int .u64 (el x0 j)) ∧ Below w.heap.size w W) → Calls Try.prog 57 #[.slice (some ⟨b, off, none⟩) len0 cap0, .int .i64 i, .int .i64 j] W fun e w' => e = .returned (.bool (fLt (el x0 i).toNat (el x0 j).toNat)) ∧ (w'.cell? ⟨b, off + i, none⟩ = some (.int .u64 (el x0 i)) ∧ w'.cell? ⟨b, off + j, none⟩ = some (.int .u64 (el x0 j)) ∧ Below w.heap.size w w') := fun W hS =>
      (impl_Float64Less_yes _ len0 cap0 x0 i j W (s0.below hS.2.2) (by omega) (by omega) (by omega)).mono fun e w' hh => ⟨hh.1, (hh.2.cell (p := ⟨b, off + i, none⟩) (block_of_cell hS.1)).trans hS.1, (hh.2.cell (p := ⟨b, off + j, none⟩) (block_of_cell hS.2.1)).trans hS.2.1, hS.2.2.trans (hh.2.mono hS.2.2.size)⟩
    obtain ⟨r, hr⟩ : ∃ r, fLt (el x0 i).toNat (el x0 j).toNat = r := ⟨_, rfl⟩
    have C55 := fun W => spec_FloatBefore (el x0 i) (el x0 j) W
    rw [hr] at C57 C55
    have H57 := Lib.hid C57
    have H55 := Lib.hid C55
    clear C57 C55 s0 hc hr
    go_enter Try.func12, Try.ntmps12
    go_wp2
    go_region_held3 (fun w' => w'.cell? ⟨b, off + i, none⟩ = some (.int .u64 (el x0 i)) ∧ w'.cell? ⟨b, off + j, none⟩ = some (.int .u64 (el x0 j)) ∧ Below w.heap.size w w')
      (first | exact ⟨ci, cj, Below.drew (Below.refl _ _)⟩ | assumption)
      (first
        | (go_at_call 57; refine (H57.out _ (by assumption)).mono ?_; rintro e w' ⟨rfl, hS'⟩)
        | (go_at_call 41; refine (inside_laws_at _ _ _ _ _ h).mono ?_; rintro e w' ⟨rfl, rfl⟩)
        | (go_at_call 55; refine (H55.out _).mono ?_; rintro e w' ⟨rfl, rfl⟩))
    go_wp2_with fail
    go_ret
    exact ⟨by simp, hS'.2.2⟩
#print axioms walk_FnFloat64Less
end Go.Proofs.Ytaifikhgijnkgaa
