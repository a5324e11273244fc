/- The walk of laws.FnReverseLess. No conditions. -/
import Derived.Test.YtaifikhgijnkgaaRevLess
import Derived.RegionTactic
import Derived.ChangeAlike
import Derived.BigRegion
import Derived.Deep.RegionHeld3
namespace Go.Proofs.Ytaifikhgijnkgaa
open Go.RowKit
set_option linter.unusedVariables false

abbrev SRl (w : World) (n1 : Int) (v : Value) (P Q : Nat) (x y : It) (W : World) : Prop :=
  W.cell? ⟨w.heap.size, 0, none⟩ = some (.int .i64 n1) ∧ W.cell? ⟨w.heap.size, 1, none⟩ = some v ∧ W.cell? ⟨P, 0, none⟩ = some (.int .i64 x.1) ∧ W.cell? ⟨P, 1, none⟩ = some (.int .i64 x.2) ∧ W.cell? ⟨Q, 0, none⟩ = some (.int .i64 y.1) ∧ W.cell? ⟨Q, 1, none⟩ = some (.int .i64 y.2) ∧ Below w.heap.size w W

theorem keep_rl {w W W' : World} {P Q : Nat} {n1 : Int} {v : Value} {x y : It} (h : SRl w n1 v P Q x y W) (hb : Below W.heap.size W W') : SRl w n1 v P Q x y W' := by
  obtain ⟨h1, h2, h3, h4, h5, h6, h7⟩ := h
  exact ⟨(hb.cell (p := ⟨_, 0, none⟩) (block_of_cell h1)).trans h1, (hb.cell (p := ⟨_, 1, none⟩) (block_of_cell h2)).trans h2, (hb.cell (p := ⟨P, 0, none⟩) (block_of_cell h3)).trans h3, (hb.cell (p := ⟨P, 1, none⟩) (block_of_cell h4)).trans h4, (hb.cell (p := ⟨Q, 0, none⟩) (block_of_cell h5)).trans h5, (hb.cell (p := ⟨Q, 1, none⟩) (block_of_cell h6)).trans h6, h7.trans (hb.mono h7.size)⟩

set_option maxHeartbeats 4000000 in
set_option maxRecDepth 100000 in
theorem walk_FnReverseLess (a0 : Option Addr) (len0 cap0 : Nat) (x0 : List It) (n1 : Int) (a1 : Option Addr) (len1 cap1 : Nat) (x1 : List Bool) (x2 : Int) (x3 : Int) (w : World)
    (s0 : SlK 2 encIt w a0 len0 cap0 x0) (g0 : ∀ x ∈ x0, okIt x) (b0 : cap0 * 16 ≤ 140737488351232) (g1 : (Lit.int .i64 n1).wf = true) (s1 : Sl Value.bool w a1 len1 cap1 x1) (b1 : cap1 ≤ 9223372036854775807) (g2 : (Lit.int .i64 x2).wf = true) (g3 : (Lit.int .i64 x3).wf = true) :
    Calls Try.prog 14 #[.slice a0 len0 cap0, .agg #[.int .i64 n1, .slice a1 len1 cap1], .int .i64 x2, .int .i64 x3] w (Good w) := by
  clear g0 g1 g2 g3
  have hcap := s0.2.1
  have HX := Lib.hid s0
  have HS := Lib.hid s1
  cases h : insB len0 x2 x3 with
  | false =>
    clear s0 s1
    go_enter Try.func14, Try.ntmps14
    go_wp2_with (go_at_call 41; refine (inside_laws_at _ _ _ _ _ h).mono ?_; rintro e w' ⟨rfl, rfl⟩)
    have B0 := Lib.hid (below1 w (.cells #[.int .i64 n1, .slice a1 len1 cap1] 33))
    have c0 : (w.alloc (.cells #[.int .i64 n1, .slice a1 len1 cap1] 33)).cell? ⟨w.heap.size, 0, none⟩ = some (.int .i64 n1) := by simp
    have c1 : (w.alloc (.cells #[.int .i64 n1, .slice a1 len1 cap1] 33)).cell? ⟨w.heap.size, 1, none⟩ = some (.slice a1 len1 cap1) := by simp
    have hz : w.heap.size < (w.alloc (.cells #[.int .i64 n1, .slice a1 len1 cap1] 33)).heap.size := by simp
    generalize w.alloc (.cells #[.int .i64 n1, .slice a1 len1 cap1] 33) = w1 at *
    refine (impl_ReverseLess_no a0 len0 cap0 n1 a1 len1 cap1 x2 x3 w1 h).mono ?_
    rintro e w2 ⟨rfl, hb2⟩
    have d0 : w2.cell? ⟨w.heap.size, 0, none⟩ = some (.int .i64 n1) := by rw [hb2.cell (p := ⟨w.heap.size, 0, none⟩) hz]; exact c0
    have d1 : w2.cell? ⟨w.heap.size, 1, none⟩ = some (.slice a1 len1 cap1) := by rw [hb2.cell (p := ⟨w.heap.size, 1, none⟩) hz]; exact c1
    have B2 := Lib.hid (B0.out.trans (hb2.mono B0.out.size))
    clear hb2 c0 c1
    go_wp2_with fail
    refine (impl_ReverseTwiceLess_no a0 len0 cap0 n1 a1 len1 cap1 x2 x3 w2 h).mono ?_
    rintro e w3 ⟨rfl, hb3⟩
    have B3 := Lib.hid (B2.out.trans (hb3.mono B2.out.size))
    clear hb3 d0 d1
    go_wp2_with fail
    go_ret
    exact ⟨rfl, B3.out⟩
  | true =>
    obtain ⟨h1, h2, h3, h4⟩ := insB_true h
    obtain ⟨i, rfl⟩ := Int.eq_ofNat_of_zero_le h1
    obtain ⟨j, rfl⟩ := Int.eq_ofNat_of_zero_le h3
    obtain ⟨b, off, rfl, hbs, hc⟩ : ∃ b off, a0 = some ⟨b, off, none⟩ ∧ b < w.heap.size ∧ ∀ i, i < len0 → ∀ j, j < 2 → w.cell? ⟨b, off + i * 2 + j, none⟩ = (encIt (el x0 i))[j]? := by
      rcases s0.2.2.2 with h0 | h0
      · omega
      · exact h0
    have i0 : w.cell? ⟨b, off + i * 2, none⟩ = some (.int .i64 (el x0 i).1) := by simpa [encIt] using hc i (by omega) 0 (by omega)
    have i1 : w.cell? ⟨b, off + i * 2 + 1, none⟩ = some (.int .i64 (el x0 i).2) := by simpa [encIt] using hc i (by omega) 1 (by omega)
    have j0 : w.cell? ⟨b, off + j * 2, none⟩ = some (.int .i64 (el x0 j).1) := by simpa [encIt] using hc j (by omega) 0 (by omega)
    have j1 : w.cell? ⟨b, off + j * 2 + 1, none⟩ = some (.int .i64 (el x0 j).2) := by simpa [encIt] using hc j (by omega) 1 (by omega)
    clear s0 s1 hc
    go_enter Try.func14, Try.ntmps14
    go_wp2_with (go_at_call 41; refine (inside_laws_at _ _ _ _ _ h).mono ?_; rintro e w' ⟨rfl, rfl⟩)
    have B0 := Lib.hid (below1 w (.cells #[.int .i64 n1, .slice a1 len1 cap1] 33))
    have c0 : (w.alloc (.cells #[.int .i64 n1, .slice a1 len1 cap1] 33)).cell? ⟨w.heap.size, 0, none⟩ = some (.int .i64 n1) := by simp
    have c1 : (w.alloc (.cells #[.int .i64 n1, .slice a1 len1 cap1] 33)).cell? ⟨w.heap.size, 1, none⟩ = some (.slice a1 len1 cap1) := by simp
    have hz : w.heap.size < (w.alloc (.cells #[.int .i64 n1, .slice a1 len1 cap1] 33)).heap.size := by simp
    have k0 := (B0.out.cell (p := ⟨b, off + i * 2, none⟩) hbs).trans i0
    have k1 := (B0.out.cell (p := ⟨b, off + i * 2 + 1, none⟩) hbs).trans i1
    have k2 := (B0.out.cell (p := ⟨b, off + j * 2, none⟩) hbs).trans j0
    have k3 := (B0.out.cell (p := ⟨b, off + j * 2 + 1, none⟩) hbs).trans j1
    clear i0 i1 j0 j1
    generalize w.alloc (.cells #[.int .i64 n1, .slice a1 len1 cap1] 33) = w1 at *
    have hbs1 : b < w1.heap.size := by omega
    have m0 := fun A => ((below1 w1 A).cell (p := ⟨b, off + i * 2, none⟩) hbs1).trans k0
    have m1 := fun A => ((below1 w1 A).cell (p := ⟨b, off + i * 2 + 1, none⟩) hbs1).trans k1
    have m2 := fun A => ((below1 w1 A).cell (p := ⟨b, off + j * 2, none⟩) hbs1).trans k2
    have m3 := fun A => ((below1 w1 A).cell (p := ⟨b, off + j * 2 + 1, none⟩) hbs1).trans k3
    have n0 := fun A B => ((below2 w1 A B).cell (p := ⟨b, off + i * 2, none⟩) hbs1).trans k0
    have n1' := fun A B => ((below2 w1 A B).cell (p := ⟨b, off + i * 2 + 1, none⟩) hbs1).trans k1
    have n2 := fun A B => ((below2 w1 A B).cell (p := ⟨b, off + j * 2, none⟩) hbs1).trans k2
    have n3 := fun A B => ((below2 w1 A B).cell (p := ⟨b, off + j * 2 + 1, none⟩) hbs1).trans k3
    go_region
    all_goals go_wp2_with fail
    · have BW := (B0.out.trans ((below2 w1 (.cells #[.int .i64 (el x0 i).1, .int .i64 (el x0 i).2] 57) (.cells #[.int .i64 (el x0 j).1, .int .i64 (el x0 j).2] 57)).mono B0.out.size)).drew
      have S := (show _ ∧ _ from ⟨(((below2 w1 (.cells #[.int .i64 (el x0 i).1, .int .i64 (el x0 i).2] 57) (.cells #[.int .i64 (el x0 j).1, .int .i64 (el x0 j).2] 57)).drew.cell (p := ⟨w.heap.size, 0, none⟩) hz).trans c0), (((below2 w1 (.cells #[.int .i64 (el x0 i).1, .int .i64 (el x0 i).2] 57) (.cells #[.int .i64 (el x0 j).1, .int .i64 (el x0 j).2] 57)).drew.cell (p := ⟨w.heap.size, 1, none⟩) hz).trans c1)⟩)
      have p0 : ((w1.alloc (.cells #[.int .i64 (el x0 i).1, .int .i64 (el x0 i).2] 57)).alloc (.cells #[.int .i64 (el x0 j).1, .int .i64 (el x0 j).2] 57)).drew.cell? ⟨w1.heap.size, 0, none⟩ = some (.int .i64 (el x0 i).1) := by simp
      have p1 : ((w1.alloc (.cells #[.int .i64 (el x0 i).1, .int .i64 (el x0 i).2] 57)).alloc (.cells #[.int .i64 (el x0 j).1, .int .i64 (el x0 j).2] 57)).drew.cell? ⟨w1.heap.size, 1, none⟩ = some (.int .i64 (el x0 i).2) := by simp
      have q0 : ((w1.alloc (.cells #[.int .i64 (el x0 i).1, .int .i64 (el x0 i).2] 57)).alloc (.cells #[.int .i64 (el x0 j).1, .int .i64 (el x0 j).2] 57)).drew.cell? ⟨w1.heap.size + 1, 0, none⟩ = some (.int .i64 (el x0 j).1) := by simp
      have q1 : ((w1.alloc (.cells #[.int .i64 (el x0 i).1, .int .i64 (el x0 i).2] 57)).alloc (.cells #[.int .i64 (el x0 j).1, .int .i64 (el x0 j).2] 57)).drew.cell? ⟨w1.heap.size + 1, 1, none⟩ = some (.int .i64 (el x0 j).2) := by simp
      obtain ⟨s0, s1⟩ := S
      generalize ((w1.alloc (.cells #[.int .i64 (el x0 i).1, .int .i64 (el x0 i).2] 57)).alloc (.cells #[.int .i64 (el x0 j).1, .int .i64 (el x0 j).2] 57)).drew = W at *
      generalize w1.heap.size + 1 = Q at *
      generalize w1.heap.size = P at *
      clear c0 c1 k0 k1 k2 k3 m0 m1 m2 m3 n0 n1' n2 n3
      obtain ⟨r1, hr1⟩ : ∃ r, bef n1 x1 (el x0 j).1 (el x0 i).1 = r := ⟨_, rfl⟩
      obtain ⟨r2, hr2⟩ : ∃ r, bef n1 x1 (el x0 i).1 (el x0 j).1 = r := ⟨_, rfl⟩
      have R1 := Lib.hid hr1
      have R2 := Lib.hid hr2
      clear hr1 hr2
      have C61 : ∀ W, SRl w n1 (.slice a1 len1 cap1) P Q (el x0 i) (el x0 j) W → Calls Try.prog 61 #[.slice (some ⟨b, off, none⟩) len0 cap0, .agg #[.int .i64 n1, .slice a1 len1 cap1], .int .i64 i, .int .i64 j] W fun e w' => e = .returned (.bool r1) ∧ SRl w n1 (.slice a1 len1 cap1) P Q (el x0 i) (el x0 j) w' := fun W hS =>
        (impl_ReverseLess_yes b off len0 cap0 i j x0 n1 a1 len1 cap1 x1 W (by omega) (by omega) (by omega) (HX.out.belowS hS.2.2.2.2.2.2) (HS.out.below hS.2.2.2.2.2.2)).mono fun e w' h => ⟨by rw [h.1, R1.out], keep_rl hS h.2⟩
      have C62 : ∀ W, SRl w n1 (.slice a1 len1 cap1) P Q (el x0 i) (el x0 j) W → Calls Try.prog 62 #[.slice (some ⟨b, off, none⟩) len0 cap0, .agg #[.int .i64 n1, .slice a1 len1 cap1], .int .i64 i, .int .i64 j] W fun e w' => e = .returned (.bool r2) ∧ SRl w n1 (.slice a1 len1 cap1) P Q (el x0 i) (el x0 j) w' := fun W hS =>
        (impl_ReverseTwiceLess_yes b off len0 cap0 i j x0 n1 a1 len1 cap1 x1 W (by omega) (by omega) (by omega) (HX.out.belowS hS.2.2.2.2.2.2) (HS.out.below hS.2.2.2.2.2.2)).mono fun e w' h => ⟨by rw [h.1, R2.out], keep_rl hS h.2⟩
      have C46 : ∀ W, SRl w n1 (.slice a1 len1 cap1) P Q (el x0 i) (el x0 j) W → Calls Try.prog 46 #[.agg #[.int .i64 n1, .slice a1 len1 cap1]] W fun e w' => e = .returned (.agg #[.int .i64 n1, .slice a1 len1 cap1, .bool false]) ∧ SRl w n1 (.slice a1 len1 cap1) P Q (el x0 i) (el x0 j) w' := fun W hS =>
        (laws_so n1 a1 len1 cap1 W).mono fun e w' h => ⟨h.1, keep_rl hS h.2⟩
      have C63a : ∀ W, SRl w n1 (.slice a1 len1 cap1) P Q (el x0 i) (el x0 j) W → Calls Try.prog 63 #[.agg #[.int .i64 n1, .slice a1 len1 cap1, .bool false], .agg #[.int .i64 (el x0 j).1, .int .i64 (el x0 j).2], .agg #[.int .i64 (el x0 i).1, .int .i64 (el x0 i).2]] W fun e w' => e = .returned (.bool r1) ∧ SRl w n1 (.slice a1 len1 cap1) P Q (el x0 i) (el x0 j) w' := fun W hS =>
        (spec_Before_plain n1 a1 len1 cap1 x1 (el x0 j) (el x0 i) W (HS.out.below hS.2.2.2.2.2.2)).mono fun e w' h => ⟨by rw [h.1, R1.out], keep_rl hS h.2⟩
      have C63b : ∀ W, SRl w n1 (.slice a1 len1 cap1) P Q (el x0 i) (el x0 j) W → Calls Try.prog 63 #[.agg #[.int .i64 n1, .slice a1 len1 cap1, .bool false], .agg #[.int .i64 (el x0 i).1, .int .i64 (el x0 i).2], .agg #[.int .i64 (el x0 j).1, .int .i64 (el x0 j).2]] W fun e w' => e = .returned (.bool r2) ∧ SRl w n1 (.slice a1 len1 cap1) P Q (el x0 i) (el x0 j) w' := fun W hS =>
        (spec_Before_plain n1 a1 len1 cap1 x1 (el x0 i) (el x0 j) W (HS.out.below hS.2.2.2.2.2.2)).mono fun e w' h => ⟨by rw [h.1, R2.out], keep_rl hS h.2⟩
      have H61 := Lib.hid C61
      have H62 := Lib.hid C62
      have H46 := Lib.hid C46
      have H63a := Lib.hid C63a
      have H63b := Lib.hid C63b
      clear C61 C62 C46 C63a C63b
      cases r1 <;> cases r2
      all_goals
        go_region_held3 (fun w' => w'.cell? ⟨w.heap.size, 0, none⟩ = some (.int .i64 n1) ∧ w'.cell? ⟨w.heap.size, 1, none⟩ = some (.slice a1 len1 cap1) ∧ w'.cell? ⟨P, 0, none⟩ = some (.int .i64 (el x0 i).1) ∧ w'.cell? ⟨P, 1, none⟩ = some (.int .i64 (el x0 i).2) ∧ w'.cell? ⟨Q, 0, none⟩ = some (.int .i64 (el x0 j).1) ∧ w'.cell? ⟨Q, 1, none⟩ = some (.int .i64 (el x0 j).2) ∧ Below w.heap.size w w')
          (first | exact ⟨s0, s1, p0, p1, q0, q1, BW.drew⟩ | assumption)
          (first
            | (go_at_call 61; refine (H61.out _ (by assumption)).mono ?_; rintro e w' ⟨rfl, hS'⟩)
            | (go_at_call 62; refine (H62.out _ (by assumption)).mono ?_; rintro e w' ⟨rfl, hS'⟩)
            | (go_at_call 46; refine (H46.out _ (by assumption)).mono ?_; rintro e w' ⟨rfl, hS'⟩)
            | (go_at_call 63; with_reducible refine (H63a.out _ (by assumption)).mono ?_; rintro e w' ⟨rfl, hS'⟩)
            | (go_at_call 63; with_reducible refine (H63b.out _ (by assumption)).mono ?_; rintro e w' ⟨rfl, hS'⟩))
        go_wp2_with fail
        go_ret
        exact ⟨rfl, hS'.2.2.2.2.2.2⟩
    · have BW := (B0.out.trans ((below2 w1 (.cells #[.int .i64 (el x0 j).1, .int .i64 (el x0 j).2] 57) (.cells #[.int .i64 (el x0 i).1, .int .i64 (el x0 i).2] 57)).mono B0.out.size)).drew
      have S := (show _ ∧ _ from ⟨(((below2 w1 (.cells #[.int .i64 (el x0 j).1, .int .i64 (el x0 j).2] 57) (.cells #[.int .i64 (el x0 i).1, .int .i64 (el x0 i).2] 57)).drew.cell (p := ⟨w.heap.size, 0, none⟩) hz).trans c0), (((below2 w1 (.cells #[.int .i64 (el x0 j).1, .int .i64 (el x0 j).2] 57) (.cells #[.int .i64 (el x0 i).1, .int .i64 (el x0 i).2] 57)).drew.cell (p := ⟨w.heap.size, 1, none⟩) hz).trans c1)⟩)
      have p0 : ((w1.alloc (.cells #[.int .i64 (el x0 j).1, .int .i64 (el x0 j).2] 57)).alloc (.cells #[.int .i64 (el x0 i).1, .int .i64 (el x0 i).2] 57)).drew.cell? ⟨w1.heap.size + 1, 0, none⟩ = some (.int .i64 (el x0 i).1) := by simp
      have p1 : ((w1.alloc (.cells #[.int .i64 (el x0 j).1, .int .i64 (el x0 j).2] 57)).alloc (.cells #[.int .i64 (el x0 i).1, .int .i64 (el x0 i).2] 57)).drew.cell? ⟨w1.heap.size + 1, 1, none⟩ = some (.int .i64 (el x0 i).2) := by simp
      have q0 : ((w1.alloc (.cells #[.int .i64 (el x0 j).1, .int .i64 (el x0 j).2] 57)).alloc (.cells #[.int .i64 (el x0 i).1, .int .i64 (el x0 i).2] 57)).drew.cell? ⟨w1.heap.size, 0, none⟩ = some (.int .i64 (el x0 j).1) := by simp
      have q1 : ((w1.alloc (.cells #[.int .i64 (el x0 j).1, .int .i64 (el x0 j).2] 57)).alloc (.cells #[.int .i64 (el x0 i).1, .int .i64 (el x0 i).2] 57)).drew.cell? ⟨w1.heap.size, 1, none⟩ = some (.int .i64 (el x0 j).2) := by simp
      obtain ⟨s0, s1⟩ := S
      generalize ((w1.alloc (.cells #[.int .i64 (el x0 j).1, .int .i64 (el x0 j).2] 57)).alloc (.cells #[.int .i64 (el x0 i).1, .int .i64 (el x0 i).2] 57)).drew = W at *
      generalize w1.heap.size + 1 = P at *
      generalize w1.heap.size = Q at *
      clear c0 c1 k0 k1 k2 k3 m0 m1 m2 m3 n0 n1' n2 n3
      obtain ⟨r1, hr1⟩ : ∃ r, bef n1 x1 (el x0 j).1 (el x0 i).1 = r := ⟨_, rfl⟩
      obtain ⟨r2, hr2⟩ : ∃ r, bef n1 x1 (el x0 i).1 (el x0 j).1 = r := ⟨_, rfl⟩
      have R1 := Lib.hid hr1
      have R2 := Lib.hid hr2
      clear hr1 hr2
      have C61 : ∀ W, SRl w n1 (.slice a1 len1 cap1) P Q (el x0 i) (el x0 j) W → Calls Try.prog 61 #[.slice (some ⟨b, off, none⟩) len0 cap0, .agg #[.int .i64 n1, .slice a1 len1 cap1], .int .i64 i, .int .i64 j] W fun e w' => e = .returned (.bool r1) ∧ SRl w n1 (.slice a1 len1 cap1) P Q (el x0 i) (el x0 j) w' := fun W hS =>
        (impl_ReverseLess_yes b off len0 cap0 i j x0 n1 a1 len1 cap1 x1 W (by omega) (by omega) (by omega) (HX.out.belowS hS.2.2.2.2.2.2) (HS.out.below hS.2.2.2.2.2.2)).mono fun e w' h => ⟨by rw [h.1, R1.out], keep_rl hS h.2⟩
      have C62 : ∀ W, SRl w n1 (.slice a1 len1 cap1) P Q (el x0 i) (el x0 j) W → Calls Try.prog 62 #[.slice (some ⟨b, off, none⟩) len0 cap0, .agg #[.int .i64 n1, .slice a1 len1 cap1], .int .i64 i, .int .i64 j] W fun e w' => e = .returned (.bool r2) ∧ SRl w n1 (.slice a1 len1 cap1) P Q (el x0 i) (el x0 j) w' := fun W hS =>
        (impl_ReverseTwiceLess_yes b off len0 cap0 i j x0 n1 a1 len1 cap1 x1 W (by omega) (by omega) (by omega) (HX.out.belowS hS.2.2.2.2.2.2) (HS.out.below hS.2.2.2.2.2.2)).mono fun e w' h => ⟨by rw [h.1, R2.out], keep_rl hS h.2⟩
      have C46 : ∀ W, SRl w n1 (.slice a1 len1 cap1) P Q (el x0 i) (el x0 j) W → Calls Try.prog 46 #[.agg #[.int .i64 n1, .slice a1 len1 cap1]] W fun e w' => e = .returned (.agg #[.int .i64 n1, .slice a1 len1 cap1, .bool false]) ∧ SRl w n1 (.slice a1 len1 cap1) P Q (el x0 i) (el x0 j) w' := fun W hS =>
        (laws_so n1 a1 len1 cap1 W).mono fun e w' h => ⟨h.1, keep_rl hS h.2⟩
      have C63a : ∀ W, SRl w n1 (.slice a1 len1 cap1) P Q (el x0 i) (el x0 j) W → Calls Try.prog 63 #[.agg #[.int .i64 n1, .slice a1 len1 cap1, .bool false], .agg #[.int .i64 (el x0 j).1, .int .i64 (el x0 j).2], .agg #[.int .i64 (el x0 i).1, .int .i64 (el x0 i).2]] W fun e w' => e = .returned (.bool r1) ∧ SRl w n1 (.slice a1 len1 cap1) P Q (el x0 i) (el x0 j) w' := fun W hS =>
        (spec_Before_plain n1 a1 len1 cap1 x1 (el x0 j) (el x0 i) W (HS.out.below hS.2.2.2.2.2.2)).mono fun e w' h => ⟨by rw [h.1, R1.out], keep_rl hS h.2⟩
      have C63b : ∀ W, SRl w n1 (.slice a1 len1 cap1) P Q (el x0 i) (el x0 j) W → Calls Try.prog 63 #[.agg #[.int .i64 n1, .slice a1 len1 cap1, .bool false], .agg #[.int .i64 (el x0 i).1, .int .i64 (el x0 i).2], .agg #[.int .i64 (el x0 j).1, .int .i64 (el x0 j).2]] W fun e w' => e = .returned (.bool r2) ∧ SRl w n1 (.slice a1 len1 cap1) P Q (el x0 i) (el x0 j) w' := fun W hS =>
        (spec_Before_plain n1 a1 len1 cap1 x1 (el x0 i) (el x0 j) W (HS.out.below hS.2.2.2.2.2.2)).mono fun e w' h => ⟨by rw [h.1, R2.out], keep_rl hS h.2⟩
      have H61 := Lib.hid C61
      have H62 := Lib.hid C62
      have H46 := Lib.hid C46
      have H63a := Lib.hid C63a
      have H63b := Lib.hid C63b
      clear C61 C62 C46 C63a C63b
      cases r1 <;> cases r2
      all_goals
        go_region_held3 (fun w' => w'.cell? ⟨w.heap.size, 0, none⟩ = some (.int .i64 n1) ∧ w'.cell? ⟨w.heap.size, 1, none⟩ = some (.slice a1 len1 cap1) ∧ w'.cell? ⟨P, 0, none⟩ = some (.int .i64 (el x0 i).1) ∧ w'.cell? ⟨P, 1, none⟩ = some (.int .i64 (el x0 i).2) ∧ w'.cell? ⟨Q, 0, none⟩ = some (.int .i64 (el x0 j).1) ∧ w'.cell? ⟨Q, 1, none⟩ = some (.int .i64 (el x0 j).2) ∧ Below w.heap.size w w')
          (first | exact ⟨s0, s1, p0, p1, q0, q1, BW.drew⟩ | assumption)
          (first
            | (go_at_call 61; refine (H61.out _ (by assumption)).mono ?_; rintro e w' ⟨rfl, hS'⟩)
            | (go_at_call 62; refine (H62.out _ (by assumption)).mono ?_; rintro e w' ⟨rfl, hS'⟩)
            | (go_at_call 46; refine (H46.out _ (by assumption)).mono ?_; rintro e w' ⟨rfl, hS'⟩)
            | (go_at_call 63; with_reducible refine (H63a.out _ (by assumption)).mono ?_; rintro e w' ⟨rfl, hS'⟩)
            | (go_at_call 63; with_reducible refine (H63b.out _ (by assumption)).mono ?_; rintro e w' ⟨rfl, hS'⟩))
        go_wp2_with fail
        go_ret
        exact ⟨rfl, hS'.2.2.2.2.2.2⟩
#print axioms walk_FnReverseLess
end Go.Proofs.Ytaifikhgijnkgaa
