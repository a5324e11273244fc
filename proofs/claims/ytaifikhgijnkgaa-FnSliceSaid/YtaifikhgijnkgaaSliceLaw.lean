/- The walk of laws.FnSlice. No conditions. -/
import Derived.Test.YtaifikhgijnkgaaLawKit
import Derived.Test.YtaifikhgijnkgaaSliceSort
import Derived.Test.YtaifikhgijnkgaaEqualIt
import Derived.Test.YtaifikhgijnkgaaEqualBy
import Derived.Test.YtaifikhgijnkgaaStableSpec
namespace Go.Proofs.Ytaifikhgijnkgaa
open Go.RowKit
set_option linter.unusedVariables false


set_option maxHeartbeats 4000000 in
set_option maxRecDepth 100000 in
theorem walk_FnSlice (a0 : Option Addr) (len0 cap0 : Nat) (x0 : List It) (n1 : Int) (a1 : Option Addr) (len1 cap1 : Nat) (x1 : List Bool) (w : World)
    (s0 : SlK 2 encIt w a0 len0 cap0 x0) (g0 : ∀ x ∈ x0, okIt x) (b0 : cap0 * 16 ≤ 140737488351232) (g1 : (Lit.int .i64 n1).wf = true) (s1 : Sl Value.bool w a1 len1 cap1 x1) (b1 : cap1 ≤ 9223372036854775807) :
    Calls Try.prog 37 #[.slice a0 len0 cap0, .agg #[.int .i64 n1, .slice a1 len1 cap1]] w (Good w) := by
  have hcap := s0.2.1
  have HL := Lib.hid s0.1
  have B1 := Lib.hid (below1 w (.cells #[.int .i64 n1, .slice a1 len1 cap1] 33))
  have HS := Lib.hid (s0.belowS B1.out)
  have HT := Lib.hid (s1.below B1.out)
  have HP := Lib.hid (box2_new w n1 (.slice a1 len1 cap1) 33)
  clear s0 s1 g0 g1
  have HC := Lib.hid (impl_Slice a0 len0 cap0 x0 n1 a1 len1 cap1 x1 _ HS.out (by omega) HT.out)
  go_enter Try.func37, Try.ntmps37
  go_wp2_with fail
  refine HC.out.mono ?_
  rintro e w2 ⟨O, ⟨a2, c2, rfl, ho2, hs2, hb2⟩, hso⟩
  have HB2 := Lib.hid hb2
  have HS2 := Lib.hid hs2
  have HSO := Lib.hid hso
  clear ho2 hso HC
  generalize w.alloc (.cells #[.int .i64 n1, .slice a1 len1 cap1] 33) = w1 at *
  generalize hPe : w.heap.size = P at *
  have HPE := Lib.hid hPe
  clear hPe
  obtain ⟨c0, c1⟩ := HP.out.keep hb2
  have HP2 := Lib.hid (HP.out.keep hb2)
  clear hb2 hs2
  go_wp2_with fail
  clear c0 c1
  obtain ⟨p0, p1⟩ := HP2.out
  obtain ⟨w5, hw5⟩ : ∃ w5, w5 = w2 := ⟨_, rfl⟩
  subst hw5
  have HB5 := HB2
  have HKeep := Lib.hid (show ∀ W W', SB2 P n1 (.slice a1 len1 cap1) w5 W → Below W.heap.size W W' → SB2 P n1 (.slice a1 len1 cap1) w5 W' from fun W W' h hb => h.keep hb)
  have HBel := Lib.hid (show ∀ W, SB2 P n1 (.slice a1 len1 cap1) w5 W → Below w5.heap.size w5 W from fun W h => h.below)
  have HTb := Lib.hid (show ∀ W, Below w5.heap.size w5 W → Sl Value.bool W a1 len1 cap1 x1 from fun W h => HT.out.below (HB5.out.trans (h.mono HB5.out.size)))
  have HLb := Lib.hid (show ∀ W, Below w5.heap.size w5 W → SlK 2 encIt W a0 len0 cap0 x0 from fun W h => HS.out.belowS (HB5.out.trans (h.mono HB5.out.size)))
  have HOb := Lib.hid (show ∀ W, Below w5.heap.size w5 W → SlK 2 encIt W a2 len0 c2 O from fun W h => HS2.out.belowS h)
  cases hw : weakB (sbef n1 x1 false) x0 with
  | false =>
    have HWk := Lib.hid (show ∀ aB cB W, SlK 2 encIt W aB len0 cB x0 → Below w5.heap.size w5 W → Calls Try.prog 45 #[.agg #[.int .i64 n1, .slice a1 len1 cap1, .bool false], .slice aB len0 cB] W fun e w' => e = .returned (.bool false) ∧ Below W.heap.size W w' from fun aB cB W h hb => spec_Weak_at false n1 a1 len1 cap1 x1 false aB len0 cB x0 W hw h (HTb.out _ hb) (by omega))
    clear hw
    refine wp_region_held_drew (S := (fun w' => w'.cell? ⟨P, 0, none⟩ = some (.int .i64 n1) ∧ w'.cell? ⟨P, 1, none⟩ = some (.slice a1 len1 cap1) ∧ Below w5.heap.size w5 w')) (by kernel_rfl) (⟨p0, p1, (Below.refl _ _).drew⟩) (fun hHeld => ?_)
    try dsimp only at hHeld
    refine wpAnyH_take (i := 0) (oi := { dst := some 9, op := Go.Op.load 33 (Go.Operand.tmp 3), type := 33, pos := "exact.go:85", after := #[], guard := none }) (v := ?_) rfl (by kernel_rfl) (by kernel_rfl) (by kernel_rfl) (fun _ _ _ h => h) (Or.inl ⟨by kernel_rfl, ?_⟩) hHeld ?_
    rotate_left
    · (intro w hSw; (try dsimp only at hSw); go_simp; try with_reducible rfl)
    try simp only [Act.put, List.setIfInBounds_toArray, List.set_cons_zero, List.set_cons_succ]
    refine wpAnyH_take (i := 2) (oi := { dst := some 11, op := Go.Op.move (Go.Operand.tmp 0), type := 30, pos := "exact.go:85", after := #[], guard := none }) (v := ?_) rfl (by kernel_rfl) (by kernel_rfl) (by kernel_rfl) (fun _ _ _ h => h) (Or.inl ⟨by kernel_rfl, ?_⟩) hHeld ?_
    rotate_left
    · (intro w hSw; (try dsimp only at hSw); go_simp; try with_reducible rfl)
    try simp only [Act.put, List.setIfInBounds_toArray, List.set_cons_zero, List.set_cons_succ]
    refine wpAnyH_ready (rs := [1]) (by kernel_rfl) (by simp) ?_
    refine AllReadyH.cons (o := { dst := some 10, op := Go.Op.call { callee := Go.Callee.value (Go.Operand.func 46), args := #[Go.Operand.tmp 9], argTypes := #[33] }, type := 37, pos := "exact.go:85", after := #[{ on := 0, ground := Go.Ground.data }], guard := none }) rfl (fun K hK => ?_) AllReadyH.nil
    go_simp
    refine (laws_so n1 a1 len1 cap1 _).mono ?_
    rintro e w6 ⟨rfl, hb6⟩
    have hS' := HKeep.out _ _ hHeld hb6
    try go_wp2_with fail
    refine hK.out _ _ hS' (fun hHeld => ?_)
    try dsimp only at hHeld
    clear hK K
    try simp only [Act.put, List.setIfInBounds_toArray, List.set_cons_zero, List.set_cons_succ]
    refine wpAnyH_ready (rs := [3]) (by kernel_rfl) (by simp) ?_
    refine AllReadyH.cons (o := { dst := some 12, op := Go.Op.call { callee := Go.Callee.value (Go.Operand.func 47), args := #[Go.Operand.tmp 11], argTypes := #[30] }, type := 39, pos := "exact.go:85", after := #[{ on := 2, ground := Go.Ground.data }, { on := 1, ground := Go.Ground.chain }], guard := none }) rfl (fun K hK => ?_) AllReadyH.nil
    go_simp
    refine (laws_sItems a0 len0 cap0 x0 _ (HLb.out _ (HBel.out _ hHeld)) (by omega)).mono ?_
    rintro e wB ⟨aB, cB, rfl, hoB, hsB, hbB⟩
    have hS' := HKeep.out _ _ hHeld hbB
    try go_wp2_with fail
    refine hK.out _ _ hS' (fun hHeld => ?_)
    try dsimp only at hHeld
    clear hK K
    try simp only [Act.put, List.setIfInBounds_toArray, List.set_cons_zero, List.set_cons_succ]
    refine wpAnyH_ready (rs := [4]) (by kernel_rfl) (by simp) ?_
    refine AllReadyH.cons (o := { dst := some 13, op := Go.Op.call { callee := Go.Callee.value (Go.Operand.func 45), args := #[Go.Operand.tmp 10, Go.Operand.tmp 12], argTypes := #[37, 39] }, type := 4, pos := "exact.go:85", after := #[{ on := 1, ground := Go.Ground.data }, { on := 3, ground := Go.Ground.data }, { on := 3, ground := Go.Ground.chain }], guard := none }) rfl (fun K hK => ?_) AllReadyH.nil
    go_simp
    refine (HWk.out aB cB _ hsB (HBel.out _ hHeld)).mono ?_
    rintro e w8 ⟨rfl, hb8⟩
    have hS' := HKeep.out _ _ hHeld hb8
    try go_wp2_with fail
    refine hK.out _ _ hS' (fun hHeld => ?_)
    try dsimp only at hHeld
    clear hK K
    try simp only [Act.put, List.setIfInBounds_toArray, List.set_cons_zero, List.set_cons_succ]
    refine wpAnyH_take (i := 5) (oi := { dst := some 14, op := Go.Op.unOp Go.UnOp.not 4 (Go.Operand.tmp 13), type := 4, pos := "exact.go:85", after := #[{ on := 4, ground := Go.Ground.data }], guard := none }) (v := ?_) rfl (by kernel_rfl) (by kernel_rfl) (by kernel_rfl) (fun _ _ _ h => h) (Or.inl ⟨by kernel_rfl, ?_⟩) hHeld ?_
    rotate_left
    · (intro w hSw; (try dsimp only at hSw); go_simp; try with_reducible rfl)
    try simp only [Act.put, List.setIfInBounds_toArray, List.set_cons_zero, List.set_cons_succ]
    refine wpAnyH_take (i := 6) (oi := { dst := some 15, op := Go.Op.move (Go.Operand.tmp 14), type := 4, pos := "exact.go:85", after := #[{ on := 5, ground := Go.Ground.data }, { on := 4, ground := Go.Ground.chain }], guard := none }) (v := ?_) rfl (by kernel_rfl) (by kernel_rfl) (by kernel_rfl) (fun _ _ _ h => h) (Or.inl ⟨by kernel_rfl, ?_⟩) hHeld ?_
    rotate_left
    · (intro w hSw; (try dsimp only at hSw); go_simp; try with_reducible rfl)
    try simp only [Act.put, List.setIfInBounds_toArray, List.set_cons_zero, List.set_cons_succ]
    refine wpAnyH_take (i := 7) (oi := { dst := some 16, op := Go.Op.move (Go.Operand.tmp 5), type := 30, pos := "exact.go:85", after := #[{ on := 6, ground := Go.Ground.guard }], guard := some (6, false) }) (v := undef) rfl (by kernel_rfl) (by kernel_rfl) (by kernel_rfl) (fun _ _ _ h => h) (Or.inr ⟨by kernel_rfl, rfl⟩) hHeld ?_
    try simp only [Act.put, List.setIfInBounds_toArray, List.set_cons_zero, List.set_cons_succ]
    refine wpAnyH_take (i := 8) (oi := { dst := some 17, op := Go.Op.move (Go.Operand.tmp 0), type := 30, pos := "exact.go:85", after := #[{ on := 6, ground := Go.Ground.guard }], guard := some (6, false) }) (v := undef) rfl (by kernel_rfl) (by kernel_rfl) (by kernel_rfl) (fun _ _ _ h => h) (Or.inr ⟨by kernel_rfl, rfl⟩) hHeld ?_
    try simp only [Act.put, List.setIfInBounds_toArray, List.set_cons_zero, List.set_cons_succ]
    refine wpAnyH_take (i := 9) (oi := { dst := some 18, op := Go.Op.call { callee := Go.Callee.value (Go.Operand.func 82), args := #[Go.Operand.tmp 16, Go.Operand.tmp 17], argTypes := #[30, 30] }, type := 4, pos := "exact.go:85", after := #[{ on := 7, ground := Go.Ground.data }, { on := 8, ground := Go.Ground.data }, { on := 6, ground := Go.Ground.chain }, { on := 6, ground := Go.Ground.guard }], guard := some (6, false) }) (v := undef) rfl (by kernel_rfl) (by kernel_rfl) (by kernel_rfl) (fun _ _ _ h => h) (Or.inr ⟨by kernel_rfl, rfl⟩) hHeld ?_
    try simp only [Act.put, List.setIfInBounds_toArray, List.set_cons_zero, List.set_cons_succ]
    refine wpAnyH_take (i := 10) (oi := { dst := some 19, op := Go.Op.move (Go.Operand.tmp 18), type := 4, pos := "exact.go:85", after := #[{ on := 9, ground := Go.Ground.data }, { on := 9, ground := Go.Ground.chain }, { on := 6, ground := Go.Ground.guard }], guard := some (6, false) }) (v := undef) rfl (by kernel_rfl) (by kernel_rfl) (by kernel_rfl) (fun _ _ _ h => h) (Or.inr ⟨by kernel_rfl, rfl⟩) hHeld ?_
    try simp only [Act.put, List.setIfInBounds_toArray, List.set_cons_zero, List.set_cons_succ]
    refine wpAnyH_take (i := 11) (oi := { dst := some 20, op := Go.Op.move (Go.Operand.tmp 5), type := 30, pos := "exact.go:85", after := #[{ on := 10, ground := Go.Ground.guard }], guard := some (10, true) }) (v := undef) rfl (by kernel_rfl) (by kernel_rfl) (by kernel_rfl) (fun _ _ _ h => h) (Or.inr ⟨by kernel_rfl, rfl⟩) hHeld ?_
    try simp only [Act.put, List.setIfInBounds_toArray, List.set_cons_zero, List.set_cons_succ]
    refine wpAnyH_take (i := 12) (oi := { dst := some 21, op := Go.Op.call { callee := Go.Callee.value (Go.Operand.func 47), args := #[Go.Operand.tmp 20], argTypes := #[30] }, type := 39, pos := "exact.go:85", after := #[{ on := 11, ground := Go.Ground.data }, { on := 10, ground := Go.Ground.chain }, { on := 10, ground := Go.Ground.guard }], guard := some (10, true) }) (v := undef) rfl (by kernel_rfl) (by kernel_rfl) (by kernel_rfl) (fun _ _ _ h => h) (Or.inr ⟨by kernel_rfl, rfl⟩) hHeld ?_
    try simp only [Act.put, List.setIfInBounds_toArray, List.set_cons_zero, List.set_cons_succ]
    refine wpAnyH_take (i := 13) (oi := { dst := some 22, op := Go.Op.move (Go.Operand.tmp 0), type := 30, pos := "exact.go:85", after := #[{ on := 10, ground := Go.Ground.guard }], guard := some (10, true) }) (v := undef) rfl (by kernel_rfl) (by kernel_rfl) (by kernel_rfl) (fun _ _ _ h => h) (Or.inr ⟨by kernel_rfl, rfl⟩) hHeld ?_
    try simp only [Act.put, List.setIfInBounds_toArray, List.set_cons_zero, List.set_cons_succ]
    refine wpAnyH_take (i := 14) (oi := { dst := some 23, op := Go.Op.call { callee := Go.Callee.value (Go.Operand.func 47), args := #[Go.Operand.tmp 22], argTypes := #[30] }, type := 39, pos := "exact.go:85", after := #[{ on := 13, ground := Go.Ground.data }, { on := 12, ground := Go.Ground.chain }, { on := 10, ground := Go.Ground.guard }], guard := some (10, true) }) (v := undef) rfl (by kernel_rfl) (by kernel_rfl) (by kernel_rfl) (fun _ _ _ h => h) (Or.inr ⟨by kernel_rfl, rfl⟩) hHeld ?_
    try simp only [Act.put, List.setIfInBounds_toArray, List.set_cons_zero, List.set_cons_succ]
    refine wpAnyH_take (i := 15) (oi := { dst := some 24, op := Go.Op.load 33 (Go.Operand.tmp 3), type := 33, pos := "exact.go:85", after := #[{ on := 10, ground := Go.Ground.guard }], guard := some (10, true) }) (v := undef) rfl (by kernel_rfl) (by kernel_rfl) (by kernel_rfl) (fun _ _ _ h => h) (Or.inr ⟨by kernel_rfl, rfl⟩) hHeld ?_
    try simp only [Act.put, List.setIfInBounds_toArray, List.set_cons_zero, List.set_cons_succ]
    refine wpAnyH_take (i := 16) (oi := { dst := some 25, op := Go.Op.call { callee := Go.Callee.value (Go.Operand.func 46), args := #[Go.Operand.tmp 24], argTypes := #[33] }, type := 37, pos := "exact.go:85", after := #[{ on := 15, ground := Go.Ground.data }, { on := 14, ground := Go.Ground.chain }, { on := 10, ground := Go.Ground.guard }], guard := some (10, true) }) (v := undef) rfl (by kernel_rfl) (by kernel_rfl) (by kernel_rfl) (fun _ _ _ h => h) (Or.inr ⟨by kernel_rfl, rfl⟩) hHeld ?_
    try simp only [Act.put, List.setIfInBounds_toArray, List.set_cons_zero, List.set_cons_succ]
    refine wpAnyH_take (i := 17) (oi := { dst := some 26, op := Go.Op.call { callee := Go.Callee.value (Go.Operand.func 78), args := #[Go.Operand.tmp 23, Go.Operand.tmp 25], argTypes := #[39, 37] }, type := 39, pos := "exact.go:85", after := #[{ on := 14, ground := Go.Ground.data }, { on := 16, ground := Go.Ground.data }, { on := 16, ground := Go.Ground.chain }, { on := 10, ground := Go.Ground.guard }], guard := some (10, true) }) (v := undef) rfl (by kernel_rfl) (by kernel_rfl) (by kernel_rfl) (fun _ _ _ h => h) (Or.inr ⟨by kernel_rfl, rfl⟩) hHeld ?_
    try simp only [Act.put, List.setIfInBounds_toArray, List.set_cons_zero, List.set_cons_succ]
    refine wpAnyH_take (i := 18) (oi := { dst := some 27, op := Go.Op.load 33 (Go.Operand.tmp 3), type := 33, pos := "exact.go:85", after := #[{ on := 10, ground := Go.Ground.guard }], guard := some (10, true) }) (v := undef) rfl (by kernel_rfl) (by kernel_rfl) (by kernel_rfl) (fun _ _ _ h => h) (Or.inr ⟨by kernel_rfl, rfl⟩) hHeld ?_
    try simp only [Act.put, List.setIfInBounds_toArray, List.set_cons_zero, List.set_cons_succ]
    refine wpAnyH_take (i := 19) (oi := { dst := some 28, op := Go.Op.call { callee := Go.Callee.value (Go.Operand.func 46), args := #[Go.Operand.tmp 27], argTypes := #[33] }, type := 37, pos := "exact.go:85", after := #[{ on := 18, ground := Go.Ground.data }, { on := 17, ground := Go.Ground.chain }, { on := 10, ground := Go.Ground.guard }], guard := some (10, true) }) (v := undef) rfl (by kernel_rfl) (by kernel_rfl) (by kernel_rfl) (fun _ _ _ h => h) (Or.inr ⟨by kernel_rfl, rfl⟩) hHeld ?_
    try simp only [Act.put, List.setIfInBounds_toArray, List.set_cons_zero, List.set_cons_succ]
    refine wpAnyH_take (i := 20) (oi := { dst := some 29, op := Go.Op.call { callee := Go.Callee.value (Go.Operand.func 49), args := #[Go.Operand.tmp 21, Go.Operand.tmp 26, Go.Operand.tmp 28], argTypes := #[39, 39, 37] }, type := 4, pos := "exact.go:85", after := #[{ on := 12, ground := Go.Ground.data }, { on := 17, ground := Go.Ground.data }, { on := 19, ground := Go.Ground.data }, { on := 19, ground := Go.Ground.chain }, { on := 10, ground := Go.Ground.guard }], guard := some (10, true) }) (v := undef) rfl (by kernel_rfl) (by kernel_rfl) (by kernel_rfl) (fun _ _ _ h => h) (Or.inr ⟨by kernel_rfl, rfl⟩) hHeld ?_
    try simp only [Act.put, List.setIfInBounds_toArray, List.set_cons_zero, List.set_cons_succ]
    refine wpAnyH_take (i := 21) (oi := { dst := some 30, op := Go.Op.pick (Go.Operand.tmp 19) (Go.Operand.tmp 29) (Go.Operand.const (Go.Value.bool false)), type := 4, pos := "exact.go:85", after := #[{ on := 10, ground := Go.Ground.data }, { on := 20, ground := Go.Ground.data }, { on := 6, ground := Go.Ground.guard }], guard := some (6, false) }) (v := undef) rfl (by kernel_rfl) (by kernel_rfl) (by kernel_rfl) (fun _ _ _ h => h) (Or.inr ⟨by kernel_rfl, rfl⟩) hHeld ?_
    try simp only [Act.put, List.setIfInBounds_toArray, List.set_cons_zero, List.set_cons_succ]
    refine wpAnyH_take (i := 22) (oi := { dst := some 31, op := Go.Op.pick (Go.Operand.tmp 15) (Go.Operand.const (Go.Value.bool true)) (Go.Operand.tmp 30), type := 4, pos := "exact.go:85", after := #[{ on := 6, ground := Go.Ground.data }, { on := 21, ground := Go.Ground.data }], guard := none }) (v := ?_) rfl (by kernel_rfl) (by kernel_rfl) (by kernel_rfl) (fun _ _ _ h => h) (Or.inl ⟨by kernel_rfl, ?_⟩) hHeld ?_
    rotate_left
    · (intro w hSw; (try dsimp only at hSw); go_simp; try with_reducible rfl)
    try simp only [Act.put, List.setIfInBounds_toArray, List.set_cons_zero, List.set_cons_succ]
    refine wpAnyH_take (i := 23) (oi := { dst := some 4, op := Go.Op.assign (Go.Operand.tmp 31), type := 4, pos := "exact.go:85", after := #[{ on := 22, ground := Go.Ground.data }, { on := 20, ground := Go.Ground.chain }, { on := 0, ground := Go.Ground.phase }, { on := 1, ground := Go.Ground.phase }, { on := 2, ground := Go.Ground.phase }, { on := 3, ground := Go.Ground.phase }, { on := 4, ground := Go.Ground.phase }, { on := 5, ground := Go.Ground.phase }, { on := 6, ground := Go.Ground.phase }, { on := 7, ground := Go.Ground.phase }, { on := 8, ground := Go.Ground.phase }, { on := 9, ground := Go.Ground.phase }, { on := 10, ground := Go.Ground.phase }, { on := 11, ground := Go.Ground.phase }, { on := 12, ground := Go.Ground.phase }, { on := 13, ground := Go.Ground.phase }, { on := 14, ground := Go.Ground.phase }, { on := 15, ground := Go.Ground.phase }, { on := 16, ground := Go.Ground.phase }, { on := 17, ground := Go.Ground.phase }, { on := 18, ground := Go.Ground.phase }, { on := 19, ground := Go.Ground.phase }, { on := 20, ground := Go.Ground.phase }, { on := 21, ground := Go.Ground.phase }, { on := 22, ground := Go.Ground.phase }], guard := none }) (v := ?_) rfl (by kernel_rfl) (by kernel_rfl) (by kernel_rfl) (fun _ _ _ h => h) (Or.inl ⟨by kernel_rfl, ?_⟩) hHeld ?_
    rotate_left
    · (intro w hSw; (try dsimp only at hSw); go_simp; try with_reducible rfl)
    try simp only [Act.put, List.setIfInBounds_toArray, List.set_cons_zero, List.set_cons_succ]
    refine wpAnyH_done (by kernel_rfl) ?_ _
    have HB6 := Lib.hid (HBel.out _ hHeld)
    go_wp2_with fail
    go_ret
    exact ⟨rfl, by rw [HPE.out]; exact B1.out.trans ((HB5.out.trans (HB6.out.mono HB5.out.size)).mono (by rw [← HPE.out]; exact B1.out.size))⟩
  | true =>
    have HWk := Lib.hid (show ∀ aB cB W, SlK 2 encIt W aB len0 cB x0 → Below w5.heap.size w5 W → Calls Try.prog 45 #[.agg #[.int .i64 n1, .slice a1 len1 cap1, .bool false], .slice aB len0 cB] W fun e w' => e = .returned (.bool true) ∧ Below W.heap.size W w' from fun aB cB W h hb => spec_Weak_at true n1 a1 len1 cap1 x1 false aB len0 cB x0 W hw h (HTb.out _ hb) (by omega))
    have HWT := Lib.hid (weakB_true hw)
    have HEQ := Lib.hid (show ∀ SE, StableOf (sbef n1 x1 false) x0 SE → ∀ i, i < len0 → sbef n1 x1 false (el O i) (el SE i) = false ∧ sbef n1 x1 false (el SE i) (el O i) = false from fun SE h i hi => by
      have hso := HSO.out
      have hOl : O.length = len0 := by rw [hso.1.length_eq]; exact HL.out
      have hSl : SE.length = len0 := by rw [h.1]; exact HL.out
      exact ⟨sorted_same HWT.out hso.1 (h.perm HWT.out) (hso.2 HWT.out) (h.sorted HWT.out) i (by omega), sorted_same HWT.out (h.perm HWT.out) hso.1 (h.sorted HWT.out) (hso.2 HWT.out) i (by omega)⟩)
    clear hw
    refine wp_region_held_drew (S := (fun w' => w'.cell? ⟨P, 0, none⟩ = some (.int .i64 n1) ∧ w'.cell? ⟨P, 1, none⟩ = some (.slice a1 len1 cap1) ∧ Below w5.heap.size w5 w')) (by kernel_rfl) (⟨p0, p1, (Below.refl _ _).drew⟩) (fun hHeld => ?_)
    try dsimp only at hHeld
    refine wpAnyH_take (i := 0) (oi := { dst := some 9, op := Go.Op.load 33 (Go.Operand.tmp 3), type := 33, pos := "exact.go:85", after := #[], guard := none }) (v := ?_) rfl (by kernel_rfl) (by kernel_rfl) (by kernel_rfl) (fun _ _ _ h => h) (Or.inl ⟨by kernel_rfl, ?_⟩) hHeld ?_
    rotate_left
    · (intro w hSw; (try dsimp only at hSw); go_simp; try with_reducible rfl)
    try simp only [Act.put, List.setIfInBounds_toArray, List.set_cons_zero, List.set_cons_succ]
    refine wpAnyH_take (i := 2) (oi := { dst := some 11, op := Go.Op.move (Go.Operand.tmp 0), type := 30, pos := "exact.go:85", after := #[], guard := none }) (v := ?_) rfl (by kernel_rfl) (by kernel_rfl) (by kernel_rfl) (fun _ _ _ h => h) (Or.inl ⟨by kernel_rfl, ?_⟩) hHeld ?_
    rotate_left
    · (intro w hSw; (try dsimp only at hSw); go_simp; try with_reducible rfl)
    try simp only [Act.put, List.setIfInBounds_toArray, List.set_cons_zero, List.set_cons_succ]
    refine wpAnyH_ready (rs := [1]) (by kernel_rfl) (by simp) ?_
    refine AllReadyH.cons (o := { dst := some 10, op := Go.Op.call { callee := Go.Callee.value (Go.Operand.func 46), args := #[Go.Operand.tmp 9], argTypes := #[33] }, type := 37, pos := "exact.go:85", after := #[{ on := 0, ground := Go.Ground.data }], guard := none }) rfl (fun K hK => ?_) AllReadyH.nil
    go_simp
    refine (laws_so n1 a1 len1 cap1 _).mono ?_
    rintro e w6 ⟨rfl, hb6⟩
    have hS' := HKeep.out _ _ hHeld hb6
    try go_wp2_with fail
    refine hK.out _ _ hS' (fun hHeld => ?_)
    try dsimp only at hHeld
    clear hK K
    try simp only [Act.put, List.setIfInBounds_toArray, List.set_cons_zero, List.set_cons_succ]
    refine wpAnyH_ready (rs := [3]) (by kernel_rfl) (by simp) ?_
    refine AllReadyH.cons (o := { dst := some 12, op := Go.Op.call { callee := Go.Callee.value (Go.Operand.func 47), args := #[Go.Operand.tmp 11], argTypes := #[30] }, type := 39, pos := "exact.go:85", after := #[{ on := 2, ground := Go.Ground.data }, { on := 1, ground := Go.Ground.chain }], guard := none }) rfl (fun K hK => ?_) AllReadyH.nil
    go_simp
    refine (laws_sItems a0 len0 cap0 x0 _ (HLb.out _ (HBel.out _ hHeld)) (by omega)).mono ?_
    rintro e wB ⟨aB, cB, rfl, hoB, hsB, hbB⟩
    have hS' := HKeep.out _ _ hHeld hbB
    try go_wp2_with fail
    refine hK.out _ _ hS' (fun hHeld => ?_)
    try dsimp only at hHeld
    clear hK K
    try simp only [Act.put, List.setIfInBounds_toArray, List.set_cons_zero, List.set_cons_succ]
    refine wpAnyH_ready (rs := [4]) (by kernel_rfl) (by simp) ?_
    refine AllReadyH.cons (o := { dst := some 13, op := Go.Op.call { callee := Go.Callee.value (Go.Operand.func 45), args := #[Go.Operand.tmp 10, Go.Operand.tmp 12], argTypes := #[37, 39] }, type := 4, pos := "exact.go:85", after := #[{ on := 1, ground := Go.Ground.data }, { on := 3, ground := Go.Ground.data }, { on := 3, ground := Go.Ground.chain }], guard := none }) rfl (fun K hK => ?_) AllReadyH.nil
    go_simp
    refine (HWk.out aB cB _ hsB (HBel.out _ hHeld)).mono ?_
    rintro e w8 ⟨rfl, hb8⟩
    have hS' := HKeep.out _ _ hHeld hb8
    try go_wp2_with fail
    refine hK.out _ _ hS' (fun hHeld => ?_)
    try dsimp only at hHeld
    clear hK K
    try simp only [Act.put, List.setIfInBounds_toArray, List.set_cons_zero, List.set_cons_succ]
    refine wpAnyH_take (i := 5) (oi := { dst := some 14, op := Go.Op.unOp Go.UnOp.not 4 (Go.Operand.tmp 13), type := 4, pos := "exact.go:85", after := #[{ on := 4, ground := Go.Ground.data }], guard := none }) (v := ?_) rfl (by kernel_rfl) (by kernel_rfl) (by kernel_rfl) (fun _ _ _ h => h) (Or.inl ⟨by kernel_rfl, ?_⟩) hHeld ?_
    rotate_left
    · (intro w hSw; (try dsimp only at hSw); go_simp; try with_reducible rfl)
    try simp only [Act.put, List.setIfInBounds_toArray, List.set_cons_zero, List.set_cons_succ]
    refine wpAnyH_take (i := 6) (oi := { dst := some 15, op := Go.Op.move (Go.Operand.tmp 14), type := 4, pos := "exact.go:85", after := #[{ on := 5, ground := Go.Ground.data }, { on := 4, ground := Go.Ground.chain }], guard := none }) (v := ?_) rfl (by kernel_rfl) (by kernel_rfl) (by kernel_rfl) (fun _ _ _ h => h) (Or.inl ⟨by kernel_rfl, ?_⟩) hHeld ?_
    rotate_left
    · (intro w hSw; (try dsimp only at hSw); go_simp; try with_reducible rfl)
    try simp only [Act.put, List.setIfInBounds_toArray, List.set_cons_zero, List.set_cons_succ]
    refine wpAnyH_take (i := 7) (oi := { dst := some 16, op := Go.Op.move (Go.Operand.tmp 5), type := 30, pos := "exact.go:85", after := #[{ on := 6, ground := Go.Ground.guard }], guard := some (6, false) }) (v := ?_) rfl (by kernel_rfl) (by kernel_rfl) (by kernel_rfl) (fun _ _ _ h => h) (Or.inl ⟨by kernel_rfl, ?_⟩) hHeld ?_
    rotate_left
    · (intro w hSw; (try dsimp only at hSw); go_simp; try with_reducible rfl)
    try simp only [Act.put, List.setIfInBounds_toArray, List.set_cons_zero, List.set_cons_succ]
    refine wpAnyH_take (i := 8) (oi := { dst := some 17, op := Go.Op.move (Go.Operand.tmp 0), type := 30, pos := "exact.go:85", after := #[{ on := 6, ground := Go.Ground.guard }], guard := some (6, false) }) (v := ?_) rfl (by kernel_rfl) (by kernel_rfl) (by kernel_rfl) (fun _ _ _ h => h) (Or.inl ⟨by kernel_rfl, ?_⟩) hHeld ?_
    rotate_left
    · (intro w hSw; (try dsimp only at hSw); go_simp; try with_reducible rfl)
    try simp only [Act.put, List.setIfInBounds_toArray, List.set_cons_zero, List.set_cons_succ]
    refine wpAnyH_ready (rs := [9]) (by kernel_rfl) (by simp) ?_
    refine AllReadyH.cons (o := { dst := some 18, op := Go.Op.call { callee := Go.Callee.value (Go.Operand.func 82), args := #[Go.Operand.tmp 16, Go.Operand.tmp 17], argTypes := #[30, 30] }, type := 4, pos := "exact.go:85", after := #[{ on := 7, ground := Go.Ground.data }, { on := 8, ground := Go.Ground.data }, { on := 6, ground := Go.Ground.chain }, { on := 6, ground := Go.Ground.guard }], guard := some (6, false) }) rfl (fun K hK => ?_) AllReadyH.nil
    go_simp
    refine (permuted_it a2 len0 c2 O a0 len0 cap0 x0 _ (HOb.out _ (HBel.out _ hHeld)) (HLb.out _ (HBel.out _ hHeld)) (by omega) HSO.out.1).mono ?_
    rintro e w9 ⟨rfl, hb9⟩
    have hS' := HKeep.out _ _ hHeld hb9
    try go_wp2_with fail
    refine hK.out _ _ hS' (fun hHeld => ?_)
    try dsimp only at hHeld
    clear hK K
    try simp only [Act.put, List.setIfInBounds_toArray, List.set_cons_zero, List.set_cons_succ]
    refine wpAnyH_take (i := 10) (oi := { dst := some 19, op := Go.Op.move (Go.Operand.tmp 18), type := 4, pos := "exact.go:85", after := #[{ on := 9, ground := Go.Ground.data }, { on := 9, ground := Go.Ground.chain }, { on := 6, ground := Go.Ground.guard }], guard := some (6, false) }) (v := ?_) rfl (by kernel_rfl) (by kernel_rfl) (by kernel_rfl) (fun _ _ _ h => h) (Or.inl ⟨by kernel_rfl, ?_⟩) hHeld ?_
    rotate_left
    · (intro w hSw; (try dsimp only at hSw); go_simp; try with_reducible rfl)
    try simp only [Act.put, List.setIfInBounds_toArray, List.set_cons_zero, List.set_cons_succ]
    refine wpAnyH_take (i := 11) (oi := { dst := some 20, op := Go.Op.move (Go.Operand.tmp 5), type := 30, pos := "exact.go:85", after := #[{ on := 10, ground := Go.Ground.guard }], guard := some (10, true) }) (v := ?_) rfl (by kernel_rfl) (by kernel_rfl) (by kernel_rfl) (fun _ _ _ h => h) (Or.inl ⟨by kernel_rfl, ?_⟩) hHeld ?_
    rotate_left
    · (intro w hSw; (try dsimp only at hSw); go_simp; try with_reducible rfl)
    try simp only [Act.put, List.setIfInBounds_toArray, List.set_cons_zero, List.set_cons_succ]
    refine wpAnyH_take (i := 13) (oi := { dst := some 22, op := Go.Op.move (Go.Operand.tmp 0), type := 30, pos := "exact.go:85", after := #[{ on := 10, ground := Go.Ground.guard }], guard := some (10, true) }) (v := ?_) rfl (by kernel_rfl) (by kernel_rfl) (by kernel_rfl) (fun _ _ _ h => h) (Or.inl ⟨by kernel_rfl, ?_⟩) hHeld ?_
    rotate_left
    · (intro w hSw; (try dsimp only at hSw); go_simp; try with_reducible rfl)
    try simp only [Act.put, List.setIfInBounds_toArray, List.set_cons_zero, List.set_cons_succ]
    refine wpAnyH_take (i := 15) (oi := { dst := some 24, op := Go.Op.load 33 (Go.Operand.tmp 3), type := 33, pos := "exact.go:85", after := #[{ on := 10, ground := Go.Ground.guard }], guard := some (10, true) }) (v := ?_) rfl (by kernel_rfl) (by kernel_rfl) (by kernel_rfl) (fun _ _ _ h => h) (Or.inl ⟨by kernel_rfl, ?_⟩) hHeld ?_
    rotate_left
    · (intro w hSw; (try dsimp only at hSw); go_simp; try with_reducible rfl)
    try simp only [Act.put, List.setIfInBounds_toArray, List.set_cons_zero, List.set_cons_succ]
    refine wpAnyH_take (i := 18) (oi := { dst := some 27, op := Go.Op.load 33 (Go.Operand.tmp 3), type := 33, pos := "exact.go:85", after := #[{ on := 10, ground := Go.Ground.guard }], guard := some (10, true) }) (v := ?_) rfl (by kernel_rfl) (by kernel_rfl) (by kernel_rfl) (fun _ _ _ h => h) (Or.inl ⟨by kernel_rfl, ?_⟩) hHeld ?_
    rotate_left
    · (intro w hSw; (try dsimp only at hSw); go_simp; try with_reducible rfl)
    try simp only [Act.put, List.setIfInBounds_toArray, List.set_cons_zero, List.set_cons_succ]
    refine wpAnyH_ready (rs := [12]) (by kernel_rfl) (by simp) ?_
    refine AllReadyH.cons (o := { dst := some 21, op := Go.Op.call { callee := Go.Callee.value (Go.Operand.func 47), args := #[Go.Operand.tmp 20], argTypes := #[30] }, type := 39, pos := "exact.go:85", after := #[{ on := 11, ground := Go.Ground.data }, { on := 10, ground := Go.Ground.chain }, { on := 10, ground := Go.Ground.guard }], guard := some (10, true) }) rfl (fun K hK => ?_) AllReadyH.nil
    go_simp
    refine (laws_sItems a2 len0 c2 O _ (HOb.out _ (HBel.out _ hHeld)) (by omega)).mono ?_
    rintro e wC ⟨aC, cC, rfl, hoC, hsC, hbC⟩
    have hS' := HKeep.out _ _ hHeld hbC
    try go_wp2_with fail
    refine hK.out _ _ hS' (fun hHeld => ?_)
    try dsimp only at hHeld
    clear hK K
    try simp only [Act.put, List.setIfInBounds_toArray, List.set_cons_zero, List.set_cons_succ]
    refine wpAnyH_ready (rs := [14]) (by kernel_rfl) (by simp) ?_
    refine AllReadyH.cons (o := { dst := some 23, op := Go.Op.call { callee := Go.Callee.value (Go.Operand.func 47), args := #[Go.Operand.tmp 22], argTypes := #[30] }, type := 39, pos := "exact.go:85", after := #[{ on := 13, ground := Go.Ground.data }, { on := 12, ground := Go.Ground.chain }, { on := 10, ground := Go.Ground.guard }], guard := some (10, true) }) rfl (fun K hK => ?_) AllReadyH.nil
    go_simp
    refine (laws_sItems a0 len0 cap0 x0 _ (HLb.out _ (HBel.out _ hHeld)) (by omega)).mono ?_
    rintro e wD ⟨aD, cD, rfl, hoD, hsD, hbD⟩
    have hS' := HKeep.out _ _ hHeld hbD
    have hsC1 := Lib.hid (hsC.belowS hbD)
    try go_wp2_with fail
    refine hK.out _ _ hS' (fun hHeld => ?_)
    try dsimp only at hHeld
    clear hK K
    try simp only [Act.put, List.setIfInBounds_toArray, List.set_cons_zero, List.set_cons_succ]
    refine wpAnyH_ready (rs := [16]) (by kernel_rfl) (by simp) ?_
    refine AllReadyH.cons (o := { dst := some 25, op := Go.Op.call { callee := Go.Callee.value (Go.Operand.func 46), args := #[Go.Operand.tmp 24], argTypes := #[33] }, type := 37, pos := "exact.go:85", after := #[{ on := 15, ground := Go.Ground.data }, { on := 14, ground := Go.Ground.chain }, { on := 10, ground := Go.Ground.guard }], guard := some (10, true) }) rfl (fun K hK => ?_) AllReadyH.nil
    go_simp
    refine (laws_so n1 a1 len1 cap1 _).mono ?_
    rintro e w10 ⟨rfl, hb10⟩
    have hS' := HKeep.out _ _ hHeld hb10
    have hsC2 := Lib.hid (hsC1.out.belowS hb10)
    have hsD2 := Lib.hid (hsD.belowS hb10)
    try go_wp2_with fail
    refine hK.out _ _ hS' (fun hHeld => ?_)
    try dsimp only at hHeld
    clear hK K
    try simp only [Act.put, List.setIfInBounds_toArray, List.set_cons_zero, List.set_cons_succ]
    refine wpAnyH_ready (rs := [17]) (by kernel_rfl) (by simp) ?_
    refine AllReadyH.cons (o := { dst := some 26, op := Go.Op.call { callee := Go.Callee.value (Go.Operand.func 78), args := #[Go.Operand.tmp 23, Go.Operand.tmp 25], argTypes := #[39, 37] }, type := 39, pos := "exact.go:85", after := #[{ on := 14, ground := Go.Ground.data }, { on := 16, ground := Go.Ground.data }, { on := 16, ground := Go.Ground.chain }, { on := 10, ground := Go.Ground.guard }], guard := some (10, true) }) rfl (fun K hK => ?_) AllReadyH.nil
    go_simp
    refine (spec_Stable n1 a1 len1 cap1 x1 false aD len0 cD x0 _ hsD2.out (HTb.out _ (HBel.out _ hHeld)) (by omega) HWT.out).mono ?_
    rintro e w12 ⟨gE, SE, rfl, hoE, hsE, hstE, hbE⟩
    have hS' := HKeep.out _ _ hHeld hbE
    have hsC3 := Lib.hid (hsC2.out.belowS hbE)
    try go_wp2_with fail
    refine hK.out _ _ hS' (fun hHeld => ?_)
    try dsimp only at hHeld
    clear hK K
    try simp only [Act.put, List.setIfInBounds_toArray, List.set_cons_zero, List.set_cons_succ]
    refine wpAnyH_ready (rs := [19]) (by kernel_rfl) (by simp) ?_
    refine AllReadyH.cons (o := { dst := some 28, op := Go.Op.call { callee := Go.Callee.value (Go.Operand.func 46), args := #[Go.Operand.tmp 27], argTypes := #[33] }, type := 37, pos := "exact.go:85", after := #[{ on := 18, ground := Go.Ground.data }, { on := 17, ground := Go.Ground.chain }, { on := 10, ground := Go.Ground.guard }], guard := some (10, true) }) rfl (fun K hK => ?_) AllReadyH.nil
    go_simp
    refine (laws_so n1 a1 len1 cap1 _).mono ?_
    rintro e w14 ⟨rfl, hb14⟩
    have hS' := HKeep.out _ _ hHeld hb14
    have hsC4 := Lib.hid (hsC3.out.belowS hb14)
    have hsE4 := Lib.hid (hsE.belowS hb14)
    try go_wp2_with fail
    refine hK.out _ _ hS' (fun hHeld => ?_)
    try dsimp only at hHeld
    clear hK K
    try simp only [Act.put, List.setIfInBounds_toArray, List.set_cons_zero, List.set_cons_succ]
    refine wpAnyH_ready (rs := [20]) (by kernel_rfl) (by simp) ?_
    refine AllReadyH.cons (o := { dst := some 29, op := Go.Op.call { callee := Go.Callee.value (Go.Operand.func 49), args := #[Go.Operand.tmp 21, Go.Operand.tmp 26, Go.Operand.tmp 28], argTypes := #[39, 39, 37] }, type := 4, pos := "exact.go:85", after := #[{ on := 12, ground := Go.Ground.data }, { on := 17, ground := Go.Ground.data }, { on := 19, ground := Go.Ground.data }, { on := 19, ground := Go.Ground.chain }, { on := 10, ground := Go.Ground.guard }], guard := some (10, true) }) rfl (fun K hK => ?_) AllReadyH.nil
    go_simp
    refine (laws_equalByOrder n1 a1 len1 cap1 x1 false aC len0 cC O (some ⟨gE, 0, none⟩) len0 SE _ hsC4.out hsE4.out (HTb.out _ (HBel.out _ hHeld)) (by omega) (HEQ.out SE hstE)).mono ?_
    rintro e w13 ⟨rfl, hb13⟩
    have hS' := HKeep.out _ _ hHeld hb13
    try go_wp2_with fail
    refine hK.out _ _ hS' (fun hHeld => ?_)
    try dsimp only at hHeld
    clear hK K
    try simp only [Act.put, List.setIfInBounds_toArray, List.set_cons_zero, List.set_cons_succ]
    refine wpAnyH_take (i := 21) (oi := { dst := some 30, op := Go.Op.pick (Go.Operand.tmp 19) (Go.Operand.tmp 29) (Go.Operand.const (Go.Value.bool false)), type := 4, pos := "exact.go:85", after := #[{ on := 10, ground := Go.Ground.data }, { on := 20, ground := Go.Ground.data }, { on := 6, ground := Go.Ground.guard }], guard := some (6, false) }) (v := ?_) rfl (by kernel_rfl) (by kernel_rfl) (by kernel_rfl) (fun _ _ _ h => h) (Or.inl ⟨by kernel_rfl, ?_⟩) hHeld ?_
    rotate_left
    · (intro w hSw; (try dsimp only at hSw); go_simp; try with_reducible rfl)
    try simp only [Act.put, List.setIfInBounds_toArray, List.set_cons_zero, List.set_cons_succ]
    refine wpAnyH_take (i := 22) (oi := { dst := some 31, op := Go.Op.pick (Go.Operand.tmp 15) (Go.Operand.const (Go.Value.bool true)) (Go.Operand.tmp 30), type := 4, pos := "exact.go:85", after := #[{ on := 6, ground := Go.Ground.data }, { on := 21, ground := Go.Ground.data }], guard := none }) (v := ?_) rfl (by kernel_rfl) (by kernel_rfl) (by kernel_rfl) (fun _ _ _ h => h) (Or.inl ⟨by kernel_rfl, ?_⟩) hHeld ?_
    rotate_left
    · (intro w hSw; (try dsimp only at hSw); go_simp; try with_reducible rfl)
    try simp only [Act.put, List.setIfInBounds_toArray, List.set_cons_zero, List.set_cons_succ]
    refine wpAnyH_take (i := 23) (oi := { dst := some 4, op := Go.Op.assign (Go.Operand.tmp 31), type := 4, pos := "exact.go:85", after := #[{ on := 22, ground := Go.Ground.data }, { on := 20, ground := Go.Ground.chain }, { on := 0, ground := Go.Ground.phase }, { on := 1, ground := Go.Ground.phase }, { on := 2, ground := Go.Ground.phase }, { on := 3, ground := Go.Ground.phase }, { on := 4, ground := Go.Ground.phase }, { on := 5, ground := Go.Ground.phase }, { on := 6, ground := Go.Ground.phase }, { on := 7, ground := Go.Ground.phase }, { on := 8, ground := Go.Ground.phase }, { on := 9, ground := Go.Ground.phase }, { on := 10, ground := Go.Ground.phase }, { on := 11, ground := Go.Ground.phase }, { on := 12, ground := Go.Ground.phase }, { on := 13, ground := Go.Ground.phase }, { on := 14, ground := Go.Ground.phase }, { on := 15, ground := Go.Ground.phase }, { on := 16, ground := Go.Ground.phase }, { on := 17, ground := Go.Ground.phase }, { on := 18, ground := Go.Ground.phase }, { on := 19, ground := Go.Ground.phase }, { on := 20, ground := Go.Ground.phase }, { on := 21, ground := Go.Ground.phase }, { on := 22, ground := Go.Ground.phase }], guard := none }) (v := ?_) rfl (by kernel_rfl) (by kernel_rfl) (by kernel_rfl) (fun _ _ _ h => h) (Or.inl ⟨by kernel_rfl, ?_⟩) hHeld ?_
    rotate_left
    · (intro w hSw; (try dsimp only at hSw); go_simp; try with_reducible rfl)
    try simp only [Act.put, List.setIfInBounds_toArray, List.set_cons_zero, List.set_cons_succ]
    refine wpAnyH_done (by kernel_rfl) ?_ _
    have HB6 := Lib.hid (HBel.out _ hHeld)
    go_wp2_with fail
    go_ret
    exact ⟨rfl, by rw [HPE.out]; exact B1.out.trans ((HB5.out.trans (HB6.out.mono HB5.out.size)).mono (by rw [← HPE.out]; exact B1.out.size))⟩
#print axioms walk_FnSlice
end Go.Proofs.Ytaifikhgijnkgaa
