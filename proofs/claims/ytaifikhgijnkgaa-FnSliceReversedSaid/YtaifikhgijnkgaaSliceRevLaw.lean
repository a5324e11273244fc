/- The walk of laws.FnSliceReversed. No conditions. -/
import Derived.Test.YtaifikhgijnkgaaLawKit
import Derived.Test.YtaifikhgijnkgaaSliceSort
import Derived.Test.YtaifikhgijnkgaaReversed
import Derived.Test.YtaifikhgijnkgaaEqualIt
import Derived.Test.YtaifikhgijnkgaaEqualBy
namespace Go.Proofs.Ytaifikhgijnkgaa
open Go.RowKit
set_option linter.unusedVariables false


set_option maxHeartbeats 4000000 in
set_option maxRecDepth 100000 in
theorem walk_FnSliceReversed (a0 : Option Addr) (len0 cap0 : Nat) (x0 : List It) (n1 : Int) (a1 : Option Addr) (len1 cap1 : Nat) (x1 : List Bool) (w : World)
    (s0 : SlK 2 encIt w a0 len0 cap0 x0) (g0 : ∀ x ∈ x0, okIt x) (b0 : cap0 * 16 ≤ 140737488351232) (g1 : (Lit.int .i64 n1).wf = true) (s1 : Sl Value.bool w a1 len1 cap1 x1) (b1 : cap1 ≤ 9223372036854775807) :
    Calls Try.prog 16 #[.slice a0 len0 cap0, .agg #[.int .i64 n1, .slice a1 len1 cap1]] w (Good w) := by
  have hcap := s0.2.1
  have HL := Lib.hid s0.1
  have B1 := Lib.hid (below1 w (.cells #[.int .i64 n1, .slice a1 len1 cap1] 33))
  have HS := Lib.hid (s0.belowS B1.out)
  have HT := Lib.hid (s1.below B1.out)
  have HP := Lib.hid (box2_new w n1 (.slice a1 len1 cap1) 33)
  clear s0 s1 g0 g1
  have HC := Lib.hid (impl_Slice a0 len0 cap0 x0 n1 a1 len1 cap1 x1 _ HS.out (by omega) HT.out)
  go_enter Try.func16, Try.ntmps16
  go_wp2_with fail
  refine HC.out.mono ?_
  rintro e w2 ⟨O, ⟨a2, c2, rfl, ho2, hs2, hb2⟩, hso⟩
  have HB2 := Lib.hid hb2
  have HS2 := Lib.hid hs2
  have HSO := Lib.hid hso
  clear ho2 hso HC
  generalize w.alloc (.cells #[.int .i64 n1, .slice a1 len1 cap1] 33) = w1 at *
  generalize hPe : w.heap.size = P at *
  have HPE := Lib.hid hPe
  clear hPe
  obtain ⟨c0, c1⟩ := HP.out.keep hb2
  have HP2 := Lib.hid (HP.out.keep hb2)
  clear hb2 hs2
  have HC2 := Lib.hid (impl_ReverseSort a0 len0 cap0 x0 n1 a1 len1 cap1 x1 w2 (HS.out.belowS HB2.out) (by omega) (HT.out.below HB2.out))
  go_wp2_with fail
  clear c0 c1
  refine HC2.out.mono ?_
  rintro e w3 ⟨O3, ⟨a3, c3, rfl, ho3, hs3, hb3⟩, hso3⟩
  obtain ⟨p0, p1⟩ := HP2.out.keep hb3
  have HB5 := Lib.hid (HB2.out.trans (hb3.mono HB2.out.size))
  have HSA := Lib.hid (HS2.out.belowS hb3)
  have HSB := Lib.hid hs3
  have HSO3 := Lib.hid hso3
  clear ho3 hso3 hs3 hb3 HC2
  go_wp2_with fail
  obtain ⟨w5, hw5⟩ : ∃ w5, w5 = w3 := ⟨_, rfl⟩
  subst hw5
  have HKeep := Lib.hid (show ∀ W W', SB2 P n1 (.slice a1 len1 cap1) w5 W → Below W.heap.size W W' → SB2 P n1 (.slice a1 len1 cap1) w5 W' from fun W W' h hb => h.keep hb)
  have HBel := Lib.hid (show ∀ W, SB2 P n1 (.slice a1 len1 cap1) w5 W → Below w5.heap.size w5 W from fun W h => h.below)
  have HTb := Lib.hid (show ∀ W, Below w5.heap.size w5 W → Sl Value.bool W a1 len1 cap1 x1 from fun W h => HT.out.below (HB5.out.trans (h.mono HB5.out.size)))
  have HLb := Lib.hid (show ∀ W, Below w5.heap.size w5 W → SlK 2 encIt W a0 len0 cap0 x0 from fun W h => HS.out.belowS (HB5.out.trans (h.mono HB5.out.size)))
  have HAb := Lib.hid (show ∀ W, Below w5.heap.size w5 W → SlK 2 encIt W a2 len0 c2 O from fun W h => HSA.out.belowS h)
  have HBb := Lib.hid (show ∀ W, Below w5.heap.size w5 W → SlK 2 encIt W a3 len0 c3 O3 from fun W h => HSB.out.belowS h)
  cases hw : weakB (sbef n1 x1 false) x0 with
  | false =>
    have HWk := Lib.hid (show ∀ aB cB W, SlK 2 encIt W aB len0 cB x0 → Below w5.heap.size w5 W → Calls Try.prog 45 #[.agg #[.int .i64 n1, .slice a1 len1 cap1, .bool false], .slice aB len0 cB] W fun e w' => e = .returned (.bool false) ∧ Below W.heap.size W w' from fun aB cB W h hb => spec_Weak_at false n1 a1 len1 cap1 x1 false aB len0 cB x0 W hw h (HTb.out _ hb) (by omega))
    clear hw
    refine wp_region_held_drew (S := (fun w' => w'.cell? ⟨P, 0, none⟩ = some (.int .i64 n1) ∧ w'.cell? ⟨P, 1, none⟩ = some (.slice a1 len1 cap1) ∧ Below w5.heap.size w5 w')) (by kernel_rfl) (⟨p0, p1, (Below.refl _ _).drew⟩) (fun hHeld => ?_)
    try dsimp only at hHeld
    refine wpAnyH_take (i := 0) (oi := { dst := some 13, op := Go.Op.load 33 (Go.Operand.tmp 3), type := 33, pos := "laws.go:28", after := #[], guard := none }) (v := ?_) rfl (by kernel_rfl) (by kernel_rfl) (by kernel_rfl) (fun _ _ _ h => h) (Or.inl ⟨by kernel_rfl, ?_⟩) hHeld ?_
    rotate_left
    · (intro w hSw; (try dsimp only at hSw); go_simp; try with_reducible rfl)
    try simp only [Act.put, List.setIfInBounds_toArray, List.set_cons_zero, List.set_cons_succ]
    refine wpAnyH_take (i := 2) (oi := { dst := some 15, op := Go.Op.move (Go.Operand.tmp 0), type := 30, pos := "laws.go:28", after := #[], guard := none }) (v := ?_) rfl (by kernel_rfl) (by kernel_rfl) (by kernel_rfl) (fun _ _ _ h => h) (Or.inl ⟨by kernel_rfl, ?_⟩) hHeld ?_
    rotate_left
    · (intro w hSw; (try dsimp only at hSw); go_simp; try with_reducible rfl)
    try simp only [Act.put, List.setIfInBounds_toArray, List.set_cons_zero, List.set_cons_succ]
    refine wpAnyH_ready (rs := [1]) (by kernel_rfl) (by simp) ?_
    refine AllReadyH.cons (o := { dst := some 14, op := Go.Op.call { callee := Go.Callee.value (Go.Operand.func 46), args := #[Go.Operand.tmp 13], argTypes := #[33] }, type := 37, pos := "laws.go:28", after := #[{ on := 0, ground := Go.Ground.data }], guard := none }) rfl (fun K hK => ?_) AllReadyH.nil
    go_simp
    refine (laws_so n1 a1 len1 cap1 _).mono ?_
    rintro e w6 ⟨rfl, hb6⟩
    have hS' := HKeep.out _ _ hHeld hb6
    try go_wp2_with fail
    refine hK.out _ _ hS' (fun hHeld => ?_)
    try dsimp only at hHeld
    clear hK K
    try simp only [Act.put, List.setIfInBounds_toArray, List.set_cons_zero, List.set_cons_succ]
    refine wpAnyH_ready (rs := [3]) (by kernel_rfl) (by simp) ?_
    refine AllReadyH.cons (o := { dst := some 16, op := Go.Op.call { callee := Go.Callee.value (Go.Operand.func 47), args := #[Go.Operand.tmp 15], argTypes := #[30] }, type := 39, pos := "laws.go:28", after := #[{ on := 2, ground := Go.Ground.data }, { on := 1, ground := Go.Ground.chain }], guard := none }) rfl (fun K hK => ?_) AllReadyH.nil
    go_simp
    refine (laws_sItems a0 len0 cap0 x0 _ (HLb.out _ (HBel.out _ hHeld)) (by omega)).mono ?_
    rintro e wB ⟨aB, cB, rfl, hoB, hsB, hbB⟩
    have hS' := HKeep.out _ _ hHeld hbB
    try go_wp2_with fail
    refine hK.out _ _ hS' (fun hHeld => ?_)
    try dsimp only at hHeld
    clear hK K
    try simp only [Act.put, List.setIfInBounds_toArray, List.set_cons_zero, List.set_cons_succ]
    refine wpAnyH_ready (rs := [4]) (by kernel_rfl) (by simp) ?_
    refine AllReadyH.cons (o := { dst := some 17, op := Go.Op.call { callee := Go.Callee.value (Go.Operand.func 45), args := #[Go.Operand.tmp 14, Go.Operand.tmp 16], argTypes := #[37, 39] }, type := 4, pos := "laws.go:28", after := #[{ on := 1, ground := Go.Ground.data }, { on := 3, ground := Go.Ground.data }, { on := 3, ground := Go.Ground.chain }], guard := none }) rfl (fun K hK => ?_) AllReadyH.nil
    go_simp
    refine (HWk.out aB cB _ hsB (HBel.out _ hHeld)).mono ?_
    rintro e w8 ⟨rfl, hb8⟩
    have hS' := HKeep.out _ _ hHeld hb8
    try go_wp2_with fail
    refine hK.out _ _ hS' (fun hHeld => ?_)
    try dsimp only at hHeld
    clear hK K
    try simp only [Act.put, List.setIfInBounds_toArray, List.set_cons_zero, List.set_cons_succ]
    refine wpAnyH_take (i := 5) (oi := { dst := some 18, op := Go.Op.unOp Go.UnOp.not 4 (Go.Operand.tmp 17), type := 4, pos := "laws.go:28", after := #[{ on := 4, ground := Go.Ground.data }], guard := none }) (v := ?_) rfl (by kernel_rfl) (by kernel_rfl) (by kernel_rfl) (fun _ _ _ h => h) (Or.inl ⟨by kernel_rfl, ?_⟩) hHeld ?_
    rotate_left
    · (intro w hSw; (try dsimp only at hSw); go_simp; try with_reducible rfl)
    try simp only [Act.put, List.setIfInBounds_toArray, List.set_cons_zero, List.set_cons_succ]
    refine wpAnyH_take (i := 6) (oi := { dst := some 19, op := Go.Op.move (Go.Operand.tmp 18), type := 4, pos := "laws.go:28", after := #[{ on := 5, ground := Go.Ground.data }, { on := 4, ground := Go.Ground.chain }], guard := none }) (v := ?_) rfl (by kernel_rfl) (by kernel_rfl) (by kernel_rfl) (fun _ _ _ h => h) (Or.inl ⟨by kernel_rfl, ?_⟩) hHeld ?_
    rotate_left
    · (intro w hSw; (try dsimp only at hSw); go_simp; try with_reducible rfl)
    try simp only [Act.put, List.setIfInBounds_toArray, List.set_cons_zero, List.set_cons_succ]
    refine wpAnyH_take (i := 7) (oi := { dst := some 20, op := Go.Op.move (Go.Operand.tmp 5), type := 30, pos := "laws.go:28", after := #[{ on := 6, ground := Go.Ground.guard }], guard := some (6, false) }) (v := undef) rfl (by kernel_rfl) (by kernel_rfl) (by kernel_rfl) (fun _ _ _ h => h) (Or.inr ⟨by kernel_rfl, rfl⟩) hHeld ?_
    try simp only [Act.put, List.setIfInBounds_toArray, List.set_cons_zero, List.set_cons_succ]
    refine wpAnyH_take (i := 8) (oi := { dst := some 21, op := Go.Op.call { callee := Go.Callee.builtin Go.Builtin.len, args := #[Go.Operand.tmp 20], argTypes := #[30] }, type := 3, pos := "laws.go:28", after := #[{ on := 7, ground := Go.Ground.data }, { on := 6, ground := Go.Ground.guard }], guard := some (6, false) }) (v := undef) rfl (by kernel_rfl) (by kernel_rfl) (by kernel_rfl) (fun _ _ _ h => h) (Or.inr ⟨by kernel_rfl, rfl⟩) hHeld ?_
    try simp only [Act.put, List.setIfInBounds_toArray, List.set_cons_zero, List.set_cons_succ]
    refine wpAnyH_take (i := 9) (oi := { dst := some 22, op := Go.Op.move (Go.Operand.tmp 0), type := 30, pos := "laws.go:28", after := #[{ on := 6, ground := Go.Ground.guard }], guard := some (6, false) }) (v := undef) rfl (by kernel_rfl) (by kernel_rfl) (by kernel_rfl) (fun _ _ _ h => h) (Or.inr ⟨by kernel_rfl, rfl⟩) hHeld ?_
    try simp only [Act.put, List.setIfInBounds_toArray, List.set_cons_zero, List.set_cons_succ]
    refine wpAnyH_take (i := 10) (oi := { dst := some 23, op := Go.Op.call { callee := Go.Callee.builtin Go.Builtin.len, args := #[Go.Operand.tmp 22], argTypes := #[30] }, type := 3, pos := "laws.go:28", after := #[{ on := 9, ground := Go.Ground.data }, { on := 6, ground := Go.Ground.guard }], guard := some (6, false) }) (v := undef) rfl (by kernel_rfl) (by kernel_rfl) (by kernel_rfl) (fun _ _ _ h => h) (Or.inr ⟨by kernel_rfl, rfl⟩) hHeld ?_
    try simp only [Act.put, List.setIfInBounds_toArray, List.set_cons_zero, List.set_cons_succ]
    refine wpAnyH_take (i := 11) (oi := { dst := some 24, op := Go.Op.binOp Go.BinOp.eql 3 (Go.Operand.tmp 21) (Go.Operand.tmp 23) 3, type := 4, pos := "laws.go:28", after := #[{ on := 8, ground := Go.Ground.data }, { on := 10, ground := Go.Ground.data }, { on := 6, ground := Go.Ground.guard }], guard := some (6, false) }) (v := undef) rfl (by kernel_rfl) (by kernel_rfl) (by kernel_rfl) (fun _ _ _ h => h) (Or.inr ⟨by kernel_rfl, rfl⟩) hHeld ?_
    try simp only [Act.put, List.setIfInBounds_toArray, List.set_cons_zero, List.set_cons_succ]
    refine wpAnyH_take (i := 12) (oi := { dst := some 25, op := Go.Op.move (Go.Operand.tmp 24), type := 4, pos := "laws.go:28", after := #[{ on := 11, ground := Go.Ground.data }, { on := 6, ground := Go.Ground.chain }, { on := 6, ground := Go.Ground.guard }], guard := some (6, false) }) (v := undef) rfl (by kernel_rfl) (by kernel_rfl) (by kernel_rfl) (fun _ _ _ h => h) (Or.inr ⟨by kernel_rfl, rfl⟩) hHeld ?_
    try simp only [Act.put, List.setIfInBounds_toArray, List.set_cons_zero, List.set_cons_succ]
    refine wpAnyH_take (i := 13) (oi := { dst := some 26, op := Go.Op.move (Go.Operand.tmp 5), type := 30, pos := "laws.go:28", after := #[{ on := 12, ground := Go.Ground.guard }], guard := some (12, true) }) (v := undef) rfl (by kernel_rfl) (by kernel_rfl) (by kernel_rfl) (fun _ _ _ h => h) (Or.inr ⟨by kernel_rfl, rfl⟩) hHeld ?_
    try simp only [Act.put, List.setIfInBounds_toArray, List.set_cons_zero, List.set_cons_succ]
    refine wpAnyH_take (i := 14) (oi := { dst := some 27, op := Go.Op.call { callee := Go.Callee.value (Go.Operand.func 68), args := #[Go.Operand.tmp 26], argTypes := #[30] }, type := 30, pos := "laws.go:28", after := #[{ on := 13, ground := Go.Ground.data }, { on := 12, ground := Go.Ground.chain }, { on := 12, ground := Go.Ground.guard }], guard := some (12, true) }) (v := undef) rfl (by kernel_rfl) (by kernel_rfl) (by kernel_rfl) (fun _ _ _ h => h) (Or.inr ⟨by kernel_rfl, rfl⟩) hHeld ?_
    try simp only [Act.put, List.setIfInBounds_toArray, List.set_cons_zero, List.set_cons_succ]
    refine wpAnyH_take (i := 15) (oi := { dst := some 28, op := Go.Op.call { callee := Go.Callee.value (Go.Operand.func 47), args := #[Go.Operand.tmp 27], argTypes := #[30] }, type := 39, pos := "laws.go:28", after := #[{ on := 14, ground := Go.Ground.data }, { on := 14, ground := Go.Ground.chain }, { on := 12, ground := Go.Ground.guard }], guard := some (12, true) }) (v := undef) rfl (by kernel_rfl) (by kernel_rfl) (by kernel_rfl) (fun _ _ _ h => h) (Or.inr ⟨by kernel_rfl, rfl⟩) hHeld ?_
    try simp only [Act.put, List.setIfInBounds_toArray, List.set_cons_zero, List.set_cons_succ]
    refine wpAnyH_take (i := 16) (oi := { dst := some 29, op := Go.Op.move (Go.Operand.tmp 6), type := 30, pos := "laws.go:28", after := #[{ on := 12, ground := Go.Ground.guard }], guard := some (12, true) }) (v := undef) rfl (by kernel_rfl) (by kernel_rfl) (by kernel_rfl) (fun _ _ _ h => h) (Or.inr ⟨by kernel_rfl, rfl⟩) hHeld ?_
    try simp only [Act.put, List.setIfInBounds_toArray, List.set_cons_zero, List.set_cons_succ]
    refine wpAnyH_take (i := 17) (oi := { dst := some 30, op := Go.Op.call { callee := Go.Callee.value (Go.Operand.func 47), args := #[Go.Operand.tmp 29], argTypes := #[30] }, type := 39, pos := "laws.go:28", after := #[{ on := 16, ground := Go.Ground.data }, { on := 15, ground := Go.Ground.chain }, { on := 12, ground := Go.Ground.guard }], guard := some (12, true) }) (v := undef) rfl (by kernel_rfl) (by kernel_rfl) (by kernel_rfl) (fun _ _ _ h => h) (Or.inr ⟨by kernel_rfl, rfl⟩) hHeld ?_
    try simp only [Act.put, List.setIfInBounds_toArray, List.set_cons_zero, List.set_cons_succ]
    refine wpAnyH_take (i := 18) (oi := { dst := some 31, op := Go.Op.load 33 (Go.Operand.tmp 3), type := 33, pos := "laws.go:28", after := #[{ on := 12, ground := Go.Ground.guard }], guard := some (12, true) }) (v := undef) rfl (by kernel_rfl) (by kernel_rfl) (by kernel_rfl) (fun _ _ _ h => h) (Or.inr ⟨by kernel_rfl, rfl⟩) hHeld ?_
    try simp only [Act.put, List.setIfInBounds_toArray, List.set_cons_zero, List.set_cons_succ]
    refine wpAnyH_take (i := 19) (oi := { dst := some 32, op := Go.Op.call { callee := Go.Callee.value (Go.Operand.func 46), args := #[Go.Operand.tmp 31], argTypes := #[33] }, type := 37, pos := "laws.go:28", after := #[{ on := 18, ground := Go.Ground.data }, { on := 17, ground := Go.Ground.chain }, { on := 12, ground := Go.Ground.guard }], guard := some (12, true) }) (v := undef) rfl (by kernel_rfl) (by kernel_rfl) (by kernel_rfl) (fun _ _ _ h => h) (Or.inr ⟨by kernel_rfl, rfl⟩) hHeld ?_
    try simp only [Act.put, List.setIfInBounds_toArray, List.set_cons_zero, List.set_cons_succ]
    refine wpAnyH_take (i := 20) (oi := { dst := some 33, op := Go.Op.call { callee := Go.Callee.value (Go.Operand.func 49), args := #[Go.Operand.tmp 28, Go.Operand.tmp 30, Go.Operand.tmp 32], argTypes := #[39, 39, 37] }, type := 4, pos := "laws.go:28", after := #[{ on := 15, ground := Go.Ground.data }, { on := 17, ground := Go.Ground.data }, { on := 19, ground := Go.Ground.data }, { on := 19, ground := Go.Ground.chain }, { on := 12, ground := Go.Ground.guard }], guard := some (12, true) }) (v := undef) rfl (by kernel_rfl) (by kernel_rfl) (by kernel_rfl) (fun _ _ _ h => h) (Or.inr ⟨by kernel_rfl, rfl⟩) hHeld ?_
    try simp only [Act.put, List.setIfInBounds_toArray, List.set_cons_zero, List.set_cons_succ]
    refine wpAnyH_take (i := 21) (oi := { dst := some 34, op := Go.Op.pick (Go.Operand.tmp 25) (Go.Operand.tmp 33) (Go.Operand.const (Go.Value.bool false)), type := 4, pos := "laws.go:28", after := #[{ on := 12, ground := Go.Ground.data }, { on := 20, ground := Go.Ground.data }, { on := 6, ground := Go.Ground.guard }], guard := some (6, false) }) (v := undef) rfl (by kernel_rfl) (by kernel_rfl) (by kernel_rfl) (fun _ _ _ h => h) (Or.inr ⟨by kernel_rfl, rfl⟩) hHeld ?_
    try simp only [Act.put, List.setIfInBounds_toArray, List.set_cons_zero, List.set_cons_succ]
    refine wpAnyH_take (i := 22) (oi := { dst := some 35, op := Go.Op.pick (Go.Operand.tmp 19) (Go.Operand.const (Go.Value.bool true)) (Go.Operand.tmp 34), type := 4, pos := "laws.go:28", after := #[{ on := 6, ground := Go.Ground.data }, { on := 21, ground := Go.Ground.data }], guard := none }) (v := ?_) rfl (by kernel_rfl) (by kernel_rfl) (by kernel_rfl) (fun _ _ _ h => h) (Or.inl ⟨by kernel_rfl, ?_⟩) hHeld ?_
    rotate_left
    · (intro w hSw; (try dsimp only at hSw); go_simp; try with_reducible rfl)
    try simp only [Act.put, List.setIfInBounds_toArray, List.set_cons_zero, List.set_cons_succ]
    refine wpAnyH_take (i := 23) (oi := { dst := some 4, op := Go.Op.assign (Go.Operand.tmp 35), type := 4, pos := "laws.go:28", after := #[{ on := 22, ground := Go.Ground.data }, { on := 20, ground := Go.Ground.chain }, { on := 0, ground := Go.Ground.phase }, { on := 1, ground := Go.Ground.phase }, { on := 2, ground := Go.Ground.phase }, { on := 3, ground := Go.Ground.phase }, { on := 4, ground := Go.Ground.phase }, { on := 5, ground := Go.Ground.phase }, { on := 6, ground := Go.Ground.phase }, { on := 7, ground := Go.Ground.phase }, { on := 8, ground := Go.Ground.phase }, { on := 9, ground := Go.Ground.phase }, { on := 10, ground := Go.Ground.phase }, { on := 11, ground := Go.Ground.phase }, { on := 12, ground := Go.Ground.phase }, { on := 13, ground := Go.Ground.phase }, { on := 14, ground := Go.Ground.phase }, { on := 15, ground := Go.Ground.phase }, { on := 16, ground := Go.Ground.phase }, { on := 17, ground := Go.Ground.phase }, { on := 18, ground := Go.Ground.phase }, { on := 19, ground := Go.Ground.phase }, { on := 20, ground := Go.Ground.phase }, { on := 21, ground := Go.Ground.phase }, { on := 22, ground := Go.Ground.phase }], guard := none }) (v := ?_) rfl (by kernel_rfl) (by kernel_rfl) (by kernel_rfl) (fun _ _ _ h => h) (Or.inl ⟨by kernel_rfl, ?_⟩) hHeld ?_
    rotate_left
    · (intro w hSw; (try dsimp only at hSw); go_simp; try with_reducible rfl)
    try simp only [Act.put, List.setIfInBounds_toArray, List.set_cons_zero, List.set_cons_succ]
    refine wpAnyH_done (by kernel_rfl) ?_ _
    have HB6 := Lib.hid (HBel.out _ hHeld)
    go_wp2_with fail
    go_ret
    exact ⟨rfl, by rw [HPE.out]; exact B1.out.trans ((HB5.out.trans (HB6.out.mono HB5.out.size)).mono (by rw [← HPE.out]; exact B1.out.size))⟩
  | true =>
    have HWk := Lib.hid (show ∀ aB cB W, SlK 2 encIt W aB len0 cB x0 → Below w5.heap.size w5 W → Calls Try.prog 45 #[.agg #[.int .i64 n1, .slice a1 len1 cap1, .bool false], .slice aB len0 cB] W fun e w' => e = .returned (.bool true) ∧ Below W.heap.size W w' from fun aB cB W h hb => spec_Weak_at true n1 a1 len1 cap1 x1 false aB len0 cB x0 W hw h (HTb.out _ hb) (by omega))
    have HWT := Lib.hid (weakB_true hw)
    have HEQ := Lib.hid (show ∀ i, i < len0 → sbef n1 x1 false (el O.reverse i) (el O3 i) = false ∧ sbef n1 x1 false (el O3 i) (el O.reverse i) = false from fun i hi => by
      have h1 := HSO.out
      have h3 := HSO3.out
      rw [sbef_true] at h3
      have hWt := weak_turn HWT.out
      have hOl : O.reverse.length = len0 := by rw [List.length_reverse, h1.1.length_eq]; exact HL.out
      have hSl : O3.length = len0 := by rw [h3.1.length_eq]; exact HL.out
      have hpr : O.reverse.Perm x0 := O.reverse_perm.trans h1.1
      have hsr : O.reverse.Pairwise fun x y => sbef n1 x1 true y x = false := by
        rw [List.pairwise_reverse]
        refine (h1.2 HWT.out).imp ?_
        intro a b hab
        rw [← sbef_turn]; exact hab
      have q1 := sorted_same hWt hpr h3.1 hsr (h3.2 hWt) i (by omega)
      have q2 := sorted_same hWt h3.1 hpr (h3.2 hWt) hsr i (by omega)
      rw [← sbef_turn] at q1 q2
      exact ⟨q2, q1⟩)
    clear hw
    refine wp_region_held_drew (S := (fun w' => w'.cell? ⟨P, 0, none⟩ = some (.int .i64 n1) ∧ w'.cell? ⟨P, 1, none⟩ = some (.slice a1 len1 cap1) ∧ Below w5.heap.size w5 w')) (by kernel_rfl) (⟨p0, p1, (Below.refl _ _).drew⟩) (fun hHeld => ?_)
    try dsimp only at hHeld
    refine wpAnyH_take (i := 0) (oi := { dst := some 13, op := Go.Op.load 33 (Go.Operand.tmp 3), type := 33, pos := "laws.go:28", after := #[], guard := none }) (v := ?_) rfl (by kernel_rfl) (by kernel_rfl) (by kernel_rfl) (fun _ _ _ h => h) (Or.inl ⟨by kernel_rfl, ?_⟩) hHeld ?_
    rotate_left
    · (intro w hSw; (try dsimp only at hSw); go_simp; try with_reducible rfl)
    try simp only [Act.put, List.setIfInBounds_toArray, List.set_cons_zero, List.set_cons_succ]
    refine wpAnyH_take (i := 2) (oi := { dst := some 15, op := Go.Op.move (Go.Operand.tmp 0), type := 30, pos := "laws.go:28", after := #[], guard := none }) (v := ?_) rfl (by kernel_rfl) (by kernel_rfl) (by kernel_rfl) (fun _ _ _ h => h) (Or.inl ⟨by kernel_rfl, ?_⟩) hHeld ?_
    rotate_left
    · (intro w hSw; (try dsimp only at hSw); go_simp; try with_reducible rfl)
    try simp only [Act.put, List.setIfInBounds_toArray, List.set_cons_zero, List.set_cons_succ]
    refine wpAnyH_ready (rs := [1]) (by kernel_rfl) (by simp) ?_
    refine AllReadyH.cons (o := { dst := some 14, op := Go.Op.call { callee := Go.Callee.value (Go.Operand.func 46), args := #[Go.Operand.tmp 13], argTypes := #[33] }, type := 37, pos := "laws.go:28", after := #[{ on := 0, ground := Go.Ground.data }], guard := none }) rfl (fun K hK => ?_) AllReadyH.nil
    go_simp
    refine (laws_so n1 a1 len1 cap1 _).mono ?_
    rintro e w6 ⟨rfl, hb6⟩
    have hS' := HKeep.out _ _ hHeld hb6
    try go_wp2_with fail
    refine hK.out _ _ hS' (fun hHeld => ?_)
    try dsimp only at hHeld
    clear hK K
    try simp only [Act.put, List.setIfInBounds_toArray, List.set_cons_zero, List.set_cons_succ]
    refine wpAnyH_ready (rs := [3]) (by kernel_rfl) (by simp) ?_
    refine AllReadyH.cons (o := { dst := some 16, op := Go.Op.call { callee := Go.Callee.value (Go.Operand.func 47), args := #[Go.Operand.tmp 15], argTypes := #[30] }, type := 39, pos := "laws.go:28", after := #[{ on := 2, ground := Go.Ground.data }, { on := 1, ground := Go.Ground.chain }], guard := none }) rfl (fun K hK => ?_) AllReadyH.nil
    go_simp
    refine (laws_sItems a0 len0 cap0 x0 _ (HLb.out _ (HBel.out _ hHeld)) (by omega)).mono ?_
    rintro e wB ⟨aB, cB, rfl, hoB, hsB, hbB⟩
    have hS' := HKeep.out _ _ hHeld hbB
    try go_wp2_with fail
    refine hK.out _ _ hS' (fun hHeld => ?_)
    try dsimp only at hHeld
    clear hK K
    try simp only [Act.put, List.setIfInBounds_toArray, List.set_cons_zero, List.set_cons_succ]
    refine wpAnyH_ready (rs := [4]) (by kernel_rfl) (by simp) ?_
    refine AllReadyH.cons (o := { dst := some 17, op := Go.Op.call { callee := Go.Callee.value (Go.Operand.func 45), args := #[Go.Operand.tmp 14, Go.Operand.tmp 16], argTypes := #[37, 39] }, type := 4, pos := "laws.go:28", after := #[{ on := 1, ground := Go.Ground.data }, { on := 3, ground := Go.Ground.data }, { on := 3, ground := Go.Ground.chain }], guard := none }) rfl (fun K hK => ?_) AllReadyH.nil
    go_simp
    refine (HWk.out aB cB _ hsB (HBel.out _ hHeld)).mono ?_
    rintro e w8 ⟨rfl, hb8⟩
    have hS' := HKeep.out _ _ hHeld hb8
    try go_wp2_with fail
    refine hK.out _ _ hS' (fun hHeld => ?_)
    try dsimp only at hHeld
    clear hK K
    try simp only [Act.put, List.setIfInBounds_toArray, List.set_cons_zero, List.set_cons_succ]
    refine wpAnyH_take (i := 5) (oi := { dst := some 18, op := Go.Op.unOp Go.UnOp.not 4 (Go.Operand.tmp 17), type := 4, pos := "laws.go:28", after := #[{ on := 4, ground := Go.Ground.data }], guard := none }) (v := ?_) rfl (by kernel_rfl) (by kernel_rfl) (by kernel_rfl) (fun _ _ _ h => h) (Or.inl ⟨by kernel_rfl, ?_⟩) hHeld ?_
    rotate_left
    · (intro w hSw; (try dsimp only at hSw); go_simp; try with_reducible rfl)
    try simp only [Act.put, List.setIfInBounds_toArray, List.set_cons_zero, List.set_cons_succ]
    refine wpAnyH_take (i := 6) (oi := { dst := some 19, op := Go.Op.move (Go.Operand.tmp 18), type := 4, pos := "laws.go:28", after := #[{ on := 5, ground := Go.Ground.data }, { on := 4, ground := Go.Ground.chain }], guard := none }) (v := ?_) rfl (by kernel_rfl) (by kernel_rfl) (by kernel_rfl) (fun _ _ _ h => h) (Or.inl ⟨by kernel_rfl, ?_⟩) hHeld ?_
    rotate_left
    · (intro w hSw; (try dsimp only at hSw); go_simp; try with_reducible rfl)
    try simp only [Act.put, List.setIfInBounds_toArray, List.set_cons_zero, List.set_cons_succ]
    refine wpAnyH_take (i := 7) (oi := { dst := some 20, op := Go.Op.move (Go.Operand.tmp 5), type := 30, pos := "laws.go:28", after := #[{ on := 6, ground := Go.Ground.guard }], guard := some (6, false) }) (v := ?_) rfl (by kernel_rfl) (by kernel_rfl) (by kernel_rfl) (fun _ _ _ h => h) (Or.inl ⟨by kernel_rfl, ?_⟩) hHeld ?_
    rotate_left
    · (intro w hSw; (try dsimp only at hSw); go_simp; try with_reducible rfl)
    try simp only [Act.put, List.setIfInBounds_toArray, List.set_cons_zero, List.set_cons_succ]
    refine wpAnyH_take (i := 8) (oi := { dst := some 21, op := Go.Op.call { callee := Go.Callee.builtin Go.Builtin.len, args := #[Go.Operand.tmp 20], argTypes := #[30] }, type := 3, pos := "laws.go:28", after := #[{ on := 7, ground := Go.Ground.data }, { on := 6, ground := Go.Ground.guard }], guard := some (6, false) }) (v := ?_) rfl (by kernel_rfl) (by kernel_rfl) (by kernel_rfl) (fun _ _ _ h => h) (Or.inl ⟨by kernel_rfl, ?_⟩) hHeld ?_
    rotate_left
    · (intro w hSw; (try dsimp only at hSw); go_simp; try with_reducible rfl)
    try simp only [Act.put, List.setIfInBounds_toArray, List.set_cons_zero, List.set_cons_succ]
    refine wpAnyH_take (i := 9) (oi := { dst := some 22, op := Go.Op.move (Go.Operand.tmp 0), type := 30, pos := "laws.go:28", after := #[{ on := 6, ground := Go.Ground.guard }], guard := some (6, false) }) (v := ?_) rfl (by kernel_rfl) (by kernel_rfl) (by kernel_rfl) (fun _ _ _ h => h) (Or.inl ⟨by kernel_rfl, ?_⟩) hHeld ?_
    rotate_left
    · (intro w hSw; (try dsimp only at hSw); go_simp; try with_reducible rfl)
    try simp only [Act.put, List.setIfInBounds_toArray, List.set_cons_zero, List.set_cons_succ]
    refine wpAnyH_take (i := 10) (oi := { dst := some 23, op := Go.Op.call { callee := Go.Callee.builtin Go.Builtin.len, args := #[Go.Operand.tmp 22], argTypes := #[30] }, type := 3, pos := "laws.go:28", after := #[{ on := 9, ground := Go.Ground.data }, { on := 6, ground := Go.Ground.guard }], guard := some (6, false) }) (v := ?_) rfl (by kernel_rfl) (by kernel_rfl) (by kernel_rfl) (fun _ _ _ h => h) (Or.inl ⟨by kernel_rfl, ?_⟩) hHeld ?_
    rotate_left
    · (intro w hSw; (try dsimp only at hSw); go_simp; try with_reducible rfl)
    try simp only [Act.put, List.setIfInBounds_toArray, List.set_cons_zero, List.set_cons_succ]
    refine wpAnyH_take (i := 11) (oi := { dst := some 24, op := Go.Op.binOp Go.BinOp.eql 3 (Go.Operand.tmp 21) (Go.Operand.tmp 23) 3, type := 4, pos := "laws.go:28", after := #[{ on := 8, ground := Go.Ground.data }, { on := 10, ground := Go.Ground.data }, { on := 6, ground := Go.Ground.guard }], guard := some (6, false) }) (v := ?_) rfl (by kernel_rfl) (by kernel_rfl) (by kernel_rfl) (fun _ _ _ h => h) (Or.inl ⟨by kernel_rfl, ?_⟩) hHeld ?_
    rotate_left
    · (intro w hSw; (try dsimp only at hSw); go_simp; try with_reducible rfl)
    try simp only [Act.put, List.setIfInBounds_toArray, List.set_cons_zero, List.set_cons_succ]
    refine wpAnyH_take (i := 12) (oi := { dst := some 25, op := Go.Op.move (Go.Operand.tmp 24), type := 4, pos := "laws.go:28", after := #[{ on := 11, ground := Go.Ground.data }, { on := 6, ground := Go.Ground.chain }, { on := 6, ground := Go.Ground.guard }], guard := some (6, false) }) (v := ?_) rfl (by kernel_rfl) (by kernel_rfl) (by kernel_rfl) (fun _ _ _ h => h) (Or.inl ⟨by kernel_rfl, ?_⟩) hHeld ?_
    rotate_left
    · (intro w hSw; (try dsimp only at hSw); go_simp; try with_reducible rfl)
    try simp only [Act.put, List.setIfInBounds_toArray, List.set_cons_zero, List.set_cons_succ]
    refine wpAnyH_take (i := 13) (oi := { dst := some 26, op := Go.Op.move (Go.Operand.tmp 5), type := 30, pos := "laws.go:28", after := #[{ on := 12, ground := Go.Ground.guard }], guard := some (12, true) }) (v := ?_) rfl (by kernel_rfl) (by kernel_rfl) (by kernel_rfl) (fun _ _ _ h => h) (Or.inl ⟨by kernel_rfl, ?_⟩) hHeld ?_
    rotate_left
    · (intro w hSw; (try dsimp only at hSw); go_simp; try with_reducible rfl)
    try simp only [Act.put, List.setIfInBounds_toArray, List.set_cons_zero, List.set_cons_succ]
    refine wpAnyH_take (i := 16) (oi := { dst := some 29, op := Go.Op.move (Go.Operand.tmp 6), type := 30, pos := "laws.go:28", after := #[{ on := 12, ground := Go.Ground.guard }], guard := some (12, true) }) (v := ?_) rfl (by kernel_rfl) (by kernel_rfl) (by kernel_rfl) (fun _ _ _ h => h) (Or.inl ⟨by kernel_rfl, ?_⟩) hHeld ?_
    rotate_left
    · (intro w hSw; (try dsimp only at hSw); go_simp; try with_reducible rfl)
    try simp only [Act.put, List.setIfInBounds_toArray, List.set_cons_zero, List.set_cons_succ]
    refine wpAnyH_take (i := 18) (oi := { dst := some 31, op := Go.Op.load 33 (Go.Operand.tmp 3), type := 33, pos := "laws.go:28", after := #[{ on := 12, ground := Go.Ground.guard }], guard := some (12, true) }) (v := ?_) rfl (by kernel_rfl) (by kernel_rfl) (by kernel_rfl) (fun _ _ _ h => h) (Or.inl ⟨by kernel_rfl, ?_⟩) hHeld ?_
    rotate_left
    · (intro w hSw; (try dsimp only at hSw); go_simp; try with_reducible rfl)
    try simp only [Act.put, List.setIfInBounds_toArray, List.set_cons_zero, List.set_cons_succ]
    refine wpAnyH_ready (rs := [14]) (by kernel_rfl) (by simp) ?_
    refine AllReadyH.cons (o := { dst := some 27, op := Go.Op.call { callee := Go.Callee.value (Go.Operand.func 68), args := #[Go.Operand.tmp 26], argTypes := #[30] }, type := 30, pos := "laws.go:28", after := #[{ on := 13, ground := Go.Ground.data }, { on := 12, ground := Go.Ground.chain }, { on := 12, ground := Go.Ground.guard }], guard := some (12, true) }) rfl (fun K hK => ?_) AllReadyH.nil
    go_simp
    refine (laws_reversed a2 len0 c2 O _ (HAb.out _ (HBel.out _ hHeld)) (by omega)).mono ?_
    rintro e wF ⟨aF, cF, rfl, hoF, hsF, hbF⟩
    have hS' := HKeep.out _ _ hHeld hbF
    try go_wp2_with fail
    refine hK.out _ _ hS' (fun hHeld => ?_)
    try dsimp only at hHeld
    clear hK K
    try simp only [Act.put, List.setIfInBounds_toArray, List.set_cons_zero, List.set_cons_succ]
    refine wpAnyH_ready (rs := [15]) (by kernel_rfl) (by simp) ?_
    refine AllReadyH.cons (o := { dst := some 28, op := Go.Op.call { callee := Go.Callee.value (Go.Operand.func 47), args := #[Go.Operand.tmp 27], argTypes := #[30] }, type := 39, pos := "laws.go:28", after := #[{ on := 14, ground := Go.Ground.data }, { on := 14, ground := Go.Ground.chain }, { on := 12, ground := Go.Ground.guard }], guard := some (12, true) }) rfl (fun K hK => ?_) AllReadyH.nil
    go_simp
    refine (laws_sItems aF len0 cF O.reverse _ hsF (by omega)).mono ?_
    rintro e wC ⟨aC, cC, rfl, hoC, hsC, hbC⟩
    have hS' := HKeep.out _ _ hHeld hbC
    try go_wp2_with fail
    refine hK.out _ _ hS' (fun hHeld => ?_)
    try dsimp only at hHeld
    clear hK K
    try simp only [Act.put, List.setIfInBounds_toArray, List.set_cons_zero, List.set_cons_succ]
    refine wpAnyH_ready (rs := [17]) (by kernel_rfl) (by simp) ?_
    refine AllReadyH.cons (o := { dst := some 30, op := Go.Op.call { callee := Go.Callee.value (Go.Operand.func 47), args := #[Go.Operand.tmp 29], argTypes := #[30] }, type := 39, pos := "laws.go:28", after := #[{ on := 16, ground := Go.Ground.data }, { on := 15, ground := Go.Ground.chain }, { on := 12, ground := Go.Ground.guard }], guard := some (12, true) }) rfl (fun K hK => ?_) AllReadyH.nil
    go_simp
    refine (laws_sItems a3 len0 c3 O3 _ (HBb.out _ (HBel.out _ hHeld)) (by omega)).mono ?_
    rintro e wD ⟨aD, cD, rfl, hoD, hsD, hbD⟩
    have hS' := HKeep.out _ _ hHeld hbD
    have hsC1 := Lib.hid (hsC.belowS hbD)
    try go_wp2_with fail
    refine hK.out _ _ hS' (fun hHeld => ?_)
    try dsimp only at hHeld
    clear hK K
    try simp only [Act.put, List.setIfInBounds_toArray, List.set_cons_zero, List.set_cons_succ]
    refine wpAnyH_ready (rs := [19]) (by kernel_rfl) (by simp) ?_
    refine AllReadyH.cons (o := { dst := some 32, op := Go.Op.call { callee := Go.Callee.value (Go.Operand.func 46), args := #[Go.Operand.tmp 31], argTypes := #[33] }, type := 37, pos := "laws.go:28", after := #[{ on := 18, ground := Go.Ground.data }, { on := 17, ground := Go.Ground.chain }, { on := 12, ground := Go.Ground.guard }], guard := some (12, true) }) rfl (fun K hK => ?_) AllReadyH.nil
    go_simp
    refine (laws_so n1 a1 len1 cap1 _).mono ?_
    rintro e w10 ⟨rfl, hb10⟩
    have hS' := HKeep.out _ _ hHeld hb10
    have hsC2 := Lib.hid (hsC1.out.belowS hb10)
    have hsD2 := Lib.hid (hsD.belowS hb10)
    try go_wp2_with fail
    refine hK.out _ _ hS' (fun hHeld => ?_)
    try dsimp only at hHeld
    clear hK K
    try simp only [Act.put, List.setIfInBounds_toArray, List.set_cons_zero, List.set_cons_succ]
    refine wpAnyH_ready (rs := [20]) (by kernel_rfl) (by simp) ?_
    refine AllReadyH.cons (o := { dst := some 33, op := Go.Op.call { callee := Go.Callee.value (Go.Operand.func 49), args := #[Go.Operand.tmp 28, Go.Operand.tmp 30, Go.Operand.tmp 32], argTypes := #[39, 39, 37] }, type := 4, pos := "laws.go:28", after := #[{ on := 15, ground := Go.Ground.data }, { on := 17, ground := Go.Ground.data }, { on := 19, ground := Go.Ground.data }, { on := 19, ground := Go.Ground.chain }, { on := 12, ground := Go.Ground.guard }], guard := some (12, true) }) rfl (fun K hK => ?_) AllReadyH.nil
    go_simp
    refine (laws_equalByOrder n1 a1 len1 cap1 x1 false aC len0 cC O.reverse aD cD O3 _ hsC2.out hsD2.out (HTb.out _ (HBel.out _ hHeld)) (by omega) HEQ.out).mono ?_
    rintro e w13 ⟨rfl, hb13⟩
    have hS' := HKeep.out _ _ hHeld hb13
    try go_wp2_with fail
    refine hK.out _ _ hS' (fun hHeld => ?_)
    try dsimp only at hHeld
    clear hK K
    try simp only [Act.put, List.setIfInBounds_toArray, List.set_cons_zero, List.set_cons_succ]
    refine wpAnyH_take (i := 21) (oi := { dst := some 34, op := Go.Op.pick (Go.Operand.tmp 25) (Go.Operand.tmp 33) (Go.Operand.const (Go.Value.bool false)), type := 4, pos := "laws.go:28", after := #[{ on := 12, ground := Go.Ground.data }, { on := 20, ground := Go.Ground.data }, { on := 6, ground := Go.Ground.guard }], guard := some (6, false) }) (v := ?_) rfl (by kernel_rfl) (by kernel_rfl) (by kernel_rfl) (fun _ _ _ h => h) (Or.inl ⟨by kernel_rfl, ?_⟩) hHeld ?_
    rotate_left
    · (intro w hSw; (try dsimp only at hSw); go_simp; try with_reducible rfl)
    try simp only [Act.put, List.setIfInBounds_toArray, List.set_cons_zero, List.set_cons_succ]
    refine wpAnyH_take (i := 22) (oi := { dst := some 35, op := Go.Op.pick (Go.Operand.tmp 19) (Go.Operand.const (Go.Value.bool true)) (Go.Operand.tmp 34), type := 4, pos := "laws.go:28", after := #[{ on := 6, ground := Go.Ground.data }, { on := 21, ground := Go.Ground.data }], guard := none }) (v := ?_) rfl (by kernel_rfl) (by kernel_rfl) (by kernel_rfl) (fun _ _ _ h => h) (Or.inl ⟨by kernel_rfl, ?_⟩) hHeld ?_
    rotate_left
    · (intro w hSw; (try dsimp only at hSw); go_simp; try with_reducible rfl)
    try simp only [Act.put, List.setIfInBounds_toArray, List.set_cons_zero, List.set_cons_succ]
    refine wpAnyH_take (i := 23) (oi := { dst := some 4, op := Go.Op.assign (Go.Operand.tmp 35), type := 4, pos := "laws.go:28", after := #[{ on := 22, ground := Go.Ground.data }, { on := 20, ground := Go.Ground.chain }, { on := 0, ground := Go.Ground.phase }, { on := 1, ground := Go.Ground.phase }, { on := 2, ground := Go.Ground.phase }, { on := 3, ground := Go.Ground.phase }, { on := 4, ground := Go.Ground.phase }, { on := 5, ground := Go.Ground.phase }, { on := 6, ground := Go.Ground.phase }, { on := 7, ground := Go.Ground.phase }, { on := 8, ground := Go.Ground.phase }, { on := 9, ground := Go.Ground.phase }, { on := 10, ground := Go.Ground.phase }, { on := 11, ground := Go.Ground.phase }, { on := 12, ground := Go.Ground.phase }, { on := 13, ground := Go.Ground.phase }, { on := 14, ground := Go.Ground.phase }, { on := 15, ground := Go.Ground.phase }, { on := 16, ground := Go.Ground.phase }, { on := 17, ground := Go.Ground.phase }, { on := 18, ground := Go.Ground.phase }, { on := 19, ground := Go.Ground.phase }, { on := 20, ground := Go.Ground.phase }, { on := 21, ground := Go.Ground.phase }, { on := 22, ground := Go.Ground.phase }], guard := none }) (v := ?_) rfl (by kernel_rfl) (by kernel_rfl) (by kernel_rfl) (fun _ _ _ h => h) (Or.inl ⟨by kernel_rfl, ?_⟩) hHeld ?_
    rotate_left
    · (intro w hSw; (try dsimp only at hSw); go_simp; try with_reducible rfl)
    try simp only [Act.put, List.setIfInBounds_toArray, List.set_cons_zero, List.set_cons_succ]
    refine wpAnyH_done (by kernel_rfl) ?_ _
    have HB6 := Lib.hid (HBel.out _ hHeld)
    go_wp2_with fail
    go_ret
    exact ⟨rfl, by rw [HPE.out]; exact B1.out.trans ((HB5.out.trans (HB6.out.mono HB5.out.size)).mono (by rw [← HPE.out]; exact B1.out.size))⟩
#print axioms walk_FnSliceReversed
end Go.Proofs.Ytaifikhgijnkgaa
