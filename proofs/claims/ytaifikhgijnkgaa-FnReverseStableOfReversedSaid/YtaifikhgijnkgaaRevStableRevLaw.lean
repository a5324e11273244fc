/- The walk of laws.FnReverseStableOfReversed. No conditions. -/
import Derived.Test.YtaifikhgijnkgaaLawKit
import Derived.Test.YtaifikhgijnkgaaRevStable
import Derived.Test.YtaifikhgijnkgaaEqualIt
import Derived.Test.YtaifikhgijnkgaaStableSpec
import Derived.Test.YtaifikhgijnkgaaReversed
namespace Go.Proofs.Ytaifikhgijnkgaa
open Go.RowKit
set_option linter.unusedVariables false

theorem equal_it_true (a : Option Addr) (la ca : Nat) (xs : List It) (b : Option Addr) (lb cb : Nat) (ys : List It) (w : World) (sa : SlK 2 encIt w a la ca xs) (sb : SlK 2 encIt w b lb cb ys) (hla : la < 4611686018427387904) (he : xs = ys) :
    Calls Try.prog 58 #[.slice a la ca, .slice b lb cb] w fun e w' => e = .returned (.bool true) ∧ Below w.heap.size w w' := by
  refine (equal_it a la ca xs b lb cb ys w sa sb hla).mono ?_
  rintro e w' ⟨rfl, q, rfl⟩
  exact ⟨by simp [he], Below.drewN (Below.refl _ _) q⟩

set_option maxHeartbeats 4000000 in
set_option maxRecDepth 100000 in
theorem walk_FnReverseStableOfReversed (a0 : Option Addr) (len0 cap0 : Nat) (x0 : List It) (n1 : Int) (a1 : Option Addr) (len1 cap1 : Nat) (x1 : List Bool) (w : World)
    (s0 : SlK 2 encIt w a0 len0 cap0 x0) (g0 : ∀ x ∈ x0, okIt x) (b0 : cap0 * 16 ≤ 140737488351232) (g1 : (Lit.int .i64 n1).wf = true) (s1 : Sl Value.bool w a1 len1 cap1 x1) (b1 : cap1 ≤ 9223372036854775807) :
    Calls Try.prog 23 #[.slice a0 len0 cap0, .agg #[.int .i64 n1, .slice a1 len1 cap1]] w (Good w) := by
  have hcap := s0.2.1
  have HL := Lib.hid s0.1
  have B1 := Lib.hid (below1 w (.cells #[.int .i64 n1, .slice a1 len1 cap1] 33))
  have HS := Lib.hid (s0.belowS B1.out)
  have HT := Lib.hid (s1.below B1.out)
  have HP := Lib.hid (box2_new w n1 (.slice a1 len1 cap1) 33)
  clear s0 s1 g0 g1
  go_enter Try.func23, Try.ntmps23
  go_wp2
  generalize w.alloc (.cells #[.int .i64 n1, .slice a1 len1 cap1] 33) = w1 at *
  generalize hPe : w.heap.size = P at *
  have HPE := Lib.hid hPe
  clear hPe
  obtain ⟨p0, p1⟩ := HP.out
  have HB5 := Lib.hid (Below.refl w1.heap.size w1)
  have HKeep := Lib.hid (show ∀ W W', SB2 P n1 (.slice a1 len1 cap1) w1 W → Below W.heap.size W W' → SB2 P n1 (.slice a1 len1 cap1) w1 W' from fun W W' h hb => h.keep hb)
  have HBel := Lib.hid (show ∀ W, SB2 P n1 (.slice a1 len1 cap1) w1 W → Below w1.heap.size w1 W from fun W h => h.below)
  have HTb := Lib.hid (show ∀ W, Below w1.heap.size w1 W → Sl Value.bool W a1 len1 cap1 x1 from fun W h => HT.out.below (HB5.out.trans (h.mono HB5.out.size)))
  have HLb := Lib.hid (show ∀ W, Below w1.heap.size w1 W → SlK 2 encIt W a0 len0 cap0 x0 from fun W h => HS.out.belowS (HB5.out.trans (h.mono HB5.out.size)))
  refine wp_region_held_drew (S := (fun w' => w'.cell? ⟨P, 0, none⟩ = some (.int .i64 n1) ∧ w'.cell? ⟨P, 1, none⟩ = some (.slice a1 len1 cap1) ∧ Below w1.heap.size w1 w')) (by kernel_rfl) (⟨p0, p1, (Below.refl _ _).drew⟩) (fun hHeld => ?_)
  try dsimp only at hHeld
  refine wpAnyH_take (i := 0) (oi := { dst := some 6, op := Go.Op.move (Go.Operand.tmp 0), type := 30, pos := "laws.go:33", after := #[], guard := none }) (v := ?_) rfl (by kernel_rfl) (by kernel_rfl) (by kernel_rfl) (fun _ _ _ h => h) (Or.inl ⟨by kernel_rfl, ?_⟩) hHeld ?_
  rotate_left
  · (intro w hSw; (try dsimp only at hSw); go_simp; try with_reducible rfl)
  try simp only [Act.put, List.setIfInBounds_toArray, List.set_cons_zero, List.set_cons_succ]
  refine wpAnyH_take (i := 2) (oi := { dst := some 8, op := Go.Op.load 33 (Go.Operand.tmp 3), type := 33, pos := "laws.go:33", after := #[], guard := none }) (v := ?_) rfl (by kernel_rfl) (by kernel_rfl) (by kernel_rfl) (fun _ _ _ h => h) (Or.inl ⟨by kernel_rfl, ?_⟩) hHeld ?_
  rotate_left
  · (intro w hSw; (try dsimp only at hSw); go_simp; try with_reducible rfl)
  try simp only [Act.put, List.setIfInBounds_toArray, List.set_cons_zero, List.set_cons_succ]
  refine wpAnyH_ready (rs := [1]) (by kernel_rfl) (by simp) ?_
  refine AllReadyH.cons (o := { dst := some 7, op := Go.Op.call { callee := Go.Callee.value (Go.Operand.func 68), args := #[Go.Operand.tmp 6], argTypes := #[30] }, type := 30, pos := "laws.go:33", after := #[{ on := 0, ground := Go.Ground.data }], guard := none }) rfl (fun K hK => ?_) AllReadyH.nil
  go_simp
  refine (laws_reversed a0 len0 cap0 x0 _ (HLb.out _ (HBel.out _ hHeld)) (by omega)).mono ?_
  rintro e wF ⟨aF, cF, rfl, hoF, hsF, hbF⟩
  have hS' := HKeep.out _ _ hHeld hbF
  try go_wp2_with fail
  refine hK.out _ _ hS' (fun hHeld => ?_)
  try dsimp only at hHeld
  clear hK K
  try simp only [Act.put, List.setIfInBounds_toArray, List.set_cons_zero, List.set_cons_succ]
  refine wpAnyH_ready (rs := [3]) (by kernel_rfl) (by simp) ?_
  refine AllReadyH.cons (o := { dst := some 9, op := Go.Op.call { callee := Go.Callee.value (Go.Operand.func 76), args := #[Go.Operand.tmp 7, Go.Operand.tmp 8], argTypes := #[30, 33] }, type := 30, pos := "laws.go:33", after := #[{ on := 1, ground := Go.Ground.data }, { on := 2, ground := Go.Ground.data }, { on := 1, ground := Go.Ground.chain }], guard := none }) rfl (fun K hK => ?_) AllReadyH.nil
  go_simp
  refine (impl_ReverseStable aF len0 cF x0.reverse n1 a1 len1 cap1 x1 _ hsF (by omega) (HTb.out _ (HBel.out _ hHeld))).mono ?_
  rintro e wG ⟨O, ⟨a2, c2, rfl, ho2, hs2, hb2⟩, hso⟩
  have hS' := HKeep.out _ _ hHeld hb2
  have HS2 := Lib.hid hs2
  have HSO := Lib.hid hso
  clear ho2 hs2 hso hoF hsF
  try go_wp2_with fail
  refine hK.out _ _ hS' (fun hHeld => ?_)
  try dsimp only at hHeld
  clear hK K
  try simp only [Act.put, List.setIfInBounds_toArray, List.set_cons_zero, List.set_cons_succ]
  refine wpAnyH_take (i := 4) (oi := { dst := some 5, op := Go.Op.assign (Go.Operand.tmp 9), type := 30, pos := "laws.go:33", after := #[{ on := 3, ground := Go.Ground.data }, { on := 3, ground := Go.Ground.chain }, { on := 0, ground := Go.Ground.phase }, { on := 1, ground := Go.Ground.phase }, { on := 2, ground := Go.Ground.phase }, { on := 3, ground := Go.Ground.phase }], guard := none }) (v := ?_) rfl (by kernel_rfl) (by kernel_rfl) (by kernel_rfl) (fun _ _ _ h => h) (Or.inl ⟨by kernel_rfl, ?_⟩) hHeld ?_
  rotate_left
  · (intro w hSw; (try dsimp only at hSw); go_simp; try with_reducible rfl)
  try simp only [Act.put, List.setIfInBounds_toArray, List.set_cons_zero, List.set_cons_succ]
  refine wpAnyH_done (by kernel_rfl) ?_ _
  clear p0 p1 HB5
  obtain ⟨p0, p1, hbG⟩ := hHeld
  have HB5 := Lib.hid hbG
  clear HKeep HBel HTb HLb hbG
  go_wp2_with fail
  obtain ⟨w5, hw5⟩ : ∃ w5, w5 = wG := ⟨_, rfl⟩
  subst hw5
  have HKeep := Lib.hid (show ∀ W W', SB2 P n1 (.slice a1 len1 cap1) w5 W → Below W.heap.size W W' → SB2 P n1 (.slice a1 len1 cap1) w5 W' from fun W W' h hb => h.keep hb)
  have HBel := Lib.hid (show ∀ W, SB2 P n1 (.slice a1 len1 cap1) w5 W → Below w5.heap.size w5 W from fun W h => h.below)
  have HTb := Lib.hid (show ∀ W, Below w5.heap.size w5 W → Sl Value.bool W a1 len1 cap1 x1 from fun W h => HT.out.below (HB5.out.trans (h.mono HB5.out.size)))
  have HLb := Lib.hid (show ∀ W, Below w5.heap.size w5 W → SlK 2 encIt W a0 len0 cap0 x0 from fun W h => HS.out.belowS (HB5.out.trans (h.mono HB5.out.size)))
  have HOb := Lib.hid (show ∀ W, Below w5.heap.size w5 W → SlK 2 encIt W a2 len0 c2 O from fun W h => HS2.out.belowS h)
  cases hw : weakB (sbef n1 x1 false) x0 with
  | false =>
    have HWk := Lib.hid (show ∀ aB cB W, SlK 2 encIt W aB len0 cB x0 → Below w5.heap.size w5 W → Calls Try.prog 45 #[.agg #[.int .i64 n1, .slice a1 len1 cap1, .bool false], .slice aB len0 cB] W fun e w' => e = .returned (.bool false) ∧ Below W.heap.size W w' from fun aB cB W h hb => spec_Weak_at false n1 a1 len1 cap1 x1 false aB len0 cB x0 W hw h (HTb.out _ hb) (by omega))
    clear hw
    refine wp_region_held_drew (S := (fun w' => w'.cell? ⟨P, 0, none⟩ = some (.int .i64 n1) ∧ w'.cell? ⟨P, 1, none⟩ = some (.slice a1 len1 cap1) ∧ Below w5.heap.size w5 w')) (by kernel_rfl) (⟨p0, p1, (Below.refl _ _).drew⟩) (fun hHeld => ?_)
    try dsimp only at hHeld
    refine wpAnyH_take (i := 0) (oi := { dst := some 10, op := Go.Op.load 33 (Go.Operand.tmp 3), type := 33, pos := "laws.go:34", after := #[], guard := none }) (v := ?_) rfl (by kernel_rfl) (by kernel_rfl) (by kernel_rfl) (fun _ _ _ h => h) (Or.inl ⟨by kernel_rfl, ?_⟩) hHeld ?_
    rotate_left
    · (intro w hSw; (try dsimp only at hSw); go_simp; try with_reducible rfl)
    try simp only [Act.put, List.setIfInBounds_toArray, List.set_cons_zero, List.set_cons_succ]
    refine wpAnyH_take (i := 2) (oi := { dst := some 12, op := Go.Op.move (Go.Operand.tmp 0), type := 30, pos := "laws.go:34", after := #[], guard := none }) (v := ?_) rfl (by kernel_rfl) (by kernel_rfl) (by kernel_rfl) (fun _ _ _ h => h) (Or.inl ⟨by kernel_rfl, ?_⟩) hHeld ?_
    rotate_left
    · (intro w hSw; (try dsimp only at hSw); go_simp; try with_reducible rfl)
    try simp only [Act.put, List.setIfInBounds_toArray, List.set_cons_zero, List.set_cons_succ]
    refine wpAnyH_ready (rs := [1]) (by kernel_rfl) (by simp) ?_
    refine AllReadyH.cons (o := { dst := some 11, op := Go.Op.call { callee := Go.Callee.value (Go.Operand.func 46), args := #[Go.Operand.tmp 10], argTypes := #[33] }, type := 37, pos := "laws.go:34", after := #[{ on := 0, ground := Go.Ground.data }], guard := none }) rfl (fun K hK => ?_) AllReadyH.nil
    go_simp
    refine (laws_so n1 a1 len1 cap1 _).mono ?_
    rintro e w6 ⟨rfl, hb6⟩
    have hS' := HKeep.out _ _ hHeld hb6
    try go_wp2_with fail
    refine hK.out _ _ hS' (fun hHeld => ?_)
    try dsimp only at hHeld
    clear hK K
    try simp only [Act.put, List.setIfInBounds_toArray, List.set_cons_zero, List.set_cons_succ]
    refine wpAnyH_ready (rs := [3]) (by kernel_rfl) (by simp) ?_
    refine AllReadyH.cons (o := { dst := some 13, op := Go.Op.call { callee := Go.Callee.value (Go.Operand.func 47), args := #[Go.Operand.tmp 12], argTypes := #[30] }, type := 39, pos := "laws.go:34", after := #[{ on := 2, ground := Go.Ground.data }, { on := 1, ground := Go.Ground.chain }], guard := none }) rfl (fun K hK => ?_) AllReadyH.nil
    go_simp
    refine (laws_sItems a0 len0 cap0 x0 _ (HLb.out _ (HBel.out _ hHeld)) (by omega)).mono ?_
    rintro e wB ⟨aB, cB, rfl, hoB, hsB, hbB⟩
    have hS' := HKeep.out _ _ hHeld hbB
    try go_wp2_with fail
    refine hK.out _ _ hS' (fun hHeld => ?_)
    try dsimp only at hHeld
    clear hK K
    try simp only [Act.put, List.setIfInBounds_toArray, List.set_cons_zero, List.set_cons_succ]
    refine wpAnyH_ready (rs := [4]) (by kernel_rfl) (by simp) ?_
    refine AllReadyH.cons (o := { dst := some 14, op := Go.Op.call { callee := Go.Callee.value (Go.Operand.func 45), args := #[Go.Operand.tmp 11, Go.Operand.tmp 13], argTypes := #[37, 39] }, type := 4, pos := "laws.go:34", after := #[{ on := 1, ground := Go.Ground.data }, { on := 3, ground := Go.Ground.data }, { on := 3, ground := Go.Ground.chain }], guard := none }) rfl (fun K hK => ?_) AllReadyH.nil
    go_simp
    refine (HWk.out aB cB _ hsB (HBel.out _ hHeld)).mono ?_
    rintro e w8 ⟨rfl, hb8⟩
    have hS' := HKeep.out _ _ hHeld hb8
    try go_wp2_with fail
    refine hK.out _ _ hS' (fun hHeld => ?_)
    try dsimp only at hHeld
    clear hK K
    try simp only [Act.put, List.setIfInBounds_toArray, List.set_cons_zero, List.set_cons_succ]
    refine wpAnyH_take (i := 5) (oi := { dst := some 15, op := Go.Op.unOp Go.UnOp.not 4 (Go.Operand.tmp 14), type := 4, pos := "laws.go:34", after := #[{ on := 4, ground := Go.Ground.data }], guard := none }) (v := ?_) rfl (by kernel_rfl) (by kernel_rfl) (by kernel_rfl) (fun _ _ _ h => h) (Or.inl ⟨by kernel_rfl, ?_⟩) hHeld ?_
    rotate_left
    · (intro w hSw; (try dsimp only at hSw); go_simp; try with_reducible rfl)
    try simp only [Act.put, List.setIfInBounds_toArray, List.set_cons_zero, List.set_cons_succ]
    refine wpAnyH_take (i := 6) (oi := { dst := some 16, op := Go.Op.move (Go.Operand.tmp 15), type := 4, pos := "laws.go:34", after := #[{ on := 5, ground := Go.Ground.data }, { on := 4, ground := Go.Ground.chain }], guard := none }) (v := ?_) rfl (by kernel_rfl) (by kernel_rfl) (by kernel_rfl) (fun _ _ _ h => h) (Or.inl ⟨by kernel_rfl, ?_⟩) hHeld ?_
    rotate_left
    · (intro w hSw; (try dsimp only at hSw); go_simp; try with_reducible rfl)
    try simp only [Act.put, List.setIfInBounds_toArray, List.set_cons_zero, List.set_cons_succ]
    refine wpAnyH_take (i := 7) (oi := { dst := some 17, op := Go.Op.move (Go.Operand.tmp 5), type := 30, pos := "laws.go:34", after := #[{ on := 6, ground := Go.Ground.guard }], guard := some (6, false) }) (v := undef) rfl (by kernel_rfl) (by kernel_rfl) (by kernel_rfl) (fun _ _ _ h => h) (Or.inr ⟨by kernel_rfl, rfl⟩) hHeld ?_
    try simp only [Act.put, List.setIfInBounds_toArray, List.set_cons_zero, List.set_cons_succ]
    refine wpAnyH_take (i := 8) (oi := { dst := some 18, op := Go.Op.call { callee := Go.Callee.value (Go.Operand.func 68), args := #[Go.Operand.tmp 17], argTypes := #[30] }, type := 30, pos := "laws.go:34", after := #[{ on := 7, ground := Go.Ground.data }, { on := 6, ground := Go.Ground.chain }, { on := 6, ground := Go.Ground.guard }], guard := some (6, false) }) (v := undef) rfl (by kernel_rfl) (by kernel_rfl) (by kernel_rfl) (fun _ _ _ h => h) (Or.inr ⟨by kernel_rfl, rfl⟩) hHeld ?_
    try simp only [Act.put, List.setIfInBounds_toArray, List.set_cons_zero, List.set_cons_succ]
    refine wpAnyH_take (i := 9) (oi := { dst := some 19, op := Go.Op.move (Go.Operand.tmp 0), type := 30, pos := "laws.go:34", after := #[{ on := 6, ground := Go.Ground.guard }], guard := some (6, false) }) (v := undef) rfl (by kernel_rfl) (by kernel_rfl) (by kernel_rfl) (fun _ _ _ h => h) (Or.inr ⟨by kernel_rfl, rfl⟩) hHeld ?_
    try simp only [Act.put, List.setIfInBounds_toArray, List.set_cons_zero, List.set_cons_succ]
    refine wpAnyH_take (i := 10) (oi := { dst := some 20, op := Go.Op.call { callee := Go.Callee.value (Go.Operand.func 47), args := #[Go.Operand.tmp 19], argTypes := #[30] }, type := 39, pos := "laws.go:34", after := #[{ on := 9, ground := Go.Ground.data }, { on := 8, ground := Go.Ground.chain }, { on := 6, ground := Go.Ground.guard }], guard := some (6, false) }) (v := undef) rfl (by kernel_rfl) (by kernel_rfl) (by kernel_rfl) (fun _ _ _ h => h) (Or.inr ⟨by kernel_rfl, rfl⟩) hHeld ?_
    try simp only [Act.put, List.setIfInBounds_toArray, List.set_cons_zero, List.set_cons_succ]
    refine wpAnyH_take (i := 11) (oi := { dst := some 21, op := Go.Op.load 33 (Go.Operand.tmp 3), type := 33, pos := "laws.go:34", after := #[{ on := 6, ground := Go.Ground.guard }], guard := some (6, false) }) (v := undef) rfl (by kernel_rfl) (by kernel_rfl) (by kernel_rfl) (fun _ _ _ h => h) (Or.inr ⟨by kernel_rfl, rfl⟩) hHeld ?_
    try simp only [Act.put, List.setIfInBounds_toArray, List.set_cons_zero, List.set_cons_succ]
    refine wpAnyH_take (i := 12) (oi := { dst := some 22, op := Go.Op.call { callee := Go.Callee.value (Go.Operand.func 46), args := #[Go.Operand.tmp 21], argTypes := #[33] }, type := 37, pos := "laws.go:34", after := #[{ on := 11, ground := Go.Ground.data }, { on := 10, ground := Go.Ground.chain }, { on := 6, ground := Go.Ground.guard }], guard := some (6, false) }) (v := undef) rfl (by kernel_rfl) (by kernel_rfl) (by kernel_rfl) (fun _ _ _ h => h) (Or.inr ⟨by kernel_rfl, rfl⟩) hHeld ?_
    try simp only [Act.put, List.setIfInBounds_toArray, List.set_cons_zero, List.set_cons_succ]
    refine wpAnyH_take (i := 13) (oi := { dst := some 23, op := Go.Op.call { callee := Go.Callee.value (Go.Operand.func 78), args := #[Go.Operand.tmp 20, Go.Operand.tmp 22], argTypes := #[39, 37] }, type := 39, pos := "laws.go:34", after := #[{ on := 10, ground := Go.Ground.data }, { on := 12, ground := Go.Ground.data }, { on := 12, ground := Go.Ground.chain }, { on := 6, ground := Go.Ground.guard }], guard := some (6, false) }) (v := undef) rfl (by kernel_rfl) (by kernel_rfl) (by kernel_rfl) (fun _ _ _ h => h) (Or.inr ⟨by kernel_rfl, rfl⟩) hHeld ?_
    try simp only [Act.put, List.setIfInBounds_toArray, List.set_cons_zero, List.set_cons_succ]
    refine wpAnyH_take (i := 14) (oi := { dst := some 24, op := Go.Op.call { callee := Go.Callee.value (Go.Operand.func 77), args := #[Go.Operand.tmp 23], argTypes := #[39] }, type := 30, pos := "laws.go:34", after := #[{ on := 13, ground := Go.Ground.data }, { on := 13, ground := Go.Ground.chain }, { on := 6, ground := Go.Ground.guard }], guard := some (6, false) }) (v := undef) rfl (by kernel_rfl) (by kernel_rfl) (by kernel_rfl) (fun _ _ _ h => h) (Or.inr ⟨by kernel_rfl, rfl⟩) hHeld ?_
    try simp only [Act.put, List.setIfInBounds_toArray, List.set_cons_zero, List.set_cons_succ]
    refine wpAnyH_take (i := 15) (oi := { dst := some 25, op := Go.Op.call { callee := Go.Callee.value (Go.Operand.func 58), args := #[Go.Operand.tmp 18, Go.Operand.tmp 24], argTypes := #[30, 30] }, type := 4, pos := "laws.go:34", after := #[{ on := 8, ground := Go.Ground.data }, { on := 14, ground := Go.Ground.data }, { on := 14, ground := Go.Ground.chain }, { on := 6, ground := Go.Ground.guard }], guard := some (6, false) }) (v := undef) rfl (by kernel_rfl) (by kernel_rfl) (by kernel_rfl) (fun _ _ _ h => h) (Or.inr ⟨by kernel_rfl, rfl⟩) hHeld ?_
    try simp only [Act.put, List.setIfInBounds_toArray, List.set_cons_zero, List.set_cons_succ]
    refine wpAnyH_take (i := 16) (oi := { dst := some 26, op := Go.Op.pick (Go.Operand.tmp 16) (Go.Operand.const (Go.Value.bool true)) (Go.Operand.tmp 25), type := 4, pos := "laws.go:34", after := #[{ on := 6, ground := Go.Ground.data }, { on := 15, ground := Go.Ground.data }], guard := none }) (v := ?_) rfl (by kernel_rfl) (by kernel_rfl) (by kernel_rfl) (fun _ _ _ h => h) (Or.inl ⟨by kernel_rfl, ?_⟩) hHeld ?_
    rotate_left
    · (intro w hSw; (try dsimp only at hSw); go_simp; try with_reducible rfl)
    try simp only [Act.put, List.setIfInBounds_toArray, List.set_cons_zero, List.set_cons_succ]
    refine wpAnyH_take (i := 17) (oi := { dst := some 4, op := Go.Op.assign (Go.Operand.tmp 26), type := 4, pos := "laws.go:34", after := #[{ on := 16, ground := Go.Ground.data }, { on := 15, ground := Go.Ground.chain }, { on := 0, ground := Go.Ground.phase }, { on := 1, ground := Go.Ground.phase }, { on := 2, ground := Go.Ground.phase }, { on := 3, ground := Go.Ground.phase }, { on := 4, ground := Go.Ground.phase }, { on := 5, ground := Go.Ground.phase }, { on := 6, ground := Go.Ground.phase }, { on := 7, ground := Go.Ground.phase }, { on := 8, ground := Go.Ground.phase }, { on := 9, ground := Go.Ground.phase }, { on := 10, ground := Go.Ground.phase }, { on := 11, ground := Go.Ground.phase }, { on := 12, ground := Go.Ground.phase }, { on := 13, ground := Go.Ground.phase }, { on := 14, ground := Go.Ground.phase }, { on := 15, ground := Go.Ground.phase }, { on := 16, ground := Go.Ground.phase }], guard := none }) (v := ?_) rfl (by kernel_rfl) (by kernel_rfl) (by kernel_rfl) (fun _ _ _ h => h) (Or.inl ⟨by kernel_rfl, ?_⟩) hHeld ?_
    rotate_left
    · (intro w hSw; (try dsimp only at hSw); go_simp; try with_reducible rfl)
    try simp only [Act.put, List.setIfInBounds_toArray, List.set_cons_zero, List.set_cons_succ]
    refine wpAnyH_done (by kernel_rfl) ?_ _
    have HB6 := Lib.hid (HBel.out _ hHeld)
    go_wp2_with fail
    go_ret
    exact ⟨rfl, by rw [HPE.out]; exact B1.out.trans ((HB5.out.trans (HB6.out.mono HB5.out.size)).mono (by rw [← HPE.out]; exact B1.out.size))⟩
  | true =>
    have HWk := Lib.hid (show ∀ aB cB W, SlK 2 encIt W aB len0 cB x0 → Below w5.heap.size w5 W → Calls Try.prog 45 #[.agg #[.int .i64 n1, .slice a1 len1 cap1, .bool false], .slice aB len0 cB] W fun e w' => e = .returned (.bool true) ∧ Below W.heap.size W w' from fun aB cB W h hb => spec_Weak_at true n1 a1 len1 cap1 x1 false aB len0 cB x0 W hw h (HTb.out _ hb) (by omega))
    have HWT := Lib.hid (weakB_true hw)
    have HEQ := Lib.hid (show ∀ SE, StableOf (sbef n1 x1 false) x0 SE → O.reverse = SE from fun SE h => by
      have hso := HSO.out
      rw [sbef_true] at hso
      obtain ⟨p, hp, hO⟩ := hso.2 ((weak_turn HWT.out).perm (List.reverse_perm x0))
      rw [← sbef_turn] at hp
      obtain ⟨hq, he⟩ := tags_turn hp
      rw [hO, he]
      exact (tags_stable HWT.out hq).unique HWT.out h)
    clear hw
    refine wp_region_held_drew (S := (fun w' => w'.cell? ⟨P, 0, none⟩ = some (.int .i64 n1) ∧ w'.cell? ⟨P, 1, none⟩ = some (.slice a1 len1 cap1) ∧ Below w5.heap.size w5 w')) (by kernel_rfl) (⟨p0, p1, (Below.refl _ _).drew⟩) (fun hHeld => ?_)
    try dsimp only at hHeld
    refine wpAnyH_take (i := 0) (oi := { dst := some 10, op := Go.Op.load 33 (Go.Operand.tmp 3), type := 33, pos := "laws.go:34", after := #[], guard := none }) (v := ?_) rfl (by kernel_rfl) (by kernel_rfl) (by kernel_rfl) (fun _ _ _ h => h) (Or.inl ⟨by kernel_rfl, ?_⟩) hHeld ?_
    rotate_left
    · (intro w hSw; (try dsimp only at hSw); go_simp; try with_reducible rfl)
    try simp only [Act.put, List.setIfInBounds_toArray, List.set_cons_zero, List.set_cons_succ]
    refine wpAnyH_take (i := 2) (oi := { dst := some 12, op := Go.Op.move (Go.Operand.tmp 0), type := 30, pos := "laws.go:34", after := #[], guard := none }) (v := ?_) rfl (by kernel_rfl) (by kernel_rfl) (by kernel_rfl) (fun _ _ _ h => h) (Or.inl ⟨by kernel_rfl, ?_⟩) hHeld ?_
    rotate_left
    · (intro w hSw; (try dsimp only at hSw); go_simp; try with_reducible rfl)
    try simp only [Act.put, List.setIfInBounds_toArray, List.set_cons_zero, List.set_cons_succ]
    refine wpAnyH_ready (rs := [1]) (by kernel_rfl) (by simp) ?_
    refine AllReadyH.cons (o := { dst := some 11, op := Go.Op.call { callee := Go.Callee.value (Go.Operand.func 46), args := #[Go.Operand.tmp 10], argTypes := #[33] }, type := 37, pos := "laws.go:34", after := #[{ on := 0, ground := Go.Ground.data }], guard := none }) rfl (fun K hK => ?_) AllReadyH.nil
    go_simp
    refine (laws_so n1 a1 len1 cap1 _).mono ?_
    rintro e w6 ⟨rfl, hb6⟩
    have hS' := HKeep.out _ _ hHeld hb6
    try go_wp2_with fail
    refine hK.out _ _ hS' (fun hHeld => ?_)
    try dsimp only at hHeld
    clear hK K
    try simp only [Act.put, List.setIfInBounds_toArray, List.set_cons_zero, List.set_cons_succ]
    refine wpAnyH_ready (rs := [3]) (by kernel_rfl) (by simp) ?_
    refine AllReadyH.cons (o := { dst := some 13, op := Go.Op.call { callee := Go.Callee.value (Go.Operand.func 47), args := #[Go.Operand.tmp 12], argTypes := #[30] }, type := 39, pos := "laws.go:34", after := #[{ on := 2, ground := Go.Ground.data }, { on := 1, ground := Go.Ground.chain }], guard := none }) rfl (fun K hK => ?_) AllReadyH.nil
    go_simp
    refine (laws_sItems a0 len0 cap0 x0 _ (HLb.out _ (HBel.out _ hHeld)) (by omega)).mono ?_
    rintro e wB ⟨aB, cB, rfl, hoB, hsB, hbB⟩
    have hS' := HKeep.out _ _ hHeld hbB
    try go_wp2_with fail
    refine hK.out _ _ hS' (fun hHeld => ?_)
    try dsimp only at hHeld
    clear hK K
    try simp only [Act.put, List.setIfInBounds_toArray, List.set_cons_zero, List.set_cons_succ]
    refine wpAnyH_ready (rs := [4]) (by kernel_rfl) (by simp) ?_
    refine AllReadyH.cons (o := { dst := some 14, op := Go.Op.call { callee := Go.Callee.value (Go.Operand.func 45), args := #[Go.Operand.tmp 11, Go.Operand.tmp 13], argTypes := #[37, 39] }, type := 4, pos := "laws.go:34", after := #[{ on := 1, ground := Go.Ground.data }, { on := 3, ground := Go.Ground.data }, { on := 3, ground := Go.Ground.chain }], guard := none }) rfl (fun K hK => ?_) AllReadyH.nil
    go_simp
    refine (HWk.out aB cB _ hsB (HBel.out _ hHeld)).mono ?_
    rintro e w8 ⟨rfl, hb8⟩
    have hS' := HKeep.out _ _ hHeld hb8
    try go_wp2_with fail
    refine hK.out _ _ hS' (fun hHeld => ?_)
    try dsimp only at hHeld
    clear hK K
    try simp only [Act.put, List.setIfInBounds_toArray, List.set_cons_zero, List.set_cons_succ]
    refine wpAnyH_take (i := 5) (oi := { dst := some 15, op := Go.Op.unOp Go.UnOp.not 4 (Go.Operand.tmp 14), type := 4, pos := "laws.go:34", after := #[{ on := 4, ground := Go.Ground.data }], guard := none }) (v := ?_) rfl (by kernel_rfl) (by kernel_rfl) (by kernel_rfl) (fun _ _ _ h => h) (Or.inl ⟨by kernel_rfl, ?_⟩) hHeld ?_
    rotate_left
    · (intro w hSw; (try dsimp only at hSw); go_simp; try with_reducible rfl)
    try simp only [Act.put, List.setIfInBounds_toArray, List.set_cons_zero, List.set_cons_succ]
    refine wpAnyH_take (i := 6) (oi := { dst := some 16, op := Go.Op.move (Go.Operand.tmp 15), type := 4, pos := "laws.go:34", after := #[{ on := 5, ground := Go.Ground.data }, { on := 4, ground := Go.Ground.chain }], guard := none }) (v := ?_) rfl (by kernel_rfl) (by kernel_rfl) (by kernel_rfl) (fun _ _ _ h => h) (Or.inl ⟨by kernel_rfl, ?_⟩) hHeld ?_
    rotate_left
    · (intro w hSw; (try dsimp only at hSw); go_simp; try with_reducible rfl)
    try simp only [Act.put, List.setIfInBounds_toArray, List.set_cons_zero, List.set_cons_succ]
    refine wpAnyH_take (i := 7) (oi := { dst := some 17, op := Go.Op.move (Go.Operand.tmp 5), type := 30, pos := "laws.go:34", after := #[{ on := 6, ground := Go.Ground.guard }], guard := some (6, false) }) (v := ?_) rfl (by kernel_rfl) (by kernel_rfl) (by kernel_rfl) (fun _ _ _ h => h) (Or.inl ⟨by kernel_rfl, ?_⟩) hHeld ?_
    rotate_left
    · (intro w hSw; (try dsimp only at hSw); go_simp; try with_reducible rfl)
    try simp only [Act.put, List.setIfInBounds_toArray, List.set_cons_zero, List.set_cons_succ]
    refine wpAnyH_take (i := 9) (oi := { dst := some 19, op := Go.Op.move (Go.Operand.tmp 0), type := 30, pos := "laws.go:34", after := #[{ on := 6, ground := Go.Ground.guard }], guard := some (6, false) }) (v := ?_) rfl (by kernel_rfl) (by kernel_rfl) (by kernel_rfl) (fun _ _ _ h => h) (Or.inl ⟨by kernel_rfl, ?_⟩) hHeld ?_
    rotate_left
    · (intro w hSw; (try dsimp only at hSw); go_simp; try with_reducible rfl)
    try simp only [Act.put, List.setIfInBounds_toArray, List.set_cons_zero, List.set_cons_succ]
    refine wpAnyH_take (i := 11) (oi := { dst := some 21, op := Go.Op.load 33 (Go.Operand.tmp 3), type := 33, pos := "laws.go:34", after := #[{ on := 6, ground := Go.Ground.guard }], guard := some (6, false) }) (v := ?_) rfl (by kernel_rfl) (by kernel_rfl) (by kernel_rfl) (fun _ _ _ h => h) (Or.inl ⟨by kernel_rfl, ?_⟩) hHeld ?_
    rotate_left
    · (intro w hSw; (try dsimp only at hSw); go_simp; try with_reducible rfl)
    try simp only [Act.put, List.setIfInBounds_toArray, List.set_cons_zero, List.set_cons_succ]
    refine wpAnyH_ready (rs := [8]) (by kernel_rfl) (by simp) ?_
    refine AllReadyH.cons (o := { dst := some 18, op := Go.Op.call { callee := Go.Callee.value (Go.Operand.func 68), args := #[Go.Operand.tmp 17], argTypes := #[30] }, type := 30, pos := "laws.go:34", after := #[{ on := 7, ground := Go.Ground.data }, { on := 6, ground := Go.Ground.chain }, { on := 6, ground := Go.Ground.guard }], guard := some (6, false) }) rfl (fun K hK => ?_) AllReadyH.nil
    go_simp
    refine (laws_reversed a2 len0 c2 O _ (HOb.out _ (HBel.out _ hHeld)) (by omega)).mono ?_
    rintro e wR ⟨aR, cR, rfl, hoR, hsR, hbR⟩
    have hS' := HKeep.out _ _ hHeld hbR
    try go_wp2_with fail
    refine hK.out _ _ hS' (fun hHeld => ?_)
    try dsimp only at hHeld
    clear hK K
    try simp only [Act.put, List.setIfInBounds_toArray, List.set_cons_zero, List.set_cons_succ]
    refine wpAnyH_ready (rs := [10]) (by kernel_rfl) (by simp) ?_
    refine AllReadyH.cons (o := { dst := some 20, op := Go.Op.call { callee := Go.Callee.value (Go.Operand.func 47), args := #[Go.Operand.tmp 19], argTypes := #[30] }, type := 39, pos := "laws.go:34", after := #[{ on := 9, ground := Go.Ground.data }, { on := 8, ground := Go.Ground.chain }, { on := 6, ground := Go.Ground.guard }], guard := some (6, false) }) rfl (fun K hK => ?_) AllReadyH.nil
    go_simp
    refine (laws_sItems a0 len0 cap0 x0 _ (HLb.out _ (HBel.out _ hHeld)) (by omega)).mono ?_
    rintro e wC ⟨aC, cC, rfl, hoC, hsC, hbC⟩
    have hS' := HKeep.out _ _ hHeld hbC
    have hsR1 := Lib.hid (hsR.belowS hbC)
    try go_wp2_with fail
    refine hK.out _ _ hS' (fun hHeld => ?_)
    try dsimp only at hHeld
    clear hK K
    try simp only [Act.put, List.setIfInBounds_toArray, List.set_cons_zero, List.set_cons_succ]
    refine wpAnyH_ready (rs := [12]) (by kernel_rfl) (by simp) ?_
    refine AllReadyH.cons (o := { dst := some 22, op := Go.Op.call { callee := Go.Callee.value (Go.Operand.func 46), args := #[Go.Operand.tmp 21], argTypes := #[33] }, type := 37, pos := "laws.go:34", after := #[{ on := 11, ground := Go.Ground.data }, { on := 10, ground := Go.Ground.chain }, { on := 6, ground := Go.Ground.guard }], guard := some (6, false) }) rfl (fun K hK => ?_) AllReadyH.nil
    go_simp
    refine (laws_so n1 a1 len1 cap1 _).mono ?_
    rintro e w10 ⟨rfl, hb10⟩
    have hS' := HKeep.out _ _ hHeld hb10
    have hsC1 := Lib.hid (hsC.belowS hb10)
    have hsR2 := Lib.hid (hsR1.out.belowS hb10)
    try go_wp2_with fail
    refine hK.out _ _ hS' (fun hHeld => ?_)
    try dsimp only at hHeld
    clear hK K
    try simp only [Act.put, List.setIfInBounds_toArray, List.set_cons_zero, List.set_cons_succ]
    refine wpAnyH_ready (rs := [13]) (by kernel_rfl) (by simp) ?_
    refine AllReadyH.cons (o := { dst := some 23, op := Go.Op.call { callee := Go.Callee.value (Go.Operand.func 78), args := #[Go.Operand.tmp 20, Go.Operand.tmp 22], argTypes := #[39, 37] }, type := 39, pos := "laws.go:34", after := #[{ on := 10, ground := Go.Ground.data }, { on := 12, ground := Go.Ground.data }, { on := 12, ground := Go.Ground.chain }, { on := 6, ground := Go.Ground.guard }], guard := some (6, false) }) rfl (fun K hK => ?_) AllReadyH.nil
    go_simp
    refine (spec_Stable n1 a1 len1 cap1 x1 false aC len0 cC x0 _ hsC1.out (HTb.out _ (HBel.out _ hHeld)) (by omega) HWT.out).mono ?_
    rintro e w12 ⟨gE, SE, rfl, hoE, hsE, hstE, hbE⟩
    have hS' := HKeep.out _ _ hHeld hbE
    have hsR3 := Lib.hid (hsR2.out.belowS hbE)
    try go_wp2_with fail
    refine hK.out _ _ hS' (fun hHeld => ?_)
    try dsimp only at hHeld
    clear hK K
    try simp only [Act.put, List.setIfInBounds_toArray, List.set_cons_zero, List.set_cons_succ]
    refine wpAnyH_ready (rs := [14]) (by kernel_rfl) (by simp) ?_
    refine AllReadyH.cons (o := { dst := some 24, op := Go.Op.call { callee := Go.Callee.value (Go.Operand.func 77), args := #[Go.Operand.tmp 23], argTypes := #[39] }, type := 30, pos := "laws.go:34", after := #[{ on := 13, ground := Go.Ground.data }, { on := 13, ground := Go.Ground.chain }, { on := 6, ground := Go.Ground.guard }], guard := some (6, false) }) rfl (fun K hK => ?_) AllReadyH.nil
    go_simp
    refine (laws_iItems (some ⟨gE, 0, none⟩) len0 len0 SE _ hsE (by omega)).mono ?_
    rintro e wH ⟨aH, cH, rfl, hoH, hsH, hbH⟩
    have hS' := HKeep.out _ _ hHeld hbH
    have hsR4 := Lib.hid (hsR3.out.belowS hbH)
    try go_wp2_with fail
    refine hK.out _ _ hS' (fun hHeld => ?_)
    try dsimp only at hHeld
    clear hK K
    try simp only [Act.put, List.setIfInBounds_toArray, List.set_cons_zero, List.set_cons_succ]
    refine wpAnyH_ready (rs := [15]) (by kernel_rfl) (by simp) ?_
    refine AllReadyH.cons (o := { dst := some 25, op := Go.Op.call { callee := Go.Callee.value (Go.Operand.func 58), args := #[Go.Operand.tmp 18, Go.Operand.tmp 24], argTypes := #[30, 30] }, type := 4, pos := "laws.go:34", after := #[{ on := 8, ground := Go.Ground.data }, { on := 14, ground := Go.Ground.data }, { on := 14, ground := Go.Ground.chain }, { on := 6, ground := Go.Ground.guard }], guard := some (6, false) }) rfl (fun K hK => ?_) AllReadyH.nil
    go_simp
    refine (equal_it_true aR len0 cR O.reverse aH len0 cH SE _ hsR4.out hsH (by omega) (HEQ.out SE hstE)).mono ?_
    rintro e w13 ⟨rfl, hb13⟩
    have hS' := HKeep.out _ _ hHeld hb13
    try go_wp2_with fail
    refine hK.out _ _ hS' (fun hHeld => ?_)
    try dsimp only at hHeld
    clear hK K
    try simp only [Act.put, List.setIfInBounds_toArray, List.set_cons_zero, List.set_cons_succ]
    refine wpAnyH_take (i := 16) (oi := { dst := some 26, op := Go.Op.pick (Go.Operand.tmp 16) (Go.Operand.const (Go.Value.bool true)) (Go.Operand.tmp 25), type := 4, pos := "laws.go:34", after := #[{ on := 6, ground := Go.Ground.data }, { on := 15, ground := Go.Ground.data }], guard := none }) (v := ?_) rfl (by kernel_rfl) (by kernel_rfl) (by kernel_rfl) (fun _ _ _ h => h) (Or.inl ⟨by kernel_rfl, ?_⟩) hHeld ?_
    rotate_left
    · (intro w hSw; (try dsimp only at hSw); go_simp; try with_reducible rfl)
    try simp only [Act.put, List.setIfInBounds_toArray, List.set_cons_zero, List.set_cons_succ]
    refine wpAnyH_take (i := 17) (oi := { dst := some 4, op := Go.Op.assign (Go.Operand.tmp 26), type := 4, pos := "laws.go:34", after := #[{ on := 16, ground := Go.Ground.data }, { on := 15, ground := Go.Ground.chain }, { on := 0, ground := Go.Ground.phase }, { on := 1, ground := Go.Ground.phase }, { on := 2, ground := Go.Ground.phase }, { on := 3, ground := Go.Ground.phase }, { on := 4, ground := Go.Ground.phase }, { on := 5, ground := Go.Ground.phase }, { on := 6, ground := Go.Ground.phase }, { on := 7, ground := Go.Ground.phase }, { on := 8, ground := Go.Ground.phase }, { on := 9, ground := Go.Ground.phase }, { on := 10, ground := Go.Ground.phase }, { on := 11, ground := Go.Ground.phase }, { on := 12, ground := Go.Ground.phase }, { on := 13, ground := Go.Ground.phase }, { on := 14, ground := Go.Ground.phase }, { on := 15, ground := Go.Ground.phase }, { on := 16, ground := Go.Ground.phase }], guard := none }) (v := ?_) rfl (by kernel_rfl) (by kernel_rfl) (by kernel_rfl) (fun _ _ _ h => h) (Or.inl ⟨by kernel_rfl, ?_⟩) hHeld ?_
    rotate_left
    · (intro w hSw; (try dsimp only at hSw); go_simp; try with_reducible rfl)
    try simp only [Act.put, List.setIfInBounds_toArray, List.set_cons_zero, List.set_cons_succ]
    refine wpAnyH_done (by kernel_rfl) ?_ _
    have HB6 := Lib.hid (HBel.out _ hHeld)
    go_wp2_with fail
    go_ret
    exact ⟨rfl, by rw [HPE.out]; exact B1.out.trans ((HB5.out.trans (HB6.out.mono HB5.out.size)).mono (by rw [← HPE.out]; exact B1.out.size))⟩
#print axioms walk_FnReverseStableOfReversed
end Go.Proofs.Ytaifikhgijnkgaa
