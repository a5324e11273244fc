/- Contracts of the closures impl.SliceIsSorted$1 and impl.Slice$1; of sort.SliceIsSorted and impl.SliceIsSorted. Conditions: the places lie inside. -/
import Derived.Test.YtaifikhgijnkgaaLawKit
import Derived.Test.YtaifikhgijnkgaaSorted
import Derived.Lib.ReflectliteSwap
import Derived.Laws.Externs
import Derived.BigCall
import Derived.BigGuard
namespace Go.Proofs.Ytaifikhgijnkgaa
open Go.RowKit
set_option linter.unusedVariables false

/-- The cells that the closure reads. -/
abbrev SCl (PO : Nat) (n : Int) (t : Value) (PS : Nat) (s : Value) (p : Addr) (x : It) (q : Addr) (y : It) (w5 w' : World) : Prop :=
  w'.cell? ⟨PO, 0, none⟩ = some (.int .i64 n) ∧ w'.cell? ⟨PO, 1, none⟩ = some t ∧ w'.cell? ⟨PS, 0, none⟩ = some s ∧ w'.cell? ⟨p.block, p.off, none⟩ = some (.int .i64 x.1) ∧ w'.cell? ⟨p.block, p.off + 1, none⟩ = some (.int .i64 x.2) ∧ w'.cell? ⟨q.block, q.off, none⟩ = some (.int .i64 y.1) ∧ w'.cell? ⟨q.block, q.off + 1, none⟩ = some (.int .i64 y.2) ∧ Below w5.heap.size w5 w'
theorem SCl.below {PO : Nat} {n : Int} {t : Value} {PS : Nat} {s : Value} {p : Addr} {x : It} {q : Addr} {y : It} {w5 W : World} (h : SCl PO n t PS s p x q y w5 W) : Below w5.heap.size w5 W := h.2.2.2.2.2.2.2
theorem SCl.keep {PO : Nat} {n : Int} {t : Value} {PS : Nat} {s : Value} {p : Addr} {x : It} {q : Addr} {y : It} {w5 W W' : World} (h : SCl PO n t PS s p x q y w5 W) (hb : Below W.heap.size W W') : SCl PO n t PS s p x q y w5 W' := by
  obtain ⟨h0, h1, h2, h3, h4, h5, h6, h9⟩ := h
  have k : ∀ {p : Addr} {v : Value}, p.spot = none → W.cell? p = some v → W'.cell? p = some v := fun {p v} hp hv => (hb.cell (p := p) (by obtain ⟨b, o, s⟩ := p; subst hp; exact block_of_cell hv)).trans hv
  exact ⟨k rfl h0, k rfl h1, k rfl h2, k rfl h3, k rfl h4, k rfl h5, k rfl h6, h9.trans (hb.mono h9.size)⟩


set_option maxHeartbeats 4000000 in
set_option maxRecDepth 100000 in
theorem less97 (PO PS b off len cap i j : Nat) (xs : List It) (nn : Int) (ab : Option Addr) (lb cb : Nat) (bs : List Bool) (w : World) (hi : i < len) (hj : j < len) (hl : len < 4611686018427387904)
    (hO : Box2 PO nn (.slice ab lb cb) w) (hP : w.cell? ⟨PS, 0, none⟩ = some (.slice (some ⟨b, off, none⟩) len cap)) (hx : SlK 2 encIt w (some ⟨b, off, none⟩) len cap xs) (hs : Sl Value.bool w ab lb cb bs) :
    Calls Try.prog 97 #[.int .i64 i, .int .i64 j, .pointer (some ⟨PO, 0, none⟩), .pointer (some ⟨PS, 0, none⟩)] w fun e w' => e = .returned (.bool (sbef nn bs false (el xs i) (el xs j))) ∧ Below w.heap.size w w' := by
  have hi' : (i : Int) < len := by omega
  have hj' : (j : Int) < len := by omega
  obtain ⟨o0, o1⟩ := hO
  obtain ⟨_, _, e1, _, c0, c1⟩ := hx.itAt i hi
  obtain ⟨_, _, e2, _, d0, d1⟩ := hx.itAt j hj
  cases e1
  cases e2
  have HT := Lib.hid hs
  have HKeep := Lib.hid (show ∀ W W', SCl PO nn (.slice ab lb cb) PS (.slice (some ⟨b, off, none⟩) len cap) ⟨b, off + i * 2, none⟩ (el xs i) ⟨b, off + j * 2, none⟩ (el xs j) w W → Below W.heap.size W W' → SCl PO nn (.slice ab lb cb) PS (.slice (some ⟨b, off, none⟩) len cap) ⟨b, off + i * 2, none⟩ (el xs i) ⟨b, off + j * 2, none⟩ (el xs j) w W' from fun W W' h hb => h.keep hb)
  have HBel := Lib.hid (show ∀ W, SCl PO nn (.slice ab lb cb) PS (.slice (some ⟨b, off, none⟩) len cap) ⟨b, off + i * 2, none⟩ (el xs i) ⟨b, off + j * 2, none⟩ (el xs j) w W → Below w.heap.size w W from fun W h => h.below)
  clear hs hx
  go_enter Try.func97, Try.ntmps97
  go_wp2
  refine wp_region_held_drew (S := (fun w' => w'.cell? ⟨PO, 0, none⟩ = some (.int .i64 nn) ∧ w'.cell? ⟨PO, 1, none⟩ = some (.slice ab lb cb) ∧ w'.cell? ⟨PS, 0, none⟩ = some (.slice (some ⟨b, off, none⟩) len cap) ∧ w'.cell? ⟨b, off + i * 2, none⟩ = some (.int .i64 (el xs i).1) ∧ w'.cell? ⟨b, off + i * 2 + 1, none⟩ = some (.int .i64 (el xs i).2) ∧ w'.cell? ⟨b, off + j * 2, none⟩ = some (.int .i64 (el xs j).1) ∧ w'.cell? ⟨b, off + j * 2 + 1, none⟩ = some (.int .i64 (el xs j).2) ∧ Below w.heap.size w w')) (by kernel_rfl) (⟨o0, o1, hP, c0, c1, d0, d1, (Below.refl _ _).drew⟩) (fun hHeld => ?_)
  try dsimp only at hHeld
  refine wpAnyH_take (i := 0) (oi := { dst := some 7, op := Go.Op.load 33 (Go.Operand.tmp 2), type := 33, pos := "impl.go:62", after := #[], guard := none }) (v := ?_) rfl (by kernel_rfl) (by kernel_rfl) (by kernel_rfl) (fun _ _ _ h => h) (Or.inl ⟨by kernel_rfl, ?_⟩) hHeld ?_
  rotate_left
  · (intro w hSw; (try dsimp only at hSw); go_simp; try with_reducible rfl)
  try simp only [Act.put, List.setIfInBounds_toArray, List.set_cons_zero, List.set_cons_succ]
  refine wpAnyH_take (i := 1) (oi := { dst := some 8, op := Go.Op.load 30 (Go.Operand.tmp 3), type := 30, pos := "impl.go:62", after := #[], guard := none }) (v := ?_) rfl (by kernel_rfl) (by kernel_rfl) (by kernel_rfl) (fun _ _ _ h => h) (Or.inl ⟨by kernel_rfl, ?_⟩) hHeld ?_
  rotate_left
  · (intro w hSw; (try dsimp only at hSw); go_simp; try with_reducible rfl)
  try simp only [Act.put, List.setIfInBounds_toArray, List.set_cons_zero, List.set_cons_succ]
  refine wpAnyH_take (i := 2) (oi := { dst := some 9, op := Go.Op.move (Go.Operand.tmp 0), type := 3, pos := "impl.go:62", after := #[], guard := none }) (v := ?_) rfl (by kernel_rfl) (by kernel_rfl) (by kernel_rfl) (fun _ _ _ h => h) (Or.inl ⟨by kernel_rfl, ?_⟩) hHeld ?_
  rotate_left
  · (intro w hSw; (try dsimp only at hSw); go_simp; try with_reducible rfl)
  try simp only [Act.put, List.setIfInBounds_toArray, List.set_cons_zero, List.set_cons_succ]
  refine wpAnyH_take (i := 3) (oi := { dst := some 10, op := Go.Op.indexAddr 30 (Go.Operand.tmp 8) (Go.Operand.tmp 9), type := 0, pos := "impl.go:62", after := #[{ on := 1, ground := Go.Ground.data }, { on := 2, ground := Go.Ground.data }], guard := none }) (v := ?_) rfl (by kernel_rfl) (by kernel_rfl) (by kernel_rfl) (fun _ _ _ h => h) (Or.inl ⟨by kernel_rfl, ?_⟩) hHeld ?_
  rotate_left
  · (intro w hSw; (try dsimp only at hSw); go_simp; try with_reducible rfl)
  try simp only [Act.put, List.setIfInBounds_toArray, List.set_cons_zero, List.set_cons_succ]
  refine wpAnyH_take (i := 4) (oi := { dst := some 11, op := Go.Op.load 52 (Go.Operand.tmp 10), type := 52, pos := "impl.go:62", after := #[{ on := 3, ground := Go.Ground.data }], guard := none }) (v := ?_) rfl (by kernel_rfl) (by kernel_rfl) (by kernel_rfl) (fun _ _ _ h => h) (Or.inl ⟨by kernel_rfl, ?_⟩) hHeld ?_
  rotate_left
  · (intro w hSw; (try dsimp only at hSw); go_simp; try with_reducible rfl)
  try simp only [Act.put, List.setIfInBounds_toArray, List.set_cons_zero, List.set_cons_succ]
  refine wpAnyH_take (i := 5) (oi := { dst := some 12, op := Go.Op.load 30 (Go.Operand.tmp 3), type := 30, pos := "impl.go:62", after := #[], guard := none }) (v := ?_) rfl (by kernel_rfl) (by kernel_rfl) (by kernel_rfl) (fun _ _ _ h => h) (Or.inl ⟨by kernel_rfl, ?_⟩) hHeld ?_
  rotate_left
  · (intro w hSw; (try dsimp only at hSw); go_simp; try with_reducible rfl)
  try simp only [Act.put, List.setIfInBounds_toArray, List.set_cons_zero, List.set_cons_succ]
  refine wpAnyH_take (i := 6) (oi := { dst := some 13, op := Go.Op.move (Go.Operand.tmp 1), type := 3, pos := "impl.go:62", after := #[], guard := none }) (v := ?_) rfl (by kernel_rfl) (by kernel_rfl) (by kernel_rfl) (fun _ _ _ h => h) (Or.inl ⟨by kernel_rfl, ?_⟩) hHeld ?_
  rotate_left
  · (intro w hSw; (try dsimp only at hSw); go_simp; try with_reducible rfl)
  try simp only [Act.put, List.setIfInBounds_toArray, List.set_cons_zero, List.set_cons_succ]
  refine wpAnyH_take (i := 7) (oi := { dst := some 14, op := Go.Op.indexAddr 30 (Go.Operand.tmp 12) (Go.Operand.tmp 13), type := 0, pos := "impl.go:62", after := #[{ on := 5, ground := Go.Ground.data }, { on := 6, ground := Go.Ground.data }], guard := none }) (v := ?_) rfl (by kernel_rfl) (by kernel_rfl) (by kernel_rfl) (fun _ _ _ h => h) (Or.inl ⟨by kernel_rfl, ?_⟩) hHeld ?_
  rotate_left
  · (intro w hSw; (try dsimp only at hSw); go_simp; try with_reducible rfl)
  try simp only [Act.put, List.setIfInBounds_toArray, List.set_cons_zero, List.set_cons_succ]
  refine wpAnyH_take (i := 8) (oi := { dst := some 15, op := Go.Op.load 52 (Go.Operand.tmp 14), type := 52, pos := "impl.go:62", after := #[{ on := 7, ground := Go.Ground.data }], guard := none }) (v := ?_) rfl (by kernel_rfl) (by kernel_rfl) (by kernel_rfl) (fun _ _ _ h => h) (Or.inl ⟨by kernel_rfl, ?_⟩) hHeld ?_
  rotate_left
  · (intro w hSw; (try dsimp only at hSw); go_simp; try with_reducible rfl)
  try simp only [Act.put, List.setIfInBounds_toArray, List.set_cons_zero, List.set_cons_succ]
  refine wpAnyH_ready (rs := [9]) (by kernel_rfl) (by simp) ?_
  refine AllReadyH.cons (o := { dst := some 16, op := Go.Op.call { callee := Go.Callee.value (Go.Operand.func 95), args := #[Go.Operand.tmp 7, Go.Operand.tmp 11, Go.Operand.tmp 15], argTypes := #[33, 52, 52] }, type := 4, pos := "impl.go:62", after := #[{ on := 0, ground := Go.Ground.data }, { on := 4, ground := Go.Ground.data }, { on := 8, ground := Go.Ground.data }], guard := none }) rfl (fun K hK => ?_) AllReadyH.nil
  go_simp
  refine (impl_before nn ab lb cb bs (el xs i) (el xs j) _ (HT.out.below (HBel.out _ hHeld))).mono ?_
  rintro e w1 ⟨rfl, hb1⟩
  have hS' := HKeep.out _ _ hHeld hb1
  try go_wp2_with fail
  refine hK.out _ _ hS' (fun hHeld => ?_)
  try dsimp only at hHeld
  clear hK K
  try simp only [Act.put, List.setIfInBounds_toArray, List.set_cons_zero, List.set_cons_succ]
  refine wpAnyH_take (i := 10) (oi := { dst := some 6, op := Go.Op.assign (Go.Operand.tmp 16), type := 4, pos := "impl.go:62", after := #[{ on := 9, ground := Go.Ground.data }, { on := 9, ground := Go.Ground.chain }, { on := 0, ground := Go.Ground.phase }, { on := 1, ground := Go.Ground.phase }, { on := 2, ground := Go.Ground.phase }, { on := 3, ground := Go.Ground.phase }, { on := 4, ground := Go.Ground.phase }, { on := 5, ground := Go.Ground.phase }, { on := 6, ground := Go.Ground.phase }, { on := 7, ground := Go.Ground.phase }, { on := 8, ground := Go.Ground.phase }, { on := 9, ground := Go.Ground.phase }], guard := none }) (v := ?_) rfl (by kernel_rfl) (by kernel_rfl) (by kernel_rfl) (fun _ _ _ h => h) (Or.inl ⟨by kernel_rfl, ?_⟩) hHeld ?_
  rotate_left
  · (intro w hSw; (try dsimp only at hSw); go_simp; try with_reducible rfl)
  try simp only [Act.put, List.setIfInBounds_toArray, List.set_cons_zero, List.set_cons_succ]
  refine wpAnyH_done (by kernel_rfl) ?_ _
  have HB := Lib.hid (HBel.out _ hHeld)
  go_wp2_with fail
  go_ret
  exact ⟨rfl, HB.out⟩

set_option maxHeartbeats 4000000 in
set_option maxRecDepth 100000 in
theorem less94 (PO PS b off len cap i j : Nat) (xs : List It) (nn : Int) (ab : Option Addr) (lb cb : Nat) (bs : List Bool) (w : World) (hi : i < len) (hj : j < len) (hl : len < 4611686018427387904)
    (hO : Box2 PO nn (.slice ab lb cb) w) (hP : w.cell? ⟨PS, 0, none⟩ = some (.slice (some ⟨b, off, none⟩) len cap)) (hx : SlK 2 encIt w (some ⟨b, off, none⟩) len cap xs) (hs : Sl Value.bool w ab lb cb bs) :
    Calls Try.prog 94 #[.int .i64 i, .int .i64 j, .pointer (some ⟨PO, 0, none⟩), .pointer (some ⟨PS, 0, none⟩)] w fun e w' => e = .returned (.bool (sbef nn bs false (el xs i) (el xs j))) ∧ Below w.heap.size w w' := by
  have hi' : (i : Int) < len := by omega
  have hj' : (j : Int) < len := by omega
  obtain ⟨o0, o1⟩ := hO
  obtain ⟨_, _, e1, _, c0, c1⟩ := hx.itAt i hi
  obtain ⟨_, _, e2, _, d0, d1⟩ := hx.itAt j hj
  cases e1
  cases e2
  have HT := Lib.hid hs
  have HKeep := Lib.hid (show ∀ W W', SCl PO nn (.slice ab lb cb) PS (.slice (some ⟨b, off, none⟩) len cap) ⟨b, off + i * 2, none⟩ (el xs i) ⟨b, off + j * 2, none⟩ (el xs j) w W → Below W.heap.size W W' → SCl PO nn (.slice ab lb cb) PS (.slice (some ⟨b, off, none⟩) len cap) ⟨b, off + i * 2, none⟩ (el xs i) ⟨b, off + j * 2, none⟩ (el xs j) w W' from fun W W' h hb => h.keep hb)
  have HBel := Lib.hid (show ∀ W, SCl PO nn (.slice ab lb cb) PS (.slice (some ⟨b, off, none⟩) len cap) ⟨b, off + i * 2, none⟩ (el xs i) ⟨b, off + j * 2, none⟩ (el xs j) w W → Below w.heap.size w W from fun W h => h.below)
  clear hs hx
  go_enter Try.func94, Try.ntmps94
  go_wp2
  refine wp_region_held_drew (S := (fun w' => w'.cell? ⟨PO, 0, none⟩ = some (.int .i64 nn) ∧ w'.cell? ⟨PO, 1, none⟩ = some (.slice ab lb cb) ∧ w'.cell? ⟨PS, 0, none⟩ = some (.slice (some ⟨b, off, none⟩) len cap) ∧ w'.cell? ⟨b, off + i * 2, none⟩ = some (.int .i64 (el xs i).1) ∧ w'.cell? ⟨b, off + i * 2 + 1, none⟩ = some (.int .i64 (el xs i).2) ∧ w'.cell? ⟨b, off + j * 2, none⟩ = some (.int .i64 (el xs j).1) ∧ w'.cell? ⟨b, off + j * 2 + 1, none⟩ = some (.int .i64 (el xs j).2) ∧ Below w.heap.size w w')) (by kernel_rfl) (⟨o0, o1, hP, c0, c1, d0, d1, (Below.refl _ _).drew⟩) (fun hHeld => ?_)
  try dsimp only at hHeld
  refine wpAnyH_take (i := 0) (oi := { dst := some 7, op := Go.Op.load 33 (Go.Operand.tmp 2), type := 33, pos := "impl.go:56", after := #[], guard := none }) (v := ?_) rfl (by kernel_rfl) (by kernel_rfl) (by kernel_rfl) (fun _ _ _ h => h) (Or.inl ⟨by kernel_rfl, ?_⟩) hHeld ?_
  rotate_left
  · (intro w hSw; (try dsimp only at hSw); go_simp; try with_reducible rfl)
  try simp only [Act.put, List.setIfInBounds_toArray, List.set_cons_zero, List.set_cons_succ]
  refine wpAnyH_take (i := 1) (oi := { dst := some 8, op := Go.Op.load 30 (Go.Operand.tmp 3), type := 30, pos := "impl.go:56", after := #[], guard := none }) (v := ?_) rfl (by kernel_rfl) (by kernel_rfl) (by kernel_rfl) (fun _ _ _ h => h) (Or.inl ⟨by kernel_rfl, ?_⟩) hHeld ?_
  rotate_left
  · (intro w hSw; (try dsimp only at hSw); go_simp; try with_reducible rfl)
  try simp only [Act.put, List.setIfInBounds_toArray, List.set_cons_zero, List.set_cons_succ]
  refine wpAnyH_take (i := 2) (oi := { dst := some 9, op := Go.Op.move (Go.Operand.tmp 0), type := 3, pos := "impl.go:56", after := #[], guard := none }) (v := ?_) rfl (by kernel_rfl) (by kernel_rfl) (by kernel_rfl) (fun _ _ _ h => h) (Or.inl ⟨by kernel_rfl, ?_⟩) hHeld ?_
  rotate_left
  · (intro w hSw; (try dsimp only at hSw); go_simp; try with_reducible rfl)
  try simp only [Act.put, List.setIfInBounds_toArray, List.set_cons_zero, List.set_cons_succ]
  refine wpAnyH_take (i := 3) (oi := { dst := some 10, op := Go.Op.indexAddr 30 (Go.Operand.tmp 8) (Go.Operand.tmp 9), type := 0, pos := "impl.go:56", after := #[{ on := 1, ground := Go.Ground.data }, { on := 2, ground := Go.Ground.data }], guard := none }) (v := ?_) rfl (by kernel_rfl) (by kernel_rfl) (by kernel_rfl) (fun _ _ _ h => h) (Or.inl ⟨by kernel_rfl, ?_⟩) hHeld ?_
  rotate_left
  · (intro w hSw; (try dsimp only at hSw); go_simp; try with_reducible rfl)
  try simp only [Act.put, List.setIfInBounds_toArray, List.set_cons_zero, List.set_cons_succ]
  refine wpAnyH_take (i := 4) (oi := { dst := some 11, op := Go.Op.load 52 (Go.Operand.tmp 10), type := 52, pos := "impl.go:56", after := #[{ on := 3, ground := Go.Ground.data }], guard := none }) (v := ?_) rfl (by kernel_rfl) (by kernel_rfl) (by kernel_rfl) (fun _ _ _ h => h) (Or.inl ⟨by kernel_rfl, ?_⟩) hHeld ?_
  rotate_left
  · (intro w hSw; (try dsimp only at hSw); go_simp; try with_reducible rfl)
  try simp only [Act.put, List.setIfInBounds_toArray, List.set_cons_zero, List.set_cons_succ]
  refine wpAnyH_take (i := 5) (oi := { dst := some 12, op := Go.Op.load 30 (Go.Operand.tmp 3), type := 30, pos := "impl.go:56", after := #[], guard := none }) (v := ?_) rfl (by kernel_rfl) (by kernel_rfl) (by kernel_rfl) (fun _ _ _ h => h) (Or.inl ⟨by kernel_rfl, ?_⟩) hHeld ?_
  rotate_left
  · (intro w hSw; (try dsimp only at hSw); go_simp; try with_reducible rfl)
  try simp only [Act.put, List.setIfInBounds_toArray, List.set_cons_zero, List.set_cons_succ]
  refine wpAnyH_take (i := 6) (oi := { dst := some 13, op := Go.Op.move (Go.Operand.tmp 1), type := 3, pos := "impl.go:56", after := #[], guard := none }) (v := ?_) rfl (by kernel_rfl) (by kernel_rfl) (by kernel_rfl) (fun _ _ _ h => h) (Or.inl ⟨by kernel_rfl, ?_⟩) hHeld ?_
  rotate_left
  · (intro w hSw; (try dsimp only at hSw); go_simp; try with_reducible rfl)
  try simp only [Act.put, List.setIfInBounds_toArray, List.set_cons_zero, List.set_cons_succ]
  refine wpAnyH_take (i := 7) (oi := { dst := some 14, op := Go.Op.indexAddr 30 (Go.Operand.tmp 12) (Go.Operand.tmp 13), type := 0, pos := "impl.go:56", after := #[{ on := 5, ground := Go.Ground.data }, { on := 6, ground := Go.Ground.data }], guard := none }) (v := ?_) rfl (by kernel_rfl) (by kernel_rfl) (by kernel_rfl) (fun _ _ _ h => h) (Or.inl ⟨by kernel_rfl, ?_⟩) hHeld ?_
  rotate_left
  · (intro w hSw; (try dsimp only at hSw); go_simp; try with_reducible rfl)
  try simp only [Act.put, List.setIfInBounds_toArray, List.set_cons_zero, List.set_cons_succ]
  refine wpAnyH_take (i := 8) (oi := { dst := some 15, op := Go.Op.load 52 (Go.Operand.tmp 14), type := 52, pos := "impl.go:56", after := #[{ on := 7, ground := Go.Ground.data }], guard := none }) (v := ?_) rfl (by kernel_rfl) (by kernel_rfl) (by kernel_rfl) (fun _ _ _ h => h) (Or.inl ⟨by kernel_rfl, ?_⟩) hHeld ?_
  rotate_left
  · (intro w hSw; (try dsimp only at hSw); go_simp; try with_reducible rfl)
  try simp only [Act.put, List.setIfInBounds_toArray, List.set_cons_zero, List.set_cons_succ]
  refine wpAnyH_ready (rs := [9]) (by kernel_rfl) (by simp) ?_
  refine AllReadyH.cons (o := { dst := some 16, op := Go.Op.call { callee := Go.Callee.value (Go.Operand.func 95), args := #[Go.Operand.tmp 7, Go.Operand.tmp 11, Go.Operand.tmp 15], argTypes := #[33, 52, 52] }, type := 4, pos := "impl.go:56", after := #[{ on := 0, ground := Go.Ground.data }, { on := 4, ground := Go.Ground.data }, { on := 8, ground := Go.Ground.data }], guard := none }) rfl (fun K hK => ?_) AllReadyH.nil
  go_simp
  refine (impl_before nn ab lb cb bs (el xs i) (el xs j) _ (HT.out.below (HBel.out _ hHeld))).mono ?_
  rintro e w1 ⟨rfl, hb1⟩
  have hS' := HKeep.out _ _ hHeld hb1
  try go_wp2_with fail
  refine hK.out _ _ hS' (fun hHeld => ?_)
  try dsimp only at hHeld
  clear hK K
  try simp only [Act.put, List.setIfInBounds_toArray, List.set_cons_zero, List.set_cons_succ]
  refine wpAnyH_take (i := 10) (oi := { dst := some 6, op := Go.Op.assign (Go.Operand.tmp 16), type := 4, pos := "impl.go:56", after := #[{ on := 9, ground := Go.Ground.data }, { on := 9, ground := Go.Ground.chain }, { on := 0, ground := Go.Ground.phase }, { on := 1, ground := Go.Ground.phase }, { on := 2, ground := Go.Ground.phase }, { on := 3, ground := Go.Ground.phase }, { on := 4, ground := Go.Ground.phase }, { on := 5, ground := Go.Ground.phase }, { on := 6, ground := Go.Ground.phase }, { on := 7, ground := Go.Ground.phase }, { on := 8, ground := Go.Ground.phase }, { on := 9, ground := Go.Ground.phase }], guard := none }) (v := ?_) rfl (by kernel_rfl) (by kernel_rfl) (by kernel_rfl) (fun _ _ _ h => h) (Or.inl ⟨by kernel_rfl, ?_⟩) hHeld ?_
  rotate_left
  · (intro w hSw; (try dsimp only at hSw); go_simp; try with_reducible rfl)
  try simp only [Act.put, List.setIfInBounds_toArray, List.set_cons_zero, List.set_cons_succ]
  refine wpAnyH_done (by kernel_rfl) ?_ _
  have HB := Lib.hid (HBel.out _ hHeld)
  go_wp2_with fail
  go_ret
  exact ⟨rfl, HB.out⟩

theorem Try.slice30 : ∃ i, Try.prog.info? 30 = some i ∧ i.desc = .slice 52 := by
  have h : (Try.prog.info? 30).map (·.desc) = some (.slice 52) := by kernel_rfl
  cases hi : Try.prog.info? 30 with
  | none => rw [hi] at h; cases h
  | some i => rw [hi] at h; exact ⟨i, rfl, by simpa using h⟩
theorem Try.globs : Try.prog.globals.size = 1 := by kernel_rfl
theorem Try.packed30 : Try.prog.packed 30 = false := by kernel_rfl

set_option maxHeartbeats 2000000 in
set_option maxRecDepth 100000 in
theorem sort_SliceIsSorted (PO PS : Nat) (a : Option Addr) (len cap : Nat) (xs : List It) (nn : Int) (ab : Option Addr) (lb cb : Nat) (bs : List Bool) (w : World) (hl : len < 4611686018427387904)
    (hO : Box2 PO nn (.slice ab lb cb) w) (hP : w.cell? ⟨PS, 0, none⟩ = some (.slice a len cap)) (hx : SlK 2 encIt w a len cap xs) (hs : Sl Value.bool w ab lb cb bs) :
    Calls Try.prog 96 #[.iface 30 (.slice a len cap), .func (.func 97) #[] #[.pointer (some ⟨PO, 0, none⟩), .pointer (some ⟨PS, 0, none⟩)]] w fun e w' => e = .returned (.bool (adjB (sbef nn bs false) xs)) ∧ Below w.heap.size w w' := by
  obtain ⟨i0, hi0, hd0⟩ := Try.slice30
  have hv := Lib.run_valueOf_slice (P := Try.prog) 30 52 i0 hi0 hd0 a len cap w
  have hlen := fun ad w ha => Lib.run_valueLen_slice (P := Try.prog) 30 52 i0 hi0 hd0 Try.packed30 ad a len cap w ha
  simp only [typeHandle, Try.globs] at hv hlen
  have HXL := Lib.hid hx.1
  have HI := Lib.hid (show ∀ W, Below w.heap.size w W → Box2 PO nn (.slice ab lb cb) W ∧ W.cell? ⟨PS, 0, none⟩ = some (.slice a len cap) ∧ SlK 2 encIt W a len cap xs ∧ Sl Value.bool W ab lb cb bs from fun W h => ⟨hO.keep h, (h.cell (p := ⟨PS, 0, none⟩) (block_of_cell hP)).trans hP, hx.belowS h, hs.below h⟩)
  clear hO hP hx hs
  go_enter Try.func96, Try.ntmps96
  go_wp2
  rw [run_callFunc_extern Try.func119 (by kernel_rfl) (by kernel_rfl) (by kernel_rfl) (e := fun args => Extern.ReflectliteValue.unpack (args.getD 0 (.tuple #[]))) (by kernel_rfl),
    show Sem.run Try.prog ((fun args : Array Value => Extern.ReflectliteValue.unpack (args.getD 0 (.tuple #[]))) #[.iface 30 (.slice a len cap)]) w = _ from hv]
  simp only [Result.andThen]
  rw [Oper.upon_value]
  go_wp2
  rw [run_callFunc_extern Try.func121 (by kernel_rfl) (by kernel_rfl) (by kernel_rfl) (e := Extern.ReflectliteValue.method (Extern.ReflectliteValue.valueError "reflectlite.Value.Len" 0) Extern.ReflectliteValue.len) (by kernel_rfl),
    hlen _ _ (by simp)]
  simp only [Result.andThen]
  rw [Oper.upon_value]
  have B2 := Lib.hid (below2 w (.cells #[.slice a len cap] 30) (.cells #[.pointer (some ⟨1, 30, none⟩), .pointer (some ⟨w.heap.size, 0, none⟩), .int .u64 151] 107))
  clear hv hlen
  generalize ((w.alloc (.cells #[.slice a len cap] 30)).alloc (.cells #[.pointer (some ⟨1, 30, none⟩), .pointer (some ⟨w.heap.size, 0, none⟩), .int .u64 151] 107)) = w2 at *
  go_wp2
  go_loopg [7] len (fun k s wr => s = .int .i64 ((k : Int) - 1) ∧ k ≤ len ∧ Below w.heap.size w wr ∧ Hid (∀ t, k ≤ t → t < len → 0 < t → sbef nn bs false (el xs t) (el xs (t - 1)) = false))
  case atStart => exact ⟨rfl, Nat.le_refl _, B2.out, fun t h1 h2 => by omega⟩
  case round =>
    obtain ⟨rfl, hk, hbw, HK⟩ := hrel
    have HBW := Lib.hid hbw
    clear hbw B2
    by_cases hk2 : 2 ≤ gk
    · have hpos : decide ((0 : Int) < (gk : Int) - 1) = true := decide_eq_true (by omega)
      have hpz : (0 : Int) < (gk : Int) - 1 := by omega
      obtain ⟨q1, q2, q3, q4⟩ := HI.out _ HBW.out
      obtain ⟨b, off, rfl, _, _, _⟩ := q3.itAt 0 (by omega)
      have hL := less97 PO PS b off len cap (gk - 1) (gk - 2) xs nn ab lb cb bs _ (by omega) (by omega) hl q1 q2 q3 q4
      rw [show ((gk - 1 : Nat) : Int) = (gk : Int) - 1 by omega, show ((gk - 2 : Nat) : Int) = (gk : Int) - 1 - 1 by omega] at hL
      have HLs := Lib.hid hL
      clear hL q1 q2 q3 q4
      go_wp2_with fail
      refine HLs.out.mono ?_
      rintro e w3 ⟨rfl, hb3⟩
      have HB3 := Lib.hid (HBW.out.trans (hb3.mono HBW.out.size))
      clear hb3
      cases hv : sbef nn bs false (el xs (gk - 1)) (el xs (gk - 2)) with
      | true =>
        have HF := Lib.hid (show adjB (sbef nn bs false) xs = false by
          cases hc : adjB (sbef nn bs false) xs
          · rfl
          · have := (adjB_iff (sbef nn bs false) xs).1 hc (gk - 1) (by omega) (by rw [HXL.out]; omega)
            rw [show gk - 1 - 1 = gk - 2 by omega, hv] at this; cases this)
        go_wp2_with fail
        go_ret
        exact ⟨by rw [HF.out]; rfl, HB3.out⟩
      | false =>
        have HV := Lib.hid hv
        go_wp2_with fail
        go_roundg (gk - 1)
        case measure => omega
        case rel =>
          refine ⟨by congr 1; omega, by omega, HB3.out, ?_⟩
          intro t h1 h2 h3
          by_cases ht : t = gk - 1
          · subst ht; rw [show gk - 1 - 1 = gk - 2 by omega]; exact HV.out
          · exact HK.out t (by omega) h2 h3
    · have hpz : ¬ (0 : Int) < (gk : Int) - 1 := by omega
      have HF := Lib.hid (show adjB (sbef nn bs false) xs = true from (adjB_iff (sbef nn bs false) xs).2 fun i h0 hi => HK.out i (by omega) (by rw [HXL.out] at hi; exact hi) h0)
      go_wp2_with fail
      go_ret
      exact ⟨by rw [HF.out]; rfl, HBW.out⟩

set_option maxHeartbeats 2000000 in
set_option maxRecDepth 100000 in
theorem impl_SliceIsSorted (a : Option Addr) (len cap : Nat) (xs : List It) (nn : Int) (ab : Option Addr) (lb cb : Nat) (bs : List Bool) (w : World) (hs : SlK 2 encIt w a len cap xs) (hl : len < 4611686018427387904) (ho : Sl Value.bool w ab lb cb bs) :
    Calls Try.prog 48 #[.slice a len cap, .agg #[.int .i64 nn, .slice ab lb cb]] w fun e w' => e = .returned (.bool (adjB (sbef nn bs false) xs)) ∧ Below w.heap.size w w' := by
  have B2 := below2 w (.cells #[.slice a len cap] 30) (.cells #[.int .i64 nn, .slice ab lb cb] 33)
  have HB2 := Lib.hid B2
  have hC := sort_SliceIsSorted (w.heap.size + 1) w.heap.size a len cap xs nn ab lb cb bs ((w.alloc (.cells #[.slice a len cap] 30)).alloc (.cells #[.int .i64 nn, .slice ab lb cb] 33)) hl
    ⟨by rw [cell_last _ _ _ (size_one w _)]; rfl, by rw [cell_last _ _ _ (size_one w _)]; rfl⟩
    (by rw [(below1 (w.alloc (.cells #[.slice a len cap] 30)) (.cells #[.int .i64 nn, .slice ab lb cb] 33)).cell (p := ⟨w.heap.size, 0, none⟩) (by simp)]; simp)
    (hs.belowS B2) (ho.below B2)
  have HC := Lib.hid hC
  clear hC B2 hs ho
  go_enter Try.func48, Try.ntmps48
  go_wp2_with fail
  refine HC.out.mono ?_
  rintro e w3 ⟨rfl, hb3⟩
  have HB3 := Lib.hid (HB2.out.trans (hb3.mono HB2.out.size))
  clear hb3
  go_wp2_with fail
  go_ret
  exact ⟨rfl, HB3.out⟩
#print axioms impl_SliceIsSorted
#print axioms less97
#print axioms less94
end Go.Proofs.Ytaifikhgijnkgaa
