/- Contracts of sort.Reverse, (impl.data).Less, (sort.reverse).Less, impl.ReverseLess, impl.ReverseTwiceLess. Conditions: the places lie inside. -/
import Derived.Test.YtaifikhgijnkgaaOrder
import Derived.StillTailTactics
namespace Go.Proofs.Ytaifikhgijnkgaa
open Go.RowKit
set_option linter.unusedVariables false

theorem sort_Reverse (v : Value) (w : World) (t : TypeId) (u : Value) (hv : v = .iface t u) :
    Calls Try.prog 107 #[v] w fun e w' => e = .returned (.iface 117 (.pointer (some ⟨w.heap.size, 0, none⟩))) ∧ w' = w.alloc (.cells #[v] 119) := by
  subst hv
  go_enter Try.func107, Try.ntmps107
  go_wp2
  go_ret
  exact ⟨rfl, rfl⟩

set_option maxHeartbeats 1000000 in
set_option maxRecDepth 100000 in
theorem data_Less (b off len cap i j : Nat) (xs : List It) (n : Int) (ab : Option Addr) (lb cb : Nat) (bs : List Bool) (w : World) (hi : i < len) (hj : j < len) (hl : len < 4611686018427387904) (hb : b < w.heap.size)
    (ci : ∀ k, k < 2 → w.cell? ⟨b, off + i * 2 + k, none⟩ = (encIt (el xs i))[k]?) (cj : ∀ k, k < 2 → w.cell? ⟨b, off + j * 2 + k, none⟩ = (encIt (el xs j))[k]?) (hs : Sl Value.bool w ab lb cb bs) :
    Calls Try.prog 214 #[.agg #[.slice (some ⟨b, off, none⟩) len cap, .int .i64 n, .slice ab lb cb], .int .i64 i, .int .i64 j] w fun e w' => e = .returned (.bool (bef n bs (el xs i).1 (el xs j).1)) ∧ Below w.heap.size w w' := by
  have i0 : w.cell? ⟨b, off + i * 2, none⟩ = some (.int .i64 (el xs i).1) := by simpa [encIt] using ci 0 (by omega)
  have i1 : w.cell? ⟨b, off + i * 2 + 1, none⟩ = some (.int .i64 (el xs i).2) := by simpa [encIt] using ci 1 (by omega)
  have j0 : w.cell? ⟨b, off + j * 2, none⟩ = some (.int .i64 (el xs j).1) := by simpa [encIt] using cj 0 (by omega)
  have j1 : w.cell? ⟨b, off + j * 2 + 1, none⟩ = some (.int .i64 (el xs j).2) := by simpa [encIt] using cj 1 (by omega)
  have hi' : (i : Int) < len := by omega
  have hj' : (j : Int) < len := by omega
  have HS := Lib.hid hs
  clear hs ci cj
  generalize el xs i = x at *
  generalize el xs j = y at *
  have b1 : ∀ A : Obj, Below w.heap.size w (w.alloc A) := fun A => (Below.refl _ _).alloc (Nat.le_refl _) _
  have k0 : ∀ A : Obj, (w.alloc A).cell? ⟨b, off + i * 2, none⟩ = some (.int .i64 x.1) := fun A => by rw [(b1 A).cell (p := ⟨b, off + i * 2, none⟩) hb]; exact i0
  have k1 : ∀ A : Obj, (w.alloc A).cell? ⟨b, off + i * 2 + 1, none⟩ = some (.int .i64 x.2) := fun A => by rw [(b1 A).cell (p := ⟨b, off + i * 2 + 1, none⟩) hb]; exact i1
  have k2 : ∀ A : Obj, (w.alloc A).cell? ⟨b, off + j * 2, none⟩ = some (.int .i64 y.1) := fun A => by rw [(b1 A).cell (p := ⟨b, off + j * 2, none⟩) hb]; exact j0
  have k3 : ∀ A : Obj, (w.alloc A).cell? ⟨b, off + j * 2 + 1, none⟩ = some (.int .i64 y.2) := fun A => by rw [(b1 A).cell (p := ⟨b, off + j * 2 + 1, none⟩) hb]; exact j1
  have h0 : ∀ p q r : Value, (w.alloc (.cells #[p, q, r] 96)).cell? ⟨w.heap.size, 0, none⟩ = some p := fun p q r => by simp
  have h1 : ∀ p q r : Value, (w.alloc (.cells #[p, q, r] 96)).cell? ⟨w.heap.size, 1, none⟩ = some q := fun p q r => by simp
  have h2 : ∀ p q r : Value, (w.alloc (.cells #[p, q, r] 96)).cell? ⟨w.heap.size, 2, none⟩ = some r := fun p q r => by simp
  have B1 := Lib.hid (b1 (.cells #[.slice (some ⟨b, off, none⟩) len cap, .int .i64 n, .slice ab lb cb] 96))
  have k0 := k0 (.cells #[.slice (some ⟨b, off, none⟩) len cap, .int .i64 n, .slice ab lb cb] 96)
  have k1 := k1 (.cells #[.slice (some ⟨b, off, none⟩) len cap, .int .i64 n, .slice ab lb cb] 96)
  have k2 := k2 (.cells #[.slice (some ⟨b, off, none⟩) len cap, .int .i64 n, .slice ab lb cb] 96)
  have k3 := k3 (.cells #[.slice (some ⟨b, off, none⟩) len cap, .int .i64 n, .slice ab lb cb] 96)
  have h0 := h0 (.slice (some ⟨b, off, none⟩) len cap) (.int .i64 n) (.slice ab lb cb)
  have h1 := h1 (.slice (some ⟨b, off, none⟩) len cap) (.int .i64 n) (.slice ab lb cb)
  have h2 := h2 (.slice (some ⟨b, off, none⟩) len cap) (.int .i64 n) (.slice ab lb cb)
  clear b1 i0 i1 j0 j1
  go_enter Try.func214, Try.ntmps214
  go_wp2
  generalize w.alloc (.cells #[.slice (some ⟨b, off, none⟩) len cap, .int .i64 n, .slice ab lb cb] 96) = w1 at *
  go_still_tail 12, (by kernel_rfl)
  change wpList _ _ _ _ _ w1.drew
  have B2 := Lib.hid (Below.drew B1.out)
  clear k0 k1 k2 k3 h0 h1 h2
  generalize w1.drew = w2 at *
  go_wp2_with (go_at_call 95; refine (impl_before n ab lb cb bs x y w2 (HS.out.below B2.out)).mono ?_; rintro e w3 ⟨rfl, hb3⟩)
  go_ret
  exact ⟨rfl, B2.out.trans (hb3.mono B2.out.size)⟩

/-! ### The methods of an interface value: how they are found -/
theorem nilchk_some (a : Addr) (s m : String) (w : World) : (Builtin.ssaWrapNilChk_ #[117] 117 #[.pointer (some a), strVal s, strVal m]).run Try.prog w = .ok (.pointer (some a)) w := rfl
theorem meth_rev_less0 (fuel : Nat) (v : Value) (w : World) : (method (fuel + 1) 117 v "Less").run Try.prog w = (do let r ← receiverAt 117 (.val v) false (some (("Less".splitOn ".").getLastD "Less")); pure (217, r) : Sem (FuncId × Value)).run Try.prog w := by kernel_rfl
theorem meth_rev0 (name : String) (hn : name = "Swap" ∨ name = "Len") (fuel : Nat) (v : Value) (w : World) : (method (fuel + 1) 117 v name).run Try.prog w = (do
      let (xt, x) ← follow [{ struct := 119, index := 0, deref := true }] 117 (.val v)
      match ← x.get xt with
      | .iface t' v' => method fuel t' v' name
      | .nilIface => runtimePanic .nilDeref
      | _ => stuck "method row: interface value expected" : Sem (FuncId × Value)).run Try.prog w := by
  rcases hn with rfl | rfl
  · kernel_rfl
  · kernel_rfl
theorem meth_rev_less (fuel B : Nat) (w : World) (v : Value) (h : w.cell? ⟨B, 0, none⟩ = some v) : (method (fuel + 1) 117 (.pointer (some ⟨B, 0, none⟩)) "Less").run Try.prog w = .ok (217, .agg #[v]) w := by
  rw [meth_rev_less0]
  simp [receiverAt, run_underlying Try.underlying117, Place.get, nilchk_some, asAddr, go_sem, h]
theorem meth_rev (name : String) (hn : name = "Swap" ∨ name = "Len") (fuel B : Nat) (w : World) (t : TypeId) (v : Value) (h : w.cell? ⟨B, 0, none⟩ = some (.iface t v)) : (method (fuel + 1) 117 (.pointer (some ⟨B, 0, none⟩)) name).run Try.prog w = (method fuel t v name).run Try.prog w := by
  rw [meth_rev0 name hn]
  simp [follow, run_underlying Try.underlying119, Place.get, fieldPlace, asAddr, go_sem, h]

theorem meth_data_less (fuel : Nat) (rv : Value) (w : World) : (method (fuel + 1) 96 rv "Less").run Try.prog w = .ok (214, rv) w := by kernel_rfl
theorem meth_data_swap (fuel : Nat) (rv : Value) (w : World) : (method (fuel + 1) 96 rv "Swap").run Try.prog w = .ok (215, rv) w := by kernel_rfl
theorem meth_data_len (fuel : Nat) (rv : Value) (w : World) : (method (fuel + 1) 96 rv "Len").run Try.prog w = .ok (213, rv) w := by kernel_rfl

/-- The value of type impl.data. -/
abbrev dataV (a : Option Addr) (len cap : Nat) (n : Int) (ab : Option Addr) (lb cb : Nat) : Value := .agg #[.slice a len cap, .int .i64 n, .slice ab lb cb]

set_option maxHeartbeats 1000000 in
set_option maxRecDepth 100000 in
theorem reverse_Less_data (b off len cap i j : Nat) (xs : List It) (n : Int) (ab : Option Addr) (lb cb : Nat) (bs : List Bool) (w : World) (hi : i < len) (hj : j < len) (hl : len < 4611686018427387904)
    (hx : SlK 2 encIt w (some ⟨b, off, none⟩) len cap xs) (hs : Sl Value.bool w ab lb cb bs) :
    Calls Try.prog 217 #[.agg #[.iface 96 (dataV (some ⟨b, off, none⟩) len cap n ab lb cb)], .int .i64 i, .int .i64 j] w fun e w' => e = .returned (.bool (bef n bs (el xs j).1 (el xs i).1)) ∧ Below w.heap.size w w' := by
  have mL : ∀ w, Sem.run Try.prog (method 285 96 (dataV (some ⟨b, off, none⟩) len cap n ab lb cb) "Less") w = .ok (214, dataV (some ⟨b, off, none⟩) len cap n ab lb cb) w := fun w => meth_data_less _ _ _
  have hb1 : ∀ A : Obj, Below w.heap.size w (w.alloc A) := fun A => (Below.refl _ _).alloc (Nat.le_refl _) _
  have hc : ∀ A : Obj, Calls Try.prog 214 #[dataV (some ⟨b, off, none⟩) len cap n ab lb cb, .int .i64 j, .int .i64 i] (w.alloc A) fun e w' => e = .returned (.bool (bef n bs (el xs j).1 (el xs i).1)) ∧ Below (w.alloc A).heap.size (w.alloc A) w' := fun A => by
    obtain ⟨_, _, _, h4⟩ := hx.belowS (hb1 A)
    rcases h4 with h4 | ⟨b', off', ha, hb, hc⟩
    · omega
    · cases ha
      exact data_Less b off len cap j i xs n ab lb cb bs (w.alloc A) hj hi hl hb (fun k hk => hc j hj k hk) (fun k hk => hc i hi k hk) (hs.below (hb1 A))
  have HC := Lib.hid hc
  have HB := Lib.hid hb1
  clear hc hb1 hx hs
  go_enter Try.func217, Try.ntmps217
  go_wp2_with (go_at_call 214; refine (HC.out _).mono ?_; rintro e w2 ⟨rfl, hb2⟩)
  go_ret
  exact ⟨rfl, (HB.out _).trans (hb2.mono (by simp))⟩
#print axioms reverse_Less_data
#print axioms data_Less
end Go.Proofs.Ytaifikhgijnkgaa
