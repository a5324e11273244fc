/- Contracts of impl.ReverseLess, impl.ReverseTwiceLess; the walk of laws.FnReverseLess. No conditions. -/
import Derived.Test.YtaifikhgijnkgaaRev
namespace Go.Proofs.Ytaifikhgijnkgaa
open Go.RowKit
set_option linter.unusedVariables false

theorem below1 (w : World) (A : Obj) : Below w.heap.size w (w.alloc A) := (Below.refl _ _).alloc (Nat.le_refl _) _
theorem cell_last (W : World) (B k : Nat) (hB : B = W.heap.size) (cs : Array Value) (t : TypeId) : (W.alloc (.cells cs t)).cell? ⟨B, k, none⟩ = cs[k]? := by
  subst hB
  simp
theorem size_two (w : World) (A B : Obj) : w.heap.size + 1 + 1 = ((w.alloc A).alloc B).heap.size := by simp
theorem size_one (w : World) (A : Obj) : w.heap.size + 1 = (w.alloc A).heap.size := by simp
theorem below2 (w : World) (A B : Obj) : Below w.heap.size w ((w.alloc A).alloc B) := (below1 w A).alloc (by simp) _

set_option maxHeartbeats 1000000 in
theorem impl_ReverseLess_no (a : Option Addr) (len cap : Nat) (n : Int) (ab : Option Addr) (lb cb : Nat) (i j : Int) (w : World) (h : insB len i j = false) :
    Calls Try.prog 61 #[.slice a len cap, .agg #[.int .i64 n, .slice ab lb cb], .int .i64 i, .int .i64 j] w fun e w' => e = .returned (.bool false) ∧ Below w.heap.size w w' := by
  go_enter Try.func61, Try.ntmps61
  go_wp2_with (go_at_call 90; refine (inside_impl_at _ _ _ _ _ h).mono ?_; rintro e w' ⟨rfl, rfl⟩)
  go_ret
  exact ⟨rfl, below1 _ _⟩

set_option maxHeartbeats 1000000 in
theorem impl_ReverseTwiceLess_no (a : Option Addr) (len cap : Nat) (n : Int) (ab : Option Addr) (lb cb : Nat) (i j : Int) (w : World) (h : insB len i j = false) :
    Calls Try.prog 62 #[.slice a len cap, .agg #[.int .i64 n, .slice ab lb cb], .int .i64 i, .int .i64 j] w fun e w' => e = .returned (.bool false) ∧ Below w.heap.size w w' := by
  go_enter Try.func62, Try.ntmps62
  go_wp2_with (go_at_call 90; refine (inside_impl_at _ _ _ _ _ h).mono ?_; rintro e w' ⟨rfl, rfl⟩)
  go_ret
  exact ⟨rfl, below1 _ _⟩

set_option maxHeartbeats 1000000 in
set_option maxRecDepth 100000 in
theorem impl_ReverseLess_yes (b off len cap i j : Nat) (xs : List It) (n : Int) (ab : Option Addr) (lb cb : Nat) (bs : List Bool) (w : World) (hi : i < len) (hj : j < len) (hl : len < 4611686018427387904)
    (hx : SlK 2 encIt w (some ⟨b, off, none⟩) len cap xs) (hs : Sl Value.bool w ab lb cb bs) :
    Calls Try.prog 61 #[.slice (some ⟨b, off, none⟩) len cap, .agg #[.int .i64 n, .slice ab lb cb], .int .i64 i, .int .i64 j] w fun e w' => e = .returned (.bool (bef n bs (el xs j).1 (el xs i).1)) ∧ Below w.heap.size w w' := by
  have h : insB len i j = true := by simp [insB]; omega
  have HX := Lib.hid hx
  have HS := Lib.hid hs
  clear hx hs
  have mR : ∀ A : Obj, Sem.run Try.prog (method 285 117 (.pointer (some ⟨w.heap.size + 1, 0, none⟩)) "Less") ((w.alloc A).alloc (.cells #[.iface 96 (dataV (some ⟨b, off, none⟩) len cap n ab lb cb)] 119)) = .ok (217, .agg #[.iface 96 (dataV (some ⟨b, off, none⟩) len cap n ab lb cb)]) ((w.alloc A).alloc (.cells #[.iface 96 (dataV (some ⟨b, off, none⟩) len cap n ab lb cb)] 119)) :=
    fun A => meth_rev_less _ _ _ _ (by simp)
  go_enter Try.func61, Try.ntmps61
  go_wp2_with (first
    | (go_at_call 90; refine (inside_impl_at _ _ _ _ _ h).mono ?_; rintro e w' ⟨rfl, rfl⟩)
    | (go_at_call 107; refine (sort_Reverse _ _ _ _ rfl).mono ?_; rintro e w' ⟨rfl, rfl⟩))
  refine (reverse_Less_data b off len cap i j xs n ab lb cb bs _ hi hj hl (HX.out.belowS (below2 w _ _)) (HS.out.below (below2 w _ _))).mono ?_
  rintro e w2 ⟨rfl, hb2⟩
  have HB := Lib.hid ((below2 w _ _).trans (hb2.mono (by simp; omega)))
  clear hb2 mR
  go_wp2_with fail
  go_ret
  exact ⟨rfl, HB.out⟩

set_option maxHeartbeats 1000000 in
set_option maxRecDepth 100000 in
theorem reverse_Less_rev (B b off len cap i j : Nat) (xs : List It) (n : Int) (ab : Option Addr) (lb cb : Nat) (bs : List Bool) (w : World) (hi : i < len) (hj : j < len) (hl : len < 4611686018427387904)
    (hx : SlK 2 encIt w (some ⟨b, off, none⟩) len cap xs) (hs : Sl Value.bool w ab lb cb bs) (hB : w.cell? ⟨B, 0, none⟩ = some (.iface 96 (dataV (some ⟨b, off, none⟩) len cap n ab lb cb))) :
    Calls Try.prog 217 #[.agg #[.iface 117 (.pointer (some ⟨B, 0, none⟩))], .int .i64 i, .int .i64 j] w fun e w' => e = .returned (.bool (bef n bs (el xs i).1 (el xs j).1)) ∧ Below w.heap.size w w' := by
  have HX := Lib.hid hx
  have HS := Lib.hid hs
  have mR : ∀ A : Obj, Sem.run Try.prog (method 285 117 (.pointer (some ⟨B, 0, none⟩)) "Less") (w.alloc A) = .ok (217, .agg #[.iface 96 (dataV (some ⟨b, off, none⟩) len cap n ab lb cb)]) (w.alloc A) :=
    fun A => meth_rev_less _ _ _ _ (by rw [(below1 w A).cell (p := ⟨B, 0, none⟩) (block_of_cell hB)]; exact hB)
  clear hx hs hB
  go_enter Try.func217, Try.ntmps217
  go_wp2_with fail
  refine (reverse_Less_data b off len cap j i xs n ab lb cb bs _ hj hi hl (HX.out.belowS (below1 w _)) (HS.out.below (below1 w _))).mono ?_
  rintro e w2 ⟨rfl, hb2⟩
  have HB := Lib.hid ((below1 w _).trans (hb2.mono (by simp)))
  clear hb2 mR
  go_wp2_with fail
  go_ret
  exact ⟨rfl, HB.out⟩

set_option maxHeartbeats 1000000 in
set_option maxRecDepth 100000 in
theorem impl_ReverseTwiceLess_yes (b off len cap i j : Nat) (xs : List It) (n : Int) (ab : Option Addr) (lb cb : Nat) (bs : List Bool) (w : World) (hi : i < len) (hj : j < len) (hl : len < 4611686018427387904)
    (hx : SlK 2 encIt w (some ⟨b, off, none⟩) len cap xs) (hs : Sl Value.bool w ab lb cb bs) :
    Calls Try.prog 62 #[.slice (some ⟨b, off, none⟩) len cap, .agg #[.int .i64 n, .slice ab lb cb], .int .i64 i, .int .i64 j] w fun e w' => e = .returned (.bool (bef n bs (el xs i).1 (el xs j).1)) ∧ Below w.heap.size w w' := by
  have h : insB len i j = true := by simp [insB]; omega
  have HX := Lib.hid hx
  have HS := Lib.hid hs
  clear hx hs
  have mR : ∀ A B : Obj, Sem.run Try.prog (method 285 117 (.pointer (some ⟨w.heap.size + 1 + 1, 0, none⟩)) "Less") (((w.alloc A).alloc B).alloc (.cells #[.iface 117 (.pointer (some ⟨w.heap.size + 1, 0, none⟩))] 119)) = .ok (217, .agg #[.iface 117 (.pointer (some ⟨w.heap.size + 1, 0, none⟩))]) (((w.alloc A).alloc B).alloc (.cells #[.iface 117 (.pointer (some ⟨w.heap.size + 1, 0, none⟩))] 119)) :=
    fun A B => meth_rev_less _ _ _ _ (by rw [cell_last _ _ _ (size_two w A B)]; rfl)
  go_enter Try.func62, Try.ntmps62
  go_wp2_with (first
    | (go_at_call 90; refine (inside_impl_at _ _ _ _ _ h).mono ?_; rintro e w' ⟨rfl, rfl⟩)
    | (go_at_call 107; refine (sort_Reverse _ _ _ _ rfl).mono ?_; rintro e w' ⟨rfl, rfl⟩))
  refine (reverse_Less_rev (w.heap.size + 1) b off len cap i j xs n ab lb cb bs _ hi hj hl (HX.out.belowS (below3 w _ _ _)) (HS.out.below (below3 w _ _ _)) (by rw [(below1 _ _).cell (p := ⟨w.heap.size + 1, 0, none⟩) (by rw [← size_two]; show w.heap.size + 1 < _; omega), cell_last _ _ _ (size_one w _)]; rfl)).mono ?_
  rintro e w2 ⟨rfl, hb2⟩
  have HB := Lib.hid ((below3 w _ _ _).trans (hb2.mono (by simp; omega)))
  clear hb2 mR
  go_wp2_with fail
  go_ret
  exact ⟨rfl, HB.out⟩
#print axioms impl_ReverseTwiceLess_yes
end Go.Proofs.Ytaifikhgijnkgaa
