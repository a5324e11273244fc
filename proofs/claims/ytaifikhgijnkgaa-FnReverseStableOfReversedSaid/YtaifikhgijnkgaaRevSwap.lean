/- Contracts of (impl.data).Swap, (impl.data).Len, impl.ReverseSwap, impl.ReverseLen. Conditions: the places lie inside. -/
import Derived.Test.YtaifikhgijnkgaaRevLess
import Derived.Test.YtaifikhgijnkgaaOwn2
import Derived.RegionTactic
import Derived.ChangeAlike
import Derived.BigRegion
namespace Go.Proofs.Ytaifikhgijnkgaa
open Go.RowKit
set_option linter.unusedVariables false

theorem data_Len (a : Option Addr) (len cap : Nat) (n : Int) (ab : Option Addr) (lb cb : Nat) (w : World) :
    Calls Try.prog 213 #[dataV a len cap n ab lb cb] w fun e w' => e = .returned (.int .i64 len) ∧ Below w.heap.size w w' := by
  unfold dataV
  go_enter Try.func213, Try.ntmps213
  go_wp2
  go_ret
  exact ⟨rfl, below1 _ _⟩

/-- The four stores of an exchange of two items. -/
def put4 (w : World) (g p q : Nat) (x y : It) : World :=
  (((w.setCell ⟨g, p, none⟩ (.int .i64 y.1)).setCell ⟨g, p + 1, none⟩ (.int .i64 y.2)).setCell ⟨g, q, none⟩ (.int .i64 x.1)).setCell ⟨g, q + 1, none⟩ (.int .i64 x.2)

set_option maxHeartbeats 4000000 in
set_option maxRecDepth 100000 in
theorem data_Swap (g len cap i j : Nat) (x y : It) (n : Int) (ab : Option Addr) (lb cb : Nat) (w : World) (hi : i < len) (hj : j < len) (hl : len < 4611686018427387904) (hg : g < w.heap.size)
    (i0 : w.cell? ⟨g, i * 2, none⟩ = some (.int .i64 x.1)) (i1 : w.cell? ⟨g, i * 2 + 1, none⟩ = some (.int .i64 x.2))
    (j0 : w.cell? ⟨g, j * 2, none⟩ = some (.int .i64 y.1)) (j1 : w.cell? ⟨g, j * 2 + 1, none⟩ = some (.int .i64 y.2)) (hf : ∀ k, w.frozen? ⟨g, k, none⟩ = false) :
    Calls Try.prog 215 #[dataV (some ⟨g, 0, none⟩) len cap n ab lb cb, .int .i64 i, .int .i64 j] w fun e w' => e = .returned (.tuple #[]) ∧ ∃ A q, w' = (put4 (w.alloc A) g (i * 2) (j * 2) x y).drewN q := by
  unfold dataV
  have hi' : (i : Int) < len := by omega
  have hj' : (j : Int) < len := by omega
  have k0 := ((below1 w (.cells #[.slice (some ⟨g, 0, none⟩) len cap, .int .i64 n, .slice ab lb cb] 96)).cell (p := ⟨g, i * 2, none⟩) hg).trans i0
  have k1 := ((below1 w (.cells #[.slice (some ⟨g, 0, none⟩) len cap, .int .i64 n, .slice ab lb cb] 96)).cell (p := ⟨g, i * 2 + 1, none⟩) hg).trans i1
  have k2 := ((below1 w (.cells #[.slice (some ⟨g, 0, none⟩) len cap, .int .i64 n, .slice ab lb cb] 96)).cell (p := ⟨g, j * 2, none⟩) hg).trans j0
  have k3 := ((below1 w (.cells #[.slice (some ⟨g, 0, none⟩) len cap, .int .i64 n, .slice ab lb cb] 96)).cell (p := ⟨g, j * 2 + 1, none⟩) hg).trans j1
  have c0 : (w.alloc (.cells #[.slice (some ⟨g, 0, none⟩) len cap, .int .i64 n, .slice ab lb cb] 96)).cell? ⟨w.heap.size, 0, none⟩ = some (.slice (some ⟨g, 0, none⟩) len cap) := by simp
  have f : ∀ k, (w.alloc (.cells #[.slice (some ⟨g, 0, none⟩) len cap, .int .i64 n, .slice ab lb cb] 96)).frozen? ⟨g, k, none⟩ = false := fun k => ((below1 w (.cells #[.slice (some ⟨g, 0, none⟩) len cap, .int .i64 n, .slice ab lb cb] 96)).frozen (p := ⟨g, k, none⟩) hg).trans (hf k)
  clear i0 i1 j0 j1 hf
  go_enter Try.func215, Try.ntmps215
  go_wp2
  have hA : ∃ A, w.alloc (.cells #[.slice (some ⟨g, 0, none⟩) len cap, .int .i64 n, .slice ab lb cb] 96) = w.alloc A := ⟨_, rfl⟩
  have HA := Lib.hid hA
  clear hA
  have hgz : (g = w.heap.size) = False := by simp; omega
  generalize w.alloc (.cells #[.slice (some ⟨g, 0, none⟩) len cap, .int .i64 n, .slice ab lb cb] 96) = w1 at *
  obtain ⟨v1, e1⟩ := cell?_setCell_some (w := w1) (p := ⟨g, i * 2, none⟩) (x := .int .i64 y.1) (q := ⟨g, j * 2, none⟩) k2
  obtain ⟨v2, e2⟩ := cell?_setCell_some (p := ⟨g, i * 2 + 1, none⟩) (x := .int .i64 y.2) (q := ⟨g, j * 2, none⟩) e1
  obtain ⟨v3, e3⟩ := cell?_setCell_some (w := w1) (p := ⟨g, i * 2, none⟩) (x := .int .i64 y.1) (q := ⟨g, j * 2 + 1, none⟩) k3
  obtain ⟨v4, e4⟩ := cell?_setCell_some (p := ⟨g, i * 2 + 1, none⟩) (x := .int .i64 y.2) (q := ⟨g, j * 2 + 1, none⟩) e3
  obtain ⟨v5, e5⟩ := cell?_setCell_some (p := ⟨g, j * 2, none⟩) (x := .int .i64 x.1) (q := ⟨g, j * 2 + 1, none⟩) e4
  clear e1 e3 e4
  go_region
  go_end0
  obtain ⟨A, hA⟩ := HA.out
  exact ⟨rfl, A, 1, by rw [← hA]; rfl⟩

theorem flat_set (xs : List It) (i : Nat) (x : It) : (xs.set i x).flatMap encIt = ((xs.flatMap encIt).set (i * 2) (.int .i64 x.1)).set (i * 2 + 1) (.int .i64 x.2) := by
  induction xs generalizing i with
  | nil => simp
  | cons y ys ih =>
    cases i with
    | zero => simp [encIt]
    | succ i =>
      have e1 : (i + 1) * 2 = i * 2 + 1 + 1 := by omega
      simp only [List.set_cons_succ, List.flatMap_cons, ih, e1]
      simp [encIt]

theorem Own.swap2 {e : TypeId} {w : World} {base g n cap : Nat} {xs : List It} (h : Own 2 encIt e w base (.slice (some ⟨g, 0, none⟩) n cap) xs) (hn : xs.length = n) (i j q : Nat) :
    Own 2 encIt e ((put4 w g (i * 2) (j * 2) (el xs i) (el xs j)).drewN q) base (.slice (some ⟨g, 0, none⟩) n cap) (swapL xs i j) := by
  unfold Own at *
  subst hn
  have h2 := ((((h.stored (i * 2) (.int .i64 (el xs j).1)).1.stored (i * 2 + 1) (.int .i64 (el xs j).2)).1.stored (j * 2) (.int .i64 (el xs i).1)).1.stored (j * 2 + 1) (.int .i64 (el xs i).2)).1
  rw [swapL_length]
  have e1 : (swapL xs i j).flatMap encIt = ((((xs.flatMap encIt).set (i * 2) (.int .i64 (el xs j).1)).set (i * 2 + 1) (.int .i64 (el xs j).2)).set (j * 2) (.int .i64 (el xs i).1)).set (j * 2 + 1) (.int .i64 (el xs i).2) := by
    unfold swapL; rw [flat_set, flat_set]
  rw [e1]
  exact h2

theorem put4_below {B : Nat} {w w1 : World} {g p q : Nat} {x y : It} (h : Below B w w1) (hg : B ≤ g) : Below B w (put4 w1 g p q x y) :=
  (((h.setCell (p := ⟨g, p, none⟩) hg _).setCell (p := ⟨g, p + 1, none⟩) hg _).setCell (p := ⟨g, q, none⟩) hg _).setCell (p := ⟨g, q + 1, none⟩) hg _

theorem Own.cells2 {e : TypeId} {w : World} {base g len cap : Nat} {xs : List It} (h : Own 2 encIt e w base (.slice (some ⟨g, 0, none⟩) len cap) xs) (hl : xs.length = len) (i : Nat) (hi : i < len) :
    w.cell? ⟨g, i * 2, none⟩ = some (.int .i64 (el xs i).1) ∧ w.cell? ⟨g, i * 2 + 1, none⟩ = some (.int .i64 (el xs i).2) := by
  unfold Own at h
  subst hl
  have h0 := flat_get 2 encIt (fun _ => rfl) xs i 0 hi (by omega)
  have h1 := flat_get 2 encIt (fun _ => rfl) xs i 1 hi (by omega)
  rw [h.cellAt (i * 2) (by omega), h.cellAt (i * 2 + 1) (by omega)]
  exact ⟨by simpa [encIt] using h0, by simpa [encIt] using h1⟩

theorem Try.info52 : (Try.prog.info? 52).map (fun i => (i.zero, i.size, i.bytes)) = some (some (.agg #[.int .i64 0, .int .i64 0]), 2, 16) := by kernel_rfl

/-- What impl.ReverseSwap gives. -/
def swappedIt (xs : List It) (i j : Int) : List It := if insB xs.length i j then swapL xs i.toNat j.toNat else xs

def GivesIt (w : World) (len : Nat) (xs : List It) (e : Ending) (w' : World) : Prop := ∃ a c, e = .returned (.slice a len c) ∧ Own 2 encIt 52 w' w.heap.size (.slice a len c) xs ∧ SlK 2 encIt w' a len c xs ∧ Below w.heap.size w w'

theorem gives_it {w w' : World} {a : Option Addr} {len c : Nat} {xs : List It} (h : Own 2 encIt 52 w' w.heap.size (.slice a len c) xs) (hl : xs.length = len) (hb : Below w.heap.size w w') : GivesIt w len xs (.returned (.slice a len c)) w' := by
  obtain ⟨a', c', hv, hs, _, _⟩ := Own.slk (C := 2) (encL := encIt) (fun _ => rfl) h
  rw [hl] at hv hs
  cases hv
  exact ⟨a, c, rfl, h, hs, hb⟩

theorem meth_rev_data_swap (B : Nat) (w : World) (D : Value) (h : w.cell? ⟨B, 0, none⟩ = some (.iface 96 D)) : Sem.run Try.prog (method 285 117 (.pointer (some ⟨B, 0, none⟩)) "Swap") w = .ok (215, D) w := by
  show Sem.run Try.prog (method (284 + 1) 117 _ "Swap") w = _
  rw [meth_rev "Swap" (.inl rfl) 284 B w 96 D h]
  exact meth_data_swap 283 D w
theorem meth_rev_data_len (B : Nat) (w : World) (D : Value) (h : w.cell? ⟨B, 0, none⟩ = some (.iface 96 D)) : Sem.run Try.prog (method 285 117 (.pointer (some ⟨B, 0, none⟩)) "Len") w = .ok (213, D) w := by
  show Sem.run Try.prog (method (284 + 1) 117 _ "Len") w = _
  rw [meth_rev "Len" (.inr rfl) 284 B w 96 D h]
  exact meth_data_len 283 D w

set_option maxHeartbeats 2000000 in
set_option maxRecDepth 100000 in
theorem impl_ReverseSwap (a : Option Addr) (len cap : Nat) (xs : List It) (n : Int) (ab : Option Addr) (lb cb : Nat) (i j : Int) (w : World) (hs : SlK 2 encIt w a len cap xs) (hb : len * 16 ≤ 140737488351232) :
    Calls Try.prog 59 #[.slice a len cap, .agg #[.int .i64 n, .slice ab lb cb], .int .i64 i, .int .i64 j] w (GivesIt w len (swappedIt xs i j)) := by
  have hlen := hs.1
  have hcap := hs.2.1
  have HL := Lib.hid hlen
  have HS := Lib.hid hs
  clear hlen hs
  cases h : insB len i j with
  | false =>
    go_enter Try.func59, Try.ntmps59
    go_wp2_with (first
      | (at_builtin; refine wpList_copy rfl _ _ 30 rfl 52 (.agg #[.int .i64 0, .int .i64 0]) 2 16 encIt Try.underlying30 Try.info52 rfl (by decide) (fun _ => rfl) (by simp [encIt, Value.oneCell']) rfl a len cap xs rfl (HS.out.belowS (below1 w _)) (by unfold maxLen; omega) (by omega) ?_; intro a' cap' w2 hown hbel)
      | (go_at_call 90; refine (inside_impl_at _ _ _ _ _ h).mono ?_; rintro e w' ⟨rfl, rfl⟩))
    go_ret
    have e1 : swappedIt xs i j = xs := by unfold swappedIt; rw [HL.out, h]; rfl
    rw [e1]
    exact gives_it (hown.base (by simp)) HL.out ((below1 w _).trans (hbel.mono (by simp)))
  | true =>
    obtain ⟨h1, h2, h3, h4⟩ := insB_true h
    obtain ⟨i, rfl⟩ := Int.eq_ofNat_of_zero_le h1
    obtain ⟨j, rfl⟩ := Int.eq_ofNat_of_zero_le h3
    go_enter Try.func59, Try.ntmps59
    go_wp2_with (first
      | (at_builtin; refine wpList_copy rfl _ _ 30 rfl 52 (.agg #[.int .i64 0, .int .i64 0]) 2 16 encIt Try.underlying30 Try.info52 rfl (by decide) (fun _ => rfl) (by simp [encIt, Value.oneCell']) rfl a len cap xs rfl (HS.out.belowS (below1 w _)) (by unfold maxLen; omega) (by omega) ?_; intro a' cap' w2 hown hbel)
      | fail)
    refine (inside_impl_at _ _ _ _ _ h).mono ?_
    rintro e w' ⟨rfl, rfl⟩
    obtain ⟨g, rfl, hgb, hgs, hfz, hxl⟩ := hown.at (by omega)
    have hz : w.heap.size < (w.alloc (.cells #[.int .i64 n, .slice ab lb cb] 33)).heap.size := by simp
    have c0 := (hbel.cell (p := ⟨w.heap.size, 0, none⟩) hz).trans (show (w.alloc (.cells #[.int .i64 n, .slice ab lb cb] 33)).cell? ⟨w.heap.size, 0, none⟩ = some (.int .i64 n) by simp)
    have c1 := (hbel.cell (p := ⟨w.heap.size, 1, none⟩) hz).trans (show (w.alloc (.cells #[.int .i64 n, .slice ab lb cb] 33)).cell? ⟨w.heap.size, 1, none⟩ = some (.slice ab lb cb) by simp)
    have HB := Lib.hid ((below1 w (.cells #[.int .i64 n, .slice ab lb cb] 33)).trans (hbel.mono (by simp)))
    have HO := Lib.hid (hown.base (show w.heap.size ≤ _ by simp))
    have HG := Lib.hid (show w.heap.size ≤ g by simp at hgb; omega)
    have HF := Lib.hid hfz
    have HX := Lib.hid hxl
    clear hown hbel hgb hfz hxl hz
    go_wp2_with fail
    refine (sort_Reverse _ _ _ _ rfl).mono ?_
    rintro e w' ⟨rfl, rfl⟩
    have mS := meth_rev_data_swap w2.heap.size (w2.alloc (.cells #[.iface 96 (dataV (some ⟨g, 0, none⟩) len cap' n ab lb cb)] 119)) (dataV (some ⟨g, 0, none⟩) len cap' n ab lb cb) (by simp)
    have B3 := Lib.hid (below1 w2 (.cells #[.iface 96 (dataV (some ⟨g, 0, none⟩) len cap' n ab lb cb)] 119))
    clear c0 c1
    generalize hw3 : w2.alloc (.cells #[.iface 96 (dataV (some ⟨g, 0, none⟩) len cap' n ab lb cb)] 119) = w3 at *
    have HW3 := Lib.hid hw3
    clear hw3
    go_wp2_with fail
    have ho3 := HO.out.below B3.out
    have ci := ho3.cells2 HX.out i (by omega)
    have cj := ho3.cells2 HX.out j (by omega)
    have hg3 : g < w3.heap.size := Nat.lt_of_lt_of_le hgs B3.out.size
    have hf3 : ∀ k, w3.frozen? ⟨g, k, none⟩ = false := fun k => (B3.out.frozen (p := ⟨g, k, none⟩) hgs).trans (HF.out k)
    refine (data_Swap g len cap' i j (el xs i) (el xs j) n ab lb cb w3 (by omega) (by omega) (by omega) hg3 ci.1 ci.2 cj.1 cj.2 hf3).mono ?_
    rintro e w4 ⟨rfl, A, q, rfl⟩
    have ho4 := (ho3.below (below1 w3 A)).swap2 HX.out i j q
    have hb4 : Below w.heap.size w ((put4 (w3.alloc A) g (i * 2) (j * 2) (el xs i) (el xs j)).drewN q) :=
      Below.drewN (put4_below (HB.out.trans ((B3.out.trans ((below1 w3 A).mono B3.out.size)).mono HB.out.size)) HG.out) q
    have HO4 := Lib.hid ho4
    have HB4 := Lib.hid hb4
    clear ho3 ci cj hg3 hf3 ho4 hb4 mS
    generalize (put4 (w3.alloc A) g (i * 2) (j * 2) (el xs i) (el xs j)).drewN q = w5 at *
    go_wp2_with fail
    go_ret
    have e1 : swappedIt xs i j = swapL xs i j := by unfold swappedIt; rw [HL.out, h]; rfl
    rw [e1]
    exact gives_it HO4.out (by rw [swapL_length]; exact HL.out) HB4.out

set_option maxHeartbeats 2000000 in
set_option maxRecDepth 100000 in
theorem impl_ReverseLen (a : Option Addr) (len cap : Nat) (n : Int) (ab : Option Addr) (lb cb : Nat) (w : World) :
    Calls Try.prog 60 #[.slice a len cap, .agg #[.int .i64 n, .slice ab lb cb]] w fun e w' => e = .returned (.int .i64 len) ∧ Below w.heap.size w w' := by
  go_enter Try.func60, Try.ntmps60
  go_wp2_with fail
  refine (sort_Reverse _ _ _ _ rfl).mono ?_
  rintro e w' ⟨rfl, rfl⟩
  have mS := meth_rev_data_len (w.heap.size + 1) ((w.alloc (.cells #[.int .i64 n, .slice ab lb cb] 33)).alloc (.cells #[.iface 96 (dataV a len cap n ab lb cb)] 119)) (dataV a len cap n ab lb cb) (by simp)
  have B3 := Lib.hid (below2 w (.cells #[.int .i64 n, .slice ab lb cb] 33) (.cells #[.iface 96 (dataV a len cap n ab lb cb)] 119))
  have hsz : ((w.alloc (.cells #[.int .i64 n, .slice ab lb cb] 33)).alloc (.cells #[.iface 96 (dataV a len cap n ab lb cb)] 119)).heap.size = w.heap.size + 1 + 1 := by simp
  go_wp2_with fail
  refine (data_Len a len cap n ab lb cb _).mono ?_
  rintro e w4 ⟨rfl, hb4⟩
  have HB := Lib.hid (B3.out.trans (hb4.mono B3.out.size))
  clear hb4 mS hsz
  go_wp2_with fail
  go_ret
  exact ⟨rfl, HB.out⟩
#print axioms impl_ReverseSwap
#print axioms impl_ReverseLen
end Go.Proofs.Ytaifikhgijnkgaa
