/- Contracts of (sort.IntSlice).Sort and impl.IntSort; the walk of laws.FnIntSort. No conditions. -/
import Derived.Test.YtaifikhgijnkgaaRow
import Derived.Test.YtaifikhgijnkgaaSelZ
namespace Go.Proofs.Ytaifikhgijnkgaa
open Go.RowKit
open Go.Sort hiding Below
set_option linter.unusedVariables false

def zLt (x y : Int) : Bool := decide (x < y)
theorem zLt_swo : SWO zLt := ⟨fun x => by simp [zLt], fun x y z h1 h2 => by simp [zLt] at *; omega, fun x y z h1 h2 => by simp [zLt] at *; omega⟩

theorem meth_int_less (fuel : Nat) (rv : Value) (w : World) : (method (fuel + 1) 76 rv "Less").run Try.prog w = .ok (91, rv) w := by kernel_rfl
theorem meth_int_swap (fuel : Nat) (rv : Value) (w : World) : (method (fuel + 1) 76 rv "Swap").run Try.prog w = .ok (98, rv) w := by kernel_rfl
theorem meth_int_len (fuel : Nat) (rv : Value) (w : World) : (method (fuel + 1) 76 rv "Len").run Try.prog w = .ok (89, rv) w := by kernel_rfl

theorem intSlice_Len (a : Option Addr) (n cap : Nat) (w : World) : Calls Try.prog 89 #[.slice a n cap] w fun e w' => e = .returned (.int .i64 n) ∧ Below w.heap.size w w' := by
  go_enter Try.func89, Try.ntmps89
  go_wp2
  go_ret
  exact ⟨rfl, Below.refl _ _⟩

theorem face_int (base B g n cap : Nat) (xs : List Int) (hgB : g < B) (hl : xs.length = n) (hn : n < 4611686018427387904) :
    Face zLt (StR 1 (fun x => [Value.int .i64 x]) 3 base B g n cap xs (fun _ => True)) B g n 76 (.slice (some ⟨g, 0, none⟩) n cap) 91 (.slice (some ⟨g, 0, none⟩) n cap) 98 (.slice (some ⟨g, 0, none⟩) n cap) where
  toBase := StR.base hgB hl (fun _ _ _ _ _ => trivial)
  findL := fun _ => meth_int_less 284 _ _
  findS := fun _ => meth_int_swap 284 _ _
  enterL := enters_try Try.func91 (by kernel_rfl) rfl
  enterS := enters_try Try.func98 (by kernel_rfl) rfl
  less := fun {dk w} i j h hi hj => by
    have hd := h.len hl
    refine (intLess g 0 n cap i j dk.toList w hi hj hn (by rw [Nat.zero_add]; exact h.own.cell1 hd i hi) (by rw [Nat.zero_add]; exact h.own.cell1 hd j hj)).mono ?_
    rintro e w' ⟨rfl, q, rfl⟩
    exact ⟨by rw [bang_el, bang_el]; rfl, Below.drewN (Below.refl _ _) q⟩
  swap := fun {dk w} i j h hi hj => by
    have hd := h.len hl
    refine (intSlice_Swap g n cap i j _ _ w hi hj hn (h.own.cell1 hd i hi) (h.own.cell1 hd j hj) (h.own.fz hd i) (h.own.fz hd j)).mono ?_
    rintro e w' ⟨rfl, q, rfl⟩
    exact ⟨rfl, h.swap1 hl i j q hi hj⟩

theorem Sort_int (a : Option Addr) (n cap base : Nat) (xs : List Int) (w : World) (ho : Own 1 encZ 3 w base (.slice a n cap) xs) (hl : xs.length = n) (hbase : base ≤ w.heap.size) (hn : n < 4611686018427387904) :
    Calls Try.prog 109 #[.iface 76 (.slice a n cap)] w fun r w' => r = .returned (.tuple #[]) ∧ ∃ O, Own 1 encZ 3 w' base (.slice a n cap) O ∧ O.Perm xs ∧ O.Pairwise (fun x y => zLt y x = false) ∧ Below base w w' :=
  Sort_row1 zLt_swo 76 91 98 89 face_int (fun v w => meth_int_len 284 v w) (enters_try Try.func89 (by kernel_rfl) rfl) intSlice_Len a n cap base xs w ho hl hbase hn

set_option maxHeartbeats 1000000 in
theorem intSlice_Sort (a : Option Addr) (n cap base : Nat) (xs : List Int) (w : World) (ho : Own 1 encZ 3 w base (.slice a n cap) xs) (hl : xs.length = n) (hbase : base ≤ w.heap.size) (hn : n < 4611686018427387904) :
    Calls Try.prog 113 #[.slice a n cap] w fun r w' => r = .returned (.tuple #[]) ∧ ∃ O, Own 1 encZ 3 w' base (.slice a n cap) O ∧ O.Perm xs ∧ O.Pairwise (fun x y => zLt y x = false) ∧ Below base w w' := by
  have HC := Lib.hid (Sort_int a n cap base xs w ho hl hbase hn)
  clear ho hl
  go_enter Try.func113, Try.ntmps113
  go_wp2_with fail
  refine HC.out.mono ?_
  rintro e w1 ⟨rfl, h⟩
  have H := Lib.hid h
  clear h
  go_wp2_with fail
  go_end0
  exact ⟨rfl, H.out⟩

set_option maxHeartbeats 1000000 in
theorem impl_IntSort (a : Option Addr) (len cap : Nat) (xs : List Int) (w : World) (hs : Sl (Value.int .i64) w a len cap xs) (hb : len * 8 ≤ 140737488351232) :
    Calls Try.prog 79 #[.slice a len cap] w (GivesSel (Value.int .i64) 3 (· ≤ ·) w len xs) := by
  have hlen := hs.1
  have hcap := hs.2.1
  have HK := Lib.hid hs.slk
  have HL := Lib.hid hlen
  clear hs hlen
  go_enter Try.func79, Try.ntmps79
  go_wp2_with (first
    | (at_builtin; refine wpList_copy rfl _ _ 22 rfl 3 (.int .i64 0) 1 8 encZ Try.underlying22 Try.info3 rfl (by decide) (fun _ => rfl) (by simp [Value.oneCell']) rfl a len cap xs rfl HK.out (by unfold maxLen; omega) (by omega) ?_; intro a' cap' w1 hown hbel)
    | fail)
  have HC := Lib.hid (intSlice_Sort a' len cap' w.heap.size xs w1 hown HL.out hbel.size (by omega))
  have HB := Lib.hid hbel
  clear hown hbel
  refine HC.out.mono ?_
  rintro e w2 ⟨rfl, O, ho, hp, hso, hb2⟩
  have H := Lib.hid (And.intro ho (And.intro hp (And.intro hso hb2)))
  clear ho hp hso hb2
  go_wp2_with fail
  go_ret
  obtain ⟨ho, hp, hso, hb2⟩ := H.out
  have hOl : O.length = len := by rw [hp.length_eq]; exact HL.out
  obtain ⟨a2, c2, hv, hsl, _, _⟩ := ho.sl
  rw [hOl] at hv hsl
  cases hv
  exact ⟨_, _, O, rfl, hsl, ho, hp, hso.imp fun h => by simp [zLt] at h; omega, HB.out.trans hb2⟩

theorem sorted_unique {α : Type} {le : α → α → Prop} (anti : ∀ a b, le a b → le b a → a = b) {xs ys : List α} (hp : xs.Perm ys) (hx : xs.Pairwise le) (hy : ys.Pairwise le) : xs = ys :=
  hp.eq_of_pairwise (fun a b _ _ h1 h2 => anti a b h1 h2) hx hy

set_option maxHeartbeats 1000000 in
theorem walk_FnIntSort (a0 : Option Addr) (len0 cap0 : Nat) (x0 : List Int) (w : World)
    (s0 : Sl (Value.int .i64) w a0 len0 cap0 x0) (g0 : ∀ x ∈ x0, (Lit.int .i64 x).wf = true) (b0 : cap0 * 8 ≤ 140737488351232) :
    Calls Try.prog 24 #[.slice a0 len0 cap0] w (Good w) := by
  have hcap := s0.2.1
  have HS := Lib.hid s0
  have HC := Lib.hid (impl_IntSort a0 len0 cap0 x0 w s0 (by omega))
  clear s0 g0
  go_enter Try.func24, Try.ntmps24
  go_wp2_with fail
  refine HC.out.mono ?_
  rintro e w1 ⟨a1, c1, O1, rfl, hs1, ho1, hp1, hpw1, hb1⟩
  have HC2 := Lib.hid (spec_IntSort a0 len0 cap0 x0 w1 (HS.out.below hb1) (by omega))
  have H1 := Lib.hid (And.intro hs1 (And.intro hp1 (And.intro hpw1 hb1)))
  clear hs1 ho1 hp1 hpw1 hb1
  go_wp2_with fail
  refine HC2.out.mono ?_
  rintro e w2 ⟨a2, c2, O2, rfl, hs2, ho2, hp2, hpw2, hb2⟩
  obtain ⟨hs1, hp1, hpw1, hb1⟩ := H1.out
  have heq : O1 = O2 := sorted_unique (fun a b h1 h2 => by omega) (hp1.trans hp2.symm) hpw1 hpw2
  have HE := Lib.hid (equal_int_true a1 len0 c1 O1 a2 len0 c2 w2 (hs1.below hb2) (by rw [heq]; exact hs2) (by omega))
  have HB := Lib.hid (hb1.trans (hb2.mono hb1.size))
  clear hs1 hp1 hpw1 hb1 H1 hs2 ho2 hp2 hpw2 hb2 heq
  go_wp2_with fail
  refine HE.out.mono ?_
  rintro e w3 ⟨rfl, q, rfl⟩
  go_wp2_with fail
  go_ret
  exact ⟨rfl, Below.drewN HB.out q⟩
#print axioms walk_FnIntSort
end Go.Proofs.Ytaifikhgijnkgaa
