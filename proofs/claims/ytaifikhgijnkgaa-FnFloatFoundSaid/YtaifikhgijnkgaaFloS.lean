/- Contracts of slices.Sort[float64], sort.Float64s and impl.Float64s; the walks of laws.FnFloat64s and laws.FnFloat64sBits. No conditions. -/
import Derived.Test.YtaifikhgijnkgaaFoPdq
import Derived.Test.YtaifikhgijnkgaaFloSort
namespace Go.Proofs.Ytaifikhgijnkgaa
open Go.RowKit
open Go.Sort hiding Below
set_option linter.unusedVariables false

theorem face_ord (base B g n cap : Nat) (xs : List Nat) (hgB : g < B) (hl : xs.length = n) :
    OFace (StR 1 (fun x => [Value.float .f64 x]) 89 base B g n cap xs (fun _ => True)) B g n where
  toBase := StR.base hgB hl (fun _ _ _ _ _ => trivial)
  cell := fun {dk w} h i hi => by
    have hd := h.len hl
    show w.cell? ⟨g, i, none⟩ = some (.float .f64 dk[i]!)
    rw [bang_el]
    exact h.own.cell1 hd i hi
  fz := fun {dk w} h i => h.own.fz (h.len hl) i
  swap := fun {dk w} h i j hi hj => by
    show StR 1 (fun x => [Value.float .f64 x]) 89 base B g n cap xs (fun _ => True) (swp dk i j) ((w.setCell ⟨g, i, none⟩ (.float .f64 dk[j]!)).setCell ⟨g, j, none⟩ (.float .f64 dk[i]!))
    rw [bang_el, bang_el]
    exact (h.swap1 hl i j 0 hi hj).1

set_option maxHeartbeats 1000000 in
set_option maxRecDepth 100000 in
theorem fo_ins_tiny (v : Value) (n : Nat) (hn : n ≤ 1) (w : World) : Calls Try.prog 171 #[v, .int .i64 0, .int .i64 n] w fun e w' => e = .returned (.tuple #[]) ∧ w' = w := by
  have hnz : ¬ (1 : Int) < (n : Int) := by omega
  go_enter Try.func171, Try.ntmps171
  go_wp2
  go_loopw [6] (fun v wr => v = .int .i64 1 ∧ wr = w) (fun _ _ => 0)
  case atStart => exact ⟨by go_num, rfl⟩
  case round =>
    obtain ⟨rfl, rfl⟩ := hrel
    go_wp2
    go_end0
    exact ⟨rfl, rfl⟩

set_option maxHeartbeats 1000000 in
set_option maxRecDepth 100000 in
theorem fo_pdq_tiny (v : Value) (n : Nat) (hn : n ≤ 1) (lim : Int) (w : World) : Calls Try.prog 153 #[v, .int .i64 0, .int .i64 n, .int .i64 lim] w fun e w' => e = .returned (.tuple #[]) ∧ w' = w := by
  have hnz : (n : Int) ≤ 12 := by omega
  go_enter Try.func153, Try.ntmps153
  go_wp2
  refine wp_loop_rounds 1 ?_
  rw [rounds_succ]
  go_wp2_with fail
  refine (fo_ins_tiny v n hn w).mono ?_
  rintro e w2 ⟨rfl, rfl⟩
  go_wp2_with fail
  (try simp only [Exit.inBlock, Exit.then]); refine bodyPost_ret (results_none rfl _ _ _) rfl ?_
  exact ⟨rfl, rfl⟩

/-- What a sort of floats in place does. -/
def SortsF (a : Option Addr) (n cap base : Nat) (xs : List Nat) (w : World) (r : Ending) (w' : World) : Prop := r = .returned (.tuple #[]) ∧ ∃ O, Own 1 encF 89 w' base (.slice a n cap) O ∧ O.Perm xs ∧ O.Pairwise (fun x y => fLt y x = false) ∧ Below base w w'

theorem pdq_floats (a : Option Addr) (n cap base : Nat) (xs : List Nat) (w : World) (ho : Own 1 encF 89 w base (.slice a n cap) xs) (hl : xs.length = n) (hbase : base ≤ w.heap.size) (hn : n < 4611686018427387904) :
    Calls Try.prog 153 #[.slice a n cap, .int .i64 0, .int .i64 n, .int .i64 (bitsLen n)] w (SortsF a n cap base xs w) := by
  by_cases h1 : n ≤ 1
  · refine (fo_pdq_tiny _ n h1 _ w).mono ?_
    rintro r w' ⟨rfl, rfl⟩
    refine ⟨rfl, xs, ho, List.Perm.refl _, ?_, Below.refl _ _⟩
    match xs, hl with
    | [], _ => exact List.Pairwise.nil
    | [x], _ => exact List.pairwise_singleton _ _
    | x :: y :: t, hl => simp at hl; omega
  · obtain ⟨g, rfl, hgb, hgs, hfz, hxl⟩ := ho.at (by omega)
    have F := face_ord base w.heap.size g n cap xs hgs hl
    refine (fo_pdqsort (cap := cap) F hn (n + 1) 0 n (bitsLen n) xs.toArray w (by omega) ⟨by simpa using ho, by simp, Nat.le_refl _, trivial⟩ (by omega) (Nat.le_refl _) (Nat.lt_of_le_of_lt ((bitsLen_le_iff n 62).2 (by omega)) (by omega))).mono ?_
    rintro r w' ⟨rfl, hL⟩
    have hb := pdq_both fLt_swo xs.toArray n (bitsLen n) (by simpa using hl)
    refine ⟨rfl, _, hL.st.own, hL.st.perm, sortedIn_pairwise hb.2 ?_, hL.ap.below hbase hgb⟩
    have := hb.1.length_eq
    simp at this
    omega

set_option maxHeartbeats 1000000 in
theorem slices_Sort (a : Option Addr) (n cap base : Nat) (xs : List Nat) (w : World) (ho : Own 1 encF 89 w base (.slice a n cap) xs) (hl : xs.length = n) (hbase : base ≤ w.heap.size) (hn : n < 4611686018427387904) :
    Calls Try.prog 124 #[.slice a n cap] w (SortsF a n cap base xs w) := by
  have HC := Lib.hid (pdq_floats a n cap base xs w ho hl hbase hn)
  have wr : IntKind.u64.wrap (n : Int) = n := by simp [IntKind.wrap, IntKind.bits, IntKind.signed]; omega
  clear ho hl
  go_enter Try.func124, Try.ntmps124
  go_wp2_with fail
  refine (bits_Len_nat n _ hn).mono ?_
  rintro e w' ⟨rfl, rfl⟩
  go_wp2_with fail
  refine HC.out.mono ?_
  rintro e w1 ⟨rfl, h⟩
  have H := Lib.hid h
  clear h
  go_wp2_with fail
  go_end0
  exact ⟨rfl, H.out⟩

set_option maxHeartbeats 1000000 in
theorem sort_Float64s (a : Option Addr) (n cap base : Nat) (xs : List Nat) (w : World) (ho : Own 1 encF 89 w base (.slice a n cap) xs) (hl : xs.length = n) (hbase : base ≤ w.heap.size) (hn : n < 4611686018427387904) :
    Calls Try.prog 101 #[.slice a n cap] w (SortsF a n cap base xs w) := by
  have HC := Lib.hid (slices_Sort a n cap base xs w ho hl hbase hn)
  clear ho hl
  go_enter Try.func101, Try.ntmps101
  go_wp2_with fail
  refine HC.out.mono ?_
  rintro e w1 ⟨rfl, h⟩
  have H := Lib.hid h
  clear h
  go_wp2_with fail
  go_end0
  exact ⟨rfl, H.out⟩

set_option maxHeartbeats 1000000 in
theorem impl_Float64s (a : Option Addr) (len cap : Nat) (xs : List Int) (w : World) (hs : Sl (Value.int .u64) w a len cap xs) (hb : len * 8 ≤ 140737488351232) (hnn : ∀ x ∈ xs, 0 ≤ x) :
    Calls Try.prog 53 #[.slice a len cap] w (GivesF w len xs) := by
  have HL := Lib.hid hs.1
  have HF := Lib.hid (impl_floats a len cap xs w hs hb)
  have HNN := Lib.hid hnn
  clear hs hnn
  go_enter Try.func53, Try.ntmps53
  go_wp2_with fail
  refine HF.out.mono ?_
  rintro e w1 ⟨g, rfl, hg, ho, hb1⟩
  have HC := Lib.hid (sort_Float64s (some ⟨g, 0, none⟩) len len w.heap.size _ w1 ho (by rw [List.length_map]; exact HL.out) hb1.size (by omega))
  have HB1 := Lib.hid hb1
  clear ho hb1
  go_wp2_with fail
  refine HC.out.mono ?_
  rintro e w2 ⟨rfl, ys, ho2, hp, hso, hb2⟩
  have hyl : ys.length = len := by rw [hp.length_eq, List.length_map]; exact HL.out
  obtain ⟨aa, cc, hv, hsl, _, _⟩ := ho2.sl
  rw [hyl] at hv hsl
  cases hv
  have HC2 := Lib.hid (impl_bitsOf (some ⟨g, 0, none⟩) len len ys w2 hsl hb)
  have H2 := Lib.hid (And.intro hp (And.intro hso (HB1.out.trans hb2)))
  clear ho2 hp hso hb2 hsl hyl
  go_wp2_with fail
  refine HC2.out.mono ?_
  rintro e w3 ⟨g3, rfl, hg3, ho3, hb3⟩
  have H3 := Lib.hid (And.intro ho3 hb3)
  clear ho3 hb3
  go_wp2_with fail
  go_ret
  obtain ⟨hp, hso, hb2⟩ := H2.out
  exact givesF_of HNN.out HL.out hp hso H3.out.1 (hb2.trans (H3.out.2.mono hb2.size))

set_option maxHeartbeats 1000000 in
theorem walk_FnFloat64sBits (a0 : Option Addr) (len0 cap0 : Nat) (x0 : List Int) (w : World)
    (s0 : Sl (Value.int .u64) w a0 len0 cap0 x0) (g0 : ∀ x ∈ x0, (Lit.int .u64 x).wf = true) (b0 : cap0 * 8 ≤ 140737488351232) :
    Calls Try.prog 28 #[.slice a0 len0 cap0] w (Good w) := by
  have hcap := s0.2.1
  have HS := Lib.hid s0
  have HC := Lib.hid (impl_Float64s a0 len0 cap0 x0 w s0 (by omega) (nonneg_u g0))
  clear s0 g0
  go_enter Try.func28, Try.ntmps28
  go_wp2_with fail
  refine HC.out.mono ?_
  rintro e w1 ⟨g, O, rfl, hs1, hp, hso, hb1⟩
  have HP := Lib.hid (permuted_u _ len0 len0 O a0 len0 cap0 x0 w1 hs1 (HS.out.below hb1) (by omega) hp)
  have HB := Lib.hid hb1
  clear hs1 hp hso hb1
  go_wp2_with fail
  refine HP.out.mono ?_
  rintro e w2 ⟨rfl, rfl⟩
  go_wp2_with fail
  go_ret
  exact ⟨rfl, HB.out⟩

set_option maxHeartbeats 1000000 in
theorem walk_FnFloat64s (a0 : Option Addr) (len0 cap0 : Nat) (x0 : List Int) (w : World)
    (s0 : Sl (Value.int .u64) w a0 len0 cap0 x0) (g0 : ∀ x ∈ x0, (Lit.int .u64 x).wf = true) (b0 : cap0 * 8 ≤ 140737488351232) :
    Calls Try.prog 27 #[.slice a0 len0 cap0] w (Good w) := by
  have hcap := s0.2.1
  have HS := Lib.hid s0
  have HC := Lib.hid (impl_Float64s a0 len0 cap0 x0 w s0 (by omega) (nonneg_u g0))
  clear s0 g0
  go_enter Try.func27, Try.ntmps27
  go_wp2_with fail
  refine HC.out.mono ?_
  rintro e w1 ⟨g, O, rfl, hs1, hp, hso, hb1⟩
  have H1 := Lib.hid (laws_oneNaN _ len0 len0 O w1 hs1 (by omega))
  have HB1 := Lib.hid hb1
  have HS1 := Lib.hid hs1
  have HP := Lib.hid hp
  have HSO := Lib.hid hso
  clear hs1 hp hso hb1
  go_wp2_with fail
  refine H1.out.mono ?_
  rintro e w2 ⟨a2, c2, rfl, hs2, hb2⟩
  have HB2 := Lib.hid (HB1.out.trans (hb2.mono HB1.out.size))
  have HS12 := Lib.hid (HS1.out.below hb2)
  have HS2 := Lib.hid hs2
  clear hb2 hs2
  have H3 := Lib.hid (laws_oneNaN a0 len0 cap0 x0 w2 (HS.out.below HB2.out) (by omega))
  go_wp2_with fail
  refine H3.out.mono ?_
  rintro e w3 ⟨a3, c3, rfl, hs3, hb3⟩
  have HB3 := Lib.hid (HB2.out.trans (hb3.mono HB2.out.size))
  have H4 := Lib.hid (permuted_u a2 len0 c2 _ a3 len0 c3 _ w3 (HS2.out.below hb3) hs3 (by omega) (HP.out.map oneF))
  have H5 := Lib.hid (spec_FloatsSorted _ len0 len0 O w3 (HS12.out.below hb3) (by omega))
  clear hb3 hs3
  go_wp2_with fail
  refine H4.out.mono ?_
  rintro e w4 ⟨rfl, rfl⟩
  go_wp2_with fail
  refine H5.out.mono ?_
  rintro e w5 ⟨rfl, q, rfl⟩
  rw [pairB_of HSO.out]
  go_wp2_with fail
  go_ret
  exact ⟨rfl, Below.drewN HB3.out q⟩
#print axioms walk_FnFloat64s
#print axioms walk_FnFloat64sBits
end Go.Proofs.Ytaifikhgijnkgaa
