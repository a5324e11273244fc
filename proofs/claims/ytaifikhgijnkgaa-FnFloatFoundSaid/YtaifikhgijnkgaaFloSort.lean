/- Contracts of laws.permuted[uint64], laws.oneNaN, (sort.Float64Slice).Sort and impl.Float64Sort; the walks of laws.FnFloat64Sort and laws.FnFloat64SortBits. No conditions. -/
import Derived.Test.YtaifikhgijnkgaaIntSort
import Derived.Test.YtaifikhgijnkgaaFloSorted
import Derived.Test.YtaifikhgijnkgaaFloPlain
import Derived.Test.YtaifikhgijnkgaaItems
namespace Go.Proofs.Ytaifikhgijnkgaa
open Go.RowKit
open Go.Sort hiding Below
set_option linter.unusedVariables false

set_option maxHeartbeats 400000 in
theorem count_u (a : Option Addr) (la ca : Nat) (xs : List Int) (x : Int) (w : World)
    (sa : Sl (Value.int .u64) w a la ca xs) (hla : la < 4611686018427387904) :
    Calls Try.prog 116 #[.slice a la ca, .int .u64 x] w fun e w' => e = .returned (.int .i64 (xs.countP (fun y => x == y) : Nat)) ∧ w = w' := by
  obtain ⟨ea, _, _, hca⟩ := sa
  by_cases h0 : la = 0
  · subst h0
    obtain rfl : xs = [] := List.length_eq_zero_iff.1 ea
    clear hca ea
    go_enter Try.func116, Try.ntmps116
    go_wp2
    go_loopw [5, 10] (fun n s wr => n = .int .i64 0 ∧ s = .int .i64 0 ∧ wr = w) (fun _ _ _ => 0)
    case atStart => exact ⟨rfl, rfl, rfl⟩
    case round =>
      obtain ⟨rfl, rfl, rfl⟩ := hrel
      go_wp2
      go_ret
      exact ⟨by simp, rfl⟩
  · rcases hca with hca | ⟨ba, oa, rfl, _, hca⟩
    · exact absurd hca h0
    have HA := Lib.hid hca
    have EA := Lib.hid ea
    clear hca ea
    go_enter Try.func116, Try.ntmps116
    go_wp2
    go_loopw [5, 10] (fun n s wr => ∃ k : Nat, n = .int .i64 (cnt xs x k : Nat) ∧ s = .int .i64 k ∧ k ≤ la ∧ wr = w) (fun _ s _ => la - (intOf s).toNat)
    case atStart => exact ⟨0, by rw [cnt_zero]; rfl, rfl, by omega, rfl⟩
    case round =>
      obtain ⟨k, rfl, rfl, hk, rfl⟩ := hrel
      have hc := cnt_le xs x k
      by_cases hlt : k < la
      · have hlt' : (k : Int) < la := by omega
        have ck := HA.out k hlt
        have HS := Lib.hid (cnt_succ xs x k (by rw [EA.out]; exact hlt))
        go_wp2
        all_goals
          go_roundw
          case rel =>
            refine ⟨k + 1, ?_, by go_num, by omega, by first | rfl | trivial⟩
            rw [HS.out]
            first | (rw [if_pos (by assumption)]; go_num; done) | (rw [if_neg (by simp_all)]; rfl)
          case measure => simp [intOf]; omega
      · obtain rfl : k = la := by omega
        have HF := Lib.hid (show cnt xs x k = xs.countP (fun y => x == y) by have := cnt_all xs x; rw [EA.out] at this; exact this)
        go_wp2
        go_ret
        exact ⟨by rw [HF.out]; rfl, rfl⟩

set_option maxHeartbeats 400000 in
theorem permuted_u (a : Option Addr) (la ca : Nat) (xs : List Int) (b : Option Addr) (lb cb : Nat) (ys : List Int) (w : World)
    (sa : Sl (Value.int .u64) w a la ca xs) (sb : Sl (Value.int .u64) w b lb cb ys) (hla : la < 4611686018427387904) (hp : xs.Perm ys) :
    Calls Try.prog 83 #[.slice a la ca, .slice b lb cb] w fun e w' => e = .returned (.bool true) ∧ w = w' := by
  have sa' := sa
  obtain ⟨ea, _, _, hca⟩ := sa
  obtain rfl : la = lb := by rw [← ea, ← sb.1]; exact hp.length_eq
  have HCa := Lib.hid (fun x => count_u a la ca xs x w sa' hla)
  have HCb := Lib.hid (fun x => count_u b la cb ys x w sb hla)
  have HP := Lib.hid hp
  clear sa' sb hp
  by_cases h0 : la = 0
  · subst h0
    clear hca ea
    go_enter Try.func83, Try.ntmps83
    go_wp2
    go_loopw [14] (fun s wr => s = .int .i64 0 ∧ wr = w) (fun _ _ => 0)
    case atStart => exact ⟨rfl, rfl⟩
    case round =>
      obtain ⟨rfl, rfl⟩ := hrel
      go_wp2
      go_ret
      exact ⟨rfl, rfl⟩
  · rcases hca with hca | ⟨ba, oa, rfl, _, hca⟩
    · exact absurd hca h0
    have HA := Lib.hid hca
    clear hca ea
    go_enter Try.func83, Try.ntmps83
    go_wp2
    go_loopw [14] (fun s wr => ∃ k : Nat, s = .int .i64 k ∧ k ≤ la ∧ wr = w) (fun s _ => la - (intOf s).toNat)
    case atStart => exact ⟨0, rfl, by omega, rfl⟩
    case round =>
      obtain ⟨k, rfl, hk, rfl⟩ := hrel
      by_cases hlt : k < la
      · have hlt' : (k : Int) < la := by omega
        have ck := HA.out k hlt
        have h1 := HCa.out (el xs k)
        have h2 := HCb.out (el xs k)
        rw [← HP.out.countP_eq] at h2
        generalize List.countP (fun y => el xs k == y) xs = c at h1 h2
        have H1 := Lib.hid h1
        have H2 := Lib.hid h2
        clear h1 h2
        go_wp2_with fail
        refine H1.out.mono ?_
        rintro e w' ⟨rfl, rfl⟩
        go_wp2_with fail
        refine H2.out.mono ?_
        rintro e w' ⟨rfl, rfl⟩
        go_wp2_with fail
        go_roundw
        case rel => exact ⟨k + 1, by go_num, by omega, by first | rfl | trivial⟩
        case measure => simp [intOf]; omega
      · go_wp2
        go_ret
        exact ⟨rfl, rfl⟩

set_option maxHeartbeats 400000 in
theorem floSlice_Swap (g len cap i j : Nat) (x y : Nat) (w : World) (hi : i < len) (hj : j < len) (hl : len < 4611686018427387904)
    (ci : w.cell? ⟨g, i, none⟩ = some (.float .f64 x)) (cj : w.cell? ⟨g, j, none⟩ = some (.float .f64 y)) (fi : w.frozen? ⟨g, i, none⟩ = false) (fj : w.frozen? ⟨g, j, none⟩ = false) :
    Calls Try.prog 212 #[.slice (some ⟨g, 0, none⟩) len cap, .int .i64 i, .int .i64 j] w fun e w' => e = .returned (.tuple #[]) ∧ ∃ q, w' = ((w.setCell ⟨g, i, none⟩ (.float .f64 y)).setCell ⟨g, j, none⟩ (.float .f64 x)).drewN q := by
  have hi' : (i : Int) < len := by omega
  have hj' : (j : Int) < len := by omega
  obtain ⟨v', hy'⟩ := cell?_setCell_some (w := w) (p := ⟨g, i, none⟩) (x := .float .f64 y) (q := ⟨g, j, none⟩) cj
  go_enter Try.func212, Try.ntmps212
  go_wp2
  go_region
  all_goals (try go_wp2)
  all_goals go_end0
  all_goals exact ⟨rfl, 1, rfl⟩

theorem meth_flo_less (fuel : Nat) (rv : Value) (w : World) : (method (fuel + 1) 88 rv "Less").run Try.prog w = .ok (106, rv) w := by kernel_rfl
theorem meth_flo_swap (fuel : Nat) (rv : Value) (w : World) : (method (fuel + 1) 88 rv "Swap").run Try.prog w = .ok (212, rv) w := by kernel_rfl
theorem meth_flo_len (fuel : Nat) (rv : Value) (w : World) : (method (fuel + 1) 88 rv "Len").run Try.prog w = .ok (211, rv) w := by kernel_rfl

theorem floSlice_Len (a : Option Addr) (n cap : Nat) (w : World) : Calls Try.prog 211 #[.slice a n cap] w fun e w' => e = .returned (.int .i64 n) ∧ Below w.heap.size w w' := by
  go_enter Try.func211, Try.ntmps211
  go_wp2
  go_ret
  exact ⟨rfl, Below.refl _ _⟩

theorem face_flo (base B g n cap : Nat) (xs : List Nat) (hgB : g < B) (hl : xs.length = n) (hn : n < 4611686018427387904) :
    Face fLt (StR 1 (fun x => [Value.float .f64 x]) 89 base B g n cap xs (fun _ => True)) B g n 88 (.slice (some ⟨g, 0, none⟩) n cap) 106 (.slice (some ⟨g, 0, none⟩) n cap) 212 (.slice (some ⟨g, 0, none⟩) n cap) where
  toBase := StR.base hgB hl (fun _ _ _ _ _ => trivial)
  findL := fun _ => meth_flo_less 284 _ _
  findS := fun _ => meth_flo_swap 284 _ _
  enterL := enters_try Try.func106 (by kernel_rfl) rfl
  enterS := enters_try Try.func212 (by kernel_rfl) rfl
  less := fun {dk w} i j h hi hj => by
    have hd := h.len hl
    refine (floatSlice_Less g 0 n cap i j _ _ w hi hj hn (by rw [Nat.zero_add]; exact h.own.cell1 hd i hi) (by rw [Nat.zero_add]; exact h.own.cell1 hd j hj)).mono ?_
    rintro e w' ⟨rfl, q, rfl⟩
    exact ⟨by rw [bang_el, bang_el], Below.drewN (Below.refl _ _) q⟩
  swap := fun {dk w} i j h hi hj => by
    have hd := h.len hl
    refine (floSlice_Swap g n cap i j _ _ w hi hj hn (h.own.cell1 hd i hi) (h.own.cell1 hd j hj) (h.own.fz hd i) (h.own.fz hd j)).mono ?_
    rintro e w' ⟨rfl, q, rfl⟩
    exact ⟨rfl, h.swap1 hl i j q hi hj⟩

theorem Sort_flo (a : Option Addr) (n cap base : Nat) (xs : List Nat) (w : World) (ho : Own 1 encF 89 w base (.slice a n cap) xs) (hl : xs.length = n) (hbase : base ≤ w.heap.size) (hn : n < 4611686018427387904) :
    Calls Try.prog 109 #[.iface 88 (.slice a n cap)] w fun r w' => r = .returned (.tuple #[]) ∧ ∃ O, Own 1 encF 89 w' base (.slice a n cap) O ∧ O.Perm xs ∧ O.Pairwise (fun x y => fLt y x = false) ∧ Below base w w' :=
  Sort_row1 fLt_swo 88 106 212 211 face_flo (fun v w => meth_flo_len 284 v w) (enters_try Try.func211 (by kernel_rfl) rfl) floSlice_Len a n cap base xs w ho hl hbase hn

set_option maxHeartbeats 1000000 in
theorem floSlice_Sort (a : Option Addr) (n cap base : Nat) (xs : List Nat) (w : World) (ho : Own 1 encF 89 w base (.slice a n cap) xs) (hl : xs.length = n) (hbase : base ≤ w.heap.size) (hn : n < 4611686018427387904) :
    Calls Try.prog 103 #[.slice a n cap] w fun r w' => r = .returned (.tuple #[]) ∧ ∃ O, Own 1 encF 89 w' base (.slice a n cap) O ∧ O.Perm xs ∧ O.Pairwise (fun x y => fLt y x = false) ∧ Below base w w' := by
  have HC := Lib.hid (Sort_flo a n cap base xs w ho hl hbase hn)
  clear ho hl
  go_enter Try.func103, Try.ntmps103
  go_wp2_with fail
  refine HC.out.mono ?_
  rintro e w1 ⟨rfl, h⟩
  have H := Lib.hid h
  clear h
  go_wp2_with fail
  go_end0
  exact ⟨rfl, H.out⟩


/-- NaNs as one. -/
def oneF (b : Int) : Int := if fNaN b.toNat then 9221120237041090560 else b

set_option maxHeartbeats 2000000 in
set_option maxRecDepth 100000 in
theorem laws_oneNaN (a : Option Addr) (len cap : Nat) (xs : List Int) (w : World) (hs : Sl (Value.int .u64) w a len cap xs) (hb : len * 8 ≤ 140737488351232) :
    Calls Try.prog 84 #[.slice a len cap] w fun r w' => ∃ a' c, r = .returned (.slice a' len c) ∧ Sl (Value.int .u64) w' a' len c (xs.map oneF) ∧ Below w.heap.size w w' := by
  have HL := Lib.hid hs.1
  have HS := Lib.hid hs
  clear hs
  go_enter Try.func84, Try.ntmps84
  go_wp2
  go_loopg [3, 9] len (fun n s3 s9 wr => ∃ (k : Nat) (ao : Option Addr) (co : Nat), s3 = .slice ao k co ∧ s9 = .int .i64 k ∧ k ≤ len ∧ n = len - k ∧ Own 1 encU 48 wr w.heap.size (.slice ao k co) ((xs.take k).map oneF) ∧ Below w.heap.size w wr)
  case atStart => exact ⟨0, none, 0, rfl, rfl, by omega, by omega, by rw [List.take_zero]; exact World.ownsRow_nil _ _ _ _, Below.refl _ _⟩
  case round =>
    obtain ⟨k, ao, co, rfl, rfl, hk, hn, ho, hbw⟩ := hrel
    have HO := Lib.hid ho
    have HB := Lib.hid hbw
    have HN := Lib.hid hn
    have HTL := Lib.hid (show ((xs.take k).map oneF).length = k by rw [List.length_map, List.length_take, HL.out]; omega)
    have hsz := hbw.size
    clear ho hbw hn
    by_cases hlt : k < len
    · have hlt' : (k : Int) < len := by omega
      obtain ⟨b, off, rfl, hbs, hc⟩ : ∃ b off, a = some ⟨b, off, none⟩ ∧ b < w.heap.size ∧ ∀ i, i < len → w.cell? ⟨b, off + i, none⟩ = some (.int .u64 (el xs i)) := by
        rcases HS.out.2.2.2 with h | h
        · omega
        · exact h
      have d0 := (HB.out.cell (p := ⟨b, off + k, none⟩) hbs).trans (hc k hlt)
      have f1 := frombits_run (el xs k)
      have hwrap : IntKind.i64.wrap ((k : Int) + 1) = (k : Int) + 1 := IntWalk.i64_in _ (by omega)
      clear hc
      cases hN : fNaN (el xs k).toNat with
      | true =>
        have h2' : (FloatKind.f64.format.order (el xs k).toNat (el xs k).toNat != some .eq) = true := hN
        have HV := Lib.hid (show oneF (el xs k) = 9221120237041090560 by unfold oneF; rw [hN]; rfl)
        clear hN
        go_wp2_with (first
          | (at_builtin; refine wpList_push rfl _ _ 45 rfl 48 (.int .u64 0) 1 8 encU Try.underlying45 Try.info48 rfl (by decide) (fun _ => rfl) (by simp [Value.oneCell']) w.heap.size ao k co ((xs.take k).map oneF) rfl (Own.below HO.out (belowA wr _)) HTL.out wr.heap.size 1 9221120237041090560 rfl (fun j u hu => one_new wr _ _ j u hu) (by unfold maxLen; omega) (by omega) (by simp; omega) (wr.heap.size + 1) (by simp) ?_; intro g cg w3 ho3 hg3 hat3 hlt3)
          | fail)
        have hbw3 : Below w.heap.size w w3 := (HB.out.alloc HB.out.size _).grown hg3 (by have := HB.out.size; simp; omega) (fun kk hkk => by
          rcases ao with _ | ad
          · cases hkk
          · simp at hkk
            obtain ⟨aa, cc, hv, _, _, hlo2⟩ := Own.slk (C := 1) (encL := encU) (fun _ => rfl) HO.out
            have := hlo2 ad (Value.slice.inj hv).1.symm
            omega)
        have HB3 := Lib.hid hbw3
        have HO3 := Lib.hid ho3
        clear hbw3 ho3 hg3 hat3 hlt3
        go_roundg (len - (k + 1))
        case measure => have := HN.out; omega
        case rel =>
          have ho := HO3.out
          rw [← HV.out, ← List.map_singleton, ← List.map_append, ← take_snoc_el xs k (by rw [HL.out]; exact hlt)] at ho
          exact ⟨k + 1, some ⟨g, 0, none⟩, cg, rfl, by go_num, by omega, rfl, ho, HB3.out⟩
      | false =>
        have h2' : (FloatKind.f64.format.order (el xs k).toNat (el xs k).toNat != some .eq) = false := hN
        have HV := Lib.hid (show oneF (el xs k) = el xs k by unfold oneF; rw [hN]; rfl)
        clear hN
        go_wp2_with (first
          | (at_builtin; refine wpList_push rfl _ _ 45 rfl 48 (.int .u64 0) 1 8 encU Try.underlying45 Try.info48 rfl (by decide) (fun _ => rfl) (by simp [Value.oneCell']) w.heap.size ao k co ((xs.take k).map oneF) rfl (Own.below HO.out (belowA wr _)) HTL.out wr.heap.size 1 (el xs k) rfl (fun j u hu => one_new wr _ _ j u hu) (by unfold maxLen; omega) (by omega) (by simp; omega) (wr.heap.size + 1) (by simp) ?_; intro g cg w3 ho3 hg3 hat3 hlt3)
          | fail)
        have hbw3 : Below w.heap.size w w3 := (HB.out.alloc HB.out.size _).grown hg3 (by have := HB.out.size; simp; omega) (fun kk hkk => by
          rcases ao with _ | ad
          · cases hkk
          · simp at hkk
            obtain ⟨aa, cc, hv, _, _, hlo2⟩ := Own.slk (C := 1) (encL := encU) (fun _ => rfl) HO.out
            have := hlo2 ad (Value.slice.inj hv).1.symm
            omega)
        have HB3 := Lib.hid hbw3
        have HO3 := Lib.hid ho3
        clear hbw3 ho3 hg3 hat3 hlt3
        go_roundg (len - (k + 1))
        case measure => have := HN.out; omega
        case rel =>
          have ho := HO3.out
          have e1 : (xs.take k).map oneF ++ [el xs k] = (xs.take (k + 1)).map oneF := by rw [take_snoc_el xs k (by rw [HL.out]; exact hlt), List.map_append, List.map_singleton, HV.out]
          rw [e1] at ho
          exact ⟨k + 1, some ⟨g, 0, none⟩, cg, rfl, by go_num, by omega, rfl, ho, HB3.out⟩
    · obtain rfl : k = len := by omega
      have HT := Lib.hid (show (xs.take k).map oneF = xs.map oneF by rw [← HL.out, List.take_length])
      go_wp2
      go_ret
      have ho := HO.out
      rw [HT.out] at ho
      obtain ⟨aa, cc, hv, h, _, _⟩ := ho.sl
      rw [List.length_map, HL.out] at hv h
      cases hv
      exact ⟨ao, co, rfl, h, HB.out⟩

/-- What impl.Float64Sort (impl.Float64s) gives. -/
def GivesF (w : World) (len : Nat) (xs : List Int) (e : Ending) (w' : World) : Prop :=
  ∃ g O, e = .returned (.slice (some ⟨g, 0, none⟩) len len) ∧ Sl (Value.int .u64) w' (some ⟨g, 0, none⟩) len len O ∧ O.Perm xs ∧ (O.map Int.toNat).Pairwise (fun x y => fLt y x = false) ∧ Below w.heap.size w w'

theorem ofNat_toNat {xs : List Int} (h : ∀ x ∈ xs, 0 ≤ x) : (xs.map Int.toNat).map Int.ofNat = xs := by
  rw [List.map_map]
  conv => rhs; rw [← List.map_id xs]
  exact List.map_congr_left fun x hx => by have := h x hx; simp; omega
theorem toNat_ofNat (ys : List Nat) : (ys.map Int.ofNat).map Int.toNat = ys := by
  rw [List.map_map]
  conv => rhs; rw [← List.map_id ys]
  exact List.map_congr_left fun x hx => by simp

theorem givesF_of {w w1 w3 : World} {g len : Nat} {xs : List Int} {ys : List Nat} (hnn : ∀ x ∈ xs, 0 ≤ x) (hl : xs.length = len) (hp : ys.Perm (xs.map Int.toNat)) (hso : ys.Pairwise fun x y => fLt y x = false)
    (ho : Own 1 encU 48 w3 w1.heap.size (.slice (some ⟨g, 0, none⟩) len len) (ys.map Int.ofNat)) (hb : Below w.heap.size w w3) : GivesF w len xs (.returned (.slice (some ⟨g, 0, none⟩) len len)) w3 := by
  obtain ⟨aa, cc, hv, h, _, _⟩ := ho.sl
  have hll : (ys.map Int.ofNat).length = len := by rw [List.length_map, hp.length_eq, List.length_map]; exact hl
  rw [hll] at hv h
  cases hv
  refine ⟨g, ys.map Int.ofNat, rfl, h, ?_, by rw [toNat_ofNat]; exact hso, hb⟩
  have := hp.map Int.ofNat
  rwa [ofNat_toNat hnn] at this

set_option maxHeartbeats 1000000 in
theorem impl_Float64Sort (a : Option Addr) (len cap : Nat) (xs : List Int) (w : World) (hs : Sl (Value.int .u64) w a len cap xs) (hb : len * 8 ≤ 140737488351232) (hnn : ∀ x ∈ xs, 0 ≤ x) :
    Calls Try.prog 54 #[.slice a len cap] w (GivesF w len xs) := by
  have HL := Lib.hid hs.1
  have HF := Lib.hid (impl_floats a len cap xs w hs hb)
  have HNN := Lib.hid hnn
  clear hs hnn
  go_enter Try.func54, Try.ntmps54
  go_wp2_with fail
  refine HF.out.mono ?_
  rintro e w1 ⟨g, rfl, hg, ho, hb1⟩
  have HC := Lib.hid (floSlice_Sort (some ⟨g, 0, none⟩) len len w.heap.size _ w1 ho (by rw [List.length_map]; exact HL.out) hb1.size (by omega))
  have HB1 := Lib.hid hb1
  clear ho hb1
  go_wp2_with fail
  refine HC.out.mono ?_
  rintro e w2 ⟨rfl, ys, ho2, hp, hso, hb2⟩
  have hyl : ys.length = len := by rw [hp.length_eq, List.length_map]; exact HL.out
  obtain ⟨aa, cc, hv, hsl, _, _⟩ := ho2.sl
  rw [hyl] at hv hsl
  cases hv
  have HC2 := Lib.hid (impl_bitsOf (some ⟨g, 0, none⟩) len len ys w2 hsl hb)
  have H2 := Lib.hid (And.intro hp (And.intro hso (HB1.out.trans hb2)))
  clear ho2 hp hso hb2 hsl hyl
  go_wp2_with fail
  refine HC2.out.mono ?_
  rintro e w3 ⟨g3, rfl, hg3, ho3, hb3⟩
  have H3 := Lib.hid (And.intro ho3 hb3)
  clear ho3 hb3
  go_wp2_with fail
  go_ret
  obtain ⟨hp, hso, hb2⟩ := H2.out
  exact givesF_of HNN.out HL.out hp hso H3.out.1 (hb2.trans (H3.out.2.mono hb2.size))

theorem nonneg_u {xs : List Int} (h : ∀ x ∈ xs, (Lit.int .u64 x).wf = true) : ∀ x ∈ xs, 0 ≤ x := fun x hx => by
  have := h x hx
  simp [Lit.wf] at this
  exact this.1

set_option maxHeartbeats 1000000 in
theorem walk_FnFloat64SortBits (a0 : Option Addr) (len0 cap0 : Nat) (x0 : List Int) (w : World)
    (s0 : Sl (Value.int .u64) w a0 len0 cap0 x0) (g0 : ∀ x ∈ x0, (Lit.int .u64 x).wf = true) (b0 : cap0 * 8 ≤ 140737488351232) :
    Calls Try.prog 30 #[.slice a0 len0 cap0] w (Good w) := by
  have hcap := s0.2.1
  have HS := Lib.hid s0
  have HC := Lib.hid (impl_Float64Sort a0 len0 cap0 x0 w s0 (by omega) (nonneg_u g0))
  clear s0 g0
  go_enter Try.func30, Try.ntmps30
  go_wp2_with fail
  refine HC.out.mono ?_
  rintro e w1 ⟨g, O, rfl, hs1, hp, hso, hb1⟩
  have HP := Lib.hid (permuted_u _ len0 len0 O a0 len0 cap0 x0 w1 hs1 (HS.out.below hb1) (by omega) hp)
  have HB := Lib.hid hb1
  clear hs1 hp hso hb1
  go_wp2_with fail
  refine HP.out.mono ?_
  rintro e w2 ⟨rfl, rfl⟩
  go_wp2_with fail
  go_ret
  exact ⟨rfl, HB.out⟩

theorem pairB_of {α : Type} [Inhabited α] {lt : α → α → Bool} {xs : List α} (h : xs.Pairwise fun x y => lt y x = false) : pairB lt xs = true := by
  rw [pairB_iff]
  intro i k hk hi
  rw [el_eq xs i hi, el_eq xs k (by omega)]
  exact List.pairwise_iff_getElem.1 h k i (by omega) hi hk

set_option maxHeartbeats 1000000 in
theorem walk_FnFloat64Sort (a0 : Option Addr) (len0 cap0 : Nat) (x0 : List Int) (w : World)
    (s0 : Sl (Value.int .u64) w a0 len0 cap0 x0) (g0 : ∀ x ∈ x0, (Lit.int .u64 x).wf = true) (b0 : cap0 * 8 ≤ 140737488351232) :
    Calls Try.prog 29 #[.slice a0 len0 cap0] w (Good w) := by
  have hcap := s0.2.1
  have HS := Lib.hid s0
  have HC := Lib.hid (impl_Float64Sort a0 len0 cap0 x0 w s0 (by omega) (nonneg_u g0))
  clear s0 g0
  go_enter Try.func29, Try.ntmps29
  go_wp2_with fail
  refine HC.out.mono ?_
  rintro e w1 ⟨g, O, rfl, hs1, hp, hso, hb1⟩
  have H1 := Lib.hid (laws_oneNaN _ len0 len0 O w1 hs1 (by omega))
  have HB1 := Lib.hid hb1
  have HS1 := Lib.hid hs1
  have HP := Lib.hid hp
  have HSO := Lib.hid hso
  clear hs1 hp hso hb1
  go_wp2_with fail
  refine H1.out.mono ?_
  rintro e w2 ⟨a2, c2, rfl, hs2, hb2⟩
  have HB2 := Lib.hid (HB1.out.trans (hb2.mono HB1.out.size))
  have HS12 := Lib.hid (HS1.out.below hb2)
  have HS2 := Lib.hid hs2
  clear hb2 hs2
  have H3 := Lib.hid (laws_oneNaN a0 len0 cap0 x0 w2 (HS.out.below HB2.out) (by omega))
  go_wp2_with fail
  refine H3.out.mono ?_
  rintro e w3 ⟨a3, c3, rfl, hs3, hb3⟩
  have HB3 := Lib.hid (HB2.out.trans (hb3.mono HB2.out.size))
  have H4 := Lib.hid (permuted_u a2 len0 c2 _ a3 len0 c3 _ w3 (HS2.out.below hb3) hs3 (by omega) (HP.out.map oneF))
  have H5 := Lib.hid (spec_FloatsSorted _ len0 len0 O w3 (HS12.out.below hb3) (by omega))
  clear hb3 hs3
  go_wp2_with fail
  refine H4.out.mono ?_
  rintro e w4 ⟨rfl, rfl⟩
  go_wp2_with fail
  refine H5.out.mono ?_
  rintro e w5 ⟨rfl, q, rfl⟩
  rw [pairB_of HSO.out]
  go_wp2_with fail
  go_ret
  exact ⟨rfl, Below.drewN HB3.out q⟩
#print axioms walk_FnFloat64Sort
#print axioms walk_FnFloat64SortBits
end Go.Proofs.Ytaifikhgijnkgaa
