/- Contracts of sort.SearchFloat64s, (sort.Float64Slice).Search, impl.SearchFloat64s, impl.Float64Search, spec.Search, laws.hasNaN. No conditions. -/
import Derived.Test.YtaifikhgijnkgaaSearch
import Derived.Test.YtaifikhgijnkgaaFlos
import Derived.Test.YtaifikhgijnkgaaFloPlain
namespace Go.Proofs.Ytaifikhgijnkgaa
open Go.RowKit
set_option linter.unusedVariables false

/-- Not less, by the hardware's comparison. -/
def fGe (y x : Nat) : Bool := fOrd y x == some .gt || fOrd y x == some .eq

theorem order_some (d e : Ieee.Datum) (hd : isN d = false) (he : isN e = false) : (d.order e == some .gt || d.order e == some .eq) = !(d.order e == some .lt) := by
  have h : ∃ o, d.order e = some o := by
    cases d with
    | nan s f => cases hd
    | infinity s => cases e with
      | nan t g => cases he
      | infinity t => cases s <;> cases t <;> exact ⟨_, rfl⟩
      | number t n j => cases s <;> exact ⟨_, rfl⟩
    | number s m i => cases e with
      | nan t g => cases he
      | infinity t => cases t <;> exact ⟨_, rfl⟩
      | number t n j => exact ⟨_, rfl⟩
  obtain ⟨o, ho⟩ := h
  rw [ho]
  cases o <;> rfl

theorem fGe_not (y x : Nat) (hy : fNaN y = false) (hx : fNaN x = false) : fGe y x = !fLt y x := by
  have e : fLt y x = (fOrd y x == some .lt) := by unfold fLt; rw [hy]; simp
  rw [e]
  unfold fGe fOrd Ieee.Format.order
  unfold fNaN fOrd Ieee.Format.order at hy hx
  rw [order_self] at hy hx
  exact order_some _ _ hy hx

set_option maxHeartbeats 1000000 in
theorem searchFlos_lit (b off len cap P Q k : Nat) (y x : Nat) (w : World) (hk : k < len) (hl : len < 4611686018427387904)
    (c0 : w.cell? ⟨P, 0, none⟩ = some (.slice (some ⟨b, off, none⟩) len cap)) (c1 : w.cell? ⟨Q, 0, none⟩ = some (.float .f64 x)) (c2 : w.cell? ⟨b, off + k, none⟩ = some (.float .f64 y)) :
    Calls Try.prog 133 #[.int .i64 k, .pointer (some ⟨P, 0, none⟩), .pointer (some ⟨Q, 0, none⟩)] w fun e w' => e = .returned (.bool (fGe y x)) ∧ ∃ m, w' = w.drewN m := by
  have hk' : (k : Int) < len := by omega
  go_enter Try.func133, Try.ntmps133
  go_wp2
  go_quiet (fail)
  go_wp2
  go_ret
  exact ⟨rfl, _, rfl⟩

set_option maxHeartbeats 1000000 in
theorem sort_SearchFloat64s (a : Option Addr) (len cap : Nat) (ys : List Nat) (x : Nat) (w : World) (hs : Sl (Value.float .f64) w a len cap ys) (hl : len < 4611686018427387904) :
    Calls Try.prog 117 #[.slice a len cap, .float .f64 x] w fun e w' => e = .returned (.int .i64 (bsearch (fun k => fGe (el ys k) x) len 0 len : Nat)) ∧ Below w.heap.size w w' := by
  have eg : ∀ args w, (callFunc 133 args).run Try.prog w = .ok (.enter 133 args) w := enters_of Try.func133 (by kernel_rfl) rfl
  have B2 := Lib.hid ((Below.refl w.heap.size w).alloc (Nat.le_refl _) (.cells #[.slice a len cap] 84) |>.alloc (by simp) (.cells #[.float .f64 x] 89))
  have c0 : ((w.alloc (.cells #[.slice a len cap] 84)).alloc (.cells #[.float .f64 x] 89)).cell? ⟨w.heap.size, 0, none⟩ = some (.slice a len cap) := by simp
  have c1 : ((w.alloc (.cells #[.slice a len cap] 84)).alloc (.cells #[.float .f64 x] 89)).cell? ⟨w.heap.size + 1, 0, none⟩ = some (.float .f64 x) := by simp
  have hS : Calls Try.prog 132 #[.int .i64 len, .func (.func 133) #[] #[.pointer (some ⟨w.heap.size, 0, none⟩), .pointer (some ⟨w.heap.size + 1, 0, none⟩)]] ((w.alloc (.cells #[.slice a len cap] 84)).alloc (.cells #[.float .f64 x] 89)) fun e w' => e = .returned (.int .i64 (bsearch (fun k => fGe (el ys k) x) len 0 len : Nat)) ∧ ∃ q, w' = ((w.alloc (.cells #[.slice a len cap] 84)).alloc (.cells #[.float .f64 x] 89)).drewN q := by
    refine sort_Search _ 133 len _ _ hl eg fun q k hk => ?_
    obtain ⟨_, _, _, hc⟩ := hs
    rcases hc with h0 | ⟨b, off, rfl, hb, hc⟩
    · omega
    exact searchFlos_lit b off len cap _ _ k (el ys k) x _ hk hl c0 c1 ((B2.out.cell (p := ⟨b, off + k, none⟩) hb).trans (hc k hk))
  have HS := Lib.hid hS
  clear hS hs c1
  go_enter Try.func117, Try.ntmps117
  go_wp2_with fail
  refine HS.out.mono ?_
  rintro e w' ⟨rfl, q, rfl⟩
  go_wp2_with fail
  go_ret
  exact ⟨rfl, Below.drewN B2.out q⟩

set_option maxHeartbeats 1000000 in
theorem method_Search (a : Option Addr) (len cap : Nat) (ys : List Nat) (x : Nat) (w : World) (hs : Sl (Value.float .f64) w a len cap ys) (hl : len < 4611686018427387904) :
    Calls Try.prog 118 #[.slice a len cap, .float .f64 x] w fun e w' => e = .returned (.int .i64 (bsearch (fun k => fGe (el ys k) x) len 0 len : Nat)) ∧ Below w.heap.size w w' := by
  have HS := Lib.hid (sort_SearchFloat64s a len cap ys x w hs hl)
  clear hs
  go_enter Try.func118, Try.ntmps118
  go_wp2_with fail
  refine HS.out.mono ?_
  rintro e w' ⟨rfl, hb⟩
  go_wp2_with fail
  go_ret
  exact ⟨rfl, hb⟩

/-- Where the search by halves comes to. -/
def fAt (xs : List Int) (x : Int) (len : Nat) : Nat := bsearch (fun k => fGe (el (xs.map Int.toNat) k) x.toNat) len 0 len

theorem floats_sl {w1 : World} {base g len : Nat} {xs : List Int} (hl : xs.length = len) (ho : Own 1 encF 89 w1 base (.slice (some ⟨g, 0, none⟩) len len) (xs.map Int.toNat)) : Sl (Value.float .f64) w1 (some ⟨g, 0, none⟩) len len (xs.map Int.toNat) := by
  obtain ⟨aa, cc, hv, h, _, _⟩ := ho.sl
  rw [List.length_map, hl] at hv h
  cases hv
  exact h

set_option maxHeartbeats 1000000 in
theorem impl_SearchFloat64s (a : Option Addr) (len cap : Nat) (xs : List Int) (x : Int) (w : World) (hs : Sl (Value.int .u64) w a len cap xs) (hb : len * 8 ≤ 140737488351232) :
    Calls Try.prog 86 #[.slice a len cap, .int .u64 x] w fun e w' => e = .returned (.int .i64 (fAt xs x len : Nat)) ∧ Below w.heap.size w w' := by
  have HL := Lib.hid hs.1
  have HF := Lib.hid (impl_floats a len cap xs w hs hb)
  have f1 := frombits_run x
  clear hs
  go_enter Try.func86, Try.ntmps86
  go_wp2_with fail
  refine HF.out.mono ?_
  rintro e w1 ⟨g, rfl, hg, ho, hb1⟩
  have HC := Lib.hid (sort_SearchFloat64s (some ⟨g, 0, none⟩) len len (xs.map Int.toNat) x.toNat w1 (floats_sl HL.out ho) (by omega))
  have HB := Lib.hid hb1
  clear ho hb1
  go_wp2_with fail
  refine HC.out.mono ?_
  rintro e w2 ⟨rfl, hb2⟩
  have HB2 := Lib.hid (HB.out.trans (hb2.mono HB.out.size))
  clear hb2
  go_wp2_with fail
  go_ret
  exact ⟨rfl, HB2.out⟩

set_option maxHeartbeats 1000000 in
theorem impl_Float64Search (a : Option Addr) (len cap : Nat) (xs : List Int) (x : Int) (w : World) (hs : Sl (Value.int .u64) w a len cap xs) (hb : len * 8 ≤ 140737488351232) :
    Calls Try.prog 88 #[.slice a len cap, .int .u64 x] w fun e w' => e = .returned (.int .i64 (fAt xs x len : Nat)) ∧ Below w.heap.size w w' := by
  have HL := Lib.hid hs.1
  have HF := Lib.hid (impl_floats a len cap xs w hs hb)
  have f1 := frombits_run x
  clear hs
  go_enter Try.func88, Try.ntmps88
  go_wp2_with fail
  refine HF.out.mono ?_
  rintro e w1 ⟨g, rfl, hg, ho, hb1⟩
  have HC := Lib.hid (method_Search (some ⟨g, 0, none⟩) len len (xs.map Int.toNat) x.toNat w1 (floats_sl HL.out ho) (by omega))
  have HB := Lib.hid hb1
  clear ho hb1
  go_wp2_with fail
  refine HC.out.mono ?_
  rintro e w2 ⟨rfl, hb2⟩
  have HB2 := Lib.hid (HB.out.trans (hb2.mono HB.out.size))
  clear hb2
  go_wp2_with fail
  go_ret
  exact ⟨rfl, HB2.out⟩

set_option maxHeartbeats 1000000 in
theorem spec_Search (a : Option Addr) (len cap : Nat) (xs : List Int) (x : Int) (r : Nat) (w : World) (hs : Sl (Value.int .u64) w a len cap xs) (hl : len < 4611686018427387904)
    (hr : r ≤ len) (h1 : ∀ k, k < r → fGe (el xs k).toNat x.toNat = false) (h2 : r < len → fGe (el xs r).toNat x.toNat = true) :
    Calls Try.prog 87 #[.slice a len cap, .int .u64 x] w fun e w' => e = .returned (.int .i64 r) ∧ w = w' := by
  obtain ⟨ea, _, _, hca⟩ := hs
  have H1 := Lib.hid h1
  have H2 := Lib.hid h2
  have f1 := frombits_run x
  clear h1 h2
  by_cases h0 : len = 0
  · subst h0
    obtain rfl : r = 0 := by omega
    clear hca ea
    go_enter Try.func87, Try.ntmps87
    go_wp2
    go_loopw [9] (fun s wr => s = .int .i64 0 ∧ wr = w) (fun _ _ => 0)
    case atStart => exact ⟨rfl, rfl⟩
    case round =>
      obtain ⟨rfl, rfl⟩ := hrel
      go_wp2
      go_ret
      exact ⟨by simp, rfl⟩
  · rcases hca with hca | ⟨ba, oa, rfl, _, hca⟩
    · exact absurd hca h0
    have HA := Lib.hid hca
    clear hca ea
    go_enter Try.func87, Try.ntmps87
    go_wp2
    go_loopw [9] (fun s wr => ∃ k : Nat, s = .int .i64 k ∧ k ≤ r ∧ wr = w) (fun s _ => len - (intOf s).toNat)
    case atStart => exact ⟨0, rfl, by omega, rfl⟩
    case round =>
      obtain ⟨k, rfl, hk, rfl⟩ := hrel
      by_cases hlt : k < r
      · have hlt' : (k : Int) < len := by omega
        have ck := HA.out k (by omega)
        have f2 := frombits_run (el xs k)
        have hx : (FloatKind.f64.format.order (el xs k).toNat x.toNat == some Ordering.gt || FloatKind.f64.format.order (el xs k).toNat x.toNat == some Ordering.eq) = false := H1.out k hlt
        go_wp2
        go_roundw
        case rel => exact ⟨k + 1, by go_num, by omega, by first | rfl | trivial⟩
        case measure => simp [intOf]; omega
      · obtain rfl : k = r := by omega
        by_cases hlen : k < len
        · have hlt' : (k : Int) < len := by omega
          have ck := HA.out k hlen
          have f2 := frombits_run (el xs k)
          have hx : (FloatKind.f64.format.order (el xs k).toNat x.toNat == some Ordering.gt || FloatKind.f64.format.order (el xs k).toNat x.toNat == some Ordering.eq) = true := H2.out hlen
          go_wp2
          go_ret
          exact ⟨rfl, rfl⟩
        · obtain rfl : k = len := by omega
          go_wp2
          go_ret
          exact ⟨rfl, rfl⟩

/-- Is there a NaN? -/
def anyNaN (xs : List Int) : Bool := xs.any fun b => fNaN b.toNat
theorem anyNaN_false {xs : List Int} (h : anyNaN xs = false) : ∀ x ∈ xs, fNaN x.toNat = false := fun x hx => by
  unfold anyNaN at h
  rw [List.any_eq_false] at h
  simpa using h x hx

set_option maxHeartbeats 1000000 in
theorem laws_hasNaN (r : Bool) (a : Option Addr) (len cap : Nat) (xs : List Int) (w : World) (hr : anyNaN xs = r) (hs : Sl (Value.int .u64) w a len cap xs) (hl : len < 4611686018427387904) :
    Calls Try.prog 85 #[.slice a len cap] w fun e w' => e = .returned (.bool r) ∧ w = w' := by
  obtain ⟨ea, _, _, hca⟩ := hs
  have HR := Lib.hid hr
  have EA := Lib.hid ea
  clear hr ea
  by_cases h0 : len = 0
  · subst h0
    obtain rfl : xs = [] := List.length_eq_zero_iff.1 EA.out
    have HF := Lib.hid (show r = false by rw [← HR.out]; rfl)
    clear hca
    go_enter Try.func85, Try.ntmps85
    go_wp2
    go_loopw [8] (fun s wr => s = .int .i64 0 ∧ wr = w) (fun _ _ => 0)
    case atStart => exact ⟨rfl, rfl⟩
    case round =>
      obtain ⟨rfl, rfl⟩ := hrel
      go_wp2
      go_ret
      exact ⟨by rw [HF.out]; rfl, rfl⟩
  · rcases hca with hca | ⟨ba, oa, rfl, _, hca⟩
    · exact absurd hca h0
    have HA := Lib.hid hca
    clear hca
    go_enter Try.func85, Try.ntmps85
    go_wp2
    go_loopw [8] (fun s wr => ∃ k : Nat, s = .int .i64 k ∧ k ≤ len ∧ wr = w ∧ Hid (∀ i, i < k → fNaN (el xs i).toNat = false)) (fun s _ => len - (intOf s).toNat)
    case atStart => exact ⟨0, rfl, by omega, rfl, fun i hi => by omega⟩
    case round =>
      obtain ⟨k, rfl, hk, rfl, HI⟩ := hrel
      by_cases hlt : k < len
      · have hlt' : (k : Int) < len := by omega
        have ck := HA.out k hlt
        have f2 := frombits_run (el xs k)
        cases hN : fNaN (el xs k).toNat with
        | true =>
          have hx : (FloatKind.f64.format.order (el xs k).toNat (el xs k).toNat != some Ordering.eq) = true := hN
          have HF := Lib.hid (show r = true by
            rw [← HR.out]
            unfold anyNaN
            rw [List.any_eq_true]
            exact ⟨el xs k, by rw [el_eq xs k (by rw [EA.out]; exact hlt)]; exact List.getElem_mem _, hN⟩)
          clear hN
          go_wp2
          go_ret
          exact ⟨by rw [HF.out]; rfl, rfl⟩
        | false =>
          have hx : (FloatKind.f64.format.order (el xs k).toNat (el xs k).toNat != some Ordering.eq) = false := hN
          have HN := Lib.hid hN
          clear hN
          go_wp2
          go_roundw
          case rel => exact ⟨k + 1, by go_num, by omega, by first | rfl | trivial, (show Hid _ from fun i hi => by
            by_cases h : i = k
            · subst h; exact HN.out
            · exact HI.out i (by omega))⟩
          case measure => simp [intOf]; omega
      · obtain rfl : k = len := by omega
        have HF := Lib.hid (show r = false by
          rw [← HR.out]
          unfold anyNaN
          rw [List.any_eq_false]
          intro x hx
          obtain ⟨i, hi, rfl⟩ := List.getElem_of_mem hx
          have := HI.out i (by rw [← EA.out]; exact hi)
          rw [el_eq xs i hi] at this
          simp [this])
        go_wp2
        go_ret
        exact ⟨by rw [HF.out]; rfl, rfl⟩
#print axioms impl_SearchFloat64s
#print axioms impl_Float64Search
#print axioms spec_Search
#print axioms laws_hasNaN
end Go.Proofs.Ytaifikhgijnkgaa
