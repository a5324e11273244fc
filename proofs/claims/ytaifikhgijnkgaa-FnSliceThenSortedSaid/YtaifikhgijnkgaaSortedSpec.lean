/- Contracts of spec.Sorted, of sort.IsSorted over an interface value, and of impl.ReverseIsSorted. No conditions. -/
import Derived.Test.YtaifikhgijnkgaaEqualBy
import Derived.Test.YtaifikhgijnkgaaSorted
namespace Go.Proofs.Ytaifikhgijnkgaa
open Go.RowKit
set_option linter.unusedVariables false

set_option maxHeartbeats 4000000 in
set_option maxRecDepth 100000 in
theorem spec_Sorted (n : Int) (ab : Option Addr) (lb cb : Nat) (bs : List Bool) (tu : Bool) (a : Option Addr) (len cap : Nat) (xs : List It) (w : World) (hs : SlK 2 encIt w a len cap xs) (ho : Sl Value.bool w ab lb cb bs) (hl : len < 4611686018427387904) :
    Calls Try.prog 73 #[.slice a len cap, .agg #[.int .i64 n, .slice ab lb cb, .bool tu]] w fun e w' => e = .returned (.bool (pairB (sbef n bs tu) xs)) ∧ Below w.heap.size w w' := by
  have hcl := hs.2.1
  have HL := Lib.hid hs.1
  have B0 := Lib.hid (below1 w (.cells #[.int .i64 n, .slice ab lb cb, .bool tu] 37))
  have HS := Lib.hid (hs.belowS B0.out)
  have HO := Lib.hid (ho.below B0.out)
  have HP := Lib.hid (boxO_new w n (.slice ab lb cb) tu 37)
  clear hs ho
  go_enter Try.func73, Try.ntmps73
  go_wp2
  generalize w.alloc (.cells #[.int .i64 n, .slice ab lb cb, .bool tu] 37) = w1 at *
  generalize hPe : w.heap.size = P at *
  have HPE := Lib.hid hPe
  clear hPe
  go_loopw [9] (fun s wr => ∃ i : Nat, s = .int .i64 i ∧ i ≤ len ∧ Below w1.heap.size w1 wr ∧ Hid (∀ t k, k < t → t < i → sbef n bs tu (el xs t) (el xs k) = false)) (fun s _ => len - (intOf s).toNat)
  case atStart => exact ⟨0, rfl, by omega, Below.refl _ _, fun t k h1 h2 => by omega⟩
  case round =>
    obtain ⟨i, rfl, hi, hbw, HI⟩ := hrel
    have HB1 := Lib.hid hbw
    by_cases hlt : i < len
    · have hlt' : (i : Int) < len := by omega
      have hic : (i : Int) ≤ cap := by omega
      obtain ⟨ba, oa, rfl, _, _, _⟩ := (HS.out.belowS hbw).itAt i hlt
      clear hbw
      go_wp2
      go_loopw [16] (fun s wr2 => ∃ k : Nat, s = .int .i64 k ∧ k ≤ i ∧ Below w1.heap.size w1 wr2 ∧ Hid (∀ t, t < k → sbef n bs tu (el xs i) (el xs t) = false)) (fun s _ => i - (intOf s).toNat)
      case atStart => exact ⟨0, rfl, by omega, HB1.out, fun t ht => by omega⟩
      case round =>
        obtain ⟨k, rfl, hk, hbw, HK⟩ := hrel
        have HB2 := Lib.hid hbw
        by_cases hki : k < i
        · have hki' : (k : Int) < i := by omega
          have hkl : (k : Int) < len := by omega
          rename World => wr2
          obtain ⟨_, _, hab1, hba, c0, c1⟩ := (HS.out.belowS hbw).itAt i hlt
          obtain ⟨_, _, hab2, hbb, d0, d1⟩ := (HS.out.belowS hbw).itAt k (by omega)
          cases hab1
          cases hab2
          obtain ⟨o0, o1, o2⟩ := HP.out.keep hbw
          clear hbw
          obtain ⟨r, hr⟩ : ∃ r, sbef n bs tu (el xs i) (el xs k) = r := ⟨_, rfl⟩
          have H1 := Lib.hid (fun (W : World) (hW : Below wr2.heap.size wr2 W) => (spec_Before n ab lb cb bs tu (el xs i) (el xs k) W (HO.out.below (HB2.out.trans (hW.mono HB2.out.size)))))
          rw [hr] at H1
          have HR := Lib.hid hr
          clear hr
          have HKeep := Lib.hid (show ∀ W W', SEq P n (.slice ab lb cb) tu ⟨ba, oa + i * 2, none⟩ (el xs i) ⟨ba, oa + k * 2, none⟩ (el xs k) wr2 W → Below W.heap.size W W' → SEq P n (.slice ab lb cb) tu ⟨ba, oa + i * 2, none⟩ (el xs i) ⟨ba, oa + k * 2, none⟩ (el xs k) wr2 W' from fun W W' h hb => h.keep hb)
          have HBel := Lib.hid (show ∀ W, SEq P n (.slice ab lb cb) tu ⟨ba, oa + i * 2, none⟩ (el xs i) ⟨ba, oa + k * 2, none⟩ (el xs k) wr2 W → Below wr2.heap.size wr2 W from fun W h => h.below)
          go_wp2_with fail
          go_region_held3 (fun w' => w'.cell? ⟨P, 0, none⟩ = some (.int .i64 n) ∧ w'.cell? ⟨P, 1, none⟩ = some (.slice ab lb cb) ∧ w'.cell? ⟨P, 2, none⟩ = some (.bool tu) ∧ w'.cell? ⟨ba, oa + i * 2, none⟩ = some (.int .i64 (el xs i).1) ∧ w'.cell? ⟨ba, oa + i * 2 + 1, none⟩ = some (.int .i64 (el xs i).2) ∧ w'.cell? ⟨ba, oa + k * 2, none⟩ = some (.int .i64 (el xs k).1) ∧ w'.cell? ⟨ba, oa + k * 2 + 1, none⟩ = some (.int .i64 (el xs k).2) ∧ Below wr2.heap.size wr2 w')
            (first | exact ⟨o0, o1, o2, c0, c1, d0, d1, (Below.refl _ _).drew⟩ | assumption)
            (first
              | (go_at_call 63; with_reducible refine (H1.out _ (HBel.out _ (by assumption))).mono ?_; rintro e w' ⟨rfl, hb'⟩; have hS' := HKeep.out _ _ (by assumption) hb'))
          have HB5 := Lib.hid (HB2.out.trans ((HBel.out _ hS').mono HB2.out.size))
          cases r with
          | true =>
            have HF := Lib.hid (show pairB (sbef n bs tu) xs = false by
              cases h : pairB (sbef n bs tu) xs
              · rfl
              · have := (pairB_iff (sbef n bs tu) xs).1 h i k hki (by rw [HL.out]; exact hlt)
                rw [HR.out] at this; cases this)
            go_wp2_with fail
            go_ret
            exact ⟨by rw [HF.out]; rfl, by rw [HPE.out]; exact B0.out.trans (HB5.out.mono (by rw [← HPE.out]; exact B0.out.size))⟩
          | false =>
            go_wp2_with fail
            go_roundw
            case rel =>
              refine ⟨k + 1, by go_num, by omega, HB5.out, ?_⟩
              intro t ht
              by_cases htk : t = k
              · subst htk; exact HR.out
              · exact HK.out t (by omega)
            case measure => simp [intOf]; omega
        · obtain rfl : k = i := by omega
          clear hbw
          go_wp2
          go_roundw
          case rel =>
            refine ⟨k + 1, by go_num, by omega, HB2.out, ?_⟩
            intro t m h1 h2
            by_cases htk : t = k
            · subst htk; exact HK.out m h1
            · exact HI.out t m h1 (by omega)
          case measure => simp [intOf]; omega
    · obtain rfl : i = len := by omega
      have HF := Lib.hid (show pairB (sbef n bs tu) xs = true from (pairB_iff _ _).2 fun t k hk ht => HI.out t k hk (by rw [HL.out] at ht; exact ht))
      go_wp2
      go_ret
      exact ⟨by rw [HF.out]; rfl, by rw [HPE.out]; exact B0.out.trans (HB1.out.mono (by rw [← HPE.out]; exact B0.out.size))⟩

/-! ### sort.IsSorted -/
set_option maxHeartbeats 2000000 in
set_option maxRecDepth 100000 in
theorem fc_IsSorted {α : Type} [Inhabited α] {lt : α → α → Bool} (xs : List α) (inv : World → Prop) (T : TypeId) (rv : Value) (gl : Nat) (rl : Value) (gn : Nat) (rn : Value) (len : Nat) (hlen : xs.length = len) (hl : len < 4611686018427387904)
    (keep : ∀ {w w'}, inv w → Below w.heap.size w w' → inv w') (findL : ∀ {w}, inv w → Sem.run Try.prog (method 285 T rv "Less") w = .ok (gl, rl) w) (enterL : ∀ args w, (callFunc gl args).run Try.prog w = .ok (.enter gl args) w)
    (findN : ∀ {w}, inv w → Sem.run Try.prog (method 285 T rv "Len") w = .ok (gn, rn) w) (enterN : ∀ args w, (callFunc gn args).run Try.prog w = .ok (.enter gn args) w)
    (lenC : ∀ {w}, inv w → Calls Try.prog gn #[rn] w fun e w' => e = .returned (.int .i64 len) ∧ Below w.heap.size w w')
    (lessC : ∀ {w} (i j : Nat), inv w → i < len → j < len → Calls Try.prog gl #[rl, .int .i64 i, .int .i64 j] w fun e w' => e = .returned (.bool (lt (el xs i) (el xs j))) ∧ Below w.heap.size w w')
    (w : World) (h : inv w) : Calls Try.prog 111 #[.iface T rv] w fun e w' => e = .returned (.bool (adjB lt xs)) ∧ Below w.heap.size w w' := by
  have mN := findN h
  have HI0 := Lib.hid h
  have HL := Lib.hid hlen
  clear hlen
  go_enter Try.func111, Try.ntmps111
  go_wp2_with fail
  refine (lenC HI0.out).mono ?_
  rintro e w1 ⟨rfl, hb1⟩
  have HB1 := Lib.hid hb1
  have HI1 := Lib.hid (keep HI0.out hb1)
  clear hb1 mN h HI0
  go_wp2_with fail
  go_loopg [4] len (fun k s wr => s = .int .i64 ((k : Int) - 1) ∧ k ≤ len ∧ Below w.heap.size w wr ∧ Hid (inv wr) ∧ Hid (∀ t, k ≤ t → t < len → 0 < t → lt (el xs t) (el xs (t - 1)) = false))
  case atStart => exact ⟨rfl, Nat.le_refl _, HB1.out, HI1.out, fun t h1 h2 => by omega⟩
  case round =>
    obtain ⟨rfl, hk, hbw, HIV, HK⟩ := hrel
    have HBW := Lib.hid hbw
    clear hbw HI1 HB1
    by_cases hk2 : 2 ≤ gk
    · have hpos : decide ((0 : Int) < (gk : Int) - 1) = true := decide_eq_true (by omega)
      have hpz : (0 : Int) < (gk : Int) - 1 := by omega
      have mL := findL HIV.out
      have hL := lessC (gk - 1) (gk - 2) HIV.out (by omega) (by omega)
      rw [show ((gk - 1 : Nat) : Int) = (gk : Int) - 1 by omega, show ((gk - 2 : Nat) : Int) = (gk : Int) - 1 - 1 by omega] at hL
      have HLs := Lib.hid hL
      clear hL
      go_wp2_with fail
      refine HLs.out.mono ?_
      rintro e w2 ⟨rfl, hb2⟩
      have HB2 := Lib.hid (HBW.out.trans (hb2.mono HBW.out.size))
      have HI2 := Lib.hid (keep HIV.out hb2)
      clear hb2 mL
      cases hv : lt (el xs (gk - 1)) (el xs (gk - 2)) with
      | true =>
        have HF := Lib.hid (show adjB lt xs = false by
          cases hc : adjB lt xs
          · rfl
          · have := (adjB_iff lt xs).1 hc (gk - 1) (by omega) (by rw [HL.out]; omega)
            rw [show gk - 1 - 1 = gk - 2 by omega, hv] at this; cases this)
        go_wp2_with fail
        go_ret
        exact ⟨by rw [HF.out]; rfl, HB2.out⟩
      | false =>
        have HV := Lib.hid hv
        go_wp2_with fail
        go_roundg (gk - 1)
        case measure => omega
        case rel =>
          refine ⟨by congr 1; omega, by omega, HB2.out, HI2.out, ?_⟩
          intro t h1 h2 h3
          by_cases ht : t = gk - 1
          · subst ht; rw [show gk - 1 - 1 = gk - 2 by omega]; exact HV.out
          · exact HK.out t (by omega) h2 h3
    · have hpz : ¬ (0 : Int) < (gk : Int) - 1 := by omega
      have HF := Lib.hid (show adjB lt xs = true from (adjB_iff lt xs).2 fun i h0 hi => HK.out i (by omega) (by rw [HL.out] at hi; exact hi) h0)
      go_wp2_with fail
      go_ret
      exact ⟨by rw [HF.out]; rfl, HBW.out⟩

set_option maxHeartbeats 2000000 in
set_option maxRecDepth 100000 in
theorem impl_ReverseIsSorted (a : Option Addr) (len cap : Nat) (xs : List It) (nn : Int) (ab : Option Addr) (lb cb : Nat) (bs : List Bool) (w : World) (hs : SlK 2 encIt w a len cap xs) (hb : len < 4611686018427387904) (ho : Sl Value.bool w ab lb cb bs) :
    Calls Try.prog 72 #[.slice a len cap, .agg #[.int .i64 nn, .slice ab lb cb]] w fun e w' => e = .returned (.bool (adjB (sbef nn bs true) xs)) ∧ Below w.heap.size w w' := by
  have hlen := hs.1
  have HS := Lib.hid hs
  have HT := Lib.hid ho
  clear hs ho
  go_enter Try.func72, Try.ntmps72
  go_wp2_with fail
  refine (sort_Reverse _ _ _ _ rfl).mono ?_
  rintro e w' ⟨rfl, rfl⟩
  have B2 := below2 w (.cells #[.int .i64 nn, .slice ab lb cb] 33) (.cells #[.iface 96 (dataV a len cap nn ab lb cb)] 119)
  have hp : ((w.alloc (.cells #[.int .i64 nn, .slice ab lb cb] 33)).alloc (.cells #[.iface 96 (dataV a len cap nn ab lb cb)] 119)).cell? ⟨w.heap.size + 1, 0, none⟩ = some (.iface 96 (dataV a len cap nn ab lb cb)) := by
    rw [cell_last _ _ _ (size_one w _)]; rfl
  have hC := fc_IsSorted (lt := sbef nn bs true) xs (fun W => W.cell? ⟨w.heap.size + 1, 0, none⟩ = some (.iface 96 (dataV a len cap nn ab lb cb)) ∧ SlK 2 encIt W a len cap xs ∧ Sl Value.bool W ab lb cb bs) 117 (.pointer (some ⟨w.heap.size + 1, 0, none⟩)) 217 (.agg #[.iface 96 (dataV a len cap nn ab lb cb)]) 213 (dataV a len cap nn ab lb cb) len hlen hb
    (fun h hb => ⟨(hb.cell (p := ⟨w.heap.size + 1, 0, none⟩) (block_of_cell h.1)).trans h.1, h.2.1.belowS hb, h.2.2.below hb⟩)
    (fun h => meth_rev_less 284 _ _ _ h.1) (enters_try Try.func217 (by kernel_rfl) rfl) (fun h => meth_rev_data_len _ _ _ h.1) (enters_try Try.func213 (by kernel_rfl) rfl)
    (fun h => data_Len a len cap nn ab lb cb _)
    (fun {W} i j h hi hj => by
      obtain ⟨b, off, rfl, _, _, _⟩ := h.2.1.itAt i hi
      exact reverse_Less_data b off len cap i j xs nn ab lb cb bs W hi hj hb h.2.1 h.2.2)
    ((w.alloc (.cells #[.int .i64 nn, .slice ab lb cb] 33)).alloc (.cells #[.iface 96 (dataV a len cap nn ab lb cb)] 119)) ⟨hp, HS.out.belowS B2, HT.out.below B2⟩
  have HC := Lib.hid hC
  have HB2 := Lib.hid B2
  clear hC B2 hp
  go_wp2_with fail
  refine HC.out.mono ?_
  rintro e w4 ⟨rfl, hb4⟩
  have HB4 := Lib.hid (HB2.out.trans (hb4.mono HB2.out.size))
  clear hb4
  go_wp2_with fail
  go_ret
  exact ⟨rfl, HB4.out⟩
#print axioms spec_Sorted
#print axioms impl_ReverseIsSorted
end Go.Proofs.Ytaifikhgijnkgaa
