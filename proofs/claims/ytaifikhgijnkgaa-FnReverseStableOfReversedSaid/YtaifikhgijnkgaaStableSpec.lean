/- The contract of spec.Stable: the stable sort, where the order is a strict weak order of the items. Conditions: it is. -/
import Derived.Test.YtaifikhgijnkgaaWeak
import Derived.Test.YtaifikhgijnkgaaRanks
import Derived.Test.YtaifikhgijnkgaaItems
namespace Go.Proofs.Ytaifikhgijnkgaa
open Go.RowKit
set_option linter.unusedVariables false

theorem made_items (n : Nat) : (madeCells (Value.agg #[.int .i64 0, .int .i64 0]).cells (n * 2)).toList = (List.replicate n ((0, 0) : It)).flatMap encIt := by
  have h : ∀ m, (List.replicate m ((0, 0) : It)).flatMap encIt = List.replicate (m * 2) (Value.int .i64 0) := by
    intro m
    induction m with
    | zero => rfl
    | succ m ih => rw [List.replicate_succ, List.flatMap_cons, ih, Nat.add_mul, show m * 2 + 1 * 2 = m * 2 + 1 + 1 by omega, List.replicate_succ, List.replicate_succ]; rfl
  rw [h]
  refine List.ext_getElem (by simp [madeCells]) fun k h1 h2 => ?_
  simp only [madeCells, Array.toList_map, List.getElem_map, List.getElem_replicate, Array.toList_range, List.getElem_range]
  have : k % 2 = 0 ∨ k % 2 = 1 := by omega
  rcases this with h | h <;> simp [Value.cells, h] <;> rfl

theorem Own.set2 {e : TypeId} {w : World} {base g n cap : Nat} {ys : List It} (h : Own 2 encIt e w base (.slice (some ⟨g, 0, none⟩) n cap) ys) (hn : ys.length = n) (k : Nat) (y : It) :
    Own 2 encIt e ((w.setCell ⟨g, k * 2, none⟩ (.int .i64 y.1)).setCell ⟨g, k * 2 + 1, none⟩ (.int .i64 y.2)) base (.slice (some ⟨g, 0, none⟩) n cap) (ys.set k y) := by
  unfold Own at *
  subst hn
  have h2 := ((h.stored (k * 2) (.int .i64 y.1)).1.stored (k * 2 + 1) (.int .i64 y.2)).1
  rw [List.length_set, flat_set]
  exact h2

set_option maxHeartbeats 4000000 in
set_option maxRecDepth 100000 in
theorem spec_Stable (n : Int) (ab : Option Addr) (lb cb : Nat) (bs : List Bool) (tu : Bool) (a : Option Addr) (len cap : Nat) (xs : List It) (w : World) (hs : SlK 2 encIt w a len cap xs) (ho : Sl Value.bool w ab lb cb bs) (hb : len * 16 ≤ 140737488351232) (hw : WeakOn (sbef n bs tu) xs) :
    Calls Try.prog 78 #[.slice a len cap, .agg #[.int .i64 n, .slice ab lb cb, .bool tu]] w fun e w' => ∃ g S, e = .returned (.slice (some ⟨g, 0, none⟩) len len) ∧ Own 2 encIt 57 w' w.heap.size (.slice (some ⟨g, 0, none⟩) len len) S ∧ SlK 2 encIt w' (some ⟨g, 0, none⟩) len len S ∧ StableOf (sbef n bs tu) xs S ∧ Below w.heap.size w w' := by
  obtain ⟨i0, hi0, hz0, hz1, hz2⟩ := info_parts Try.info57
  have HI := Lib.hid (And.intro hi0 (And.intro hz0 (And.intro hz1 hz2)))
  have HL := Lib.hid hs.1
  have HW := Lib.hid hw
  have B0 := Lib.hid (below1 w (.cells #[.int .i64 n, .slice ab lb cb, .bool tu] 37))
  have HS := Lib.hid (hs.belowS B0.out)
  have HO := Lib.hid (ho.below B0.out)
  have HP := Lib.hid (boxO_new w n (.slice ab lb cb) tu 37)
  clear hs ho hw hi0 hz0 hz1 hz2
  go_enter Try.func78, Try.ntmps78
  go_wp2_with (first
    | (at_make; refine wpList_make_full _ rfl _ _ 39 rfl (w.alloc (.cells #[.int .i64 n, .slice ab lb cb, .bool tu] 37)).heap.size 57 i0 (.agg #[.int .i64 0, .int .i64 0]) 2 Try.underlying39 HI.out.1 HI.out.2.1 HI.out.2.2.1 .i64 .i64 _ _ len rfl rfl rfl rfl (by rw [HI.out.2.2.2]; omega) (by unfold maxLen; omega) (Nat.le_refl _) ?_; intro w2 hown hg)
    | fail)
  have hB2 : Below (w.alloc (.cells #[.int .i64 n, .slice ab lb cb, .bool tu] 37)).heap.size (w.alloc (.cells #[.int .i64 n, .slice ab lb cb, .bool tu] 37)) w2 := (Below.refl _ _).grown hg (Nat.le_refl _) (fun k hk => by cases hk)
  have hO2 : Own 2 encIt 57 w2 (w.alloc (.cells #[.int .i64 n, .slice ab lb cb, .bool tu] 37)).heap.size (.slice (some ⟨(w.alloc (.cells #[.int .i64 n, .slice ab lb cb, .bool tu] 37)).heap.size, 0, none⟩) len len) (List.replicate len (0, 0)) := by
    unfold Own
    rw [List.length_replicate, ← made_items]
    exact hown
  have HB2 := Lib.hid hB2
  have HO2 := Lib.hid hO2
  clear hown hg hB2 hO2
  have eG : (w.alloc (.cells #[.int .i64 n, .slice ab lb cb, .bool tu] 37)).heap.size = w.heap.size + 1 := by simp
  rw [eG] at HO2
  have EG := Lib.hid eG
  clear eG
  generalize w.alloc (.cells #[.int .i64 n, .slice ab lb cb, .bool tu] 37) = w1 at *
  generalize hGe : w.heap.size + 1 = G at *
  have HGE := Lib.hid hGe
  generalize hPe : w.heap.size = P at *
  have HPE := Lib.hid hPe
  clear hPe hGe
  go_loopw [16] (fun s wr => ∃ (i : Nat) (L : List It), s = .int .i64 i ∧ i ≤ len ∧ L.length = len ∧ Hid (Own 2 encIt 57 wr G (.slice (some ⟨G, 0, none⟩) len len) L) ∧ Below w1.heap.size w1 wr ∧ Hid (∀ t, t < i → el L (rank (sbef n bs tu) xs t) = el xs t)) (fun s _ => len - (intOf s).toNat)
  case atStart => exact ⟨0, _, rfl, by omega, List.length_replicate, HO2.out, HB2.out, fun t ht => by omega⟩
  case round =>
    obtain ⟨i, L, rfl, hi, hLL, HOW, hbw, HIN⟩ := hrel
    have HLL := Lib.hid hLL
    have HB1 := Lib.hid hbw
    clear hLL HO2 HB2
    by_cases hlt : i < len
    · have hlt' : (i : Int) < len := by omega
      obtain ⟨b, off, rfl, hbs, c0, c1⟩ := (HS.out.belowS hbw).itAt i hlt
      have B2 := Lib.hid (below1 wr (.cells #[.int .i64 (el xs i).1, .int .i64 (el xs i).2] 57))
      have HBO := Lib.hid ((HP.out.keep hbw).keep B2.out)
      have HBA := Lib.hid (boxI_new wr (el xs i) 57)
      have HB3 := Lib.hid (hbw.trans (B2.out.mono hbw.size))
      have HOW2 := Lib.hid (HOW.out.below B2.out)
      clear hbw
      go_wp2_with fail
      generalize wr.alloc (.cells #[.int .i64 (el xs i).1, .int .i64 (el xs i).2] 57) = w3 at *
      generalize wr.heap.size = PA at *
      clear c0 c1 B2
      go_loopw [8, 23] (fun s8 s23 wr2 => ∃ k : Nat, s8 = .int .i64 (rankTo (sbef n bs tu) xs i k : Nat) ∧ s23 = .int .i64 k ∧ k ≤ len ∧ Below w3.heap.size w3 wr2) (fun _ s _ => len - (intOf s).toNat)
      case atStart => exact ⟨0, by rw [rankTo_zero]; rfl, rfl, by omega, Below.refl _ _⟩
      case round =>
        obtain ⟨k, rfl, rfl, hk, hbw⟩ := hrel
        have hrk := rankTo_le (sbef n bs tu) xs i k
        have HBW := Lib.hid hbw
        by_cases hlk : k < len
        · have hlk' : (k : Int) < len := by omega
          obtain ⟨b', off', hab', hbs', c0, c1⟩ := (HS.out.belowS (HB3.out.trans (hbw.mono HB3.out.size))).itAt k hlk
          cases hab'
          rename World => wr2
          have B5 := Lib.hid (below1 wr2 (.cells #[.int .i64 (el xs k).1, .int .i64 (el xs k).2] 57))
          have HB5 := Lib.hid (hbw.trans (B5.out.mono hbw.size))
          have bo := (HBO.out.keep hbw).keep B5.out
          have ba := (HBA.out.keep hbw).keep B5.out
          have bc := boxI_new wr2 (el xs k) 57
          have HBO5 := Lib.hid bo
          have HBA5 := Lib.hid ba
          have HBC5 := Lib.hid bc
          have HT5 := Lib.hid (HO.out.below (HB3.out.trans (HB5.out.mono HB3.out.size)))
          obtain ⟨o0, o1, o2⟩ := bo
          obtain ⟨a0, a1⟩ := ba
          obtain ⟨d0, d1⟩ := bc
          have HRS := Lib.hid (rankTo_succ (sbef n bs tu) xs i k)
          clear hbw
          cases hr1 : sbef n bs tu (el xs k) (el xs i) with
          | true =>
            have HPR := Lib.hid (show prec (sbef n bs tu) xs k i = true by unfold prec; rw [hr1]; rfl)
            go_wp2_with fail
            refine (spec_Before n ab lb cb bs tu (el xs k) (el xs i) _ HT5.out).mono ?_
            rintro e w6 ⟨rfl, hb6⟩
            rw [hr1]
            have HB6 := Lib.hid (HB5.out.trans (hb6.mono HB5.out.size))
            clear hb6 o0 o1 o2 a0 a1 d0 d1 c0 c1 hr1
            go_wp2_with fail
            go_roundw
            case rel => exact ⟨k + 1, by rw [HRS.out, HPR.out, if_pos rfl]; go_num, by go_num, by omega, HB6.out⟩
            case measure => simp [intOf]; omega
          | false =>
            by_cases hki : k < i
            · have hkiz : (k : Int) < (i : Int) := by omega
              cases hr2 : sbef n bs tu (el xs i) (el xs k) with
              | true =>
                have HPR := Lib.hid (show prec (sbef n bs tu) xs k i = false by unfold prec; rw [hr1, hr2]; simp)
                go_wp2_with fail
                refine (spec_Before n ab lb cb bs tu (el xs k) (el xs i) _ HT5.out).mono ?_
                rintro e w6 ⟨rfl, hb6⟩
                rw [hr1]
                have HB6 := Lib.hid (HB5.out.trans (hb6.mono HB5.out.size))
                obtain ⟨p0, p1, p2⟩ := HBO5.out.keep hb6
                obtain ⟨q0, q1⟩ := HBA5.out.keep hb6
                obtain ⟨s0, s1⟩ := HBC5.out.keep hb6
                have HT6 := Lib.hid (HT5.out.below hb6)
                clear hb6 o0 o1 o2 a0 a1 d0 d1 c0 c1 hr1
                go_wp2_with fail
                refine (spec_Before n ab lb cb bs tu (el xs i) (el xs k) _ HT6.out).mono ?_
                rintro e w7 ⟨rfl, hb7⟩
                rw [hr2]
                have HB7 := Lib.hid (HB6.out.trans (hb7.mono HB6.out.size))
                clear hb7 p0 p1 p2 q0 q1 s0 s1 hr2
                go_wp2_with fail
                go_roundw
                case rel => exact ⟨k + 1, by rw [HRS.out, HPR.out, if_neg (by simp)]; rfl, by go_num, by omega, HB7.out⟩
                case measure => simp [intOf]; omega
              | false =>
                have HPR := Lib.hid (show prec (sbef n bs tu) xs k i = true by unfold prec; rw [hr1, hr2]; simp [hki])
                go_wp2_with fail
                refine (spec_Before n ab lb cb bs tu (el xs k) (el xs i) _ HT5.out).mono ?_
                rintro e w6 ⟨rfl, hb6⟩
                rw [hr1]
                have HB6 := Lib.hid (HB5.out.trans (hb6.mono HB5.out.size))
                obtain ⟨p0, p1, p2⟩ := HBO5.out.keep hb6
                obtain ⟨q0, q1⟩ := HBA5.out.keep hb6
                obtain ⟨s0, s1⟩ := HBC5.out.keep hb6
                have HT6 := Lib.hid (HT5.out.below hb6)
                clear hb6 o0 o1 o2 a0 a1 d0 d1 c0 c1 hr1
                go_wp2_with fail
                refine (spec_Before n ab lb cb bs tu (el xs i) (el xs k) _ HT6.out).mono ?_
                rintro e w7 ⟨rfl, hb7⟩
                rw [hr2]
                have HB7 := Lib.hid (HB6.out.trans (hb7.mono HB6.out.size))
                clear hb7 p0 p1 p2 q0 q1 s0 s1 hr2
                go_wp2_with fail
                go_roundw
                case rel => exact ⟨k + 1, by rw [HRS.out, HPR.out, if_pos rfl]; go_num, by go_num, by omega, HB7.out⟩
                case measure => simp [intOf]; omega
            · have hkiz : ¬ (k : Int) < (i : Int) := by omega
              have HPR := Lib.hid (show prec (sbef n bs tu) xs k i = false by unfold prec; rw [hr1]; simp [hki])
              go_wp2_with fail
              refine (spec_Before n ab lb cb bs tu (el xs k) (el xs i) _ HT5.out).mono ?_
              rintro e w6 ⟨rfl, hb6⟩
              rw [hr1]
              have HB6 := Lib.hid (HB5.out.trans (hb6.mono HB5.out.size))
              clear hb6 o0 o1 o2 a0 a1 d0 d1 c0 c1 hr1
              go_wp2_with fail
              go_roundw
              case rel => exact ⟨k + 1, by rw [HRS.out, HPR.out, if_neg (by simp)]; rfl, by go_num, by omega, HB6.out⟩
              case measure => simp [intOf]; omega
        · obtain rfl : k = len := by omega
          have hR : rankTo (sbef n bs tu) xs i k = rank (sbef n bs tu) xs i := by unfold rank; rw [HL.out]
          have hRl : rank (sbef n bs tu) xs i < k := by have := rank_lt HW.out (i := i) (by rw [HL.out]; exact hlt); rw [HL.out] at this; exact this
          rw [hR]
          obtain ⟨a0, a1⟩ := HBA.out.keep hbw
          have hown := HOW2.out.below hbw
          obtain ⟨g0, g1⟩ := hown.cells2 HLL.out _ hRl
          have f0 := hown.fz HLL.out (rank (sbef n bs tu) xs i * 2)
          have f1 := hown.fz HLL.out (rank (sbef n bs tu) xs i * 2 + 1)
          have HOWN := Lib.hid hown
          have HRI := Lib.hid (fun t (ht : t < k) (e : rank (sbef n bs tu) xs t = rank (sbef n bs tu) xs i) => rank_inj HW.out (i := t) (j := i) (by rw [HL.out]; exact ht) (by rw [HL.out]; exact hlt) e)
          have HRL := Lib.hid (fun t (ht : t < k) => rank_lt HW.out (i := t) (by rw [HL.out]; exact ht))
          generalize hRe : rank (sbef n bs tu) xs i = R at *
          have HRE := Lib.hid hRe
          clear hbw hown hR hrk hRe
          have hRz : (R : Int) < k := by omega
          go_wp2
          go_roundw
          case rel =>
            refine ⟨i + 1, L.set R (el xs i), by go_num, by omega, by rw [List.length_set]; exact HLL.out, HOWN.out.set2 HLL.out R (el xs i), ?_, ?_⟩
            · exact ((HB3.out.trans (HBW.out.mono HB3.out.size)).setCell (p := ⟨G, R * 2, none⟩) (by rw [EG.out]; exact Nat.le_refl _) _).setCell (p := ⟨G, R * 2 + 1, none⟩) (by rw [EG.out]; exact Nat.le_refl _) _
            · intro t ht
              by_cases hti : t = i
              · subst hti
                rw [HRE.out, el_set _ _ _ _ (by rw [HLL.out]; exact hRl), if_pos rfl]
              · rw [el_set _ _ _ _ (by have := HRL.out t (by omega); rw [HL.out] at this; rw [HLL.out]; exact this), if_neg (fun e => hti (HRI.out t (by omega) e.symm))]
                exact HIN.out t (by omega)
          case measure => simp [intOf]; omega
    · obtain rfl : i = len := by omega
      go_wp2
      go_ret
      have ho := HOW.out.base (show P ≤ G by rw [← HGE.out]; omega)
      obtain ⟨aa, cc, hv, hsl, _, _⟩ := Own.slk (C := 2) (encL := encIt) (fun _ => rfl) ho
      rw [HLL.out] at hv hsl
      cases hv
      exact ⟨G, L, rfl, by rw [HPE.out]; exact ho, hsl, ⟨by rw [HLL.out, HL.out], fun t ht => HIN.out t (by rw [HL.out] at ht; exact ht)⟩, by rw [HPE.out]; exact B0.out.trans (HB1.out.mono (by rw [EG.out, ← HGE.out]; omega))⟩
#print axioms spec_Stable
end Go.Proofs.Ytaifikhgijnkgaa
