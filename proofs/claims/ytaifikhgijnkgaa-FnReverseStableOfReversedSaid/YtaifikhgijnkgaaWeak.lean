/- The contract of spec.Weak: it says whether the order is a strict weak order of the items. No conditions. -/
import Derived.Test.YtaifikhgijnkgaaWeakly
import Derived.Test.YtaifikhgijnkgaaRevSwap
import Derived.Test.YtaifikhgijnkgaaEqualIt
import Derived.Deep.RegionHeld3
namespace Go.Proofs.Ytaifikhgijnkgaa
open Go.RowKit
set_option linter.unusedVariables false
set_option linter.unusedSectionVars false

open Classical in
/-- Whether a relation is a strict weak order of the members. -/
noncomputable def weakB (r : It → It → Bool) (xs : List It) : Bool := decide (WeakOn r xs)
theorem weakB_true {r : It → It → Bool} {xs : List It} (h : weakB r xs = true) : WeakOn r xs := by simpa [weakB] using h
theorem weakB_of {r : It → It → Bool} {xs : List It} (h : WeakOn r xs) : weakB r xs = true := by simpa [weakB] using h
theorem weakB_not {r : It → It → Bool} {xs : List It} (h : ¬ WeakOn r xs) : weakB r xs = false := by
  cases hc : weakB r xs
  · rfl
  · exact absurd (weakB_true hc) h

/-- The two cells of an item in a box. -/
def BoxI (P : Nat) (x : It) (w : World) : Prop := w.cell? ⟨P, 0, none⟩ = some (.int .i64 x.1) ∧ w.cell? ⟨P, 1, none⟩ = some (.int .i64 x.2)
theorem BoxI.keep {P : Nat} {x : It} {w w' : World} (h : BoxI P x w) (hb : Below w.heap.size w w') : BoxI P x w' :=
  ⟨(hb.cell (p := ⟨P, 0, none⟩) (block_of_cell h.1)).trans h.1, (hb.cell (p := ⟨P, 1, none⟩) (block_of_cell h.2)).trans h.2⟩
theorem boxI_new (w : World) (x : It) (t : TypeId) : BoxI w.heap.size x (w.alloc (.cells #[.int .i64 x.1, .int .i64 x.2] t)) := ⟨by simp, by simp⟩

/-- The three cells of an order in a box. -/
def BoxO (P : Nat) (n : Int) (t : Value) (tu : Bool) (w : World) : Prop := w.cell? ⟨P, 0, none⟩ = some (.int .i64 n) ∧ w.cell? ⟨P, 1, none⟩ = some t ∧ w.cell? ⟨P, 2, none⟩ = some (.bool tu)
theorem BoxO.keep {P : Nat} {n : Int} {t : Value} {tu : Bool} {w w' : World} (h : BoxO P n t tu w) (hb : Below w.heap.size w w') : BoxO P n t tu w' :=
  ⟨(hb.cell (p := ⟨P, 0, none⟩) (block_of_cell h.1)).trans h.1, (hb.cell (p := ⟨P, 1, none⟩) (block_of_cell h.2.1)).trans h.2.1, (hb.cell (p := ⟨P, 2, none⟩) (block_of_cell h.2.2)).trans h.2.2⟩
theorem boxO_new (w : World) (n : Int) (t : Value) (tu : Bool) (ty : TypeId) : BoxO w.heap.size n t tu (w.alloc (.cells #[.int .i64 n, t, .bool tu] ty)) := ⟨by simp, by simp, by simp⟩

theorem SlK.itAt {w : World} {a : Option Addr} {len cap : Nat} {xs : List It} (h : SlK 2 encIt w a len cap xs) (k : Nat) (hk : k < len) :
    ∃ b off, a = some ⟨b, off, none⟩ ∧ b < w.heap.size ∧ w.cell? ⟨b, off + k * 2, none⟩ = some (.int .i64 (el xs k).1) ∧ w.cell? ⟨b, off + k * 2 + 1, none⟩ = some (.int .i64 (el xs k).2) := by
  rcases h.2.2.2 with h4 | ⟨b, off, ha, hb, hc⟩
  · omega
  · exact ⟨b, off, ha, hb, it_cells hc k hk⟩

theorem el_mem {α : Type} [Inhabited α] {xs : List α} {k n : Nat} (hl : xs.length = n) (hk : k < n) : el xs k ∈ xs := by rw [el_eq xs k (by omega)]; exact List.getElem_mem _

/-- The triples with the first at i and the second at j, up to the third at k. -/
def Tri (r : It → It → Bool) (xs : List It) (i j k : Nat) : Prop := ∀ t, t < k → ¬ (r (el xs i) (el xs j) = true ∧ r (el xs j) (el xs t) = true ∧ r (el xs i) (el xs t) = false) ∧ ¬ (r (el xs i) (el xs j) = false ∧ r (el xs j) (el xs t) = false ∧ r (el xs i) (el xs t) = true)
def Pairs (r : It → It → Bool) (xs : List It) (n i j : Nat) : Prop := ∀ t, t < j → Tri r xs i t n
def Ones (r : It → It → Bool) (xs : List It) (n i : Nat) : Prop := ∀ t, t < i → r (el xs t) (el xs t) = false ∧ Pairs r xs n t n

theorem weak_of_ones {r : It → It → Bool} {xs : List It} {n : Nat} (hl : xs.length = n) (h : Ones r xs n n) : WeakOn r xs := by
  have key : ∀ x ∈ xs, ∃ i, i < n ∧ el xs i = x := fun x hx => by
    obtain ⟨i, hi, rfl⟩ := List.getElem_of_mem hx
    exact ⟨i, by omega, el_eq xs i hi⟩
  refine ⟨fun x hx => ?_, fun x hx y hy z hz h1 h2 => ?_, fun x hx y hy z hz h1 h2 => ?_⟩
  · obtain ⟨i, hi, rfl⟩ := key x hx
    exact (h i hi).1
  · obtain ⟨i, hi, rfl⟩ := key x hx
    obtain ⟨j, hj, rfl⟩ := key y hy
    obtain ⟨k, hk, rfl⟩ := key z hz
    cases h3 : r (el xs i) (el xs k)
    · exact absurd ⟨h1, h2, h3⟩ ((h i hi).2 j hj k hk).1
    · rfl
  · obtain ⟨i, hi, rfl⟩ := key x hx
    obtain ⟨j, hj, rfl⟩ := key y hy
    obtain ⟨k, hk, rfl⟩ := key z hz
    cases h3 : r (el xs i) (el xs k)
    · rfl
    · exact absurd ⟨h1, h2, h3⟩ ((h i hi).2 j hj k hk).2

/-- The cells that a round of the innermost loop reads. -/
abbrev SW4 (P : Nat) (n : Int) (t : Value) (tu : Bool) (PA : Nat) (x : It) (PB : Nat) (y : It) (PC : Nat) (z : It) (w5 w' : World) : Prop :=
  w'.cell? ⟨P, 0, none⟩ = some (.int .i64 n) ∧ w'.cell? ⟨P, 1, none⟩ = some t ∧ w'.cell? ⟨P, 2, none⟩ = some (.bool tu) ∧ w'.cell? ⟨PA, 0, none⟩ = some (.int .i64 x.1) ∧ w'.cell? ⟨PA, 1, none⟩ = some (.int .i64 x.2) ∧ w'.cell? ⟨PB, 0, none⟩ = some (.int .i64 y.1) ∧ w'.cell? ⟨PB, 1, none⟩ = some (.int .i64 y.2) ∧ w'.cell? ⟨PC, 0, none⟩ = some (.int .i64 z.1) ∧ w'.cell? ⟨PC, 1, none⟩ = some (.int .i64 z.2) ∧ Below w5.heap.size w5 w'
theorem SW4.below {P : Nat} {n : Int} {t : Value} {tu : Bool} {PA : Nat} {x : It} {PB : Nat} {y : It} {PC : Nat} {z : It} {w5 W : World} (h : SW4 P n t tu PA x PB y PC z w5 W) : Below w5.heap.size w5 W := h.2.2.2.2.2.2.2.2.2
theorem SW4.keep {P : Nat} {n : Int} {t : Value} {tu : Bool} {PA : Nat} {x : It} {PB : Nat} {y : It} {PC : Nat} {z : It} {w5 W W' : World} (h : SW4 P n t tu PA x PB y PC z w5 W) (hb : Below W.heap.size W W') : SW4 P n t tu PA x PB y PC z w5 W' := by
  obtain ⟨h0, h1, h2, h3, h4, h5, h6, h7, h8, h9⟩ := h
  have k : ∀ {p : Addr} {v : Value}, p.spot = none → W.cell? p = some v → W'.cell? p = some v := fun {p v} hp hv => (hb.cell (p := p) (by obtain ⟨b, o, s⟩ := p; subst hp; exact block_of_cell hv)).trans hv
  exact ⟨k rfl h0, k rfl h1, k rfl h2, k rfl h3, k rfl h4, k rfl h5, k rfl h6, k rfl h7, k rfl h8, h9.trans (hb.mono h9.size)⟩

set_option maxHeartbeats 4000000 in
set_option maxRecDepth 100000 in
theorem spec_Weak (n : Int) (ab : Option Addr) (lb cb : Nat) (bs : List Bool) (tu : Bool) (a : Option Addr) (len cap : Nat) (xs : List It) (w : World) (hs : SlK 2 encIt w a len cap xs) (ho : Sl Value.bool w ab lb cb bs) (hl : len < 4611686018427387904) :
    Calls Try.prog 45 #[.agg #[.int .i64 n, .slice ab lb cb, .bool tu], .slice a len cap] w fun e w' => e = .returned (.bool (weakB (sbef n bs tu) xs)) ∧ Below w.heap.size w w' := by
  have HL := Lib.hid hs.1
  have B0 := Lib.hid (below1 w (.cells #[.int .i64 n, .slice ab lb cb, .bool tu] 37))
  have HS := Lib.hid (hs.belowS B0.out)
  have HO := Lib.hid (ho.below B0.out)
  have HP := Lib.hid (boxO_new w n (.slice ab lb cb) tu 37)
  clear hs ho
  go_enter Try.func45, Try.ntmps45
  go_wp2
  generalize w.alloc (.cells #[.int .i64 n, .slice ab lb cb, .bool tu] 37) = w1 at *
  generalize hPe : w.heap.size = P at *
  have HPE := Lib.hid hPe
  clear hPe
  go_loopw [16] (fun s wr => ∃ i : Nat, s = .int .i64 i ∧ i ≤ len ∧ Below w1.heap.size w1 wr ∧ Hid (Ones (sbef n bs tu) xs len i)) (fun s _ => len - (intOf s).toNat)
  case atStart => exact ⟨0, rfl, by omega, Below.refl _ _, fun t ht => by omega⟩
  case round =>
    obtain ⟨i, rfl, hi, hbw, HI⟩ := hrel
    have HB1 := Lib.hid hbw
    by_cases hlt : i < len
    · have hlt' : (i : Int) < len := by omega
      obtain ⟨b, off, rfl, hbs, c0, c1⟩ := (HS.out.belowS hbw).itAt i hlt
      have B2 := Lib.hid (below1 wr (.cells #[.int .i64 (el xs i).1, .int .i64 (el xs i).2] 57))
      have bo := (HP.out.keep hbw).keep B2.out
      have ba := boxI_new wr (el xs i) 57
      have HO2 := Lib.hid (HO.out.below (hbw.trans (B2.out.mono hbw.size)))
      have HBO := Lib.hid bo
      have HBA := Lib.hid ba
      have HB2 := Lib.hid (hbw.trans (B2.out.mono hbw.size))
      obtain ⟨o0, o1, o2⟩ := bo
      obtain ⟨a0, a1⟩ := ba
      clear hbw
      cases hr : sbef n bs tu (el xs i) (el xs i) with
      | true =>
        have HN := Lib.hid (show ¬ WeakOn (sbef n bs tu) xs from fun h => by rw [h.irr _ (el_mem HL.out hlt)] at hr; cases hr)
        go_wp2_with fail
        refine (spec_Before n ab lb cb bs tu (el xs i) (el xs i) _ HO2.out).mono ?_
        rintro e w3 ⟨rfl, hb3⟩
        rw [hr]
        have HB3 := Lib.hid (HB2.out.trans (hb3.mono HB2.out.size))
        clear o0 o1 o2 a0 a1 hb3 hr
        go_wp2_with fail
        go_ret
        exact ⟨by rw [weakB_not HN.out]; rfl, by rw [HPE.out]; exact B0.out.trans (HB3.out.mono (by rw [← HPE.out]; exact B0.out.size))⟩
      | false =>
        have HR := Lib.hid hr
        go_wp2_with fail
        refine (spec_Before n ab lb cb bs tu (el xs i) (el xs i) _ HO2.out).mono ?_
        rintro e w3 ⟨rfl, hb3⟩
        rw [hr]
        have HB3 := Lib.hid (HB2.out.trans (hb3.mono HB2.out.size))
        have HBO3 := Lib.hid (HBO.out.keep hb3)
        have HBA3 := Lib.hid (HBA.out.keep hb3)
        clear o0 o1 o2 a0 a1 hb3 hr c0 c1 HBO HBA HO2 HB2 B2
        generalize wr.heap.size = PA at *
        go_wp2_with fail
        go_loopw [26] (fun s wr2 => ∃ j : Nat, s = .int .i64 j ∧ j ≤ len ∧ Below w3.heap.size w3 wr2 ∧ Hid (Pairs (sbef n bs tu) xs len i j)) (fun s _ => len - (intOf s).toNat)
        case atStart => exact ⟨0, rfl, by omega, Below.refl _ _, fun t ht => by omega⟩
        case round =>
          obtain ⟨j, rfl, hj, hbw, HJ⟩ := hrel
          by_cases hlj : j < len
          · have hlj' : (j : Int) < len := by omega
            obtain ⟨b', off', hab', hbs', c0, c1⟩ := (HS.out.belowS (HB3.out.trans (hbw.mono HB3.out.size))).itAt j hlj
            cases hab'
            rename World => wr2
            have B4 := Lib.hid (below1 wr2 (.cells #[.int .i64 (el xs j).1, .int .i64 (el xs j).2] 57))
            have HB4 := Lib.hid (HB3.out.trans ((hbw.trans (B4.out.mono hbw.size)).mono HB3.out.size))
            have HB34 := Lib.hid (hbw.trans (B4.out.mono hbw.size))
            have HBO4 := Lib.hid ((HBO3.out.keep hbw).keep B4.out)
            have HBA4 := Lib.hid ((HBA3.out.keep hbw).keep B4.out)
            have HBB4 := Lib.hid (boxI_new wr2 (el xs j) 57)
            clear hbw
            go_wp2_with fail
            generalize wr2.alloc (.cells #[.int .i64 (el xs j).1, .int .i64 (el xs j).2] 57) = w4 at *
            have HZ4 := Lib.hid B4.out.size
            clear B4 c0 c1
            generalize wr2.heap.size = PB at *
            go_loopw [32] (fun s wr3 => ∃ k : Nat, s = .int .i64 k ∧ k ≤ len ∧ Below w4.heap.size w4 wr3 ∧ Hid (Tri (sbef n bs tu) xs i j k)) (fun s _ => len - (intOf s).toNat)
            case atStart => exact ⟨0, rfl, by omega, Below.refl _ _, fun t ht => by omega⟩
            case round =>
              obtain ⟨k, rfl, hk, hbw, HK⟩ := hrel
              by_cases hlk : k < len
              · have hlk' : (k : Int) < len := by omega
                obtain ⟨b', off', hab', hbs', c0, c1⟩ := (HS.out.belowS (HB4.out.trans (hbw.mono HB4.out.size))).itAt k hlk
                cases hab'
                rename World => wr3
                have B5 := Lib.hid (below1 wr3 (.cells #[.int .i64 (el xs k).1, .int .i64 (el xs k).2] 57))
                have HB5 := Lib.hid (HB4.out.trans ((hbw.trans (B5.out.mono hbw.size)).mono HB4.out.size))
                have bo := (HBO4.out.keep hbw).keep B5.out
                have ba := (HBA4.out.keep hbw).keep B5.out
                have bb := (HBB4.out.keep hbw).keep B5.out
                have bc := boxI_new wr3 (el xs k) 57
                have HBW := Lib.hid (hbw.trans (B5.out.mono hbw.size))
                obtain ⟨o0, o1, o2⟩ := bo
                obtain ⟨a0, a1⟩ := ba
                obtain ⟨b0, b1⟩ := bb
                obtain ⟨d0, d1⟩ := bc
                clear hbw
                go_wp2_with fail
                generalize wr3.alloc (.cells #[.int .i64 (el xs k).1, .int .i64 (el xs k).2] 57) = w5 at *
                clear B5 c0 c1
                generalize wr3.heap.size = PC at *
                obtain ⟨r1, hr1⟩ : ∃ r, sbef n bs tu (el xs i) (el xs j) = r := ⟨_, rfl⟩
                obtain ⟨r2, hr2⟩ : ∃ r, sbef n bs tu (el xs j) (el xs k) = r := ⟨_, rfl⟩
                obtain ⟨r3, hr3⟩ : ∃ r, sbef n bs tu (el xs i) (el xs k) = r := ⟨_, rfl⟩
                have R1 := Lib.hid hr1
                have R2 := Lib.hid hr2
                have R3 := Lib.hid hr3
                have mi := Lib.hid (el_mem HL.out hlt)
                have mj := Lib.hid (el_mem HL.out hlj)
                have mk := Lib.hid (el_mem HL.out hlk)
                have H1 := Lib.hid (fun (W : World) (hW : Below w5.heap.size w5 W) => (spec_Before n ab lb cb bs tu (el xs i) (el xs j) W (HO.out.below (HB5.out.trans (hW.mono HB5.out.size)))))
                have H2 := Lib.hid (fun (W : World) (hW : Below w5.heap.size w5 W) => (spec_Before n ab lb cb bs tu (el xs j) (el xs k) W (HO.out.below (HB5.out.trans (hW.mono HB5.out.size)))))
                have H3 := Lib.hid (fun (W : World) (hW : Below w5.heap.size w5 W) => (spec_Before n ab lb cb bs tu (el xs i) (el xs k) W (HO.out.below (HB5.out.trans (hW.mono HB5.out.size)))))
                rw [hr1] at H1
                rw [hr2] at H2
                rw [hr3] at H3
                clear hr1 hr2 hr3
                have HKeep := Lib.hid (show ∀ W W', SW4 P n (.slice ab lb cb) tu PA (el xs i) PB (el xs j) PC (el xs k) w5 W → Below W.heap.size W W' → SW4 P n (.slice ab lb cb) tu PA (el xs i) PB (el xs j) PC (el xs k) w5 W' from fun W W' h hb => h.keep hb)
                cases r1 <;> cases r2 <;> cases r3
                all_goals
                  go_region_held3 (fun w' => w'.cell? ⟨P, 0, none⟩ = some (.int .i64 n) ∧ w'.cell? ⟨P, 1, none⟩ = some (.slice ab lb cb) ∧ w'.cell? ⟨P, 2, none⟩ = some (.bool tu) ∧ w'.cell? ⟨PA, 0, none⟩ = some (.int .i64 (el xs i).1) ∧ w'.cell? ⟨PA, 1, none⟩ = some (.int .i64 (el xs i).2) ∧ w'.cell? ⟨PB, 0, none⟩ = some (.int .i64 (el xs j).1) ∧ w'.cell? ⟨PB, 1, none⟩ = some (.int .i64 (el xs j).2) ∧ w'.cell? ⟨PC, 0, none⟩ = some (.int .i64 (el xs k).1) ∧ w'.cell? ⟨PC, 1, none⟩ = some (.int .i64 (el xs k).2) ∧ Below w5.heap.size w5 w')
                    (first | exact ⟨o0, o1, o2, a0, a1, b0, b1, d0, d1, (Below.refl _ _).drew⟩ | assumption)
                    (first
                      | (go_at_call 63; with_reducible refine (H1.out _ (SW4.below (by assumption))).mono ?_; rintro e w' ⟨rfl, hb'⟩; have hS' := HKeep.out _ _ (by assumption) hb')
                      | (go_at_call 63; with_reducible refine (H2.out _ (SW4.below (by assumption))).mono ?_; rintro e w' ⟨rfl, hb'⟩; have hS' := HKeep.out _ _ (by assumption) hb')
                      | (go_at_call 63; with_reducible refine (H3.out _ (SW4.below (by assumption))).mono ?_; rintro e w' ⟨rfl, hb'⟩; have hS' := HKeep.out _ _ (by assumption) hb'))
                  go_wp2_with fail
                  first
                    | (go_ret
                       refine ⟨?_, ?_⟩
                       · rw [weakB_not (show ¬ WeakOn (sbef n bs tu) xs from fun h => by
                           first
                             | (have hh := h.tr _ mi.out _ mj.out _ mk.out R1.out R2.out; rw [R3.out] at hh; cases hh; done)
                             | (have hh := h.ntr _ mi.out _ mj.out _ mk.out R1.out R2.out; rw [R3.out] at hh; cases hh; done))]
                         rfl
                       · have h5 := HB5.out.trans (hS'.below.mono HB5.out.size)
                         rw [HPE.out]; exact B0.out.trans (h5.mono (by rw [← HPE.out]; exact B0.out.size)))
                    | (go_roundw
                       case rel =>
                         refine ⟨k + 1, by go_num, by omega, HBW.out.trans (hS'.below.mono HBW.out.size), ?_⟩
                         intro t ht
                         by_cases htk : t = k
                         · subst htk
                           rw [R1.out, R2.out, R3.out]
                           simp
                         · exact HK.out t (by omega)
                       case measure => simp [intOf]; omega)
              · obtain rfl : k = len := by omega
                have HBK := Lib.hid hbw
                clear hbw
                go_wp2
                go_roundw
                case rel =>
                  refine ⟨j + 1, by go_num, by omega, ?_, ?_⟩
                  · exact HB34.out.trans (HBK.out.mono HB34.out.size)
                  · intro t ht
                    by_cases htj : t = j
                    · subst htj; exact HK.out
                    · exact HJ.out t (by omega)
                case measure => simp [intOf]; omega
          · obtain rfl : j = len := by omega
            have HBJ := Lib.hid hbw
            clear hbw
            go_wp2
            go_roundw
            case rel =>
              refine ⟨i + 1, by go_num, by omega, ?_, ?_⟩
              · exact HB3.out.trans (HBJ.out.mono HB3.out.size)
              · intro t ht
                by_cases hti : t = i
                · subst hti; exact ⟨HR.out, HJ.out⟩
                · exact HI.out t (by omega)
            case measure => simp [intOf]; omega
    · obtain rfl : i = len := by omega
      have HW := Lib.hid (weakB_of (weak_of_ones HL.out HI.out))
      go_wp2
      go_ret
      exact ⟨by rw [HW.out]; rfl, by rw [HPE.out]; exact B0.out.trans (HB1.out.mono (by rw [← HPE.out]; exact B0.out.size))⟩
theorem spec_Weak_at (r : Bool) (n : Int) (ab : Option Addr) (lb cb : Nat) (bs : List Bool) (tu : Bool) (a : Option Addr) (len cap : Nat) (xs : List It) (w : World) (hr : weakB (sbef n bs tu) xs = r) (hs : SlK 2 encIt w a len cap xs) (ho : Sl Value.bool w ab lb cb bs) (hl : len < 4611686018427387904) :
    Calls Try.prog 45 #[.agg #[.int .i64 n, .slice ab lb cb, .bool tu], .slice a len cap] w fun e w' => e = .returned (.bool r) ∧ Below w.heap.size w w' := by
  subst hr; exact spec_Weak n ab lb cb bs tu a len cap xs w hs ho hl
#print axioms spec_Weak
end Go.Proofs.Ytaifikhgijnkgaa
