/- The walk of laws.FnReverseThenSorted. No conditions. -/
import Derived.Test.YtaifikhgijnkgaaLawKit
import Derived.Test.YtaifikhgijnkgaaSortedSpec
import Derived.Test.YtaifikhgijnkgaaClosure
import Derived.Test.YtaifikhgijnkgaaRevSort
import Derived.Test.YtaifikhgijnkgaaRanks
namespace Go.Proofs.Ytaifikhgijnkgaa
open Go.RowKit
set_option linter.unusedVariables false

/-- Of the pairs up to (i, j) none is in the relation. -/
def noneB (r : It → It → Bool) (xs : List It) (n i j : Nat) : Bool := (List.range i).all (fun t => (List.range n).all fun u => !r (el xs t) (el xs u)) && (List.range j).all fun u => !r (el xs i) (el xs u)
theorem noneB_zero (r : It → It → Bool) (xs : List It) (n : Nat) : noneB r xs n 0 0 = true := by simp [noneB]
theorem noneB_succ (r : It → It → Bool) (xs : List It) (n i j : Nat) : noneB r xs n i (j + 1) = (noneB r xs n i j && !r (el xs i) (el xs j)) := by
  simp [noneB, List.range_succ, Bool.and_assoc]
theorem noneB_next (r : It → It → Bool) (xs : List It) (n i : Nat) : noneB r xs n (i + 1) 0 = noneB r xs n i n := by
  simp [noneB, List.range_succ]
theorem noneB_iff (r : It → It → Bool) (xs : List It) (n : Nat) : noneB r xs n n 0 = true ↔ ∀ t u, t < n → u < n → r (el xs t) (el xs u) = false := by
  simp only [noneB, List.all_eq_true, List.mem_range, Bool.and_eq_true, Bool.not_eq_true', List.range_zero, List.not_mem_nil]
  exact ⟨fun h t u ht hu => h.1 t ht u hu, fun h => ⟨fun t ht u hu => h t u ht hu, fun u hu => absurd hu (by simp)⟩⟩

theorem both_ways {n : Int} {bs : List Bool} {xs O : List It} (hw : WeakOn (sbef n bs false) xs) (hp : O.Perm xs) (hs : O.Pairwise fun x y => sbef n bs true y x = false) :
    adjB (sbef n bs true) O = true ∧ adjB (sbef n bs false) O = noneB (sbef n bs false) xs xs.length xs.length 0 := by
  have wO := hw.perm hp
  have tO := weak_turn wO
  have st : ∀ x y, sbef n bs true x y = sbef n bs false y x := fun x y => by simp [sbef]
  have pT : ∀ i k, k < i → i < O.length → sbef n bs true (el O i) (el O k) = false := fun i k hk hi => by
    rw [el_eq O i hi, el_eq O k (by omega)]
    exact List.pairwise_iff_getElem.1 hs k i (by omega) hi hk
  refine ⟨?_, ?_⟩
  · rw [adjB_iff]
    exact fun i h0 hi => pT i (i - 1) (by omega) hi
  · rw [adj_pair_of (sbef n bs false) (xs := O) wO.ntr, Bool.eq_iff_iff, pairB_iff, noneB_iff]
    constructor
    · intro h
      have all : ∀ i k, i < O.length → k < O.length → sbef n bs false (el O i) (el O k) = false := fun i k hi hk => by
        rcases Nat.lt_trichotomy i k with h1 | h1 | h1
        · rw [← st]; exact pT k i h1 hk
        · subst h1; exact wO.irr _ (mem_el hi)
        · exact h i k h1 hi
      intro t u ht hu
      have key : ∀ m, m < xs.length → ∃ i, i < O.length ∧ el O i = el xs m := fun m hm => by
        obtain ⟨i, hi, he⟩ := List.getElem_of_mem (hp.mem_iff.2 (mem_el hm))
        exact ⟨i, hi, by rw [el_eq O i hi]; exact he⟩
      obtain ⟨i, hi, e1⟩ := key t ht
      obtain ⟨k, hk, e2⟩ := key u hu
      rw [← e1, ← e2]
      exact all i k hi hk
    · intro h i k hk hi
      have key : ∀ m, m < O.length → ∃ i, i < xs.length ∧ el xs i = el O m := fun m hm => by
        obtain ⟨i, hi, he⟩ := List.getElem_of_mem (hp.mem_iff.1 (mem_el hm))
        exact ⟨i, hi, by rw [el_eq xs i hi]; exact he⟩
      obtain ⟨a, ha, e1⟩ := key i hi
      obtain ⟨b, hb, e2⟩ := key k (by omega)
      rw [← e1, ← e2]
      exact h a b ha hb

/-- The cells that a round of the inner loop reads. -/
abbrev S13 (P : Nat) (n : Int) (t : Value) (PA : Nat) (x : It) (PB : Nat) (y : It) (w6 w' : World) : Prop :=
  w'.cell? ⟨P, 0, none⟩ = some (.int .i64 n) ∧ w'.cell? ⟨P, 1, none⟩ = some t ∧ w'.cell? ⟨PA, 0, none⟩ = some (.int .i64 x.1) ∧ w'.cell? ⟨PA, 1, none⟩ = some (.int .i64 x.2) ∧ w'.cell? ⟨PB, 0, none⟩ = some (.int .i64 y.1) ∧ w'.cell? ⟨PB, 1, none⟩ = some (.int .i64 y.2) ∧ Below w6.heap.size w6 w'
theorem S13.below {P : Nat} {n : Int} {t : Value} {PA : Nat} {x : It} {PB : Nat} {y : It} {w6 W : World} (h : S13 P n t PA x PB y w6 W) : Below w6.heap.size w6 W := h.2.2.2.2.2.2
theorem S13.keep {P : Nat} {n : Int} {t : Value} {PA : Nat} {x : It} {PB : Nat} {y : It} {w6 W W' : World} (h : S13 P n t PA x PB y w6 W) (hb : Below W.heap.size W W') : S13 P n t PA x PB y w6 W' := by
  obtain ⟨h0, h1, h3, h4, h5, h6, h9⟩ := h
  have k : ∀ {p : Addr} {v : Value}, p.spot = none → W.cell? p = some v → W'.cell? p = some v := fun {p v} hp hv => (hb.cell (p := p) (by obtain ⟨b, o, s⟩ := p; subst hp; exact block_of_cell hv)).trans hv
  exact ⟨k rfl h0, k rfl h1, k rfl h3, k rfl h4, k rfl h5, k rfl h6, h9.trans (hb.mono h9.size)⟩

set_option maxHeartbeats 4000000 in
set_option maxRecDepth 100000 in
theorem walk_FnReverseThenSorted (a0 : Option Addr) (len0 cap0 : Nat) (x0 : List It) (n1 : Int) (a1 : Option Addr) (len1 cap1 : Nat) (x1 : List Bool) (w : World)
    (s0 : SlK 2 encIt w a0 len0 cap0 x0) (g0 : ∀ x ∈ x0, okIt x) (b0 : cap0 * 16 ≤ 140737488351232) (g1 : (Lit.int .i64 n1).wf = true) (s1 : Sl Value.bool w a1 len1 cap1 x1) (b1 : cap1 ≤ 9223372036854775807) :
    Calls Try.prog 36 #[.slice a0 len0 cap0, .agg #[.int .i64 n1, .slice a1 len1 cap1]] w (Good w) := by
  have hcap := s0.2.1
  have HL := Lib.hid s0.1
  have B1 := Lib.hid (below1 w (.cells #[.int .i64 n1, .slice a1 len1 cap1] 33))
  have HS := Lib.hid (s0.belowS B1.out)
  have HT := Lib.hid (s1.below B1.out)
  have HP := Lib.hid (box2_new w n1 (.slice a1 len1 cap1) 33)
  clear s0 s1 g0 g1
  go_enter Try.func36, Try.ntmps36
  have GOOD := Lib.hid (show ∀ w', Below (w.alloc (.cells #[.int .i64 n1, .slice a1 len1 cap1] 33)).heap.size (w.alloc (.cells #[.int .i64 n1, .slice a1 len1 cap1] 33)) w' → Below w.heap.size w w' from fun w' h => B1.out.trans (h.mono B1.out.size))
  go_wp2_with fail
  generalize w.alloc (.cells #[.int .i64 n1, .slice a1 len1 cap1] 33) = w1 at *
  generalize hPe : w.heap.size = P at *
  have HPE := Lib.hid hPe
  clear hPe
  refine (laws_so n1 a1 len1 cap1 w1).mono ?_
  rintro e w2 ⟨rfl, hb2⟩
  have HB2 := Lib.hid hb2
  clear hb2
  go_wp2_with fail
  refine (laws_sItems a0 len0 cap0 x0 w2 (HS.out.belowS HB2.out) (by omega)).mono ?_
  rintro e w3 ⟨aB, cB, rfl, hoB, hsB, hbB⟩
  have HB3 := Lib.hid (HB2.out.trans (hbB.mono HB2.out.size))
  have HSB := Lib.hid hsB
  clear hbB hoB hsB
  cases hw : weakB (sbef n1 x1 false) x0 with
  | false =>
    go_wp2_with fail
    refine (spec_Weak_at false n1 a1 len1 cap1 x1 false aB len0 cB x0 w3 hw HSB.out (HT.out.below HB3.out) (by omega)).mono ?_
    rintro e w4 ⟨rfl, hb4⟩
    have HB4 := Lib.hid (HB3.out.trans (hb4.mono HB3.out.size))
    clear hb4
    go_wp2_with fail
    go_ret
    exact ⟨rfl, by rw [HPE.out]; exact GOOD.out _ HB4.out⟩
  | true =>
    go_wp2_with fail
    refine (spec_Weak_at true n1 a1 len1 cap1 x1 false aB len0 cB x0 w3 hw HSB.out (HT.out.below HB3.out) (by omega)).mono ?_
    rintro e w4 ⟨rfl, hb4⟩
    have HB4 := Lib.hid (HB3.out.trans (hb4.mono HB3.out.size))
    have HW := Lib.hid (weakB_true hw)
    obtain ⟨p0, p1⟩ := HP.out.keep HB4.out
    clear hb4 hw HSB
    go_wp2_with fail
    refine (impl_ReverseSort a0 len0 cap0 x0 n1 a1 len1 cap1 x1 w4 (HS.out.belowS HB4.out) (by omega) (HT.out.below HB4.out)).mono ?_
    rintro e w5 ⟨O, ⟨a2, c2, rfl, ho2, hs2, hb2⟩, hso⟩
    have HB5 := Lib.hid (HB4.out.trans (hb2.mono HB4.out.size))
    have HS5 := Lib.hid hs2
    have HBW := Lib.hid (show adjB (sbef n1 x1 true) O = true ∧ adjB (sbef n1 x1 false) O = noneB (sbef n1 x1 false) x0 len0 len0 0 by
      have h := both_ways HW.out hso.1 (by rw [sbef_true] at hso; exact hso.2 (weak_turn HW.out))
      rw [HL.out] at h; exact h)
    clear ho2 hs2 hb2 hso p0 p1
    go_wp2_with fail
    refine (laws_sItems a0 len0 cap0 x0 w5 (HS.out.belowS HB5.out) (by omega)).mono ?_
    rintro e w5' ⟨aC, cC, rfl, hoC, hsC, hbC⟩
    have HBC := Lib.hid hbC
    have HSC := Lib.hid hsC
    clear hoC hsC hbC
    go_wp2_with fail
    go_loopw [6, 28] (fun s6 s28 wr => ∃ i : Nat, s6 = .bool (noneB (sbef n1 x1 false) x0 len0 i 0) ∧ s28 = .int .i64 i ∧ i ≤ len0 ∧ Below w5'.heap.size w5' wr) (fun _ s _ => len0 - (intOf s).toNat)
    case atStart => exact ⟨0, by rw [noneB_zero], rfl, by omega, Below.refl _ _⟩
    case round =>
      obtain ⟨i, rfl, rfl, hi, hbw⟩ := hrel
      have HBI := Lib.hid hbw
      have HB6 := Lib.hid (HB5.out.trans ((HBC.out.trans (hbw.mono HBC.out.size)).mono HB5.out.size))
      by_cases hlt : i < len0
      · have hlt' : (i : Int) < len0 := by omega
        obtain ⟨b, off, rfl, hbs, c0, c1⟩ := (HSC.out.belowS hbw).itAt i hlt
        have B2 := Lib.hid (below1 wr (.cells #[.int .i64 (el x0 i).1, .int .i64 (el x0 i).2] 57))
        have HBA := Lib.hid (boxI_new wr (el x0 i) 57)
        have HB7 := Lib.hid (HB6.out.trans (B2.out.mono HB6.out.size))
        have HBI2 := Lib.hid (HBI.out.trans (B2.out.mono HBI.out.size))
        clear hbw
        go_wp2_with fail
        generalize wr.alloc (.cells #[.int .i64 (el x0 i).1, .int .i64 (el x0 i).2] 57) = w7 at *
        generalize wr.heap.size = PA at *
        clear c0 c1 B2
        refine (laws_sItems a0 len0 cap0 x0 w7 (HS.out.belowS HB7.out) (by omega)).mono ?_
        rintro e w8 ⟨aD, cD, rfl, hoD, hsD, hbD⟩
        have HBD := Lib.hid hbD
        have HSD := Lib.hid hsD
        clear hoD hsD hbD
        go_wp2_with fail
        go_loopw [6, 35] (fun s6 s35 wr2 => ∃ j : Nat, s6 = .bool (noneB (sbef n1 x1 false) x0 len0 i j) ∧ s35 = .int .i64 j ∧ j ≤ len0 ∧ Below w8.heap.size w8 wr2) (fun _ s _ => len0 - (intOf s).toNat)
        case atStart => exact ⟨0, rfl, rfl, by omega, Below.refl _ _⟩
        case round =>
          obtain ⟨j, rfl, rfl, hj, hbw⟩ := hrel
          have HBJ := Lib.hid hbw
          have HB9 := Lib.hid (HB7.out.trans ((HBD.out.trans (hbw.mono HBD.out.size)).mono HB7.out.size))
          have HA9 := Lib.hid ((HBA.out.keep HBD.out).keep hbw)
          by_cases hlj : j < len0
          · have hlj' : (j : Int) < len0 := by omega
            obtain ⟨b', off', hab', hbs', c0, c1⟩ := (HSD.out.belowS hbw).itAt j hlj
            cases hab'
            rename World => wr2
            have B3 := Lib.hid (below1 wr2 (.cells #[.int .i64 (el x0 j).1, .int .i64 (el x0 j).2] 57))
            have HB10 := Lib.hid (HB9.out.trans (B3.out.mono HB9.out.size))
            have HBJ2 := Lib.hid (HBJ.out.trans (B3.out.mono HBJ.out.size))
            have ba := HA9.out.keep B3.out
            have bb := boxI_new wr2 (el x0 j) 57
            have bp := HP.out.keep HB10.out
            clear hbw
            go_wp2_with fail
            generalize wr2.alloc (.cells #[.int .i64 (el x0 j).1, .int .i64 (el x0 j).2] 57) = w6 at *
            generalize wr2.heap.size = PB at *
            clear c0 c1 B3
            obtain ⟨p0, p1⟩ := bp
            obtain ⟨c0, c1⟩ := ba
            obtain ⟨d0, d1⟩ := bb
            have HKeep := Lib.hid (show ∀ W W', S13 P n1 (.slice a1 len1 cap1) PA (el x0 i) PB (el x0 j) w6 W → Below W.heap.size W W' → S13 P n1 (.slice a1 len1 cap1) PA (el x0 i) PB (el x0 j) w6 W' from fun W W' h hb => h.keep hb)
            have HBel := Lib.hid (show ∀ W, S13 P n1 (.slice a1 len1 cap1) PA (el x0 i) PB (el x0 j) w6 W → Below w6.heap.size w6 W from fun W h => h.below)
            have HBf := Lib.hid (show ∀ W, Below w6.heap.size w6 W → Calls Try.prog 63 #[.agg #[.int .i64 n1, .slice a1 len1 cap1, .bool false], .agg #[.int .i64 (el x0 i).1, .int .i64 (el x0 i).2], .agg #[.int .i64 (el x0 j).1, .int .i64 (el x0 j).2]] W fun e w' => e = .returned (.bool (sbef n1 x1 false (el x0 i) (el x0 j))) ∧ Below W.heap.size W w' from fun W h => spec_Before n1 a1 len1 cap1 x1 false (el x0 i) (el x0 j) W (HT.out.below (HB10.out.trans (h.mono HB10.out.size))))
            have HSC2 := Lib.hid (noneB_succ (sbef n1 x1 false) x0 len0 i j)
            cases hsame : noneB (sbef n1 x1 false) x0 len0 i j with
            | true =>
              have HSM := Lib.hid hsame
              clear hsame
              refine wp_region_held_drew (S := (fun w' => w'.cell? ⟨P, 0, none⟩ = some (.int .i64 n1) ∧ w'.cell? ⟨P, 1, none⟩ = some (.slice a1 len1 cap1) ∧ w'.cell? ⟨PA, 0, none⟩ = some (.int .i64 (el x0 i).1) ∧ w'.cell? ⟨PA, 1, none⟩ = some (.int .i64 (el x0 i).2) ∧ w'.cell? ⟨PB, 0, none⟩ = some (.int .i64 (el x0 j).1) ∧ w'.cell? ⟨PB, 1, none⟩ = some (.int .i64 (el x0 j).2) ∧ Below w6.heap.size w6 w')) (by kernel_rfl) (⟨p0, p1, c0, c1, d0, d1, (Below.refl _ _).drew⟩) (fun hHeld => ?_)
              try dsimp only at hHeld
              refine wpAnyH_take (i := 0) (oi := { dst := some 39, op := Go.Op.move (Go.Operand.tmp 6), type := 4, pos := "laws.go:49", after := #[], guard := none }) (v := ?_) rfl (by kernel_rfl) (by kernel_rfl) (by kernel_rfl) (fun _ _ _ h => h) (Or.inl ⟨by kernel_rfl, ?_⟩) hHeld ?_
              rotate_left
              · (intro w hSw; (try dsimp only at hSw); go_simp; try with_reducible rfl)
              try simp only [Act.put, List.setIfInBounds_toArray, List.set_cons_zero, List.set_cons_succ]
              refine wpAnyH_take (i := 1) (oi := { dst := some 40, op := Go.Op.move (Go.Operand.tmp 39), type := 4, pos := "laws.go:49", after := #[{ on := 0, ground := Go.Ground.data }], guard := none }) (v := ?_) rfl (by kernel_rfl) (by kernel_rfl) (by kernel_rfl) (fun _ _ _ h => h) (Or.inl ⟨by kernel_rfl, ?_⟩) hHeld ?_
              rotate_left
              · (intro w hSw; (try dsimp only at hSw); go_simp; try with_reducible rfl)
              try simp only [Act.put, List.setIfInBounds_toArray, List.set_cons_zero, List.set_cons_succ]
              refine wpAnyH_take (i := 2) (oi := { dst := some 41, op := Go.Op.load 33 (Go.Operand.tmp 3), type := 33, pos := "laws.go:49", after := #[{ on := 1, ground := Go.Ground.guard }], guard := some (1, true) }) (v := ?_) rfl (by kernel_rfl) (by kernel_rfl) (by kernel_rfl) (fun _ _ _ h => h) (Or.inl ⟨by kernel_rfl, ?_⟩) hHeld ?_
              rotate_left
              · (intro w hSw; (try dsimp only at hSw); go_simp; try with_reducible rfl)
              try simp only [Act.put, List.setIfInBounds_toArray, List.set_cons_zero, List.set_cons_succ]
              refine wpAnyH_take (i := 4) (oi := { dst := some 43, op := Go.Op.load 57 (Go.Operand.tmp 8), type := 57, pos := "laws.go:49", after := #[{ on := 1, ground := Go.Ground.guard }], guard := some (1, true) }) (v := ?_) rfl (by kernel_rfl) (by kernel_rfl) (by kernel_rfl) (fun _ _ _ h => h) (Or.inl ⟨by kernel_rfl, ?_⟩) hHeld ?_
              rotate_left
              · (intro w hSw; (try dsimp only at hSw); go_simp; try with_reducible rfl)
              try simp only [Act.put, List.setIfInBounds_toArray, List.set_cons_zero, List.set_cons_succ]
              refine wpAnyH_take (i := 5) (oi := { dst := some 44, op := Go.Op.load 57 (Go.Operand.tmp 10), type := 57, pos := "laws.go:49", after := #[{ on := 1, ground := Go.Ground.guard }], guard := some (1, true) }) (v := ?_) rfl (by kernel_rfl) (by kernel_rfl) (by kernel_rfl) (fun _ _ _ h => h) (Or.inl ⟨by kernel_rfl, ?_⟩) hHeld ?_
              rotate_left
              · (intro w hSw; (try dsimp only at hSw); go_simp; try with_reducible rfl)
              try simp only [Act.put, List.setIfInBounds_toArray, List.set_cons_zero, List.set_cons_succ]
              refine wpAnyH_ready (rs := [3]) (by kernel_rfl) (by simp) ?_
              refine AllReadyH.cons (o := { dst := some 42, op := Go.Op.call { callee := Go.Callee.value (Go.Operand.func 46), args := #[Go.Operand.tmp 41], argTypes := #[33] }, type := 37, pos := "laws.go:49", after := #[{ on := 2, ground := Go.Ground.data }, { on := 1, ground := Go.Ground.chain }, { on := 1, ground := Go.Ground.guard }], guard := some (1, true) }) rfl (fun K hK => ?_) AllReadyH.nil
              go_simp
              refine (laws_so n1 a1 len1 cap1 _).mono ?_
              rintro e w7 ⟨rfl, hb7⟩
              have hS' := HKeep.out _ _ hHeld hb7
              try go_wp2_with fail
              refine hK.out _ _ hS' (fun hHeld => ?_)
              try dsimp only at hHeld
              clear hK K
              try simp only [Act.put, List.setIfInBounds_toArray, List.set_cons_zero, List.set_cons_succ]
              refine wpAnyH_ready (rs := [6]) (by kernel_rfl) (by simp) ?_
              refine AllReadyH.cons (o := { dst := some 45, op := Go.Op.call { callee := Go.Callee.value (Go.Operand.func 63), args := #[Go.Operand.tmp 42, Go.Operand.tmp 43, Go.Operand.tmp 44], argTypes := #[37, 57, 57] }, type := 4, pos := "laws.go:49", after := #[{ on := 3, ground := Go.Ground.data }, { on := 4, ground := Go.Ground.data }, { on := 5, ground := Go.Ground.data }, { on := 3, ground := Go.Ground.chain }, { on := 1, ground := Go.Ground.guard }], guard := some (1, true) }) rfl (fun K hK => ?_) AllReadyH.nil
              go_simp
              refine (HBf.out _ (HBel.out _ hHeld)).mono ?_
              rintro e w8 ⟨rfl, hb8⟩
              have hS' := HKeep.out _ _ hHeld hb8
              try go_wp2_with fail
              refine hK.out _ _ hS' (fun hHeld => ?_)
              try dsimp only at hHeld
              clear hK K
              try simp only [Act.put, List.setIfInBounds_toArray, List.set_cons_zero, List.set_cons_succ]
              refine wpAnyH_take (i := 7) (oi := { dst := some 46, op := Go.Op.unOp Go.UnOp.not 4 (Go.Operand.tmp 45), type := 4, pos := "laws.go:49", after := #[{ on := 6, ground := Go.Ground.data }, { on := 1, ground := Go.Ground.guard }], guard := some (1, true) }) (v := ?_) rfl (by kernel_rfl) (by kernel_rfl) (by kernel_rfl) (fun _ _ _ h => h) (Or.inl ⟨by kernel_rfl, ?_⟩) hHeld ?_
              rotate_left
              · (intro w hSw; (try dsimp only at hSw); go_simp; try with_reducible rfl)
              try simp only [Act.put, List.setIfInBounds_toArray, List.set_cons_zero, List.set_cons_succ]
              refine wpAnyH_take (i := 8) (oi := { dst := some 47, op := Go.Op.pick (Go.Operand.tmp 40) (Go.Operand.tmp 46) (Go.Operand.const (Go.Value.bool false)), type := 4, pos := "laws.go:49", after := #[{ on := 1, ground := Go.Ground.data }, { on := 7, ground := Go.Ground.data }], guard := none }) (v := ?_) rfl (by kernel_rfl) (by kernel_rfl) (by kernel_rfl) (fun _ _ _ h => h) (Or.inl ⟨by kernel_rfl, ?_⟩) hHeld ?_
              rotate_left
              · (intro w hSw; (try dsimp only at hSw); go_simp; try with_reducible rfl)
              try simp only [Act.put, List.setIfInBounds_toArray, List.set_cons_zero, List.set_cons_succ]
              refine wpAnyH_take (i := 9) (oi := { dst := some 6, op := Go.Op.assign (Go.Operand.tmp 47), type := 4, pos := "laws.go:49", after := #[{ on := 8, ground := Go.Ground.data }, { on := 6, ground := Go.Ground.chain }, { on := 0, ground := Go.Ground.phase }, { on := 1, ground := Go.Ground.phase }, { on := 2, ground := Go.Ground.phase }, { on := 3, ground := Go.Ground.phase }, { on := 4, ground := Go.Ground.phase }, { on := 5, ground := Go.Ground.phase }, { on := 6, ground := Go.Ground.phase }, { on := 7, ground := Go.Ground.phase }, { on := 8, ground := Go.Ground.phase }], guard := none }) (v := ?_) rfl (by kernel_rfl) (by kernel_rfl) (by kernel_rfl) (fun _ _ _ h => h) (Or.inl ⟨by kernel_rfl, ?_⟩) hHeld ?_
              rotate_left
              · (intro w hSw; (try dsimp only at hSw); go_simp; try with_reducible rfl)
              try simp only [Act.put, List.setIfInBounds_toArray, List.set_cons_zero, List.set_cons_succ]
              refine wpAnyH_done (by kernel_rfl) ?_ _
              have HB11 := Lib.hid (HBJ2.out.trans ((HBel.out _ hHeld).mono HBJ2.out.size))
              go_wp2_with fail
              go_roundw
              case rel => exact ⟨j + 1, by rw [HSC2.out, HSM.out]; rfl, by go_num, by omega, HB11.out⟩
              case measure => simp [intOf]; omega
            | false =>
              have HSM := Lib.hid hsame
              clear hsame
              refine wp_region_held_drew (S := (fun w' => w'.cell? ⟨P, 0, none⟩ = some (.int .i64 n1) ∧ w'.cell? ⟨P, 1, none⟩ = some (.slice a1 len1 cap1) ∧ w'.cell? ⟨PA, 0, none⟩ = some (.int .i64 (el x0 i).1) ∧ w'.cell? ⟨PA, 1, none⟩ = some (.int .i64 (el x0 i).2) ∧ w'.cell? ⟨PB, 0, none⟩ = some (.int .i64 (el x0 j).1) ∧ w'.cell? ⟨PB, 1, none⟩ = some (.int .i64 (el x0 j).2) ∧ Below w6.heap.size w6 w')) (by kernel_rfl) (⟨p0, p1, c0, c1, d0, d1, (Below.refl _ _).drew⟩) (fun hHeld => ?_)
              try dsimp only at hHeld
              refine wpAnyH_take (i := 0) (oi := { dst := some 39, op := Go.Op.move (Go.Operand.tmp 6), type := 4, pos := "laws.go:49", after := #[], guard := none }) (v := ?_) rfl (by kernel_rfl) (by kernel_rfl) (by kernel_rfl) (fun _ _ _ h => h) (Or.inl ⟨by kernel_rfl, ?_⟩) hHeld ?_
              rotate_left
              · (intro w hSw; (try dsimp only at hSw); go_simp; try with_reducible rfl)
              try simp only [Act.put, List.setIfInBounds_toArray, List.set_cons_zero, List.set_cons_succ]
              refine wpAnyH_take (i := 1) (oi := { dst := some 40, op := Go.Op.move (Go.Operand.tmp 39), type := 4, pos := "laws.go:49", after := #[{ on := 0, ground := Go.Ground.data }], guard := none }) (v := ?_) rfl (by kernel_rfl) (by kernel_rfl) (by kernel_rfl) (fun _ _ _ h => h) (Or.inl ⟨by kernel_rfl, ?_⟩) hHeld ?_
              rotate_left
              · (intro w hSw; (try dsimp only at hSw); go_simp; try with_reducible rfl)
              try simp only [Act.put, List.setIfInBounds_toArray, List.set_cons_zero, List.set_cons_succ]
              refine wpAnyH_take (i := 2) (oi := { dst := some 41, op := Go.Op.load 33 (Go.Operand.tmp 3), type := 33, pos := "laws.go:49", after := #[{ on := 1, ground := Go.Ground.guard }], guard := some (1, true) }) (v := undef) rfl (by kernel_rfl) (by kernel_rfl) (by kernel_rfl) (fun _ _ _ h => h) (Or.inr ⟨by kernel_rfl, rfl⟩) hHeld ?_
              try simp only [Act.put, List.setIfInBounds_toArray, List.set_cons_zero, List.set_cons_succ]
              refine wpAnyH_take (i := 3) (oi := { dst := some 42, op := Go.Op.call { callee := Go.Callee.value (Go.Operand.func 46), args := #[Go.Operand.tmp 41], argTypes := #[33] }, type := 37, pos := "laws.go:49", after := #[{ on := 2, ground := Go.Ground.data }, { on := 1, ground := Go.Ground.chain }, { on := 1, ground := Go.Ground.guard }], guard := some (1, true) }) (v := undef) rfl (by kernel_rfl) (by kernel_rfl) (by kernel_rfl) (fun _ _ _ h => h) (Or.inr ⟨by kernel_rfl, rfl⟩) hHeld ?_
              try simp only [Act.put, List.setIfInBounds_toArray, List.set_cons_zero, List.set_cons_succ]
              refine wpAnyH_take (i := 4) (oi := { dst := some 43, op := Go.Op.load 57 (Go.Operand.tmp 8), type := 57, pos := "laws.go:49", after := #[{ on := 1, ground := Go.Ground.guard }], guard := some (1, true) }) (v := undef) rfl (by kernel_rfl) (by kernel_rfl) (by kernel_rfl) (fun _ _ _ h => h) (Or.inr ⟨by kernel_rfl, rfl⟩) hHeld ?_
              try simp only [Act.put, List.setIfInBounds_toArray, List.set_cons_zero, List.set_cons_succ]
              refine wpAnyH_take (i := 5) (oi := { dst := some 44, op := Go.Op.load 57 (Go.Operand.tmp 10), type := 57, pos := "laws.go:49", after := #[{ on := 1, ground := Go.Ground.guard }], guard := some (1, true) }) (v := undef) rfl (by kernel_rfl) (by kernel_rfl) (by kernel_rfl) (fun _ _ _ h => h) (Or.inr ⟨by kernel_rfl, rfl⟩) hHeld ?_
              try simp only [Act.put, List.setIfInBounds_toArray, List.set_cons_zero, List.set_cons_succ]
              refine wpAnyH_take (i := 6) (oi := { dst := some 45, op := Go.Op.call { callee := Go.Callee.value (Go.Operand.func 63), args := #[Go.Operand.tmp 42, Go.Operand.tmp 43, Go.Operand.tmp 44], argTypes := #[37, 57, 57] }, type := 4, pos := "laws.go:49", after := #[{ on := 3, ground := Go.Ground.data }, { on := 4, ground := Go.Ground.data }, { on := 5, ground := Go.Ground.data }, { on := 3, ground := Go.Ground.chain }, { on := 1, ground := Go.Ground.guard }], guard := some (1, true) }) (v := undef) rfl (by kernel_rfl) (by kernel_rfl) (by kernel_rfl) (fun _ _ _ h => h) (Or.inr ⟨by kernel_rfl, rfl⟩) hHeld ?_
              try simp only [Act.put, List.setIfInBounds_toArray, List.set_cons_zero, List.set_cons_succ]
              refine wpAnyH_take (i := 7) (oi := { dst := some 46, op := Go.Op.unOp Go.UnOp.not 4 (Go.Operand.tmp 45), type := 4, pos := "laws.go:49", after := #[{ on := 6, ground := Go.Ground.data }, { on := 1, ground := Go.Ground.guard }], guard := some (1, true) }) (v := undef) rfl (by kernel_rfl) (by kernel_rfl) (by kernel_rfl) (fun _ _ _ h => h) (Or.inr ⟨by kernel_rfl, rfl⟩) hHeld ?_
              try simp only [Act.put, List.setIfInBounds_toArray, List.set_cons_zero, List.set_cons_succ]
              refine wpAnyH_take (i := 8) (oi := { dst := some 47, op := Go.Op.pick (Go.Operand.tmp 40) (Go.Operand.tmp 46) (Go.Operand.const (Go.Value.bool false)), type := 4, pos := "laws.go:49", after := #[{ on := 1, ground := Go.Ground.data }, { on := 7, ground := Go.Ground.data }], guard := none }) (v := ?_) rfl (by kernel_rfl) (by kernel_rfl) (by kernel_rfl) (fun _ _ _ h => h) (Or.inl ⟨by kernel_rfl, ?_⟩) hHeld ?_
              rotate_left
              · (intro w hSw; (try dsimp only at hSw); go_simp; try with_reducible rfl)
              try simp only [Act.put, List.setIfInBounds_toArray, List.set_cons_zero, List.set_cons_succ]
              refine wpAnyH_take (i := 9) (oi := { dst := some 6, op := Go.Op.assign (Go.Operand.tmp 47), type := 4, pos := "laws.go:49", after := #[{ on := 8, ground := Go.Ground.data }, { on := 6, ground := Go.Ground.chain }, { on := 0, ground := Go.Ground.phase }, { on := 1, ground := Go.Ground.phase }, { on := 2, ground := Go.Ground.phase }, { on := 3, ground := Go.Ground.phase }, { on := 4, ground := Go.Ground.phase }, { on := 5, ground := Go.Ground.phase }, { on := 6, ground := Go.Ground.phase }, { on := 7, ground := Go.Ground.phase }, { on := 8, ground := Go.Ground.phase }], guard := none }) (v := ?_) rfl (by kernel_rfl) (by kernel_rfl) (by kernel_rfl) (fun _ _ _ h => h) (Or.inl ⟨by kernel_rfl, ?_⟩) hHeld ?_
              rotate_left
              · (intro w hSw; (try dsimp only at hSw); go_simp; try with_reducible rfl)
              try simp only [Act.put, List.setIfInBounds_toArray, List.set_cons_zero, List.set_cons_succ]
              refine wpAnyH_done (by kernel_rfl) ?_ _
              have HB11 := Lib.hid (HBJ2.out.trans ((HBel.out _ hHeld).mono HBJ2.out.size))
              go_wp2_with fail
              go_roundw
              case rel => exact ⟨j + 1, by rw [HSC2.out, HSM.out]; rfl, by go_num, by omega, HB11.out⟩
              case measure => simp [intOf]; omega
          · obtain rfl : j = len0 := by omega
            clear hbw
            go_wp2
            go_roundw
            case rel => exact ⟨i + 1, by rw [noneB_next], by go_num, by omega, HBI2.out.trans ((HBD.out.trans (HBJ.out.mono HBD.out.size)).mono HBI2.out.size)⟩
            case measure => simp [intOf]; omega
      · obtain rfl : i = len0 := by omega
        obtain ⟨p0, p1⟩ := HP.out.keep HB6.out
        clear hbw
        go_wp2_with fail
        refine (impl_ReverseIsSorted a2 i c2 O n1 a1 len1 cap1 x1 _ (HS5.out.belowS (HBC.out.trans (HBI.out.mono HBC.out.size))) (by omega) (HT.out.below HB6.out)).mono ?_
        rintro e w9 ⟨rfl, hb9⟩
        rw [HBW.out.1]
        have HB9 := Lib.hid (HB6.out.trans (hb9.mono HB6.out.size))
        obtain ⟨q0, q1⟩ := HP.out.keep HB9.out
        have HS9 := Lib.hid ((HS5.out.belowS (HBC.out.trans (HBI.out.mono HBC.out.size))).belowS hb9)
        clear hb9 p0 p1
        go_wp2_with fail
        refine (impl_SliceIsSorted a2 i c2 O n1 a1 len1 cap1 x1 _ HS9.out (by omega) (HT.out.below HB9.out)).mono ?_
        rintro e w10 ⟨rfl, hb10⟩
        rw [HBW.out.2]
        have HB10 := Lib.hid (HB9.out.trans (hb10.mono HB9.out.size))
        clear hb10 q0 q1
        go_wp2_with fail
        go_ret
        exact ⟨by simp, by rw [HPE.out]; exact GOOD.out _ HB10.out⟩
#print axioms walk_FnReverseThenSorted
end Go.Proofs.Ytaifikhgijnkgaa
