/- The contract of impl.ReverseStable: the stable sort by the order the other way round. No conditions. -/
import Derived.Test.YtaifikhgijnkgaaFcStable
import Derived.Test.YtaifikhgijnkgaaTags
import Derived.Test.YtaifikhgijnkgaaRevSort
namespace Go.Proofs.Ytaifikhgijnkgaa
open Go.RowKit
open Go.Sort hiding Below
set_option linter.unusedVariables false
set_option linter.unusedSectionVars false

/-- What a stable sort must come to. -/
def StablyBy (r : It → It → Bool) (xs O : List It) : Prop := O.Perm xs ∧ (WeakOn r xs → ∃ p, SortedTags r xs p ∧ O = p.map (el xs))

theorem short_stablyBy (r : It → It → Bool) (xs : List It) (h : xs.length ≤ 1) : StablyBy r xs xs := by
  refine ⟨List.Perm.refl _, fun _ => ⟨List.range xs.length, ⟨List.Perm.refl _, ?_⟩, (range_map_el xs).symm⟩⟩
  match xs, h with
  | [], _ => exact List.Pairwise.nil
  | [x], _ => exact List.pairwise_singleton _ _

/-- sort.Stable of Reverse. -/
theorem Stable_rev (a : Option Addr) (n cap base : Nat) (xs : List It) (p : Nat) (nn : Int) (ab : Option Addr) (lb cb : Nat) (bs : List Bool) (w : World)
    (ho : Own 2 encIt 52 w base (.slice a n cap) xs) (hl : xs.length = n) (hbase : base ≤ w.heap.size) (hn : n < 1152921504606846976)
    (hp : w.cell? ⟨p, 0, none⟩ = some (.iface 96 (dataV a n cap nn ab lb cb))) (hpa : ∀ ad, a = some ad → p ≠ ad.block) (hs : Sl Value.bool w ab lb cb bs) (hab : lb ≠ 0 → ∀ ad, ab = some ad → ad.block < base) :
    Calls Try.prog 112 #[.iface 117 (.pointer (some ⟨p, 0, none⟩))] w fun r w' => r = .returned (.tuple #[]) ∧ ∃ O, Own 2 encIt 52 w' base (.slice a n cap) O ∧ StablyBy (fun x y => bef nn bs y.1 x.1) xs O ∧ Below base w w' := by
  by_cases h1 : n ≤ 1
  · refine (fc_Stable_tiny 117 _ 213 _ n w (meth_rev_data_len p w _ hp) (enters_try Try.func213 (by kernel_rfl) rfl) h1 (data_Len a n cap nn ab lb cb w)).mono ?_
    rintro r w' ⟨rfl, hb⟩
    exact ⟨rfl, xs, ho.below hb, short_stablyBy _ xs (by omega), hb.mono hbase⟩
  · obtain ⟨g, rfl, hgb, hgs, hfz, hxl⟩ := ho.at (by omega)
    have hpB : p < w.heap.size := block_of_cell hp
    have F := (face_rev base w.heap.size g n cap xs p nn ab lb cb bs hgs hpB (hpa _ rfl) (fun h0 ad had => ⟨by have := hab h0 ad had; omega, by have := hab h0 ad had; omega⟩) hl (by omega)).tags xs hl
    have hre : (Array.range n).map (el xs) = xs.toArray := by rw [← hl]; exact range_map_arr xs
    refine (fc_Stable (R := tagged fun i j => ext (fun x y => bef nn bs y.1 x.1) xs (el xs i) (el xs j)) F hn 213 _ (Array.range n) w ⟨by simp [hl], ⟨by rw [hre]; simpa using ho, by rw [hre], Nat.le_refl _, hp, hs⟩⟩ (meth_rev_data_len p w _ hp) (enters_try Try.func213 (by kernel_rfl) rfl) (data_Len _ n cap nn ab lb cb w)).mono ?_
    rintro r w' ⟨rfl, d', hL, hpm, hso⟩
    refine ⟨rfl, _, hL.st.2.own, ⟨hL.st.2.perm, fun hw => ⟨d'.toList, ?_, by rw [Array.toList_map]⟩⟩, hL.ap.below hbase hgb⟩
    have h0 : xs ≠ [] := fun e => by subst e; simp at hl; omega
    have hO := ext_swo h0 hw
    have hO' : SWO (fun i j : Nat => ext (fun x y : It => bef nn bs y.1 x.1) xs (el xs i) (el xs j)) := ⟨fun x => hO.irrefl _, fun x y z => hO.trans _ _ _, fun x y z => hO.ntrans _ _ _⟩
    subst hl
    exact sortedTags_of hpm (hso (tagged_swo hO') (range_agrees _ _))

/-- What impl.ReverseStable gives. -/
def GivesStably (r : It → It → Bool) (w : World) (len : Nat) (xs : List It) (e : Ending) (w' : World) : Prop := ∃ O, GivesIt w len O e w' ∧ StablyBy r xs O

set_option maxHeartbeats 2000000 in
set_option maxRecDepth 100000 in
theorem impl_ReverseStable (a : Option Addr) (len cap : Nat) (xs : List It) (nn : Int) (ab : Option Addr) (lb cb : Nat) (bs : List Bool) (w : World) (hs : SlK 2 encIt w a len cap xs) (hb : len * 16 ≤ 140737488351232) (ho : Sl Value.bool w ab lb cb bs) :
    Calls Try.prog 76 #[.slice a len cap, .agg #[.int .i64 nn, .slice ab lb cb]] w (GivesStably (fun x y => bef nn bs y.1 x.1) w len xs) := by
  have HS := Lib.hid hs
  have HL := Lib.hid hs.1
  have HT := Lib.hid ho
  have hcap := hs.2.1
  clear hs ho
  have HZ := Lib.hid (show w.heap.size < (w.alloc (.cells #[.int .i64 nn, .slice ab lb cb] 33)).heap.size ∧ (w.alloc (.cells #[.int .i64 nn, .slice ab lb cb] 33)).cell? ⟨w.heap.size, 0, none⟩ = some (.int .i64 nn) ∧ (w.alloc (.cells #[.int .i64 nn, .slice ab lb cb] 33)).cell? ⟨w.heap.size, 1, none⟩ = some (.slice ab lb cb) by simp)
  go_enter Try.func76, Try.ntmps76
  go_wp2_with (first
    | (at_builtin; refine wpList_copy rfl _ _ 30 rfl 52 (.agg #[.int .i64 0, .int .i64 0]) 2 16 encIt Try.underlying30 Try.info52 rfl (by decide) (fun _ => rfl) (by simp [encIt, Value.oneCell']) rfl _ len cap xs rfl (HS.out.belowS (below1 w _)) (by unfold maxLen; omega) (by omega) ?_; intro a' cap' w2 hown hbel; have c0 := (hbel.cell (p := ⟨w.heap.size, 0, none⟩) HZ.out.1).trans HZ.out.2.1; have c1 := (hbel.cell (p := ⟨w.heap.size, 1, none⟩) HZ.out.1).trans HZ.out.2.2)
    | fail)
  have HB := Lib.hid ((below1 w (.cells #[.int .i64 nn, .slice ab lb cb] 33)).trans (hbel.mono (by simp)))
  have HO := Lib.hid (hown.base (show w.heap.size ≤ _ by simp))
  clear hown hbel
  refine (sort_Reverse _ _ _ _ rfl).mono ?_
  rintro e w' ⟨rfl, rfl⟩
  have B3 := below1 w2 (.cells #[.iface 96 (dataV a' len cap' nn ab lb cb)] 119)
  have hC := Stable_rev a' len cap' w.heap.size xs w2.heap.size nn ab lb cb bs (w2.alloc (.cells #[.iface 96 (dataV a' len cap' nn ab lb cb)] 119)) (HO.out.below B3) HL.out (Nat.le_trans HB.out.size B3.size) (by omega) (by simp)
    (fun ad had => by
      have ho := HO.out
      rcases Nat.eq_zero_or_pos len with h0 | h0
      · obtain ⟨aa, cc, hv, hsl, _, hlo⟩ := Own.slk (C := 2) (encL := encIt) (fun _ => rfl) ho
        obtain ⟨_, h2 | ⟨g, cap2, cur, hv2, hg, hh, _⟩⟩ := ho
        · cases h2.1; cases had
        · cases hv2; cases had
          have : g < w2.heap.size := by
            rcases Nat.lt_or_ge g w2.heap.size with h | h
            · exact h
            · rw [Array.getElem?_eq_none h] at hh; cases hh
          show w2.heap.size ≠ g
          omega
      · obtain ⟨g, rfl, _, hgs, _, _⟩ := ho.at h0
        cases had
        show w2.heap.size ≠ g
        omega)
    (HT.out.below (HB.out.trans (B3.mono HB.out.size)))
    (fun h0 ad had => by
      obtain ⟨_, _, _, h4⟩ := HT.out
      rcases h4 with h4 | ⟨b, off, ha, hb, _⟩
      · exact absurd h4 h0
      · rw [ha] at had; cases had; exact hb)
  have HC := Lib.hid hC
  have HB3 := Lib.hid (HB.out.trans (B3.mono HB.out.size))
  clear hC B3 c0 c1
  generalize w2.alloc (.cells #[.iface 96 (dataV a' len cap' nn ab lb cb)] 119) = w3 at *
  go_wp2_with fail
  refine HC.out.mono ?_
  rintro e w4 ⟨rfl, O, ho4, hso, hb4⟩
  have H4 := Lib.hid (And.intro ho4 (And.intro hso hb4))
  clear ho4 hso hb4
  go_wp2_with fail
  go_ret
  obtain ⟨ho4, hso, hb4⟩ := H4.out
  exact ⟨O, gives_it ho4 (by rw [hso.1.length_eq]; exact HL.out) (HB3.out.trans hb4), hso⟩
#print axioms impl_ReverseStable
end Go.Proofs.Ytaifikhgijnkgaa
