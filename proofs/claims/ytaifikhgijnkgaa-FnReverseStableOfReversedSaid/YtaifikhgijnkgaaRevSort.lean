/- The contract of impl.ReverseSort: the same items, sorted by the order the other way round where it is a strict weak order of them. No conditions. -/
import Derived.Test.YtaifikhgijnkgaaWeakly
import Derived.Test.YtaifikhgijnkgaaRevSwap
namespace Go.Proofs.Ytaifikhgijnkgaa
open Go.RowKit
open Go.Sort hiding Below
set_option linter.unusedVariables false
set_option linter.unusedSectionVars false

theorem Apart.put4 {g : Nat} {w w1 : World} (h : Apart g w w1) (p q : Nat) (x y : It) : Apart g w (put4 w1 g p q x y) := (((h.row p _).row (p + 1) _).row q _).row (q + 1) _

theorem StR.swap2 {e : TypeId} {base B g n cap : Nat} {xs : List It} {X : World → Prop} {dk : Array It} {w : World} (h : StR 2 encIt e base B g n cap xs X dk w) (hl : xs.length = n) (hX : Stays B g X) (i j q : Nat) (A : Obj) (hi : i < n) (hj : j < n) :
    StR 2 encIt e base B g n cap xs X (swp dk i j) ((put4 (w.alloc A) g (i * 2) (j * 2) (el dk.toList i) (el dk.toList j)).drewN q) ∧ Apart g w ((put4 (w.alloc A) g (i * 2) (j * 2) (el dk.toList i) (el dk.toList j)).drewN q) := by
  have hn := h.len hl
  have ap : Apart g w ((put4 (w.alloc A) g (i * 2) (j * 2) (el dk.toList i) (el dk.toList j)).drewN q) := ((Apart.of_below (below1 w A) (Nat.le_refl _)).put4 _ _ _ _).drewN q
  refine ⟨⟨?_, ?_, Nat.le_trans h.sz ap.size, hX _ _ h.x ap.size fun k hk hkg => ap.block k (Nat.lt_of_lt_of_le hk h.sz) hkg⟩, ap⟩
  · rw [swp_toList]; exact (h.own.below (below1 w A)).swap2 hn i j q
  · rw [swp_toList]; exact (swapL_perm _ i j (by omega) (by omega)).trans h.perm

theorem StR.mem {C : Nat} {encL : It → List Value} {e : TypeId} {base B g n cap : Nat} {xs : List It} {X : World → Prop} {dk : Array It} {w : World} (h : StR C encL e base B g n cap xs X dk w) (hl : xs.length = n) (i : Nat) (hi : i < n) : el dk.toList i ∈ xs := by
  have hn := h.len hl
  rw [el_eq _ _ (by omega)]
  exact h.perm.mem_iff.1 (List.getElem_mem _)

/-- The order's table stays while blocks below B other than g stay. -/
theorem stays_table {B g : Nat} {ab : Option Addr} {lb cb : Nat} {bs : List Bool} (hab : lb ≠ 0 → ∀ ad, ab = some ad → ad.block < B ∧ ad.block ≠ g) : Stays B g (fun w => Sl Value.bool w ab lb cb bs) := by
  intro w w' h hsz hk
  obtain ⟨h1, h2, h3, h4⟩ := h
  by_cases h0 : lb = 0
  · exact ⟨h1, h2, h3, .inl h0⟩
  · rcases h4 with h4 | ⟨b, off, ha, hb, hc⟩
    · exact absurd h4 h0
    · obtain ⟨k1, k2⟩ := hab h0 _ ha
      exact ⟨h1, h2, h3, .inr ⟨b, off, ha, Nat.lt_of_lt_of_le hb hsz, fun i hi => (World.cell?_of_block (w := w) (hk b k1 k2)).trans (hc i hi)⟩⟩

/-- The pointer of Reverse, and the order's table. -/
def XRev (p : Nat) (D : Value) (ab : Option Addr) (lb cb : Nat) (bs : List Bool) (w : World) : Prop := w.cell? ⟨p, 0, none⟩ = some (.iface 96 D) ∧ Sl Value.bool w ab lb cb bs

theorem face_rev (base B g n cap : Nat) (xs : List It) (p : Nat) (nn : Int) (ab : Option Addr) (lb cb : Nat) (bs : List Bool) (hgB : g < B) (hpB : p < B) (hpg : p ≠ g) (hab : lb ≠ 0 → ∀ ad, ab = some ad → ad.block < B ∧ ad.block ≠ g) (hl : xs.length = n) (hn : n < 4611686018427387904) :
    Face (ext (fun x y => bef nn bs y.1 x.1) xs) (StR 2 encIt 52 base B g n cap xs (XRev p (dataV (some ⟨g, 0, none⟩) n cap nn ab lb cb) ab lb cb bs)) B g n 117 (.pointer (some ⟨p, 0, none⟩)) 217 (.agg #[.iface 96 (dataV (some ⟨g, 0, none⟩) n cap nn ab lb cb)]) 215 (dataV (some ⟨g, 0, none⟩) n cap nn ab lb cb) :=
  have hX : Stays B g (XRev p (dataV (some ⟨g, 0, none⟩) n cap nn ab lb cb) ab lb cb bs) := fun w w' h hsz hk => ⟨(World.cell?_of_block (w := w) (hk p hpB hpg)).trans h.1, stays_table hab w w' h.2 hsz hk⟩
  { toBase := StR.base hgB hl hX
    findL := fun h => meth_rev_less 284 p _ _ h.x.1
    findS := fun h => meth_rev_data_swap p _ _ h.x.1
    enterL := enters_try Try.func217 (by kernel_rfl) rfl
    enterS := enters_try Try.func215 (by kernel_rfl) rfl
    less := fun {dk w} i j h hi hj => by
      have hd := h.len hl
      obtain ⟨a', c', hv, hs, _, _⟩ := Own.slk (C := 2) (encL := encIt) (fun _ => rfl) h.own
      rw [hd] at hv hs
      cases hv
      refine (reverse_Less_data g 0 n cap i j dk.toList nn ab lb cb bs w hi hj hn hs h.x.2).mono ?_
      rintro e w' ⟨rfl, hb⟩
      exact ⟨by rw [bang_el, bang_el, ext_mem (h.mem hl i hi) (h.mem hl j hj)], hb⟩
    swap := fun {dk w} i j h hi hj => by
      have hd := h.len hl
      have ci := h.own.cells2 hd i hi
      have cj := h.own.cells2 hd j hj
      refine (data_Swap g n cap i j _ _ nn ab lb cb w hi hj hn (Nat.lt_of_lt_of_le hgB h.sz) ci.1 ci.2 cj.1 cj.2 (fun k => h.own.fz hd k)).mono ?_
      rintro e w' ⟨rfl, A, q, rfl⟩
      exact ⟨rfl, h.swap2 hl hX i j q A hi hj⟩ }

/-- sort.Sort of Reverse. -/
theorem Sort_rev (a : Option Addr) (n cap base : Nat) (xs : List It) (p : Nat) (nn : Int) (ab : Option Addr) (lb cb : Nat) (bs : List Bool) (w : World)
    (ho : Own 2 encIt 52 w base (.slice a n cap) xs) (hl : xs.length = n) (hbase : base ≤ w.heap.size) (hn : n < 4611686018427387904)
    (hp : w.cell? ⟨p, 0, none⟩ = some (.iface 96 (dataV a n cap nn ab lb cb))) (hpa : ∀ ad, a = some ad → p ≠ ad.block) (hs : Sl Value.bool w ab lb cb bs) (hab : lb ≠ 0 → ∀ ad, ab = some ad → ad.block < base) :
    Calls Try.prog 109 #[.iface 117 (.pointer (some ⟨p, 0, none⟩))] w fun r w' => r = .returned (.tuple #[]) ∧ ∃ O, Own 2 encIt 52 w' base (.slice a n cap) O ∧ SortedBy (fun x y => bef nn bs y.1 x.1) xs O ∧ Below base w w' := by
  by_cases h1 : n ≤ 1
  · refine (fc_Sort_tiny 117 _ 213 _ n w (meth_rev_data_len p w _ hp) (enters_try Try.func213 (by kernel_rfl) rfl) h1 (data_Len a n cap nn ab lb cb w)).mono ?_
    rintro r w' ⟨rfl, hb⟩
    exact ⟨rfl, xs, ho.below hb, short_sortedBy _ xs (by omega), hb.mono hbase⟩
  · obtain ⟨g, rfl, hgb, hgs, hfz, hxl⟩ := ho.at (by omega)
    have hpB : p < w.heap.size := block_of_cell hp
    have F := face_rev base w.heap.size g n cap xs p nn ab lb cb bs hgs hpB (hpa _ rfl) (fun h0 ad had => ⟨by have := hab h0 ad had; omega, by have := hab h0 ad had; omega⟩) hl hn
    refine (fc_Sort F hn (by omega) 213 _ xs.toArray w ⟨by simpa using ho, by simp, Nat.le_refl _, hp, hs⟩ (meth_rev_data_len p w _ hp) (enters_try Try.func213 (by kernel_rfl) rfl) (data_Len _ n cap nn ab lb cb w)).mono ?_
    rintro r w' ⟨rfl, hL⟩
    exact ⟨rfl, _, hL.st.own, pdq_sortedBy _ xs n _ hl (fun e => by subst e; simp at hl; omega) hL.st.perm, hL.ap.below hbase hgb⟩

/-- What impl.ReverseSort (impl.Slice, ..) gives. -/
def GivesBy (r : It → It → Bool) (w : World) (len : Nat) (xs : List It) (e : Ending) (w' : World) : Prop := ∃ O, GivesIt w len O e w' ∧ SortedBy r xs O

set_option maxHeartbeats 2000000 in
set_option maxRecDepth 100000 in
theorem impl_ReverseSort (a : Option Addr) (len cap : Nat) (xs : List It) (nn : Int) (ab : Option Addr) (lb cb : Nat) (bs : List Bool) (w : World) (hs : SlK 2 encIt w a len cap xs) (hb : len * 16 ≤ 140737488351232) (ho : Sl Value.bool w ab lb cb bs) :
    Calls Try.prog 67 #[.slice a len cap, .agg #[.int .i64 nn, .slice ab lb cb]] w (GivesBy (fun x y => bef nn bs y.1 x.1) w len xs) := by
  have HS := Lib.hid hs
  have HL := Lib.hid hs.1
  have HT := Lib.hid ho
  have hcap := hs.2.1
  clear hs ho
  have HZ := Lib.hid (show w.heap.size < (w.alloc (.cells #[.int .i64 nn, .slice ab lb cb] 33)).heap.size ∧ (w.alloc (.cells #[.int .i64 nn, .slice ab lb cb] 33)).cell? ⟨w.heap.size, 0, none⟩ = some (.int .i64 nn) ∧ (w.alloc (.cells #[.int .i64 nn, .slice ab lb cb] 33)).cell? ⟨w.heap.size, 1, none⟩ = some (.slice ab lb cb) by simp)
  go_enter Try.func67, Try.ntmps67
  go_wp2_with (first
    | (at_builtin; refine wpList_copy rfl _ _ 30 rfl 52 (.agg #[.int .i64 0, .int .i64 0]) 2 16 encIt Try.underlying30 Try.info52 rfl (by decide) (fun _ => rfl) (by simp [encIt, Value.oneCell']) rfl _ len cap xs rfl (HS.out.belowS (below1 w _)) (by unfold maxLen; omega) (by omega) ?_; intro a' cap' w2 hown hbel; have c0 := (hbel.cell (p := ⟨w.heap.size, 0, none⟩) HZ.out.1).trans HZ.out.2.1; have c1 := (hbel.cell (p := ⟨w.heap.size, 1, none⟩) HZ.out.1).trans HZ.out.2.2)
    | fail)
  have HB := Lib.hid ((below1 w (.cells #[.int .i64 nn, .slice ab lb cb] 33)).trans (hbel.mono (by simp)))
  have HO := Lib.hid (hown.base (show w.heap.size ≤ _ by simp))
  clear hown hbel
  refine (sort_Reverse _ _ _ _ rfl).mono ?_
  rintro e w' ⟨rfl, rfl⟩
  have B3 := below1 w2 (.cells #[.iface 96 (dataV a' len cap' nn ab lb cb)] 119)
  have hC := Sort_rev a' len cap' w.heap.size xs w2.heap.size nn ab lb cb bs (w2.alloc (.cells #[.iface 96 (dataV a' len cap' nn ab lb cb)] 119)) (HO.out.below B3) HL.out (Nat.le_trans HB.out.size B3.size) (by omega) (by simp)
    (fun ad had => by
      have ho := HO.out
      rcases Nat.eq_zero_or_pos len with h0 | h0
      · obtain ⟨aa, cc, hv, hsl, _, hlo⟩ := Own.slk (C := 2) (encL := encIt) (fun _ => rfl) ho
        obtain ⟨_, h2 | ⟨g, cap2, cur, hv2, hg, hh, _⟩⟩ := ho
        · cases h2.1; cases had
        · cases hv2; cases had
          have : g < w2.heap.size := by
            rcases Nat.lt_or_ge g w2.heap.size with h | h
            · exact h
            · rw [Array.getElem?_eq_none h] at hh; cases hh
          show w2.heap.size ≠ g
          omega
      · obtain ⟨g, rfl, _, hgs, _, _⟩ := ho.at h0
        cases had
        show w2.heap.size ≠ g
        omega)
    (HT.out.below (HB.out.trans (B3.mono HB.out.size)))
    (fun h0 ad had => by
      obtain ⟨_, _, _, h4⟩ := HT.out
      rcases h4 with h4 | ⟨b, off, ha, hb, _⟩
      · exact absurd h4 h0
      · rw [ha] at had; cases had; exact hb)
  have HC := Lib.hid hC
  have HB3 := Lib.hid (HB.out.trans (B3.mono HB.out.size))
  clear hC B3 c0 c1
  generalize w2.alloc (.cells #[.iface 96 (dataV a' len cap' nn ab lb cb)] 119) = w3 at *
  go_wp2_with fail
  refine HC.out.mono ?_
  rintro e w4 ⟨rfl, O, ho4, hso, hb4⟩
  have H4 := Lib.hid (And.intro ho4 (And.intro hso hb4))
  clear ho4 hso hb4
  go_wp2_with fail
  go_ret
  obtain ⟨ho4, hso, hb4⟩ := H4.out
  exact ⟨O, gives_it ho4 (by rw [hso.1.length_eq]; exact HL.out) (HB3.out.trans hb4), hso⟩
#print axioms impl_ReverseSort
end Go.Proofs.Ytaifikhgijnkgaa
