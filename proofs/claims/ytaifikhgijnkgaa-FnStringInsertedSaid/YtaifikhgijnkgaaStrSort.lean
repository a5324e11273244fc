/- Contracts of laws.equal[string], (sort.StringSlice).Swap, (sort.StringSlice).Sort and impl.StringSort; the walk of laws.FnStringSort. No conditions. -/
import Derived.Test.YtaifikhgijnkgaaIntSort
import Derived.Test.YtaifikhgijnkgaaSelS
namespace Go.Proofs.Ytaifikhgijnkgaa
open Go.RowKit
open Go.Sort hiding Below
set_option linter.unusedVariables false

set_option maxHeartbeats 400000 in
theorem equal_str (a : Option Addr) (la ca : Nat) (xs : List ByteArray) (b : Option Addr) (lb cb : Nat) (ys : List ByteArray) (w : World)
    (sa : Sl Value.string w a la ca xs) (sb : Sl Value.string w b lb cb ys) (hla : la < 4611686018427387904) :
    Calls Try.prog 80 #[.slice a la ca, .slice b lb cb] w fun e w' => e = .returned (.bool (decide (xs = ys))) ∧ ∃ q, w' = w.drewN q := by
  obtain ⟨ea, _, _, hca⟩ := sa
  obtain ⟨eb, _, _, hcb⟩ := sb
  by_cases hne : la = lb
  · subst hne
    by_cases h0 : la = 0
    · subst h0
      obtain rfl : xs = [] := List.length_eq_zero_iff.1 ea
      obtain rfl : ys = [] := List.length_eq_zero_iff.1 eb
      clear hca hcb ea eb
      go_enter Try.func80, Try.ntmps80
      go_wp2
      go_loopw [13] (fun s wr => s = .int .i64 0 ∧ wr = w) (fun _ _ => 0)
      case atStart => exact ⟨rfl, rfl⟩
      case round =>
        obtain ⟨rfl, rfl⟩ := hrel
        go_wp2
        go_ret
        exact ⟨by simp, 0, rfl⟩
    · rcases hca with hca | ⟨ba, oa, rfl, _, hca⟩
      · exact absurd hca h0
      rcases hcb with hcb | ⟨bb, ob, rfl, _, hcb⟩
      · exact absurd hcb h0
      have HA := Lib.hid hca
      have HB := Lib.hid hcb
      have EA := Lib.hid ea
      have EB := Lib.hid eb
      clear hca hcb ea eb
      go_enter Try.func80, Try.ntmps80
      go_wp2
      go_loopw [13] (fun s wr => ∃ k q : Nat, s = .int .i64 k ∧ k ≤ la ∧ wr = w.drewN q ∧ ∀ t, t < k → el xs t = el ys t) (fun s _ => la - (intOf s).toNat)
      case atStart => exact ⟨0, 0, rfl, by omega, rfl, fun t ht => by omega⟩
      case round =>
        obtain ⟨k, q, rfl, hk, rfl, hI⟩ := hrel
        have HI := Lib.hid hI
        clear hI
        by_cases hlt : k < la
        · have hlt' : (k : Int) < la := by omega
          have ck := HA.out k hlt
          have dk := HB.out k hlt
          by_cases he : el xs k = el ys k
          · have he2 : ((el xs k).toList == (el ys k).toList) = true := by rw [he, beq_self_eq_true]
            have HE := Lib.hid he
            clear he
            go_wp2
            go_quiet (fail)
            go_wp2
            go_roundw
            case rel =>
              refine ⟨k + 1, _, by go_num, by omega, rfl, fun t ht => ?_⟩
              by_cases htk : t = k
              · subst htk; exact HE.out
              · exact HI.out t (by omega)
            case measure => simp [intOf]; omega
          · have he2 : ((el xs k).toList == (el ys k).toList) = false := by rw [beq_eq_false_iff_ne]; exact fun e => he (toList_inj e)
            have HE := Lib.hid (take_ne (by rw [EA.out]; exact hlt) he)
            clear he
            go_wp2
            go_quiet (fail)
            go_wp2
            go_ret
            exact ⟨by simp [HE.out], _, World.drewN_drewN _ _ _⟩
        · obtain rfl : k = la := by omega
          have hfin : xs = ys := ext_el (by rw [EA.out, EB.out]) (fun t ht => HI.out t (by rw [EA.out] at ht; exact ht))
          have HF := Lib.hid hfin
          clear hfin
          go_wp2
          go_ret
          exact ⟨by simp [HF.out], _, rfl⟩
  · have hn : xs ≠ ys := fun e => hne (by rw [← ea, ← eb, e])
    have HN := Lib.hid hn
    have h1 : ((la : Int) != (lb : Int)) = true := by rw [bne_iff_ne]; omega
    clear hn hca hcb hne ea eb
    go_enter Try.func80, Try.ntmps80
    go_wp2
    go_ret
    exact ⟨by simp [HN.out], 0, rfl⟩

theorem equal_str_true (a : Option Addr) (la ca : Nat) (xs : List ByteArray) (b : Option Addr) (lb cb : Nat) (w : World)
    (sa : Sl Value.string w a la ca xs) (sb : Sl Value.string w b lb cb xs) (hla : la < 4611686018427387904) :
    Calls Try.prog 80 #[.slice a la ca, .slice b lb cb] w fun e w' => e = .returned (.bool true) ∧ ∃ q, w' = w.drewN q :=
  (equal_str a la ca xs b lb cb xs w sa sb hla).mono fun e w' h => ⟨by rw [h.1]; simp, h.2⟩

set_option maxHeartbeats 400000 in
theorem strSlice_Swap (g len cap i j : Nat) (x y : ByteArray) (w : World) (hi : i < len) (hj : j < len) (hl : len < 4611686018427387904)
    (ci : w.cell? ⟨g, i, none⟩ = some (.string x)) (cj : w.cell? ⟨g, j, none⟩ = some (.string y)) (fi : w.frozen? ⟨g, i, none⟩ = false) (fj : w.frozen? ⟨g, j, none⟩ = false) :
    Calls Try.prog 210 #[.slice (some ⟨g, 0, none⟩) len cap, .int .i64 i, .int .i64 j] w fun e w' => e = .returned (.tuple #[]) ∧ ∃ q, w' = ((w.setCell ⟨g, i, none⟩ (.string y)).setCell ⟨g, j, none⟩ (.string x)).drewN q := by
  have hi' : (i : Int) < len := by omega
  have hj' : (j : Int) < len := by omega
  obtain ⟨v', hy'⟩ := cell?_setCell_some (w := w) (p := ⟨g, i, none⟩) (x := .string y) (q := ⟨g, j, none⟩) cj
  go_enter Try.func210, Try.ntmps210
  go_wp2
  go_region
  all_goals (try go_wp2)
  all_goals go_end0
  all_goals exact ⟨rfl, 1, rfl⟩

theorem sLt_swo : SWO sLt := ⟨sLt_irrefl, fun x y z => sLt_trans, fun x y z h1 h2 => by
  cases h : sLt x z
  · rfl
  · cases h3 : sLt z y
    · have := sLt_total h2 h3; subst this; rw [h] at h1; cases h1
    · rw [sLt_trans h h3] at h1; cases h1⟩

theorem meth_str_less (fuel : Nat) (rv : Value) (w : World) : (method (fuel + 1) 79 rv "Less").run Try.prog w = .ok (92, rv) w := by kernel_rfl
theorem meth_str_swap (fuel : Nat) (rv : Value) (w : World) : (method (fuel + 1) 79 rv "Swap").run Try.prog w = .ok (210, rv) w := by kernel_rfl
theorem meth_str_len (fuel : Nat) (rv : Value) (w : World) : (method (fuel + 1) 79 rv "Len").run Try.prog w = .ok (209, rv) w := by kernel_rfl

theorem strSlice_Len (a : Option Addr) (n cap : Nat) (w : World) : Calls Try.prog 209 #[.slice a n cap] w fun e w' => e = .returned (.int .i64 n) ∧ Below w.heap.size w w' := by
  go_enter Try.func209, Try.ntmps209
  go_wp2
  go_ret
  exact ⟨rfl, Below.refl _ _⟩

theorem face_str (base B g n cap : Nat) (xs : List ByteArray) (hgB : g < B) (hl : xs.length = n) (hn : n < 4611686018427387904) :
    Face sLt (StR 1 (fun x => [Value.string x]) 9 base B g n cap xs (fun _ => True)) B g n 79 (.slice (some ⟨g, 0, none⟩) n cap) 92 (.slice (some ⟨g, 0, none⟩) n cap) 210 (.slice (some ⟨g, 0, none⟩) n cap) where
  toBase := StR.base hgB hl (fun _ _ _ _ _ => trivial)
  findL := fun _ => meth_str_less 284 _ _
  findS := fun _ => meth_str_swap 284 _ _
  enterL := enters_try Try.func92 (by kernel_rfl) rfl
  enterS := enters_try Try.func210 (by kernel_rfl) rfl
  less := fun {dk w} i j h hi hj => by
    have hd := h.len hl
    refine (strLess g 0 n cap i j dk.toList w hi hj hn (by rw [Nat.zero_add]; exact h.own.cell1 hd i hi) (by rw [Nat.zero_add]; exact h.own.cell1 hd j hj)).mono ?_
    rintro e w' ⟨rfl, q, rfl⟩
    exact ⟨by rw [bang_el, bang_el], Below.drewN (Below.refl _ _) q⟩
  swap := fun {dk w} i j h hi hj => by
    have hd := h.len hl
    refine (strSlice_Swap g n cap i j _ _ w hi hj hn (h.own.cell1 hd i hi) (h.own.cell1 hd j hj) (h.own.fz hd i) (h.own.fz hd j)).mono ?_
    rintro e w' ⟨rfl, q, rfl⟩
    exact ⟨rfl, h.swap1 hl i j q hi hj⟩

theorem Sort_str (a : Option Addr) (n cap base : Nat) (xs : List ByteArray) (w : World) (ho : Own 1 encS 9 w base (.slice a n cap) xs) (hl : xs.length = n) (hbase : base ≤ w.heap.size) (hn : n < 4611686018427387904) :
    Calls Try.prog 109 #[.iface 79 (.slice a n cap)] w fun r w' => r = .returned (.tuple #[]) ∧ ∃ O, Own 1 encS 9 w' base (.slice a n cap) O ∧ O.Perm xs ∧ O.Pairwise (fun x y => sLt y x = false) ∧ Below base w w' :=
  Sort_row1 sLt_swo 79 92 210 209 face_str (fun v w => meth_str_len 284 v w) (enters_try Try.func209 (by kernel_rfl) rfl) strSlice_Len a n cap base xs w ho hl hbase hn

set_option maxHeartbeats 1000000 in
theorem strSlice_Sort (a : Option Addr) (n cap base : Nat) (xs : List ByteArray) (w : World) (ho : Own 1 encS 9 w base (.slice a n cap) xs) (hl : xs.length = n) (hbase : base ≤ w.heap.size) (hn : n < 4611686018427387904) :
    Calls Try.prog 114 #[.slice a n cap] w fun r w' => r = .returned (.tuple #[]) ∧ ∃ O, Own 1 encS 9 w' base (.slice a n cap) O ∧ O.Perm xs ∧ O.Pairwise (fun x y => sLt y x = false) ∧ Below base w w' := by
  have HC := Lib.hid (Sort_str a n cap base xs w ho hl hbase hn)
  clear ho hl
  go_enter Try.func114, Try.ntmps114
  go_wp2_with fail
  refine HC.out.mono ?_
  rintro e w1 ⟨rfl, h⟩
  have H := Lib.hid h
  clear h
  go_wp2_with fail
  go_end0
  exact ⟨rfl, H.out⟩

set_option maxHeartbeats 1000000 in
theorem impl_StringSort (a : Option Addr) (len cap : Nat) (xs : List ByteArray) (w : World) (hs : Sl Value.string w a len cap xs) (hb : len * 16 ≤ 140737488351232) :
    Calls Try.prog 81 #[.slice a len cap] w (GivesSel Value.string 9 sLe w len xs) := by
  have hlen := hs.1
  have hcap := hs.2.1
  have HK := Lib.hid hs.slk
  have HL := Lib.hid hlen
  clear hs hlen
  go_enter Try.func81, Try.ntmps81
  go_wp2_with (first
    | (at_builtin; refine wpList_copy rfl _ _ 27 rfl 9 (.string ByteArray.empty) 1 16 encS Try.underlying27 Try.info9 rfl (by decide) (fun _ => rfl) (by simp [Value.oneCell']) rfl a len cap xs rfl HK.out (by unfold maxLen; omega) (by omega) ?_; intro a' cap' w1 hown hbel)
    | fail)
  have HC := Lib.hid (strSlice_Sort a' len cap' w.heap.size xs w1 hown HL.out hbel.size (by omega))
  have HB := Lib.hid hbel
  clear hown hbel
  refine HC.out.mono ?_
  rintro e w2 ⟨rfl, O, ho, hp, hso, hb2⟩
  have H := Lib.hid (And.intro ho (And.intro hp (And.intro hso hb2)))
  clear ho hp hso hb2
  go_wp2_with fail
  go_ret
  obtain ⟨ho, hp, hso, hb2⟩ := H.out
  have hOl : O.length = len := by rw [hp.length_eq]; exact HL.out
  obtain ⟨a2, c2, hv, hsl, _, _⟩ := ho.sl
  rw [hOl] at hv hsl
  cases hv
  exact ⟨_, _, O, rfl, hsl, ho, hp, hso.imp fun h => h, HB.out.trans hb2⟩

set_option maxHeartbeats 1000000 in
theorem walk_FnStringSort (a0 : Option Addr) (len0 cap0 : Nat) (x0 : List ByteArray) (w : World)
    (s0 : Sl Value.string w a0 len0 cap0 x0) (g0 : ∀ x ∈ x0, x.size ≤ maxLen) (b0 : cap0 * 16 ≤ 140737488351232) :
    Calls Try.prog 25 #[.slice a0 len0 cap0] w (Good w) := by
  have hcap := s0.2.1
  have HS := Lib.hid s0
  have HC := Lib.hid (impl_StringSort a0 len0 cap0 x0 w s0 (by omega))
  have HG := Lib.hid g0
  clear s0 g0
  go_enter Try.func25, Try.ntmps25
  go_wp2_with fail
  refine HC.out.mono ?_
  rintro e w1 ⟨a1, c1, O1, rfl, hs1, ho1, hp1, hpw1, hb1⟩
  have HC2 := Lib.hid (spec_StringSort a0 len0 cap0 x0 w1 (HS.out.below hb1) (by omega) HG.out)
  have H1 := Lib.hid (And.intro hs1 (And.intro hp1 (And.intro hpw1 hb1)))
  clear hs1 ho1 hp1 hpw1 hb1
  go_wp2_with fail
  refine HC2.out.mono ?_
  rintro e w2 ⟨a2, c2, O2, rfl, hs2, ho2, hp2, hpw2, hb2⟩
  obtain ⟨hs1, hp1, hpw1, hb1⟩ := H1.out
  have heq : O1 = O2 := sorted_unique (le := sLe) (fun a b h1 h2 => sLt_total h2 h1) (hp1.trans hp2.symm) hpw1 hpw2
  have HE := Lib.hid (equal_str_true a1 len0 c1 O1 a2 len0 c2 w2 (hs1.below hb2) (by rw [heq]; exact hs2) (by omega))
  have HB := Lib.hid (hb1.trans (hb2.mono hb1.size))
  clear hs1 hp1 hpw1 hb1 H1 hs2 ho2 hp2 hpw2 hb2 heq
  go_wp2_with fail
  refine HE.out.mono ?_
  rintro e w3 ⟨rfl, q, rfl⟩
  go_wp2_with fail
  go_ret
  exact ⟨rfl, Below.drewN HB.out q⟩
#print axioms walk_FnStringSort
end Go.Proofs.Ytaifikhgijnkgaa
