/- The walk of laws.FnStringInserted. No conditions. -/
import Derived.Test.YtaifikhgijnkgaaStrSort
import Derived.Test.YtaifikhgijnkgaaSearchS
import Derived.Test.YtaifikhgijnkgaaIntSearchLaw
import Derived.Test.YtaifikhgijnkgaaExt
import Derived.Deep.RegionHeld
namespace Go.Proofs.Ytaifikhgijnkgaa
open Go.RowKit
open Go.Sort hiding Below
set_option linter.unusedVariables false

theorem sle_mono {x1 a b : ByteArray} (hab : sLe a b) (hb : (!sLt b x1) = false) : (!sLt a x1) = false := by
  simp at hb ⊢
  cases h : sLt a x1
  · have := sLt_swo.ntrans b a x1 hab h
    rw [hb] at this; cases this
  · rfl

set_option maxHeartbeats 1000000 in
/-- impl.StringSort, as far as the machine goes. -/
theorem impl_StringSort_w (a : Option Addr) (len cap : Nat) (xs : List ByteArray) (w : World) (hs : Sl Value.string w a len cap xs) (hb : len * 16 ≤ 140737488355328) :
    Calls Try.prog 81 #[.slice a len cap] w (GivesSel Value.string 9 sLe w len xs) := by
  have hlen := hs.1
  have hcap := hs.2.1
  have HK := Lib.hid hs.slk
  have HL := Lib.hid hlen
  clear hs hlen
  go_enter Try.func81, Try.ntmps81
  go_wp2_with (first
    | (at_builtin; refine wpList_copy rfl _ _ 27 rfl 9 (.string ByteArray.empty) 1 16 encS Try.underlying27 Try.info9 rfl (by decide) (fun _ => rfl) (by simp [Value.oneCell']) rfl a len cap xs rfl HK.out (by unfold maxLen; omega) (by omega) ?_; intro a' cap' w1 hown hbel)
    | fail)
  have HC := Lib.hid (strSlice_Sort a' len cap' w.heap.size xs w1 hown HL.out hbel.size (by omega))
  have HB := Lib.hid hbel
  clear hown hbel
  refine HC.out.mono ?_
  rintro e w2 ⟨rfl, O, ho, hp, hso, hb2⟩
  have H := Lib.hid (And.intro ho (And.intro hp (And.intro hso hb2)))
  clear ho hp hso hb2
  go_wp2_with fail
  go_ret
  obtain ⟨ho, hp, hso, hb2⟩ := H.out
  have hOl : O.length = len := by rw [hp.length_eq]; exact HL.out
  obtain ⟨a2, c2, hv, hsl, _, _⟩ := ho.sl
  rw [hOl] at hv hsl
  cases hv
  exact ⟨_, _, O, rfl, hsl, ho, hp, hso.imp fun h => h, HB.out.trans hb2⟩

set_option maxHeartbeats 4000000 in
set_option maxRecDepth 100000 in
theorem walk_FnStringInserted (a0 : Option Addr) (len0 cap0 : Nat) (x0 : List ByteArray) (x1 : ByteArray) (w : World)
    (s0 : Sl Value.string w a0 len0 cap0 x0) (g0 : ∀ x ∈ x0, x.size ≤ maxLen) (b0 : cap0 * 16 ≤ 140737488351232) (g1 : x1.size ≤ maxLen) (b1 : x1.size ≤ 140737488351232) :
    Calls Try.prog 32 #[.slice a0 len0 cap0, .string x1] w (Good w) := by
  have hcap := s0.2.1
  have HS := Lib.hid s0
  have HL := Lib.hid s0.1
  have HC := Lib.hid (impl_StringSort_w a0 len0 cap0 x0 w s0 (by omega))
  clear s0 g0 g1
  go_enter Try.func32, Try.ntmps32
  go_wp2_with fail
  refine HC.out.mono ?_
  rintro e w1 ⟨a1, c1, O, rfl, hs1, ho1, hp1, hpw1, hb1⟩
  obtain ⟨h1, h2, h3⟩ := bsearch_least sLe (fun y => !sLt y x1) O hpw1 (fun a b hab hb => sle_mono hab hb) len0 hs1.1
  have HSr := Lib.hid (impl_StringSearch a1 len0 c1 O x1 w1 hs1 (by omega))
  have HOL := Lib.hid hs1.1
  have H2 := Lib.hid h2
  have H3 := Lib.hid h3
  have hc1 := hs1.2.1
  have HB1 := Lib.hid hb1
  have HK1 := Lib.hid hs1.slk
  have HP1 := Lib.hid hp1
  have HW1 := Lib.hid hpw1
  have HV := Lib.hid (show a1 = none ∧ len0 = 0 ∧ c1 = 0 ∨ ∃ g, a1 = some ⟨g, 0, none⟩ by
    obtain ⟨_, h | ⟨g, cap', cur, hv, _⟩⟩ := ho1
    · have hv := h.1
      cases hv
      exact .inl ⟨rfl, rfl, rfl⟩
    · cases hv
      exact .inr ⟨g, rfl⟩)
  clear hs1 ho1 hp1 hpw1 hb1 h2 h3 HC
  generalize bsearch (fun k => !sLt (el O k) x1) len0 0 len0 = r at *
  go_wp2_with fail
  refine HSr.out.mono ?_
  rintro e w2 ⟨rfl, hb2⟩
  have HIN := Lib.hid (inserted (le := sLe) (x := x1) (fun a b c h1 h2 => sLt_swo.ntrans c b a h2 h1) HP1.out HW1.out (by rw [HOL.out]; exact h1) (fun k hk => by have := H2.out k hk; simp at this; exact sLt_asymm this) (fun hk => by have := H3.out (by rw [← HOL.out]; exact hk); simpa [sLe] using this))
  have HB2 := Lib.hid (HB1.out.trans (hb2.mono HB1.out.size))
  have HK2 := Lib.hid (HK1.out.belowS hb2)
  clear hb2 HSr H2 H3 HP1 HW1 HB1 HK1
  have hr0 : ¬ (r : Int) < 0 := by omega
  have hrl : ¬ (len0 : Int) < (r : Int) := by omega
  have hr1 : (0 : Int) ≤ (r : Int) := by omega
  have hr2 : (r : Int) ≤ (len0 : Int) := by omega
  have hr3 : (r : Int) ≤ (c1 : Int) := by omega
  have hr4 : (len0 : Int) ≤ (c1 : Int) := by omega
  go_wp2_with fail
  rcases HV.out with ⟨rfl, rfl, rfl⟩ | ⟨g, rfl⟩
  · obtain rfl : r = 0 := by omega
    have HBK := Lib.hid (show ∀ W, Below w2.heap.size w2 W → SlK 1 encS W none (0 - 0) (0 - 0) (O.drop 0) from fun W h => HK2.out.belowS h)
    refine wp_region_held_drew (S := (fun w' => Below w2.heap.size w2 w')) (by kernel_rfl) ((Below.refl _ _).drew) (fun hHeld => ?_)
    try dsimp only at hHeld
    refine wpAnyH_take (i := 0) (oi := { dst := some 28, op := Go.Op.move (Go.Operand.tmp 5), type := 27, pos := "laws.go:136", after := #[], guard := none }) (v := ?_) rfl (by kernel_rfl) (by kernel_rfl) (by kernel_rfl) (fun _ _ _ h => h) (Or.inl ⟨by kernel_rfl, ?_⟩) hHeld ?_
    rotate_left
    · (intro w hSw; (try dsimp only at hSw); go_simp; try with_reducible rfl)
    try simp only [Act.put, List.setIfInBounds_toArray, List.set_cons_zero, List.set_cons_succ]
    refine wpAnyH_take (i := 1) (oi := { dst := some 29, op := Go.Op.move (Go.Operand.tmp 6), type := 3, pos := "laws.go:136", after := #[], guard := none }) (v := ?_) rfl (by kernel_rfl) (by kernel_rfl) (by kernel_rfl) (fun _ _ _ h => h) (Or.inl ⟨by kernel_rfl, ?_⟩) hHeld ?_
    rotate_left
    · (intro w hSw; (try dsimp only at hSw); go_simp; try with_reducible rfl)
    try simp only [Act.put, List.setIfInBounds_toArray, List.set_cons_zero, List.set_cons_succ]
    refine wpAnyH_take (i := 2) (oi := { dst := some 30, op := Go.Op.slice 27 (Go.Operand.tmp 28) none (some (Go.Operand.tmp 29)) none, type := 27, pos := "laws.go:136", after := #[{ on := 0, ground := Go.Ground.data }, { on := 1, ground := Go.Ground.data }], guard := none }) (v := ?_) rfl (by kernel_rfl) (by kernel_rfl) (by kernel_rfl) (fun _ _ _ h => h) (Or.inl ⟨by kernel_rfl, ?_⟩) hHeld ?_
    rotate_left
    · (intro w hSw; (try dsimp only at hSw); go_simp; try with_reducible rfl)
    try simp only [Act.put, List.setIfInBounds_toArray, List.set_cons_zero, List.set_cons_succ]
    refine wpAnyH_take (i := 4) (oi := { dst := some 32, op := Go.Op.move (Go.Operand.tmp 1), type := 9, pos := "laws.go:136", after := #[], guard := none }) (v := ?_) rfl (by kernel_rfl) (by kernel_rfl) (by kernel_rfl) (fun _ _ _ h => h) (Or.inl ⟨by kernel_rfl, ?_⟩) hHeld ?_
    rotate_left
    · (intro w hSw; (try dsimp only at hSw); go_simp; try with_reducible rfl)
    try simp only [Act.put, List.setIfInBounds_toArray, List.set_cons_zero, List.set_cons_succ]
    refine wpAnyH_take (i := 7) (oi := { dst := some 35, op := Go.Op.move (Go.Operand.tmp 5), type := 27, pos := "laws.go:136", after := #[], guard := none }) (v := ?_) rfl (by kernel_rfl) (by kernel_rfl) (by kernel_rfl) (fun _ _ _ h => h) (Or.inl ⟨by kernel_rfl, ?_⟩) hHeld ?_
    rotate_left
    · (intro w hSw; (try dsimp only at hSw); go_simp; try with_reducible rfl)
    try simp only [Act.put, List.setIfInBounds_toArray, List.set_cons_zero, List.set_cons_succ]
    refine wpAnyH_take (i := 8) (oi := { dst := some 36, op := Go.Op.move (Go.Operand.tmp 6), type := 3, pos := "laws.go:136", after := #[], guard := none }) (v := ?_) rfl (by kernel_rfl) (by kernel_rfl) (by kernel_rfl) (fun _ _ _ h => h) (Or.inl ⟨by kernel_rfl, ?_⟩) hHeld ?_
    rotate_left
    · (intro w hSw; (try dsimp only at hSw); go_simp; try with_reducible rfl)
    try simp only [Act.put, List.setIfInBounds_toArray, List.set_cons_zero, List.set_cons_succ]
    refine wpAnyH_take (i := 9) (oi := { dst := some 37, op := Go.Op.slice 27 (Go.Operand.tmp 35) (some (Go.Operand.tmp 36)) none none, type := 27, pos := "laws.go:136", after := #[{ on := 7, ground := Go.Ground.data }, { on := 8, ground := Go.Ground.data }], guard := none }) (v := ?_) rfl (by kernel_rfl) (by kernel_rfl) (by kernel_rfl) (fun _ _ _ h => h) (Or.inl ⟨by kernel_rfl, ?_⟩) hHeld ?_
    rotate_left
    · (intro w hSw; (try dsimp only at hSw); go_simp; try with_reducible rfl)
    try simp only [Act.put, List.setIfInBounds_toArray, List.set_cons_zero, List.set_cons_succ]
    refine wpAnyH_ready (rs := [3, 5]) (by kernel_rfl) (by simp) ?_
    refine (AllReadyH.cons (o := { dst := some 31, op := Go.Op.call { callee := Go.Callee.builtin Go.Builtin.append, args := #[Go.Operand.const (Go.Value.slice none 0 0), Go.Operand.tmp 30], argTypes := #[27, 27] }, type := 27, pos := "laws.go:136", after := #[{ on := 2, ground := Go.Ground.data }], guard := none }) rfl (fun K hK => ?_) (AllReadyH.cons (o := { dst := some 33, op := Go.Op.buildSlice 27 1 #[(0, Go.Operand.tmp 32)], type := 27, pos := "laws.go:136", after := #[{ on := 4, ground := Go.Ground.data }], guard := none }) rfl (fun K hK => ?_) AllReadyH.nil))
    · skip
      rw [if_pos (by kernel_rfl)]
      refine wp_copy _ _ 27 rfl 9 (.string ByteArray.empty) 1 16 encS Try.underlying27 Try.info9 rfl (by decide) (fun _ => rfl) (by simp [Value.oneCell']) rfl none 0 0 (O.take 0) rfl ((HK2.out.belowS hHeld).front 0 h1) (by unfold maxLen; omega) (by omega) ?_
      intro a3 c3 w3 ho3 hb3
      have hS' := hHeld.trans (hb3.mono hHeld.size)
      have HO3a := Lib.hid (ho3.base hHeld.size)
      clear ho3 hb3
      refine hK.out _ _ hS' (fun hHeld => ?_)
      try dsimp only at hHeld
      clear hK K
      try simp only [Act.put, List.setIfInBounds_toArray, List.set_cons_zero, List.set_cons_succ]
      refine wpAnyH_ready (rs := [5]) (by kernel_rfl) (by simp) ?_
      refine (AllReadyH.cons (o := { dst := some 33, op := Go.Op.buildSlice 27 1 #[(0, Go.Operand.tmp 32)], type := 27, pos := "laws.go:136", after := #[{ on := 4, ground := Go.Ground.data }], guard := none }) rfl (fun K hK => ?_) AllReadyH.nil)
      · skip
        go_simp
        skip
        have hS' := hHeld.alloc hHeld.size (.cells #[.string x1] 9)
        have HX := Lib.hid (box1 Value.string w3 x1 9)
        have HO3 := Lib.hid (HO3a.out.below ((Below.refl _ _).alloc (Nat.le_refl _) (.cells #[.string x1] 9)))
        refine hK.out _ _ hS' (fun hHeld => ?_)
        try dsimp only at hHeld
        clear hK K
        try simp only [Act.put, List.setIfInBounds_toArray, List.set_cons_zero, List.set_cons_succ]
        refine wpAnyH_ready (rs := [6]) (by kernel_rfl) (by simp) ?_
        refine (AllReadyH.cons (o := { dst := some 34, op := Go.Op.call { callee := Go.Callee.builtin Go.Builtin.append, args := #[Go.Operand.tmp 31, Go.Operand.tmp 33], argTypes := #[27, 27] }, type := 27, pos := "laws.go:136", after := #[{ on := 3, ground := Go.Ground.data }, { on := 5, ground := Go.Ground.data }, { on := 3, ground := Go.Ground.chain }], guard := none }) rfl (fun K hK => ?_) AllReadyH.nil)
        · skip
          rw [if_pos (by kernel_rfl)]
          refine wp_extend _ _ 27 rfl 9 (.string ByteArray.empty) 1 16 encS Try.underlying27 Try.info9 rfl (by decide) (fun _ => rfl) (by simp [Value.oneCell']) w2.heap.size a3 0 c3 (O.take 0) rfl HO3.out (by rw [List.length_take, HOL.out]; omega) _ 1 1 [x1] rfl HX.out (by unfold maxLen; omega) (by omega) hHeld.size ?_
          intro a6 c6 w6 ho6 hb6
          have hS' := hHeld.trans hb6
          have HO6 := Lib.hid ho6
          clear ho6 hb6
          refine hK.out _ _ hS' (fun hHeld => ?_)
          try dsimp only at hHeld
          clear hK K
          try simp only [Act.put, List.setIfInBounds_toArray, List.set_cons_zero, List.set_cons_succ]
          refine wpAnyH_ready (rs := [10]) (by kernel_rfl) (by simp) ?_
          refine (AllReadyH.cons (o := { dst := some 38, op := Go.Op.call { callee := Go.Callee.builtin Go.Builtin.append, args := #[Go.Operand.tmp 34, Go.Operand.tmp 37], argTypes := #[27, 27] }, type := 27, pos := "laws.go:136", after := #[{ on := 6, ground := Go.Ground.data }, { on := 9, ground := Go.Ground.data }, { on := 6, ground := Go.Ground.chain }], guard := none }) rfl (fun K hK => ?_) AllReadyH.nil)
          · skip
            rw [if_pos (by kernel_rfl)]
            refine wp_extend _ _ 27 rfl 9 (.string ByteArray.empty) 1 16 encS Try.underlying27 Try.info9 rfl (by decide) (fun _ => rfl) (by simp [Value.oneCell']) w2.heap.size a6 (0 + 1) c6 (O.take 0 ++ [x1]) rfl HO6.out (by rw [List.length_append, List.length_take, HOL.out]; simp <;> omega) none (0 - 0) (0 - 0) (O.drop 0) rfl (HBK.out _ hHeld) (by unfold maxLen; omega) (by omega) hHeld.size ?_
            intro a10 c10 w10 ho10 hb10
            have hS' := hHeld.trans hb10
            have HO10 := Lib.hid ho10
            clear ho10 hb10
            refine hK.out _ _ hS' (fun hHeld => ?_)
            try dsimp only at hHeld
            clear hK K
            try simp only [Act.put, List.setIfInBounds_toArray, List.set_cons_zero, List.set_cons_succ]
            refine wpAnyH_take (i := 11) (oi := { dst := some 7, op := Go.Op.assign (Go.Operand.tmp 38), type := 27, pos := "laws.go:136", after := #[{ on := 10, ground := Go.Ground.data }, { on := 10, ground := Go.Ground.chain }, { on := 0, ground := Go.Ground.phase }, { on := 1, ground := Go.Ground.phase }, { on := 2, ground := Go.Ground.phase }, { on := 3, ground := Go.Ground.phase }, { on := 4, ground := Go.Ground.phase }, { on := 5, ground := Go.Ground.phase }, { on := 6, ground := Go.Ground.phase }, { on := 7, ground := Go.Ground.phase }, { on := 8, ground := Go.Ground.phase }, { on := 9, ground := Go.Ground.phase }, { on := 10, ground := Go.Ground.phase }], guard := none }) (v := ?_) rfl (by kernel_rfl) (by kernel_rfl) (by kernel_rfl) (fun _ _ _ h => h) (Or.inl ⟨by kernel_rfl, ?_⟩) hHeld ?_
            rotate_left
            · (intro w hSw; (try dsimp only at hSw); go_simp; try with_reducible rfl)
            try simp only [Act.put, List.setIfInBounds_toArray, List.set_cons_zero, List.set_cons_succ]
            refine wpAnyH_done (by kernel_rfl) ?_ _
            have HT10 := Lib.hid hHeld
            have HWL := Lib.hid (show (O.take 0 ++ [x1] ++ O.drop 0).length = 0 + 1 + (0 - 0) by rw [List.length_append, List.length_append, List.length_take, List.length_drop, HOL.out]; simp <;> omega)
            have HKL := Lib.hid (HS.out.below (HB2.out.trans (HT10.out.mono HB2.out.size))).slk
            clear hHeld HO3 HO6 HX HBK
            try generalize (if 0 = 0 then (some ⟨g, 0, none⟩ : Option Addr) else some ⟨g, 0, none⟩) = aD
            go_wp2_with (first
              | (at_builtin; refine wpList_copy rfl _ _ 27 rfl 9 (.string ByteArray.empty) 1 16 encS Try.underlying27 Try.info9 rfl (by decide) (fun _ => rfl) (by simp [Value.oneCell']) rfl a0 0 cap0 x0 rfl HKL.out (by unfold maxLen; omega) (by omega) ?_; intro a11 c11 w11 ho11 hb11)
              | (at_builtin; refine wpList_extend rfl _ _ 27 rfl 9 (.string ByteArray.empty) 1 16 encS Try.underlying27 Try.info9 rfl (by decide) (fun _ => rfl) (by simp [Value.oneCell']) w10.heap.size a11 0 c11 x0 rfl (ho11.below ((Below.refl w11.heap.size w11).alloc (Nat.le_refl _) _)) HL.out _ 1 1 [x1] rfl (box1 Value.string w11 x1 9) (by unfold maxLen; omega) (by omega) (Nat.le_trans hb11.size ((Below.refl w11.heap.size w11).alloc (Nat.le_refl _) _).size) ?_; intro a12 c12 w12 ho12 hb12)
              | fail)
            have HB11 := Lib.hid hb11
            have HB12 := Lib.hid ((Below.refl w11.heap.size w11).alloc (Nat.le_refl _) (.cells #[.string x1] 9))
            have HB12b := Lib.hid ((HB11.out.trans (HB12.out.mono HB11.out.size)).trans hb12)
            obtain ⟨aa, cc, hv, hs12, _, _⟩ := ho12.sl
            rw [List.length_append, HL.out] at hv hs12
            cases hv
            have HC2 := Lib.hid (impl_StringSort_w _ _ _ _ w12 hs12 (by simp <;> omega))
            clear ho12 hb12 hs12 ho11 hb11 HKL
            refine HC2.out.mono ?_
            rintro e w13 ⟨a13, c13, O2, rfl, hs13, ho13, hp13, hpw13, hb13⟩
            have heq : O2 = O.take 0 ++ [x1] ++ O.drop 0 := sorted_unique (le := sLe) (fun a b h1 h2 => sLt_total h2 h1) (hp13.trans HIN.out.2.symm) hpw13 HIN.out.1
            obtain ⟨ab, cb, hv, hs10, _, _⟩ := HO10.out.sl
            rw [HWL.out] at hv hs10
            cases hv
            have HB13 := Lib.hid (HB12b.out.trans (hb13.mono HB12b.out.size))
            have HE := Lib.hid (equal_str_true a13 _ c13 O2 _ _ _ w13 hs13 (by rw [heq]; exact hs10.below HB13.out) (by simp <;> omega))
            have HBF := Lib.hid (HB2.out.trans ((HT10.out.trans (HB13.out.mono HT10.out.size)).mono HB2.out.size))
            clear hs13 ho13 hp13 hpw13 hb13 heq hs10 HC2
            go_wp2_with fail
            refine HE.out.mono ?_
            rintro e w14 ⟨rfl, q, rfl⟩
            go_wp2_with fail
            go_ret
            exact ⟨rfl, Below.drewN HBF.out q⟩
    · skip
      go_simp
      skip
      have hS' := hHeld.alloc hHeld.size (.cells #[.string x1] 9)
      have HX0 := Lib.hid (box1 Value.string w2.drew x1 9)
      refine hK.out _ _ hS' (fun hHeld => ?_)
      try dsimp only at hHeld
      clear hK K
      try simp only [Act.put, List.setIfInBounds_toArray, List.set_cons_zero, List.set_cons_succ]
      refine wpAnyH_ready (rs := [3]) (by kernel_rfl) (by simp) ?_
      refine (AllReadyH.cons (o := { dst := some 31, op := Go.Op.call { callee := Go.Callee.builtin Go.Builtin.append, args := #[Go.Operand.const (Go.Value.slice none 0 0), Go.Operand.tmp 30], argTypes := #[27, 27] }, type := 27, pos := "laws.go:136", after := #[{ on := 2, ground := Go.Ground.data }], guard := none }) rfl (fun K hK => ?_) AllReadyH.nil)
      · skip
        rw [if_pos (by kernel_rfl)]
        refine wp_copy _ _ 27 rfl 9 (.string ByteArray.empty) 1 16 encS Try.underlying27 Try.info9 rfl (by decide) (fun _ => rfl) (by simp [Value.oneCell']) rfl none 0 0 (O.take 0) rfl ((HK2.out.belowS hHeld).front 0 h1) (by unfold maxLen; omega) (by omega) ?_
        intro a3 c3 w3 ho3 hb3
        have hS' := hHeld.trans (hb3.mono hHeld.size)
        have HO3 := Lib.hid (ho3.base hHeld.size)
        have HX := Lib.hid (HX0.out.belowS hb3)
        clear ho3 hb3
        refine hK.out _ _ hS' (fun hHeld => ?_)
        try dsimp only at hHeld
        clear hK K
        try simp only [Act.put, List.setIfInBounds_toArray, List.set_cons_zero, List.set_cons_succ]
        refine wpAnyH_ready (rs := [6]) (by kernel_rfl) (by simp) ?_
        refine (AllReadyH.cons (o := { dst := some 34, op := Go.Op.call { callee := Go.Callee.builtin Go.Builtin.append, args := #[Go.Operand.tmp 31, Go.Operand.tmp 33], argTypes := #[27, 27] }, type := 27, pos := "laws.go:136", after := #[{ on := 3, ground := Go.Ground.data }, { on := 5, ground := Go.Ground.data }, { on := 3, ground := Go.Ground.chain }], guard := none }) rfl (fun K hK => ?_) AllReadyH.nil)
        · skip
          rw [if_pos (by kernel_rfl)]
          refine wp_extend _ _ 27 rfl 9 (.string ByteArray.empty) 1 16 encS Try.underlying27 Try.info9 rfl (by decide) (fun _ => rfl) (by simp [Value.oneCell']) w2.heap.size a3 0 c3 (O.take 0) rfl HO3.out (by rw [List.length_take, HOL.out]; omega) _ 1 1 [x1] rfl HX.out (by unfold maxLen; omega) (by omega) hHeld.size ?_
          intro a6 c6 w6 ho6 hb6
          have hS' := hHeld.trans hb6
          have HO6 := Lib.hid ho6
          clear ho6 hb6
          refine hK.out _ _ hS' (fun hHeld => ?_)
          try dsimp only at hHeld
          clear hK K
          try simp only [Act.put, List.setIfInBounds_toArray, List.set_cons_zero, List.set_cons_succ]
          refine wpAnyH_ready (rs := [10]) (by kernel_rfl) (by simp) ?_
          refine (AllReadyH.cons (o := { dst := some 38, op := Go.Op.call { callee := Go.Callee.builtin Go.Builtin.append, args := #[Go.Operand.tmp 34, Go.Operand.tmp 37], argTypes := #[27, 27] }, type := 27, pos := "laws.go:136", after := #[{ on := 6, ground := Go.Ground.data }, { on := 9, ground := Go.Ground.data }, { on := 6, ground := Go.Ground.chain }], guard := none }) rfl (fun K hK => ?_) AllReadyH.nil)
          · skip
            rw [if_pos (by kernel_rfl)]
            refine wp_extend _ _ 27 rfl 9 (.string ByteArray.empty) 1 16 encS Try.underlying27 Try.info9 rfl (by decide) (fun _ => rfl) (by simp [Value.oneCell']) w2.heap.size a6 (0 + 1) c6 (O.take 0 ++ [x1]) rfl HO6.out (by rw [List.length_append, List.length_take, HOL.out]; simp <;> omega) none (0 - 0) (0 - 0) (O.drop 0) rfl (HBK.out _ hHeld) (by unfold maxLen; omega) (by omega) hHeld.size ?_
            intro a10 c10 w10 ho10 hb10
            have hS' := hHeld.trans hb10
            have HO10 := Lib.hid ho10
            clear ho10 hb10
            refine hK.out _ _ hS' (fun hHeld => ?_)
            try dsimp only at hHeld
            clear hK K
            try simp only [Act.put, List.setIfInBounds_toArray, List.set_cons_zero, List.set_cons_succ]
            refine wpAnyH_take (i := 11) (oi := { dst := some 7, op := Go.Op.assign (Go.Operand.tmp 38), type := 27, pos := "laws.go:136", after := #[{ on := 10, ground := Go.Ground.data }, { on := 10, ground := Go.Ground.chain }, { on := 0, ground := Go.Ground.phase }, { on := 1, ground := Go.Ground.phase }, { on := 2, ground := Go.Ground.phase }, { on := 3, ground := Go.Ground.phase }, { on := 4, ground := Go.Ground.phase }, { on := 5, ground := Go.Ground.phase }, { on := 6, ground := Go.Ground.phase }, { on := 7, ground := Go.Ground.phase }, { on := 8, ground := Go.Ground.phase }, { on := 9, ground := Go.Ground.phase }, { on := 10, ground := Go.Ground.phase }], guard := none }) (v := ?_) rfl (by kernel_rfl) (by kernel_rfl) (by kernel_rfl) (fun _ _ _ h => h) (Or.inl ⟨by kernel_rfl, ?_⟩) hHeld ?_
            rotate_left
            · (intro w hSw; (try dsimp only at hSw); go_simp; try with_reducible rfl)
            try simp only [Act.put, List.setIfInBounds_toArray, List.set_cons_zero, List.set_cons_succ]
            refine wpAnyH_done (by kernel_rfl) ?_ _
            have HT10 := Lib.hid hHeld
            have HWL := Lib.hid (show (O.take 0 ++ [x1] ++ O.drop 0).length = 0 + 1 + (0 - 0) by rw [List.length_append, List.length_append, List.length_take, List.length_drop, HOL.out]; simp <;> omega)
            have HKL := Lib.hid (HS.out.below (HB2.out.trans (HT10.out.mono HB2.out.size))).slk
            clear hHeld HO3 HO6 HX HBK
            try generalize (if 0 = 0 then (some ⟨g, 0, none⟩ : Option Addr) else some ⟨g, 0, none⟩) = aD
            go_wp2_with (first
              | (at_builtin; refine wpList_copy rfl _ _ 27 rfl 9 (.string ByteArray.empty) 1 16 encS Try.underlying27 Try.info9 rfl (by decide) (fun _ => rfl) (by simp [Value.oneCell']) rfl a0 0 cap0 x0 rfl HKL.out (by unfold maxLen; omega) (by omega) ?_; intro a11 c11 w11 ho11 hb11)
              | (at_builtin; refine wpList_extend rfl _ _ 27 rfl 9 (.string ByteArray.empty) 1 16 encS Try.underlying27 Try.info9 rfl (by decide) (fun _ => rfl) (by simp [Value.oneCell']) w10.heap.size a11 0 c11 x0 rfl (ho11.below ((Below.refl w11.heap.size w11).alloc (Nat.le_refl _) _)) HL.out _ 1 1 [x1] rfl (box1 Value.string w11 x1 9) (by unfold maxLen; omega) (by omega) (Nat.le_trans hb11.size ((Below.refl w11.heap.size w11).alloc (Nat.le_refl _) _).size) ?_; intro a12 c12 w12 ho12 hb12)
              | fail)
            have HB11 := Lib.hid hb11
            have HB12 := Lib.hid ((Below.refl w11.heap.size w11).alloc (Nat.le_refl _) (.cells #[.string x1] 9))
            have HB12b := Lib.hid ((HB11.out.trans (HB12.out.mono HB11.out.size)).trans hb12)
            obtain ⟨aa, cc, hv, hs12, _, _⟩ := ho12.sl
            rw [List.length_append, HL.out] at hv hs12
            cases hv
            have HC2 := Lib.hid (impl_StringSort_w _ _ _ _ w12 hs12 (by simp <;> omega))
            clear ho12 hb12 hs12 ho11 hb11 HKL
            refine HC2.out.mono ?_
            rintro e w13 ⟨a13, c13, O2, rfl, hs13, ho13, hp13, hpw13, hb13⟩
            have heq : O2 = O.take 0 ++ [x1] ++ O.drop 0 := sorted_unique (le := sLe) (fun a b h1 h2 => sLt_total h2 h1) (hp13.trans HIN.out.2.symm) hpw13 HIN.out.1
            obtain ⟨ab, cb, hv, hs10, _, _⟩ := HO10.out.sl
            rw [HWL.out] at hv hs10
            cases hv
            have HB13 := Lib.hid (HB12b.out.trans (hb13.mono HB12b.out.size))
            have HE := Lib.hid (equal_str_true a13 _ c13 O2 _ _ _ w13 hs13 (by rw [heq]; exact hs10.below HB13.out) (by simp <;> omega))
            have HBF := Lib.hid (HB2.out.trans ((HT10.out.trans (HB13.out.mono HT10.out.size)).mono HB2.out.size))
            clear hs13 ho13 hp13 hpw13 hb13 heq hs10 HC2
            go_wp2_with fail
            refine HE.out.mono ?_
            rintro e w14 ⟨rfl, q, rfl⟩
            go_wp2_with fail
            go_ret
            exact ⟨rfl, Below.drewN HBF.out q⟩
  · have HBK := Lib.hid (show ∀ W, Below w2.heap.size w2 W → SlK 1 encS W (if c1 = r then some ⟨g, 0, none⟩ else some ⟨g, r, none⟩) (len0 - r) (c1 - r) (O.drop r) from fun W h => by
      have := (HK2.out.belowS h).backIf r h1
      rwa [Nat.mul_one, Nat.zero_add] at this)
    refine wp_region_held_drew (S := (fun w' => Below w2.heap.size w2 w')) (by kernel_rfl) ((Below.refl _ _).drew) (fun hHeld => ?_)
    try dsimp only at hHeld
    refine wpAnyH_take (i := 0) (oi := { dst := some 28, op := Go.Op.move (Go.Operand.tmp 5), type := 27, pos := "laws.go:136", after := #[], guard := none }) (v := ?_) rfl (by kernel_rfl) (by kernel_rfl) (by kernel_rfl) (fun _ _ _ h => h) (Or.inl ⟨by kernel_rfl, ?_⟩) hHeld ?_
    rotate_left
    · (intro w hSw; (try dsimp only at hSw); go_simp; try with_reducible rfl)
    try simp only [Act.put, List.setIfInBounds_toArray, List.set_cons_zero, List.set_cons_succ]
    refine wpAnyH_take (i := 1) (oi := { dst := some 29, op := Go.Op.move (Go.Operand.tmp 6), type := 3, pos := "laws.go:136", after := #[], guard := none }) (v := ?_) rfl (by kernel_rfl) (by kernel_rfl) (by kernel_rfl) (fun _ _ _ h => h) (Or.inl ⟨by kernel_rfl, ?_⟩) hHeld ?_
    rotate_left
    · (intro w hSw; (try dsimp only at hSw); go_simp; try with_reducible rfl)
    try simp only [Act.put, List.setIfInBounds_toArray, List.set_cons_zero, List.set_cons_succ]
    refine wpAnyH_take (i := 2) (oi := { dst := some 30, op := Go.Op.slice 27 (Go.Operand.tmp 28) none (some (Go.Operand.tmp 29)) none, type := 27, pos := "laws.go:136", after := #[{ on := 0, ground := Go.Ground.data }, { on := 1, ground := Go.Ground.data }], guard := none }) (v := ?_) rfl (by kernel_rfl) (by kernel_rfl) (by kernel_rfl) (fun _ _ _ h => h) (Or.inl ⟨by kernel_rfl, ?_⟩) hHeld ?_
    rotate_left
    · (intro w hSw; (try dsimp only at hSw); go_simp; try with_reducible rfl)
    try simp only [Act.put, List.setIfInBounds_toArray, List.set_cons_zero, List.set_cons_succ]
    refine wpAnyH_take (i := 4) (oi := { dst := some 32, op := Go.Op.move (Go.Operand.tmp 1), type := 9, pos := "laws.go:136", after := #[], guard := none }) (v := ?_) rfl (by kernel_rfl) (by kernel_rfl) (by kernel_rfl) (fun _ _ _ h => h) (Or.inl ⟨by kernel_rfl, ?_⟩) hHeld ?_
    rotate_left
    · (intro w hSw; (try dsimp only at hSw); go_simp; try with_reducible rfl)
    try simp only [Act.put, List.setIfInBounds_toArray, List.set_cons_zero, List.set_cons_succ]
    refine wpAnyH_take (i := 7) (oi := { dst := some 35, op := Go.Op.move (Go.Operand.tmp 5), type := 27, pos := "laws.go:136", after := #[], guard := none }) (v := ?_) rfl (by kernel_rfl) (by kernel_rfl) (by kernel_rfl) (fun _ _ _ h => h) (Or.inl ⟨by kernel_rfl, ?_⟩) hHeld ?_
    rotate_left
    · (intro w hSw; (try dsimp only at hSw); go_simp; try with_reducible rfl)
    try simp only [Act.put, List.setIfInBounds_toArray, List.set_cons_zero, List.set_cons_succ]
    refine wpAnyH_take (i := 8) (oi := { dst := some 36, op := Go.Op.move (Go.Operand.tmp 6), type := 3, pos := "laws.go:136", after := #[], guard := none }) (v := ?_) rfl (by kernel_rfl) (by kernel_rfl) (by kernel_rfl) (fun _ _ _ h => h) (Or.inl ⟨by kernel_rfl, ?_⟩) hHeld ?_
    rotate_left
    · (intro w hSw; (try dsimp only at hSw); go_simp; try with_reducible rfl)
    try simp only [Act.put, List.setIfInBounds_toArray, List.set_cons_zero, List.set_cons_succ]
    refine wpAnyH_take (i := 9) (oi := { dst := some 37, op := Go.Op.slice 27 (Go.Operand.tmp 35) (some (Go.Operand.tmp 36)) none none, type := 27, pos := "laws.go:136", after := #[{ on := 7, ground := Go.Ground.data }, { on := 8, ground := Go.Ground.data }], guard := none }) (v := ?_) rfl (by kernel_rfl) (by kernel_rfl) (by kernel_rfl) (fun _ _ _ h => h) (Or.inl ⟨by kernel_rfl, ?_⟩) hHeld ?_
    rotate_left
    · (intro w hSw; (try dsimp only at hSw); go_simp; try with_reducible rfl)
    try simp only [Act.put, List.setIfInBounds_toArray, List.set_cons_zero, List.set_cons_succ]
    refine wpAnyH_ready (rs := [3, 5]) (by kernel_rfl) (by simp) ?_
    refine (AllReadyH.cons (o := { dst := some 31, op := Go.Op.call { callee := Go.Callee.builtin Go.Builtin.append, args := #[Go.Operand.const (Go.Value.slice none 0 0), Go.Operand.tmp 30], argTypes := #[27, 27] }, type := 27, pos := "laws.go:136", after := #[{ on := 2, ground := Go.Ground.data }], guard := none }) rfl (fun K hK => ?_) (AllReadyH.cons (o := { dst := some 33, op := Go.Op.buildSlice 27 1 #[(0, Go.Operand.tmp 32)], type := 27, pos := "laws.go:136", after := #[{ on := 4, ground := Go.Ground.data }], guard := none }) rfl (fun K hK => ?_) AllReadyH.nil))
    · skip
      rw [if_pos (by kernel_rfl)]
      refine wp_copy _ _ 27 rfl 9 (.string ByteArray.empty) 1 16 encS Try.underlying27 Try.info9 rfl (by decide) (fun _ => rfl) (by simp [Value.oneCell']) rfl (some ⟨g, 0, none⟩) r c1 (O.take r) rfl ((HK2.out.belowS hHeld).front r h1) (by unfold maxLen; omega) (by omega) ?_
      intro a3 c3 w3 ho3 hb3
      have hS' := hHeld.trans (hb3.mono hHeld.size)
      have HO3a := Lib.hid (ho3.base hHeld.size)
      clear ho3 hb3
      refine hK.out _ _ hS' (fun hHeld => ?_)
      try dsimp only at hHeld
      clear hK K
      try simp only [Act.put, List.setIfInBounds_toArray, List.set_cons_zero, List.set_cons_succ]
      refine wpAnyH_ready (rs := [5]) (by kernel_rfl) (by simp) ?_
      refine (AllReadyH.cons (o := { dst := some 33, op := Go.Op.buildSlice 27 1 #[(0, Go.Operand.tmp 32)], type := 27, pos := "laws.go:136", after := #[{ on := 4, ground := Go.Ground.data }], guard := none }) rfl (fun K hK => ?_) AllReadyH.nil)
      · skip
        go_simp
        skip
        have hS' := hHeld.alloc hHeld.size (.cells #[.string x1] 9)
        have HX := Lib.hid (box1 Value.string w3 x1 9)
        have HO3 := Lib.hid (HO3a.out.below ((Below.refl _ _).alloc (Nat.le_refl _) (.cells #[.string x1] 9)))
        refine hK.out _ _ hS' (fun hHeld => ?_)
        try dsimp only at hHeld
        clear hK K
        try simp only [Act.put, List.setIfInBounds_toArray, List.set_cons_zero, List.set_cons_succ]
        refine wpAnyH_ready (rs := [6]) (by kernel_rfl) (by simp) ?_
        refine (AllReadyH.cons (o := { dst := some 34, op := Go.Op.call { callee := Go.Callee.builtin Go.Builtin.append, args := #[Go.Operand.tmp 31, Go.Operand.tmp 33], argTypes := #[27, 27] }, type := 27, pos := "laws.go:136", after := #[{ on := 3, ground := Go.Ground.data }, { on := 5, ground := Go.Ground.data }, { on := 3, ground := Go.Ground.chain }], guard := none }) rfl (fun K hK => ?_) AllReadyH.nil)
        · skip
          rw [if_pos (by kernel_rfl)]
          refine wp_extend _ _ 27 rfl 9 (.string ByteArray.empty) 1 16 encS Try.underlying27 Try.info9 rfl (by decide) (fun _ => rfl) (by simp [Value.oneCell']) w2.heap.size a3 r c3 (O.take r) rfl HO3.out (by rw [List.length_take, HOL.out]; omega) _ 1 1 [x1] rfl HX.out (by unfold maxLen; omega) (by omega) hHeld.size ?_
          intro a6 c6 w6 ho6 hb6
          have hS' := hHeld.trans hb6
          have HO6 := Lib.hid ho6
          clear ho6 hb6
          refine hK.out _ _ hS' (fun hHeld => ?_)
          try dsimp only at hHeld
          clear hK K
          try simp only [Act.put, List.setIfInBounds_toArray, List.set_cons_zero, List.set_cons_succ]
          refine wpAnyH_ready (rs := [10]) (by kernel_rfl) (by simp) ?_
          refine (AllReadyH.cons (o := { dst := some 38, op := Go.Op.call { callee := Go.Callee.builtin Go.Builtin.append, args := #[Go.Operand.tmp 34, Go.Operand.tmp 37], argTypes := #[27, 27] }, type := 27, pos := "laws.go:136", after := #[{ on := 6, ground := Go.Ground.data }, { on := 9, ground := Go.Ground.data }, { on := 6, ground := Go.Ground.chain }], guard := none }) rfl (fun K hK => ?_) AllReadyH.nil)
          · skip
            rw [if_pos (by kernel_rfl)]
            refine wp_extend _ _ 27 rfl 9 (.string ByteArray.empty) 1 16 encS Try.underlying27 Try.info9 rfl (by decide) (fun _ => rfl) (by simp [Value.oneCell']) w2.heap.size a6 (r + 1) c6 (O.take r ++ [x1]) rfl HO6.out (by rw [List.length_append, List.length_take, HOL.out]; simp <;> omega) (if c1 = r then some ⟨g, 0, none⟩ else some ⟨g, r, none⟩) (len0 - r) (c1 - r) (O.drop r) rfl (HBK.out _ hHeld) (by unfold maxLen; omega) (by omega) hHeld.size ?_
            intro a10 c10 w10 ho10 hb10
            have hS' := hHeld.trans hb10
            have HO10 := Lib.hid ho10
            clear ho10 hb10
            refine hK.out _ _ hS' (fun hHeld => ?_)
            try dsimp only at hHeld
            clear hK K
            try simp only [Act.put, List.setIfInBounds_toArray, List.set_cons_zero, List.set_cons_succ]
            refine wpAnyH_take (i := 11) (oi := { dst := some 7, op := Go.Op.assign (Go.Operand.tmp 38), type := 27, pos := "laws.go:136", after := #[{ on := 10, ground := Go.Ground.data }, { on := 10, ground := Go.Ground.chain }, { on := 0, ground := Go.Ground.phase }, { on := 1, ground := Go.Ground.phase }, { on := 2, ground := Go.Ground.phase }, { on := 3, ground := Go.Ground.phase }, { on := 4, ground := Go.Ground.phase }, { on := 5, ground := Go.Ground.phase }, { on := 6, ground := Go.Ground.phase }, { on := 7, ground := Go.Ground.phase }, { on := 8, ground := Go.Ground.phase }, { on := 9, ground := Go.Ground.phase }, { on := 10, ground := Go.Ground.phase }], guard := none }) (v := ?_) rfl (by kernel_rfl) (by kernel_rfl) (by kernel_rfl) (fun _ _ _ h => h) (Or.inl ⟨by kernel_rfl, ?_⟩) hHeld ?_
            rotate_left
            · (intro w hSw; (try dsimp only at hSw); go_simp; try with_reducible rfl)
            try simp only [Act.put, List.setIfInBounds_toArray, List.set_cons_zero, List.set_cons_succ]
            refine wpAnyH_done (by kernel_rfl) ?_ _
            have HT10 := Lib.hid hHeld
            have HWL := Lib.hid (show (O.take r ++ [x1] ++ O.drop r).length = r + 1 + (len0 - r) by rw [List.length_append, List.length_append, List.length_take, List.length_drop, HOL.out]; simp <;> omega)
            have HKL := Lib.hid (HS.out.below (HB2.out.trans (HT10.out.mono HB2.out.size))).slk
            clear hHeld HO3 HO6 HX HBK
            try generalize (if c1 = r then (some ⟨g, 0, none⟩ : Option Addr) else some ⟨g, r, none⟩) = aD
            go_wp2_with (first
              | (at_builtin; refine wpList_copy rfl _ _ 27 rfl 9 (.string ByteArray.empty) 1 16 encS Try.underlying27 Try.info9 rfl (by decide) (fun _ => rfl) (by simp [Value.oneCell']) rfl a0 len0 cap0 x0 rfl HKL.out (by unfold maxLen; omega) (by omega) ?_; intro a11 c11 w11 ho11 hb11)
              | (at_builtin; refine wpList_extend rfl _ _ 27 rfl 9 (.string ByteArray.empty) 1 16 encS Try.underlying27 Try.info9 rfl (by decide) (fun _ => rfl) (by simp [Value.oneCell']) w10.heap.size a11 len0 c11 x0 rfl (ho11.below ((Below.refl w11.heap.size w11).alloc (Nat.le_refl _) _)) HL.out _ 1 1 [x1] rfl (box1 Value.string w11 x1 9) (by unfold maxLen; omega) (by omega) (Nat.le_trans hb11.size ((Below.refl w11.heap.size w11).alloc (Nat.le_refl _) _).size) ?_; intro a12 c12 w12 ho12 hb12)
              | fail)
            have HB11 := Lib.hid hb11
            have HB12 := Lib.hid ((Below.refl w11.heap.size w11).alloc (Nat.le_refl _) (.cells #[.string x1] 9))
            have HB12b := Lib.hid ((HB11.out.trans (HB12.out.mono HB11.out.size)).trans hb12)
            obtain ⟨aa, cc, hv, hs12, _, _⟩ := ho12.sl
            rw [List.length_append, HL.out] at hv hs12
            cases hv
            have HC2 := Lib.hid (impl_StringSort_w _ _ _ _ w12 hs12 (by simp <;> omega))
            clear ho12 hb12 hs12 ho11 hb11 HKL
            refine HC2.out.mono ?_
            rintro e w13 ⟨a13, c13, O2, rfl, hs13, ho13, hp13, hpw13, hb13⟩
            have heq : O2 = O.take r ++ [x1] ++ O.drop r := sorted_unique (le := sLe) (fun a b h1 h2 => sLt_total h2 h1) (hp13.trans HIN.out.2.symm) hpw13 HIN.out.1
            obtain ⟨ab, cb, hv, hs10, _, _⟩ := HO10.out.sl
            rw [HWL.out] at hv hs10
            cases hv
            have HB13 := Lib.hid (HB12b.out.trans (hb13.mono HB12b.out.size))
            have HE := Lib.hid (equal_str_true a13 _ c13 O2 _ _ _ w13 hs13 (by rw [heq]; exact hs10.below HB13.out) (by simp <;> omega))
            have HBF := Lib.hid (HB2.out.trans ((HT10.out.trans (HB13.out.mono HT10.out.size)).mono HB2.out.size))
            clear hs13 ho13 hp13 hpw13 hb13 heq hs10 HC2
            go_wp2_with fail
            refine HE.out.mono ?_
            rintro e w14 ⟨rfl, q, rfl⟩
            go_wp2_with fail
            go_ret
            exact ⟨rfl, Below.drewN HBF.out q⟩
    · skip
      go_simp
      skip
      have hS' := hHeld.alloc hHeld.size (.cells #[.string x1] 9)
      have HX0 := Lib.hid (box1 Value.string w2.drew x1 9)
      refine hK.out _ _ hS' (fun hHeld => ?_)
      try dsimp only at hHeld
      clear hK K
      try simp only [Act.put, List.setIfInBounds_toArray, List.set_cons_zero, List.set_cons_succ]
      refine wpAnyH_ready (rs := [3]) (by kernel_rfl) (by simp) ?_
      refine (AllReadyH.cons (o := { dst := some 31, op := Go.Op.call { callee := Go.Callee.builtin Go.Builtin.append, args := #[Go.Operand.const (Go.Value.slice none 0 0), Go.Operand.tmp 30], argTypes := #[27, 27] }, type := 27, pos := "laws.go:136", after := #[{ on := 2, ground := Go.Ground.data }], guard := none }) rfl (fun K hK => ?_) AllReadyH.nil)
      · skip
        rw [if_pos (by kernel_rfl)]
        refine wp_copy _ _ 27 rfl 9 (.string ByteArray.empty) 1 16 encS Try.underlying27 Try.info9 rfl (by decide) (fun _ => rfl) (by simp [Value.oneCell']) rfl (some ⟨g, 0, none⟩) r c1 (O.take r) rfl ((HK2.out.belowS hHeld).front r h1) (by unfold maxLen; omega) (by omega) ?_
        intro a3 c3 w3 ho3 hb3
        have hS' := hHeld.trans (hb3.mono hHeld.size)
        have HO3 := Lib.hid (ho3.base hHeld.size)
        have HX := Lib.hid (HX0.out.belowS hb3)
        clear ho3 hb3
        refine hK.out _ _ hS' (fun hHeld => ?_)
        try dsimp only at hHeld
        clear hK K
        try simp only [Act.put, List.setIfInBounds_toArray, List.set_cons_zero, List.set_cons_succ]
        refine wpAnyH_ready (rs := [6]) (by kernel_rfl) (by simp) ?_
        refine (AllReadyH.cons (o := { dst := some 34, op := Go.Op.call { callee := Go.Callee.builtin Go.Builtin.append, args := #[Go.Operand.tmp 31, Go.Operand.tmp 33], argTypes := #[27, 27] }, type := 27, pos := "laws.go:136", after := #[{ on := 3, ground := Go.Ground.data }, { on := 5, ground := Go.Ground.data }, { on := 3, ground := Go.Ground.chain }], guard := none }) rfl (fun K hK => ?_) AllReadyH.nil)
        · skip
          rw [if_pos (by kernel_rfl)]
          refine wp_extend _ _ 27 rfl 9 (.string ByteArray.empty) 1 16 encS Try.underlying27 Try.info9 rfl (by decide) (fun _ => rfl) (by simp [Value.oneCell']) w2.heap.size a3 r c3 (O.take r) rfl HO3.out (by rw [List.length_take, HOL.out]; omega) _ 1 1 [x1] rfl HX.out (by unfold maxLen; omega) (by omega) hHeld.size ?_
          intro a6 c6 w6 ho6 hb6
          have hS' := hHeld.trans hb6
          have HO6 := Lib.hid ho6
          clear ho6 hb6
          refine hK.out _ _ hS' (fun hHeld => ?_)
          try dsimp only at hHeld
          clear hK K
          try simp only [Act.put, List.setIfInBounds_toArray, List.set_cons_zero, List.set_cons_succ]
          refine wpAnyH_ready (rs := [10]) (by kernel_rfl) (by simp) ?_
          refine (AllReadyH.cons (o := { dst := some 38, op := Go.Op.call { callee := Go.Callee.builtin Go.Builtin.append, args := #[Go.Operand.tmp 34, Go.Operand.tmp 37], argTypes := #[27, 27] }, type := 27, pos := "laws.go:136", after := #[{ on := 6, ground := Go.Ground.data }, { on := 9, ground := Go.Ground.data }, { on := 6, ground := Go.Ground.chain }], guard := none }) rfl (fun K hK => ?_) AllReadyH.nil)
          · skip
            rw [if_pos (by kernel_rfl)]
            refine wp_extend _ _ 27 rfl 9 (.string ByteArray.empty) 1 16 encS Try.underlying27 Try.info9 rfl (by decide) (fun _ => rfl) (by simp [Value.oneCell']) w2.heap.size a6 (r + 1) c6 (O.take r ++ [x1]) rfl HO6.out (by rw [List.length_append, List.length_take, HOL.out]; simp <;> omega) (if c1 = r then some ⟨g, 0, none⟩ else some ⟨g, r, none⟩) (len0 - r) (c1 - r) (O.drop r) rfl (HBK.out _ hHeld) (by unfold maxLen; omega) (by omega) hHeld.size ?_
            intro a10 c10 w10 ho10 hb10
            have hS' := hHeld.trans hb10
            have HO10 := Lib.hid ho10
            clear ho10 hb10
            refine hK.out _ _ hS' (fun hHeld => ?_)
            try dsimp only at hHeld
            clear hK K
            try simp only [Act.put, List.setIfInBounds_toArray, List.set_cons_zero, List.set_cons_succ]
            refine wpAnyH_take (i := 11) (oi := { dst := some 7, op := Go.Op.assign (Go.Operand.tmp 38), type := 27, pos := "laws.go:136", after := #[{ on := 10, ground := Go.Ground.data }, { on := 10, ground := Go.Ground.chain }, { on := 0, ground := Go.Ground.phase }, { on := 1, ground := Go.Ground.phase }, { on := 2, ground := Go.Ground.phase }, { on := 3, ground := Go.Ground.phase }, { on := 4, ground := Go.Ground.phase }, { on := 5, ground := Go.Ground.phase }, { on := 6, ground := Go.Ground.phase }, { on := 7, ground := Go.Ground.phase }, { on := 8, ground := Go.Ground.phase }, { on := 9, ground := Go.Ground.phase }, { on := 10, ground := Go.Ground.phase }], guard := none }) (v := ?_) rfl (by kernel_rfl) (by kernel_rfl) (by kernel_rfl) (fun _ _ _ h => h) (Or.inl ⟨by kernel_rfl, ?_⟩) hHeld ?_
            rotate_left
            · (intro w hSw; (try dsimp only at hSw); go_simp; try with_reducible rfl)
            try simp only [Act.put, List.setIfInBounds_toArray, List.set_cons_zero, List.set_cons_succ]
            refine wpAnyH_done (by kernel_rfl) ?_ _
            have HT10 := Lib.hid hHeld
            have HWL := Lib.hid (show (O.take r ++ [x1] ++ O.drop r).length = r + 1 + (len0 - r) by rw [List.length_append, List.length_append, List.length_take, List.length_drop, HOL.out]; simp <;> omega)
            have HKL := Lib.hid (HS.out.below (HB2.out.trans (HT10.out.mono HB2.out.size))).slk
            clear hHeld HO3 HO6 HX HBK
            try generalize (if c1 = r then (some ⟨g, 0, none⟩ : Option Addr) else some ⟨g, r, none⟩) = aD
            go_wp2_with (first
              | (at_builtin; refine wpList_copy rfl _ _ 27 rfl 9 (.string ByteArray.empty) 1 16 encS Try.underlying27 Try.info9 rfl (by decide) (fun _ => rfl) (by simp [Value.oneCell']) rfl a0 len0 cap0 x0 rfl HKL.out (by unfold maxLen; omega) (by omega) ?_; intro a11 c11 w11 ho11 hb11)
              | (at_builtin; refine wpList_extend rfl _ _ 27 rfl 9 (.string ByteArray.empty) 1 16 encS Try.underlying27 Try.info9 rfl (by decide) (fun _ => rfl) (by simp [Value.oneCell']) w10.heap.size a11 len0 c11 x0 rfl (ho11.below ((Below.refl w11.heap.size w11).alloc (Nat.le_refl _) _)) HL.out _ 1 1 [x1] rfl (box1 Value.string w11 x1 9) (by unfold maxLen; omega) (by omega) (Nat.le_trans hb11.size ((Below.refl w11.heap.size w11).alloc (Nat.le_refl _) _).size) ?_; intro a12 c12 w12 ho12 hb12)
              | fail)
            have HB11 := Lib.hid hb11
            have HB12 := Lib.hid ((Below.refl w11.heap.size w11).alloc (Nat.le_refl _) (.cells #[.string x1] 9))
            have HB12b := Lib.hid ((HB11.out.trans (HB12.out.mono HB11.out.size)).trans hb12)
            obtain ⟨aa, cc, hv, hs12, _, _⟩ := ho12.sl
            rw [List.length_append, HL.out] at hv hs12
            cases hv
            have HC2 := Lib.hid (impl_StringSort_w _ _ _ _ w12 hs12 (by simp <;> omega))
            clear ho12 hb12 hs12 ho11 hb11 HKL
            refine HC2.out.mono ?_
            rintro e w13 ⟨a13, c13, O2, rfl, hs13, ho13, hp13, hpw13, hb13⟩
            have heq : O2 = O.take r ++ [x1] ++ O.drop r := sorted_unique (le := sLe) (fun a b h1 h2 => sLt_total h2 h1) (hp13.trans HIN.out.2.symm) hpw13 HIN.out.1
            obtain ⟨ab, cb, hv, hs10, _, _⟩ := HO10.out.sl
            rw [HWL.out] at hv hs10
            cases hv
            have HB13 := Lib.hid (HB12b.out.trans (hb13.mono HB12b.out.size))
            have HE := Lib.hid (equal_str_true a13 _ c13 O2 _ _ _ w13 hs13 (by rw [heq]; exact hs10.below HB13.out) (by simp <;> omega))
            have HBF := Lib.hid (HB2.out.trans ((HT10.out.trans (HB13.out.mono HT10.out.size)).mono HB2.out.size))
            clear hs13 ho13 hp13 hpw13 hb13 heq hs10 HC2
            go_wp2_with fail
            refine HE.out.mono ?_
            rintro e w14 ⟨rfl, q, rfl⟩
            go_wp2_with fail
            go_ret
            exact ⟨rfl, Below.drewN HBF.out q⟩
#print axioms walk_FnStringInserted
end Go.Proofs.Ytaifikhgijnkgaa
