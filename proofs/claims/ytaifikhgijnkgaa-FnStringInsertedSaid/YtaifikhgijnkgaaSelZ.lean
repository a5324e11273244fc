/- The contract of spec.IntSort: a sorted row of the same numbers. No conditions. -/
import Derived.Test.YtaifikhgijnkgaaSlices
import Derived.Test.YtaifikhgijnkgaaIntSwap
import Derived.StillTailTactics
namespace Go.Proofs.Ytaifikhgijnkgaa
open Go.RowKit
set_option linter.unusedVariables false

theorem one_new (w : World) (v : Value) (t : TypeId) : ∀ j u, ([v] : List Value)[j]? = some u → (w.alloc (.cells #[v] t)).cell? ⟨w.heap.size, j, none⟩ = some u := by
  intro j u hu
  match j, hu with
  | 0, hu => simp at hu; subst hu; simp

/-- One step of the selection. -/
structure Sel {α : Type} (le : α → α → Prop) (xs O L : List α) : Prop where
  perm : (O ++ L).Perm xs
  sorted : O.Pairwise le
  below : ∀ a ∈ O, ∀ b ∈ L, le a b

theorem take_drop_perm {α : Type} [Inhabited α] (L : List α) (m : Nat) (h : m < L.length) : ([el L m] ++ (L.take m ++ L.drop (m + 1))).Perm L := by
  have e : L = L.take m ++ (el L m :: L.drop (m + 1)) := by
    rw [el_eq L m h]
    have := List.take_append_drop m L
    rw [List.drop_eq_getElem_cons h] at this
    exact this.symm
  conv => rhs; rw [e]
  show (el L m :: (L.take m ++ L.drop (m + 1))).Perm _
  exact List.perm_middle.symm

theorem Sel.step {α : Type} [Inhabited α] {le : α → α → Prop} {xs O L : List α} (h : Sel le xs O L) (m : Nat) (hm : m < L.length) (hmin : ∀ t, t < L.length → le (el L m) (el L t)) :
    Sel le xs (O ++ [el L m]) (L.take m ++ L.drop (m + 1)) := by
  have hp := take_drop_perm L m hm
  have hmem : ∀ b ∈ L.take m ++ L.drop (m + 1), b ∈ L := fun b hb => hp.mem_iff.1 (by simp only [List.mem_append] at hb ⊢; exact .inr hb)
  have hmin' : ∀ b ∈ L, le (el L m) b := fun b hb => by
    obtain ⟨t, ht, rfl⟩ := List.getElem_of_mem hb
    rw [← el_eq L t ht]
    exact hmin t ht
  have hm' : el L m ∈ L := by rw [el_eq L m hm]; exact List.getElem_mem hm
  refine ⟨?_, ?_, ?_⟩
  · rw [List.append_assoc]
    exact (List.Perm.append_left O hp).trans h.perm
  · rw [List.pairwise_append]
    exact ⟨h.sorted, List.pairwise_singleton _ _, fun a ha b hb => by rw [List.mem_singleton] at hb; subst hb; exact h.below a ha _ hm'⟩
  · intro a ha b hb
    rcases List.mem_append.1 ha with ha | ha
    · exact h.below a ha b (hmem b hb)
    · rw [List.mem_singleton] at ha; subst ha
      exact hmin' b (hmem b hb)

theorem Sel.done {α : Type} {le : α → α → Prop} {xs O : List α} (h : Sel le xs O []) : O.Perm xs ∧ O.Pairwise le := ⟨by simpa using h.perm, h.sorted⟩

def GivesSel {α : Type} [Inhabited α] (enc : α → Value) (e : TypeId) (le : α → α → Prop) (w : World) (len : Nat) (xs : List α) (r : Ending) (w' : World) : Prop :=
  ∃ a c O, r = .returned (.slice a len c) ∧ Sl enc w' a len c O ∧ Own 1 (fun x => [enc x]) e w' w.heap.size (.slice a len c) O ∧ O.Perm xs ∧ O.Pairwise le ∧ Below w.heap.size w w'

/-- The first part and the rest of a slice. -/
theorem Sl.part {α : Type} [Inhabited α] {enc : α → Value} {w : World} {b off len cap : Nat} {L : List α} (h : Sl enc w (some ⟨b, off, none⟩) len cap L) (m : Nat) (hm : m < len) :
    Sl enc w (some ⟨b, off, none⟩) m m (L.take m) ∧ (len - (m + 1) ≠ 0 → Sl enc w (some ⟨b, off + (m + 1), none⟩) (len - (m + 1)) (cap - (m + 1)) (L.drop (m + 1))) := by
  obtain ⟨h1, h2, h3, h4⟩ := h
  rcases h4 with h4 | ⟨b', off', ha, hb, hc⟩
  · omega
  · cases ha
    refine ⟨⟨by simp; omega, Nat.le_refl _, (fun h => by cases h), .inr ⟨b, off, rfl, hb, fun i hi => ?_⟩⟩, fun hne => ⟨by simp; omega, by omega, (fun h => by cases h), .inr ⟨b, off + (m + 1), rfl, hb, fun i hi => ?_⟩⟩⟩
    · rw [hc i (by omega)]
      congr 2
      rw [el_eq _ _ (by omega), el_eq _ _ (by simp; omega)]
      simp
    · have := hc (m + 1 + i) (by omega)
      rw [show off + (m + 1) + i = off + (m + 1 + i) by omega, this]
      congr 2
      rw [el_eq _ _ (by omega), el_eq _ _ (by simp; omega)]
      simp

set_option maxHeartbeats 4000000 in
set_option maxRecDepth 100000 in
theorem spec_IntSort (a : Option Addr) (len cap : Nat) (xs : List Int) (w : World) (hs : Sl (Value.int .i64) w a len cap xs) (hb : len * 8 ≤ 140737488351232) :
    Calls Try.prog 64 #[.slice a len cap] w (GivesSel (Value.int .i64) 3 (· ≤ ·) w len xs) := by
  have hlen := hs.1
  have hcap := hs.2.1
  have HK := Lib.hid hs.slk
  have HL := Lib.hid hlen
  clear hs hlen
  obtain ⟨i0, hi0, hz0, hz1, hz2⟩ := info_parts Try.info3
  have HI0 := Lib.hid (And.intro hi0 (And.intro hz0 (And.intro hz1 hz2)))
  clear hi0 hz0 hz1 hz2
  go_enter Try.func64, Try.ntmps64
  go_wp2_with (first
      | (at_builtin; refine wpList_copy rfl _ _ 22 rfl 3 (.int .i64 0) 1 8 encZ Try.underlying22 Try.info3 rfl (by decide) (fun _ => rfl) (by simp [Value.oneCell']) rfl a len cap xs rfl HK.out (by unfold maxLen; omega) (by omega) ?_; intro a' cap' w1 hown hbel)
      | fail)
  go_loopg [3, 4] len (fun k s3 s4 wr => ∃ (al : Option Addr) (cl : Nat) (ao : Option Addr) (co : Nat) (L O : List Int), s3 = .slice al k cl ∧ s4 = .slice ao (len - k) co ∧ k ≤ len ∧ Sl (Value.int .i64) wr al k cl L ∧ Own 1 encZ 3 wr w.heap.size (.slice ao (len - k) co) O ∧ Below w.heap.size w wr ∧ (∀ ad ad', ao = some ad → al = some ad' → ad.block ≠ ad'.block) ∧ (∀ ad, al = some ad → w.heap.size ≤ ad.block) ∧ Sel (· ≤ ·) xs O L)
  case atStart =>
    obtain ⟨aa, cc, hv, hs, _, hlo⟩ := hown.sl
    rw [HL.out] at hv hs
    cases hv
    refine ⟨a', cap', none, 0, xs, [], rfl, by simp, Nat.le_refl _, hs, by rw [Nat.sub_self]; exact World.ownsRow_nil _ _ _ _, hbel, (by simp), hlo, ⟨by simp, List.Pairwise.nil, by simp⟩⟩
  case round =>
    obtain ⟨al, cl, ao, co, L, O, rfl, rfl, hk, hsl, hso, hbw, hne, hlo, hsel⟩ := hrel
    have HNE := Lib.hid hne
    have HLO := Lib.hid hlo
    clear hne hlo
    have HSO := Lib.hid hso
    have HBW := Lib.hid hbw
    have HSEL := Lib.hid hsel
    have HSL := Lib.hid hsl
    have HLL := Lib.hid hsl.1
    by_cases h0 : gk = 0
    · subst h0
      clear hso hbw hsel hsl
      go_wp2
      go_ret
      obtain rfl : L = [] := List.length_eq_zero_iff.1 HLL.out
      obtain ⟨p1, p2⟩ := HSEL.out.done
      obtain ⟨aa, cc, hv, hs, _, _⟩ := HSO.out.sl
      rw [Nat.sub_zero] at HSO hv
      have hol : O.length = len := by rw [p1.length_eq]; exact HL.out
      rw [hol] at hv hs
      cases hv
      exact ⟨ao, co, O, by rw [Nat.sub_zero]; rfl, hs, HSO.out, p1, p2, HBW.out⟩
    · obtain ⟨b, off, rfl, hbs, hc⟩ : ∃ b off, al = some ⟨b, off, none⟩ ∧ b < wr.heap.size ∧ ∀ i, i < gk → wr.cell? ⟨b, off + i, none⟩ = some (.int .i64 (el L i)) := by
        rcases hsl.2.2.2 with h | h
        · exact absurd h h0
        · exact h
      have hcl := hsl.2.1
      have HC := Lib.hid hc
      clear hso hbw hsel hsl hc
      have hpos : (0 : Int) < gk := by omega
      obtain ⟨wo, rfl⟩ : ∃ wo : World, wo = wr := ⟨_, rfl⟩
      go_wp2
      go_loopw [5, 15] (fun s5 s15 wr2 => ∃ m k : Nat, s5 = .int .i64 m ∧ s15 = .int .i64 k ∧ m < gk ∧ k ≤ gk ∧ wo = wr2 ∧ ∀ t, t < k → el L m ≤ el L t) (fun _ s15 _ => gk - (intOf s15).toNat)
      case atStart => exact ⟨0, 0, rfl, rfl, by omega, by omega, rfl, fun t ht => by omega⟩
      case round =>
        obtain ⟨m, k, rfl, rfl, hm, hkk, rfl, hmin⟩ := hrel
        have HM := Lib.hid hmin
        clear hmin
        have cm := HC.out m hm
        by_cases hlt : k < gk
        · have hlt' : (k : Int) < gk := by omega
          have hm' : (m : Int) < gk := by omega
          have ck := HC.out k hlt
          by_cases hless : el L k < el L m
          · go_wp2
            go_roundw
            case rel =>
              refine ⟨k, k + 1, rfl, by go_num, hlt, by omega, by first | rfl | trivial, fun t ht => ?_⟩
              by_cases htk : t = k
              · subst htk; exact Int.le_refl _
              · have := HM.out t (by omega); omega
            case measure => simp [intOf]; omega
          · go_wp2
            go_roundw
            case rel =>
              refine ⟨m, k + 1, rfl, by go_num, hm, by omega, by first | rfl | trivial, fun t ht => ?_⟩
              by_cases htk : t = k
              · subst htk; omega
              · exact HM.out t (by omega)
            case measure => simp [intOf]; omega
        · obtain rfl : k = gk := by omega
          have hm' : (m : Int) < k := by omega
          have hol : O.length = len - k := by
            have := HSEL.out.perm.length_eq
            rw [List.length_append, HLL.out, HL.out] at this
            omega
          have HOL := Lib.hid hol
          clear hol
          go_wp2_with (first
            | (at_builtin; refine wpList_push rfl _ _ 22 rfl 3 (.int .i64 0) 1 8 encZ Try.underlying22 Try.info3 rfl (by decide) (fun _ => rfl) (by simp [Value.oneCell']) w.heap.size ao (len - k) co O rfl (Own.below HSO.out ((Below.refl _ _).alloc (Nat.le_refl _) _)) HOL.out wo.heap.size 1 (el L m) rfl (one_new _ _ _) (by unfold maxLen; omega) (by omega) (by have := HBW.out.size; simp; omega) (wo.heap.size + 1) (by simp) ?_; intro g cg w3 ho3 hg3 hat3 hlt3)
            | fail)
          have hs1 := fun w => slice_pre Try.underlying22 size3 b off k cl m (by omega) w
          have hs2 := fun w => slice_rest Try.underlying22 size3 b off k cl (m + 1) ((m : Int) + 1) (by omega) (by omega) w
          have hwo : wo.heap.size + 1 ≤ w3.heap.size := by have := hg3.size; simpa using this
          have hbw3 : Below w.heap.size w w3 := (HBW.out.alloc HBW.out.size _).grown hg3 (by simp; have := HBW.out.size; omega) (fun kk hkk => by
            rcases ao with _ | ad
            · cases hkk
            · simp at hkk
              obtain ⟨aa, cc, hv, _, _, hlo2⟩ := HSO.out.sl
              have := hlo2 ad (Value.slice.inj hv).1.symm
              omega)
          have hleft : Sl (Value.int .i64) w3 (some ⟨b, off, none⟩) k cl L := by
            have h1 := HSL.out
            have hnb : some b ≠ Option.map (fun x : Addr => x.block) ao := fun hh => by
              rcases ao with _ | ad
              · cases hh
              · simp at hh; exact HNE.out ad _ rfl rfl hh.symm
            obtain ⟨q1, q2, q3, q4⟩ := h1
            refine ⟨q1, q2, q3, .inr ⟨b, off, rfl, by omega, fun i hi => ?_⟩⟩
            have e1 := hg3.block b (by simp; omega) hnb
            have e2 : w3.cell? ⟨b, off + i, none⟩ = (wo.alloc _).cell? ⟨b, off + i, none⟩ := World.cell?_of_block (a := ⟨b, off + i, none⟩) e1
            rw [e2, ((Below.refl wo.heap.size wo).alloc (Nat.le_refl _) _).cell (p := ⟨b, off + i, none⟩) hbs]
            exact HC.out i hi
          have hgb : g ≠ b := fun hh => by
            rcases hat3 with h | h
            · rcases ao with _ | ad
              · cases h
              · simp at h; exact HNE.out ad _ rfl rfl (by rw [h, hh])
            · omega
          have HL3 := Lib.hid hleft
          have HB3 := Lib.hid hbw3
          have HO3 := Lib.hid ho3
          have HGB := Lib.hid hgb
          have HMIN := Lib.hid (fun t (ht : t < L.length) => HM.out t (by rw [HLL.out] at ht; exact ht))
          clear hleft hbw3 ho3 hg3 hgb hat3 cm
          have hwrap : IntKind.i64.wrap ((m : Int) + 1) = (m : Int) + 1 := IntWalk.i64_in _ (by omega)
          go_still_tail 8, (by kernel_rfl)
          change wpList _ _ _ _ _ w3.drew
          have hd := Below.drew HB3.out
          have HD := Lib.hid hd
          have HL4 := Lib.hid (show Sl (Value.int .i64) w3.drew (some ⟨b, off, none⟩) k cl L from HL3.out)
          have HO4 := Lib.hid (show Own 1 encZ 3 w3.drew w.heap.size (.slice (some ⟨g, 0, none⟩) (len - k + 1) cg) (O ++ [el L m]) from HO3.out)
          clear hd hwrap hs1 hs2
          have hsz4 : wo.heap.size + 1 ≤ w3.drew.heap.size := hwo
          have hgl : g < w3.drew.heap.size := hlt3
          clear hwo hlt3 hbs
          generalize w3.drew = w4 at *
          go_wp2_with (first
            | (at_builtin; refine wpList_append_full rfl _ _ 22 rfl 3 (.int .i64 0) 1 8 encZ Try.underlying22 Try.info3 rfl (by decide) (fun _ => rfl) (by simp [Value.oneCell']) (some ⟨b, off, none⟩) m (L.take m) rfl (Sl.slk (HL4.out.part m hm).1) (restAt b off cl (m + 1)) (k - (m + 1)) (cl - (m + 1)) (L.drop (m + 1)) rfl (fun hne => by rw [restAt_lt (by omega)]; exact Sl.slk ((HL4.out.part m hm).2 hne)) (by rw [List.length_drop, HLL.out]) (by unfold maxLen; omega) (by omega) ?_; intro a5 c5 w5 hs5 hb5 hat5; have HAT := Lib.hid hat5; clear hat5)
            | fail)
          go_roundg (k - 1)
          case measure => omega
          case rel =>
            have e1 : m + (k - (m + 1)) = k - 1 := by omega
            have e2 : len - k + 1 = len - (k - 1) := by omega
            rw [e1] at hs5
            have ho5 := HO4.out.below hb5
            rw [e2] at ho5
            refine ⟨a5, c5, some ⟨g, 0, none⟩, cg, L.take m ++ L.drop (m + 1), O ++ [el L m], by rw [e1], by rw [e2], by omega, hs5.one, ho5, HD.out.trans (hb5.mono HD.out.size), ?_, ?_, HSEL.out.step m (by rw [HLL.out]; exact hm) HMIN.out⟩
            · intro ad ad' h1 h2
              cases h1
              rcases HAT.out with h | h
              · rw [h] at h2; cases h2; exact HGB.out
              · have := h ad' h2
                exact fun hh => by simp only at hh; omega
            · intro ad h2
              rcases HAT.out with h | h
              · rw [h] at h2; exact HLO.out ad h2
              · have := h ad h2
                have := HD.out.size
                omega
#print axioms spec_IntSort
end Go.Proofs.Ytaifikhgijnkgaa
