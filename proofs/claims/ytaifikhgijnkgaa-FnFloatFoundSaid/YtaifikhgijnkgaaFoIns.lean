/- Contracts of the ordered family of slices: sort.insertionSort, sort.reverseRange, sort.siftDown, sort.heapSort over a row of floats. Conditions: the bounds lie inside the row. -/
import Derived.Test.YtaifikhgijnkgaaOrd
namespace Go.Proofs.Ytaifikhgijnkgaa
open Go.RowKit
open Go.Sort hiding Below
set_option linter.unusedVariables false
set_option linter.unusedSectionVars false
section
variable {St : Array Nat → World → Prop} {B g size cap : Nat}

set_option maxHeartbeats 2000000 in
set_option maxRecDepth 100000 in
theorem fo_insertionSort (F : OFace St B g size) (hsz : size < 4611686018427387904) (a b : Nat) (d : Array Nat) (w : World) (hS : St d w) (hab : a ≤ b) (hb : b ≤ size) :
    Calls Try.prog 171 #[.slice (some ⟨g, 0, none⟩) size cap, .int .i64 a, .int .i64 b] w fun e w' => e = .returned (.tuple #[]) ∧ Lies St g w (Sort.insertionSort fLt d a b) w' := by
  have H0 := Lib.hid (Lies.start (g := g) hS)
  clear hS
  go_enter Try.func171, Try.ntmps171
  go_wp2
  go_loopw [6] (fun vi wr => ∃ (i : Nat) (dk : Array Nat), vi = .int .i64 i ∧ a < i ∧ i ≤ b + 1 ∧ Lies St g w dk wr ∧ Hid (insOuter fLt a b i dk = insOuter fLt a b (a + 1) d)) (fun vi _ => b + 1 - (intOf vi).toNat)
  case atStart => exact ⟨a + 1, d, by go_num, by omega, by omega, H0.out, rfl⟩
  case round =>
    obtain ⟨i, dk, rfl, hai, hib, hL, HO⟩ := hrel
    by_cases hlt : i < b
    · have hltz : (i : Int) < (b : Int) := by omega
      go_wp2
      go_loopw [7] (fun vj wr2 => ∃ (j : Nat) (dj : Array Nat), vj = .int .i64 j ∧ a ≤ j ∧ j ≤ i ∧ Lies St g w dj wr2 ∧ Hid (insInner fLt a j dj = insInner fLt a i dk)) (fun vj _ => (intOf vj).toNat)
      case atStart => exact ⟨i, dk, rfl, by omega, Nat.le_refl _, hL, rfl⟩
      case round =>
        clear hL
        obtain ⟨j, dj, rfl, haj, hji, hL, HI⟩ := hrel
        have OUT : Hid ((j ≤ a ∨ fLt dj[j]! dj[j - 1]! = false) → ∀ w', Lies St g w dj w' → ∃ (i' : Nat) (dk' : Array Nat), Value.int .i64 ((i : Int) + 1) = .int .i64 (i' : Nat) ∧ a < i' ∧ i' ≤ b + 1 ∧ Lies St g w dk' w' ∧ Hid (insOuter fLt a b i' dk' = insOuter fLt a b (a + 1) d)) := fun hs w' hw' =>
          ⟨i + 1, dj, by go_num, by omega, by omega, hw', (show Hid _ from by rw [← HO.out, insOuter_go _ _ _ _ _ hlt, ← HI.out, insInner_stop _ _ _ _ hs]; exact rfl)⟩
        by_cases hja : a < j
        · have hjaz : (a : Int) < (j : Int) := by omega
          cases hlv : fLt dj[j]! dj[j - 1]! with
          | true =>
            have z0 : (j : Int) < (size : Int) := by omega
            obtain ⟨p1, hp1⟩ : ∃ p : Nat, p = j - 1 := ⟨_, rfl⟩
            have e1 : (j : Int) - 1 = (p1 : Int) := by omega
            have z1 : (p1 : Int) < (size : Int) := by omega
            have c0 := F.cell hL.st j (by omega)
            have c1 := F.cell hL.st p1 (by omega)
            have hvq := hlv
            rw [← hp1] at hvq
            have Hhp1 := Lib.hid hp1
            clear hp1
            go_wp2
            go_quiet ((go_at_call 154; exact quiet_eq (cmp_Less_at _ _ _ _ hvq)))
            have hL1 := hL.drewN F.toBase nq
            clear hvq c0 c1 z0 z1 e1
            generalize World.drewN _ nq = w1 at hL1 ⊢
            have z0 : (j : Int) < (size : Int) := by omega
            obtain ⟨p2, hp2⟩ : ∃ p : Nat, p = j - 1 := ⟨_, rfl⟩
            have e1 : (j : Int) - 1 = (p2 : Int) := by omega
            have z1 : (p2 : Int) < (size : Int) := by omega
            have c0 := F.cell hL1.st j (by omega)
            have c1 := F.cell hL1.st p2 (by omega)
            have f0 := F.fz hL1.st j
            have f1 := F.fz hL1.st p2
            obtain ⟨v', hv'⟩ := F.cell2 hL1 j p2 (by omega)
            have hL2 := F.swapAt hL1 j p2 (by omega) (by omega)
            have Hhp2 := Lib.hid hp2
            clear hp2
            go_wp2
            go_region
            clear hv' f0 f1 c0 c1 z0 z1 e1
            generalize World.drew _ = w2 at hL2 ⊢
            rw [Hhp2.out] at hL2
            go_wp2_with fail
            go_roundw
            case rel => exact ⟨j - 1, swp dj j (j - 1), by congr 1; omega, by omega, by omega, hL2, (show Hid _ from by rw [← HI.out, insInner_go fLt a j dj hja hlv]; exact rfl)⟩
            case measure => simp [intOf]; omega
          | false =>
            have z0 : (j : Int) < (size : Int) := by omega
            obtain ⟨p3, hp3⟩ : ∃ p : Nat, p = j - 1 := ⟨_, rfl⟩
            have e1 : (j : Int) - 1 = (p3 : Int) := by omega
            have z1 : (p3 : Int) < (size : Int) := by omega
            have c0 := F.cell hL.st j (by omega)
            have c1 := F.cell hL.st p3 (by omega)
            have hvq := hlv
            rw [← hp3] at hvq
            have Hhp3 := Lib.hid hp3
            clear hp3
            go_wp2
            go_quiet ((go_at_call 154; exact quiet_eq (cmp_Less_at _ _ _ _ hvq)))
            have hL1 := hL.drewN F.toBase nq
            clear hvq c0 c1 z0 z1 e1
            generalize World.drewN _ nq = w1 at hL1 ⊢
            go_wp2_with fail
            go_roundw
            case rel => exact OUT.out (Or.inr hlv) _ hL1
            case measure => simp [intOf]; omega
        · have hjaz : ¬ (a : Int) < (j : Int) := by omega
          go_wp2
          go_quiet (fail)
          have hL := hL.drewN F.toBase nq
          generalize World.drewN _ nq = wz at hL ⊢
          go_wp2
          go_roundw
          case rel => exact OUT.out (Or.inl (by omega)) _ hL
          case measure => simp [intOf]; omega
    · have hltz : ¬ (i : Int) < (b : Int) := by omega
      go_wp2
      go_end0
      exact ⟨rfl, by unfold Sort.insertionSort; rw [← HO.out, insOuter_stop _ _ _ _ _ hlt]; exact hL⟩

set_option maxHeartbeats 1600000 in
set_option maxRecDepth 1000000 in
theorem fo_reverseRange (F : OFace St B g size) (hsz : size < 4611686018427387904) (a b : Nat) (d : Array Nat) (w : World) (hS : St d w) (hab : a ≤ b) (hb : b ≤ size) :
    Calls Try.prog 175 #[.slice (some ⟨g, 0, none⟩) size cap, .int .i64 a, .int .i64 b] w fun e w' => e = .returned (.tuple #[]) ∧ Lies St g w (reverseRange d a b) w' := by
  have H0 := Lib.hid (Lies.start (g := g) hS)
  clear hS
  go_enter Try.func175, Try.ntmps175
  go_wp2
  go_loopg [6, 7] (b - a) (fun k s6 s7 wr => ∃ (i jn : Nat) (jz : Int) (dk : Array Nat), s6 = .int .i64 i ∧ s7 = .int .i64 jz ∧ ((i : Int) < jz → jz = jn ∧ jn < size) ∧ (¬ (i : Int) < jz → ¬ i < jn) ∧ jn - i ≤ k ∧
    Lies St g w dk wr ∧ Hid (reverseLoop i jn dk = reverseLoop a (b - 1) d))
  case atStart => exact ⟨a, b - 1, (b : Int) - 1, d, rfl, rfl, fun h => ⟨by omega, by omega⟩, fun h => by omega, by omega, H0.out, rfl⟩
  case round =>
    obtain ⟨i, jn, jz, dk, rfl, rfl, h1, h2, hk, hL, heq⟩ := hrel
    by_cases hlt : (i : Int) < jz
    · obtain ⟨rfl, hjn⟩ := h1 hlt
      have hij : i < jn := by omega
      clear h1 h2
      have z0 : (i : Int) < (size : Int) := by omega
      have z1 : (jn : Int) < (size : Int) := by omega
      have c0 := F.cell hL.st i (by omega)
      have c1 := F.cell hL.st jn (by omega)
      have f0 := F.fz hL.st i
      have f1 := F.fz hL.st jn
      obtain ⟨v', hv'⟩ := F.cell2 hL i jn (by omega)
      have hL2 := F.swapAt hL i jn (by omega) (by omega)
      go_wp2
      go_region
      clear hv' f0 f1 c0 c1 z0 z1
      generalize World.drew _ = w2 at hL2 ⊢
      go_wp2_with fail
      go_roundg (jn - 1 - (i + 1))
      case measure => omega
      case rel =>
        have heq' := heq.out
        rw [reverseLoop, if_pos hij] at heq'
        exact ⟨i + 1, jn - 1, (jn : Int) - 1, swp dk i jn, by simp, rfl, fun h => ⟨by omega, by omega⟩, fun h => by omega, Nat.le_refl _, hL2, heq'⟩
    · have hnot := h2 hlt
      go_wp2
      go_end0
      refine ⟨rfl, ?_⟩
      have heq' := heq.out
      rw [reverseLoop, if_neg hnot] at heq'
      rw [reverseRange, ← heq']
      exact hL

set_option maxHeartbeats 4000000 in
set_option maxRecDepth 1000000 in
theorem fo_siftDown (F : OFace St B g size) (hsz : size < 4611686018427387904) (lo hi first : Nat) (d : Array Nat) (w : World) (hS : St d w) (hlo : lo ≤ hi) (hb : first + hi ≤ size) :
    Calls Try.prog 185 #[.slice (some ⟨g, 0, none⟩) size cap, .int .i64 lo, .int .i64 hi, .int .i64 first] w fun e w' => e = .returned (.tuple #[]) ∧ Lies St g w (siftDown fLt hi first lo d) w' := by
  have H0 := Lib.hid (Lies.start (g := g) hS)
  clear hS
  go_enter Try.func185, Try.ntmps185
  go_wp2
  go_loopg [8] (hi - lo) (fun kx s8 wr => ∃ (root : Nat) (dk : Array Nat), s8 = .int .i64 root ∧ root ≤ hi ∧ hi - root ≤ kx ∧ Lies St g w dk wr ∧ Hid (siftDown fLt hi first root dk = siftDown fLt hi first lo d))
  case atStart => exact ⟨lo, d, rfl, hlo, Nat.le_refl _, H0.out, rfl⟩
  case round =>
    obtain ⟨root, dk, rfl, hr, hkx, hL, HE⟩ := hrel
    by_cases h0 : hi ≤ 2 * root + 1
    · have h0z : (hi : Int) ≤ 2 * (root : Int) + 1 := by omega
      go_wp2
      go_end0
      refine ⟨rfl, ?_⟩
      rw [← HE.out, sd_end fLt dk h0]
      exact hL
    · have h0z : ¬ ((hi : Int) ≤ 2 * (root : Int) + 1) := by omega
      by_cases h1 : 2 * root + 2 < hi
      · have h1z : 2 * (root : Int) + 1 + 1 < (hi : Int) := by omega
        cases hA : fLt dk[first + (2 * root + 1)]! dk[first + (2 * root + 2)]! with
        | true =>
          cases hG : fLt dk[first + root]! dk[first + (2 * root + 2)]! with
          | true =>
            obtain ⟨p4, hp4⟩ : ∃ p : Nat, p = first + (2 * root + 1) := ⟨_, rfl⟩
            have e0 : (first : Int) + (2 * (root : Int) + 1) = (p4 : Int) := by omega
            have z0 : (p4 : Int) < (size : Int) := by omega
            obtain ⟨p5, hp5⟩ : ∃ p : Nat, p = first + (2 * root + 2) := ⟨_, rfl⟩
            have e1 : (p4 : Int) + 1 = (p5 : Int) := by omega
            have z1 : (p5 : Int) < (size : Int) := by omega
            have c0 := F.cell hL.st p4 (by omega)
            have c1 := F.cell hL.st p5 (by omega)
            have hvq := hA
            rw [← hp4, ← hp5] at hvq
            have Hhp4 := Lib.hid hp4
            clear hp4
            have Hhp5 := Lib.hid hp5
            clear hp5
            go_wp2
            go_quiet ((go_at_call 154; exact quiet_eq (cmp_Less_at _ _ _ _ hvq)))
            have hL1 := hL.drewN F.toBase nq
            clear hvq c0 c1 z0 e0 z1 e1
            generalize World.drewN _ nq = w1 at hL1 ⊢
            obtain ⟨p6, hp6⟩ : ∃ p : Nat, p = first + root := ⟨_, rfl⟩
            have e0 : (first : Int) + (root : Int) = (p6 : Int) := by omega
            have z0 : (p6 : Int) < (size : Int) := by omega
            obtain ⟨p7, hp7⟩ : ∃ p : Nat, p = first + (2 * root + 2) := ⟨_, rfl⟩
            have e1 : (first : Int) + (2 * (root : Int) + 1 + 1) = (p7 : Int) := by omega
            have z1 : (p7 : Int) < (size : Int) := by omega
            have c0 := F.cell hL1.st p6 (by omega)
            have c1 := F.cell hL1.st p7 (by omega)
            have hvq := hG
            rw [← hp6, ← hp7] at hvq
            have Hhp6 := Lib.hid hp6
            clear hp6
            have Hhp7 := Lib.hid hp7
            clear hp7
            go_wp2
            go_quiet ((go_at_call 154; exact quiet_eq (cmp_Less_at _ _ _ _ hvq)))
            have hL2 := hL1.drewN F.toBase nq
            clear hvq c0 c1 z0 e0 z1 e1
            generalize World.drewN _ nq = w2 at hL2 ⊢
            obtain ⟨p8, hp8⟩ : ∃ p : Nat, p = first + root := ⟨_, rfl⟩
            have e0 : (first : Int) + (root : Int) = (p8 : Int) := by omega
            have z0 : (p8 : Int) < (size : Int) := by omega
            obtain ⟨p9, hp9⟩ : ∃ p : Nat, p = first + (2 * root + 2) := ⟨_, rfl⟩
            have e1 : (first : Int) + (2 * (root : Int) + 1 + 1) = (p9 : Int) := by omega
            have z1 : (p9 : Int) < (size : Int) := by omega
            have c0 := F.cell hL2.st p8 (by omega)
            have c1 := F.cell hL2.st p9 (by omega)
            have f0 := F.fz hL2.st p8
            have f1 := F.fz hL2.st p9
            obtain ⟨v', hv'⟩ := F.cell2 hL2 p8 p9 (by omega)
            have hL3 := F.swapAt hL2 p8 p9 (by omega) (by omega)
            have Hhp8 := Lib.hid hp8
            clear hp8
            have Hhp9 := Lib.hid hp9
            clear hp9
            go_wp2
            go_region
            clear hv' f0 f1 c0 c1 z0 e0 z1 e1
            generalize World.drew _ = w3 at hL3 ⊢
            rw [Hhp8.out, Hhp9.out] at hL3
            go_wp2_with fail
            go_roundg (hi - (2 * root + 2))
            case measure => omega
            case rel => exact ⟨2 * root + 2, swp dk (first + root) (first + (2 * root + 2)), by go_num, by omega, Nat.le_refl _, hL3, (show Hid _ from by rw [← HE.out, sd_right_go fLt dk h1 hA hG]; exact rfl)⟩
          | false =>
            obtain ⟨p10, hp10⟩ : ∃ p : Nat, p = first + (2 * root + 1) := ⟨_, rfl⟩
            have e0 : (first : Int) + (2 * (root : Int) + 1) = (p10 : Int) := by omega
            have z0 : (p10 : Int) < (size : Int) := by omega
            obtain ⟨p11, hp11⟩ : ∃ p : Nat, p = first + (2 * root + 2) := ⟨_, rfl⟩
            have e1 : (p10 : Int) + 1 = (p11 : Int) := by omega
            have z1 : (p11 : Int) < (size : Int) := by omega
            have c0 := F.cell hL.st p10 (by omega)
            have c1 := F.cell hL.st p11 (by omega)
            have hvq := hA
            rw [← hp10, ← hp11] at hvq
            have Hhp10 := Lib.hid hp10
            clear hp10
            have Hhp11 := Lib.hid hp11
            clear hp11
            go_wp2
            go_quiet ((go_at_call 154; exact quiet_eq (cmp_Less_at _ _ _ _ hvq)))
            have hL1 := hL.drewN F.toBase nq
            clear hvq c0 c1 z0 e0 z1 e1
            generalize World.drewN _ nq = w1 at hL1 ⊢
            obtain ⟨p12, hp12⟩ : ∃ p : Nat, p = first + root := ⟨_, rfl⟩
            have e0 : (first : Int) + (root : Int) = (p12 : Int) := by omega
            have z0 : (p12 : Int) < (size : Int) := by omega
            obtain ⟨p13, hp13⟩ : ∃ p : Nat, p = first + (2 * root + 2) := ⟨_, rfl⟩
            have e1 : (first : Int) + (2 * (root : Int) + 1 + 1) = (p13 : Int) := by omega
            have z1 : (p13 : Int) < (size : Int) := by omega
            have c0 := F.cell hL1.st p12 (by omega)
            have c1 := F.cell hL1.st p13 (by omega)
            have hvq := hG
            rw [← hp12, ← hp13] at hvq
            have Hhp12 := Lib.hid hp12
            clear hp12
            have Hhp13 := Lib.hid hp13
            clear hp13
            go_wp2
            go_quiet ((go_at_call 154; exact quiet_eq (cmp_Less_at _ _ _ _ hvq)))
            have hL2 := hL1.drewN F.toBase nq
            clear hvq c0 c1 z0 e0 z1 e1
            generalize World.drewN _ nq = w2 at hL2 ⊢
            go_wp2_with fail
            (try simp only [Exit.inBlock, Exit.then]); refine bodyPost_ret (results_none rfl _ _ _) rfl ?_
            refine ⟨rfl, ?_⟩
            rw [← HE.out, sd_right_stop fLt dk h1 hA hG]
            exact hL2
        | false =>
          cases hG : fLt dk[first + root]! dk[first + (2 * root + 1)]! with
          | true =>
            obtain ⟨p14, hp14⟩ : ∃ p : Nat, p = first + (2 * root + 1) := ⟨_, rfl⟩
            have e0 : (first : Int) + (2 * (root : Int) + 1) = (p14 : Int) := by omega
            have z0 : (p14 : Int) < (size : Int) := by omega
            obtain ⟨p15, hp15⟩ : ∃ p : Nat, p = first + (2 * root + 2) := ⟨_, rfl⟩
            have e1 : (p14 : Int) + 1 = (p15 : Int) := by omega
            have z1 : (p15 : Int) < (size : Int) := by omega
            have c0 := F.cell hL.st p14 (by omega)
            have c1 := F.cell hL.st p15 (by omega)
            have hvq := hA
            rw [← hp14, ← hp15] at hvq
            have Hhp14 := Lib.hid hp14
            clear hp14
            have Hhp15 := Lib.hid hp15
            clear hp15
            go_wp2
            go_quiet ((go_at_call 154; exact quiet_eq (cmp_Less_at _ _ _ _ hvq)))
            have hL1 := hL.drewN F.toBase nq
            clear hvq c0 c1 z0 e0 z1 e1
            generalize World.drewN _ nq = w1 at hL1 ⊢
            obtain ⟨p16, hp16⟩ : ∃ p : Nat, p = first + root := ⟨_, rfl⟩
            have e0 : (first : Int) + (root : Int) = (p16 : Int) := by omega
            have z0 : (p16 : Int) < (size : Int) := by omega
            obtain ⟨p17, hp17⟩ : ∃ p : Nat, p = first + (2 * root + 1) := ⟨_, rfl⟩
            have e1 : (first : Int) + (2 * (root : Int) + 1) = (p17 : Int) := by omega
            have z1 : (p17 : Int) < (size : Int) := by omega
            have c0 := F.cell hL1.st p16 (by omega)
            have c1 := F.cell hL1.st p17 (by omega)
            have hvq := hG
            rw [← hp16, ← hp17] at hvq
            have Hhp16 := Lib.hid hp16
            clear hp16
            have Hhp17 := Lib.hid hp17
            clear hp17
            go_wp2
            go_quiet ((go_at_call 154; exact quiet_eq (cmp_Less_at _ _ _ _ hvq)))
            have hL2 := hL1.drewN F.toBase nq
            clear hvq c0 c1 z0 e0 z1 e1
            generalize World.drewN _ nq = w2 at hL2 ⊢
            obtain ⟨p18, hp18⟩ : ∃ p : Nat, p = first + root := ⟨_, rfl⟩
            have e0 : (first : Int) + (root : Int) = (p18 : Int) := by omega
            have z0 : (p18 : Int) < (size : Int) := by omega
            obtain ⟨p19, hp19⟩ : ∃ p : Nat, p = first + (2 * root + 1) := ⟨_, rfl⟩
            have e1 : (first : Int) + (2 * (root : Int) + 1) = (p19 : Int) := by omega
            have z1 : (p19 : Int) < (size : Int) := by omega
            have c0 := F.cell hL2.st p18 (by omega)
            have c1 := F.cell hL2.st p19 (by omega)
            have f0 := F.fz hL2.st p18
            have f1 := F.fz hL2.st p19
            obtain ⟨v', hv'⟩ := F.cell2 hL2 p18 p19 (by omega)
            have hL3 := F.swapAt hL2 p18 p19 (by omega) (by omega)
            have Hhp18 := Lib.hid hp18
            clear hp18
            have Hhp19 := Lib.hid hp19
            clear hp19
            go_wp2
            go_region
            clear hv' f0 f1 c0 c1 z0 e0 z1 e1
            generalize World.drew _ = w3 at hL3 ⊢
            rw [Hhp18.out, Hhp19.out] at hL3
            go_wp2_with fail
            go_roundg (hi - (2 * root + 1))
            case measure => omega
            case rel => exact ⟨2 * root + 1, swp dk (first + root) (first + (2 * root + 1)), by go_num, by omega, Nat.le_refl _, hL3, (show Hid _ from by rw [← HE.out, sd_left_go fLt dk (by omega) (fun _ => hA) hG]; exact rfl)⟩
          | false =>
            obtain ⟨p20, hp20⟩ : ∃ p : Nat, p = first + (2 * root + 1) := ⟨_, rfl⟩
            have e0 : (first : Int) + (2 * (root : Int) + 1) = (p20 : Int) := by omega
            have z0 : (p20 : Int) < (size : Int) := by omega
            obtain ⟨p21, hp21⟩ : ∃ p : Nat, p = first + (2 * root + 2) := ⟨_, rfl⟩
            have e1 : (p20 : Int) + 1 = (p21 : Int) := by omega
            have z1 : (p21 : Int) < (size : Int) := by omega
            have c0 := F.cell hL.st p20 (by omega)
            have c1 := F.cell hL.st p21 (by omega)
            have hvq := hA
            rw [← hp20, ← hp21] at hvq
            have Hhp20 := Lib.hid hp20
            clear hp20
            have Hhp21 := Lib.hid hp21
            clear hp21
            go_wp2
            go_quiet ((go_at_call 154; exact quiet_eq (cmp_Less_at _ _ _ _ hvq)))
            have hL1 := hL.drewN F.toBase nq
            clear hvq c0 c1 z0 e0 z1 e1
            generalize World.drewN _ nq = w1 at hL1 ⊢
            obtain ⟨p22, hp22⟩ : ∃ p : Nat, p = first + root := ⟨_, rfl⟩
            have e0 : (first : Int) + (root : Int) = (p22 : Int) := by omega
            have z0 : (p22 : Int) < (size : Int) := by omega
            obtain ⟨p23, hp23⟩ : ∃ p : Nat, p = first + (2 * root + 1) := ⟨_, rfl⟩
            have e1 : (first : Int) + (2 * (root : Int) + 1) = (p23 : Int) := by omega
            have z1 : (p23 : Int) < (size : Int) := by omega
            have c0 := F.cell hL1.st p22 (by omega)
            have c1 := F.cell hL1.st p23 (by omega)
            have hvq := hG
            rw [← hp22, ← hp23] at hvq
            have Hhp22 := Lib.hid hp22
            clear hp22
            have Hhp23 := Lib.hid hp23
            clear hp23
            go_wp2
            go_quiet ((go_at_call 154; exact quiet_eq (cmp_Less_at _ _ _ _ hvq)))
            have hL2 := hL1.drewN F.toBase nq
            clear hvq c0 c1 z0 e0 z1 e1
            generalize World.drewN _ nq = w2 at hL2 ⊢
            go_wp2_with fail
            (try simp only [Exit.inBlock, Exit.then]); refine bodyPost_ret (results_none rfl _ _ _) rfl ?_
            refine ⟨rfl, ?_⟩
            rw [← HE.out, sd_left_stop fLt dk (by omega) (fun _ => hA) hG]
            exact hL2
      · have h1z : ¬ (2 * (root : Int) + 1 + 1 < (hi : Int)) := by omega
        have hwr : IntKind.i64.wrap (2 * (root : Int) + 1 + 1) = 2 * (root : Int) + 1 + 1 := IntWalk.i64_in _ (by omega)
        have hdec : decide (2 * (root : Int) + 1 + 1 < (hi : Int)) = false := decide_eq_false h1z
        go_wp2
        go_quiet (fail)
        have hL := hL.drewN F.toBase nq
        generalize World.drewN _ nq = wz at hL ⊢
        cases hG : fLt dk[first + root]! dk[first + (2 * root + 1)]! with
        | true =>
          obtain ⟨p24, hp24⟩ : ∃ p : Nat, p = first + root := ⟨_, rfl⟩
          have e0 : (first : Int) + (root : Int) = (p24 : Int) := by omega
          have z0 : (p24 : Int) < (size : Int) := by omega
          obtain ⟨p25, hp25⟩ : ∃ p : Nat, p = first + (2 * root + 1) := ⟨_, rfl⟩
          have e1 : (first : Int) + (2 * (root : Int) + 1) = (p25 : Int) := by omega
          have z1 : (p25 : Int) < (size : Int) := by omega
          have c0 := F.cell hL.st p24 (by omega)
          have c1 := F.cell hL.st p25 (by omega)
          have hvq := hG
          rw [← hp24, ← hp25] at hvq
          have Hhp24 := Lib.hid hp24
          clear hp24
          have Hhp25 := Lib.hid hp25
          clear hp25
          go_wp2
          go_quiet ((go_at_call 154; exact quiet_eq (cmp_Less_at _ _ _ _ hvq)))
          have hL2 := hL.drewN F.toBase nq
          clear hvq c0 c1 z0 e0 z1 e1
          generalize World.drewN _ nq = w2 at hL2 ⊢
          obtain ⟨p26, hp26⟩ : ∃ p : Nat, p = first + root := ⟨_, rfl⟩
          have e0 : (first : Int) + (root : Int) = (p26 : Int) := by omega
          have z0 : (p26 : Int) < (size : Int) := by omega
          obtain ⟨p27, hp27⟩ : ∃ p : Nat, p = first + (2 * root + 1) := ⟨_, rfl⟩
          have e1 : (first : Int) + (2 * (root : Int) + 1) = (p27 : Int) := by omega
          have z1 : (p27 : Int) < (size : Int) := by omega
          have c0 := F.cell hL2.st p26 (by omega)
          have c1 := F.cell hL2.st p27 (by omega)
          have f0 := F.fz hL2.st p26
          have f1 := F.fz hL2.st p27
          obtain ⟨v', hv'⟩ := F.cell2 hL2 p26 p27 (by omega)
          have hL3 := F.swapAt hL2 p26 p27 (by omega) (by omega)
          have Hhp26 := Lib.hid hp26
          clear hp26
          have Hhp27 := Lib.hid hp27
          clear hp27
          go_wp2
          go_region
          clear hv' f0 f1 c0 c1 z0 e0 z1 e1
          generalize World.drew _ = w3 at hL3 ⊢
          rw [Hhp26.out, Hhp27.out] at hL3
          go_wp2_with fail
          go_roundg (hi - (2 * root + 1))
          case measure => omega
          case rel => exact ⟨2 * root + 1, swp dk (first + root) (first + (2 * root + 1)), by go_num, by omega, Nat.le_refl _, hL3, (show Hid _ from by rw [← HE.out, sd_left_go fLt dk (by omega) (fun h => absurd h h1) hG]; exact rfl)⟩
        | false =>
          obtain ⟨p28, hp28⟩ : ∃ p : Nat, p = first + root := ⟨_, rfl⟩
          have e0 : (first : Int) + (root : Int) = (p28 : Int) := by omega
          have z0 : (p28 : Int) < (size : Int) := by omega
          obtain ⟨p29, hp29⟩ : ∃ p : Nat, p = first + (2 * root + 1) := ⟨_, rfl⟩
          have e1 : (first : Int) + (2 * (root : Int) + 1) = (p29 : Int) := by omega
          have z1 : (p29 : Int) < (size : Int) := by omega
          have c0 := F.cell hL.st p28 (by omega)
          have c1 := F.cell hL.st p29 (by omega)
          have hvq := hG
          rw [← hp28, ← hp29] at hvq
          have Hhp28 := Lib.hid hp28
          clear hp28
          have Hhp29 := Lib.hid hp29
          clear hp29
          go_wp2
          go_quiet ((go_at_call 154; exact quiet_eq (cmp_Less_at _ _ _ _ hvq)))
          have hL2 := hL.drewN F.toBase nq
          clear hvq c0 c1 z0 e0 z1 e1
          generalize World.drewN _ nq = w2 at hL2 ⊢
          go_wp2_with fail
          (try simp only [Exit.inBlock, Exit.then]); refine bodyPost_ret (results_none rfl _ _ _) rfl ?_
          refine ⟨rfl, ?_⟩
          rw [← HE.out, sd_left_stop fLt dk (by omega) (fun h => absurd h h1) hG]
          exact hL2

set_option maxHeartbeats 4000000 in
set_option maxRecDepth 1000000 in
theorem fo_heapSort (F : OFace St B g size) (hsz : size < 4611686018427387904) (a b : Nat) (d : Array Nat) (w : World) (hS : St d w) (hab : a ≤ b) (hb : b ≤ size) :
    Calls Try.prog 172 #[.slice (some ⟨g, 0, none⟩) size cap, .int .i64 a, .int .i64 b] w fun e w' => e = .returned (.tuple #[]) ∧ Lies St g w (heapSort fLt d a b) w' := by
  have H0 := Lib.hid (Lies.start (g := g) hS)
  clear hS
  have ecast : ((b - a : Nat) : Int) = (b : Int) - (a : Int) := by omega
  go_enter Try.func172, Try.ntmps172
  go_wp2
  go_loopg [9] ((b - a - 1) / 2 + 1) (fun kx s9 wr => s9 = .int .i64 ((kx : Int) - 1) ∧ kx ≤ (b - a - 1) / 2 + 1 ∧ ∃ (dk : Array Nat), Lies St g w dk wr ∧
    Hid (heapBuild fLt (b - a) a kx dk = heapBuild fLt (b - a) a ((b - a - 1) / 2 + 1) d))
  case atStart => exact ⟨by rw [half_start hab], Nat.le_refl _, d, H0.out, rfl⟩
  case round =>
    obtain ⟨rfl, hkk, dk, hL, HE⟩ := hrel
    cases gk with
    | zero =>
      have hB : dk = heapBuild fLt (b - a) a ((b - a - 1) / 2 + 1) d := HE.out
      have HB := Lib.hid hB
      clear HE hkk hB
      go_wp2
      go_loopg [10] (b - a) (fun kx s10 wr2 => s10 = .int .i64 ((kx : Int) - 1) ∧ kx ≤ b - a ∧ ∃ (dj : Array Nat), Lies St g w dj wr2 ∧ Hid (heapPop fLt a kx dj = heapPop fLt a (b - a) dk))
      case atStart => exact ⟨by rw [ecast], Nat.le_refl _, dk, hL, rfl⟩
      case round =>
        clear hL
        obtain ⟨rfl, hkk, dj, hL, HE2⟩ := hrel
        cases gk with
        | zero =>
          go_wp2
          go_end0
          have e : dj = heapSort fLt d a b := by rw [heapSort, ← HB.out, ← HE2.out]; rfl
          rw [← e]
          exact ⟨rfl, hL⟩
        | succ kx =>
          have z0 : (a : Int) < (size : Int) := by omega
          obtain ⟨p30, hp30⟩ : ∃ p : Nat, p = a + kx := ⟨_, rfl⟩
          have e1 : (a : Int) + (kx : Int) = (p30 : Int) := by omega
          have z1 : (p30 : Int) < (size : Int) := by omega
          have c0 := F.cell hL.st a (by omega)
          have c1 := F.cell hL.st p30 (by omega)
          have f0 := F.fz hL.st a
          have f1 := F.fz hL.st p30
          obtain ⟨v', hv'⟩ := F.cell2 hL a p30 (by omega)
          have hL2 := F.swapAt hL a p30 (by omega) (by omega)
          have Hhp30 := Lib.hid hp30
          clear hp30
          go_wp2
          go_region
          clear hv' f0 f1 c0 c1 z0 z1 e1
          generalize World.drew _ = w2 at hL2 ⊢
          rw [Hhp30.out] at hL2
          go_wp2_with fail
          refine (fo_siftDown (cap := cap) F hsz 0 kx a (swp dj a (a + kx)) w2 hL2.st (Nat.zero_le _) (by omega)).mono ?_
          rintro e w3 ⟨rfl, hL3⟩
          go_wp2_with fail
          go_roundg kx
          case measure => omega
          case rel => exact ⟨by simp, by omega, siftDown fLt kx a 0 (swp dj a (a + kx)), hL2.trans hL3, HE2⟩
    | succ kx =>
      have hcall := fo_siftDown (cap := cap) F hsz kx (b - a) a dk wr hL.st (by omega) (by omega)
      rw [ecast] at hcall
      go_wp2_with fail
      refine hcall.mono ?_
      rintro e w3 ⟨rfl, hL3⟩
      go_wp2_with fail
      go_roundg kx
      case measure => omega
      case rel => exact ⟨by simp, by omega, siftDown fLt (b - a) a kx dk, hL.trans hL3, HE⟩
end
#print axioms fo_insertionSort
#print axioms fo_reverseRange
#print axioms fo_siftDown
#print axioms fo_heapSort
end Go.Proofs.Ytaifikhgijnkgaa
