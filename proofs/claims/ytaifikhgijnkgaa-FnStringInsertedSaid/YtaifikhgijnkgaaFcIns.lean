/- Contracts of sort.insertionSort, sort.reverseRange, sort.siftDown, sort.heapSort over an interface value. Conditions: the bounds lie inside the row. -/
import Derived.Test.YtaifikhgijnkgaaFace
namespace Go.Proofs.Ytaifikhgijnkgaa
open Go.RowKit
open Go.Sort hiding Below
set_option linter.unusedVariables false
set_option linter.unusedSectionVars false
section
variable {α : Type} [Inhabited α] {lt : α → α → Bool} {St : Array α → World → Prop} {B g size : Nat} {T : TypeId} {rv : Value} {gl : Nat} {rl : Value} {gs : Nat} {rs : Value}

set_option maxHeartbeats 2000000 in
set_option maxRecDepth 100000 in
theorem fc_insertionSort (F : Face lt St B g size T rv gl rl gs rs) (hsz : size < 4611686018427387904) (a b : Nat) (d : Array α) (w : World) (hS : St d w) (hab : a ≤ b) (hb : b ≤ size) :
    Calls Try.prog 156 #[.iface T rv, .int .i64 a, .int .i64 b] w fun e w' => e = .returned (.tuple #[]) ∧ Lies St g w (Sort.insertionSort lt d a b) w' := by
  have eL := F.enterL; have eS := F.enterS
  have H0 := Lib.hid (Lies.start (g := g) hS)
  clear hS
  go_enter Try.func156, Try.ntmps156
  go_wp2
  go_loopw [6] (fun vi wr => ∃ (i : Nat) (dk : Array α), vi = .int .i64 i ∧ a < i ∧ i ≤ b + 1 ∧ Lies St g w dk wr ∧ Hid (insOuter lt a b i dk = insOuter lt a b (a + 1) d)) (fun vi _ => b + 1 - (intOf vi).toNat)
  case atStart => exact ⟨a + 1, d, by go_num, by omega, by omega, H0.out, rfl⟩
  case round =>
    obtain ⟨i, dk, rfl, hai, hib, hL, HO⟩ := hrel
    by_cases hlt : i < b
    · have hltz : (i : Int) < (b : Int) := by omega
      go_wp2
      go_loopw [7] (fun vj wr2 => ∃ (j : Nat) (dj : Array α), vj = .int .i64 j ∧ a ≤ j ∧ j ≤ i ∧ Lies St g w dj wr2 ∧ Hid (insInner lt a j dj = insInner lt a i dk)) (fun vj _ => (intOf vj).toNat)
      case atStart => exact ⟨i, dk, rfl, by omega, Nat.le_refl _, hL, rfl⟩
      case round =>
        clear hL
        obtain ⟨j, dj, rfl, haj, hji, hL, HI⟩ := hrel
        have OUT : Hid ((j ≤ a ∨ lt dj[j]! dj[j - 1]! = false) → ∀ w', Lies St g w dj w' → ∃ (i' : Nat) (dk' : Array α), Value.int .i64 ((i : Int) + 1) = .int .i64 (i' : Nat) ∧ a < i' ∧ i' ≤ b + 1 ∧ Lies St g w dk' w' ∧ Hid (insOuter lt a b i' dk' = insOuter lt a b (a + 1) d)) := fun hs w' hw' =>
          ⟨i + 1, dj, by go_num, by omega, by omega, hw', (show Hid _ from by rw [← HO.out, insOuter_go _ _ _ _ _ hlt, ← HI.out, insInner_stop _ _ _ _ hs]; exact rfl)⟩
        have mL := F.findL hL.st
        by_cases hja : a < j
        · have hjaz : (a : Int) < (j : Int) := by omega
          cases hlv : lt dj[j]! dj[j - 1]! with
          | true =>
            go_wp2_with fail
            refine (F.lessAt hL j (j - 1) (by omega) (by omega) (by omega) (by omega) hlv).mono ?_
            rintro e w1 ⟨rfl, hL1⟩
            have mS := F.findS hL1.st
            go_wp2_with fail
            refine (F.swapAt hL1 j (j - 1) (by omega) (by omega) (by omega) (by omega)).mono ?_
            rintro e w2 ⟨rfl, hL2⟩
            go_wp2_with fail
            go_roundw
            case rel => exact ⟨j - 1, swp dj j (j - 1), by congr 1; omega, by omega, by omega, hL2, (show Hid _ from by rw [← HI.out, insInner_go lt a j dj hja hlv]; exact rfl)⟩
            case measure => simp [intOf]; omega
          | false =>
            go_wp2_with fail
            refine (F.lessAt hL j (j - 1) (by omega) (by omega) (by omega) (by omega) hlv).mono ?_
            rintro e w1 ⟨rfl, hL1⟩
            go_wp2_with fail
            go_roundw
            case rel => exact OUT.out (Or.inr hlv) _ hL1
            case measure => simp [intOf]; omega
        · have hjaz : ¬ (a : Int) < (j : Int) := by omega
          go_wp2
          go_roundw
          case rel => exact OUT.out (Or.inl (by omega)) _ hL
          case measure => simp [intOf]; omega
    · have hltz : ¬ (i : Int) < (b : Int) := by omega
      go_wp2
      go_end0
      exact ⟨rfl, by unfold Sort.insertionSort; rw [← HO.out, insOuter_stop _ _ _ _ _ hlt]; exact hL⟩

set_option maxHeartbeats 1600000 in
set_option maxRecDepth 1000000 in
theorem fc_reverseRange (F : Face lt St B g size T rv gl rl gs rs) (hsz : size < 4611686018427387904) (a b : Nat) (d : Array α) (w : World) (hS : St d w) (hab : a ≤ b) (hb : b ≤ size) :
    Calls Try.prog 160 #[.iface T rv, .int .i64 a, .int .i64 b] w fun e w' => e = .returned (.tuple #[]) ∧ Lies St g w (reverseRange d a b) w' := by
  have eS := F.enterS
  have H0 := Lib.hid (Lies.start (g := g) hS)
  clear hS
  go_enter Try.func160, Try.ntmps160
  go_wp2
  go_loopg [6, 7] (b - a) (fun k s6 s7 wr => ∃ (i jn : Nat) (jz : Int) (dk : Array α), s6 = .int .i64 i ∧ s7 = .int .i64 jz ∧ ((i : Int) < jz → jz = jn ∧ jn < size) ∧ (¬ (i : Int) < jz → ¬ i < jn) ∧ jn - i ≤ k ∧
    Lies St g w dk wr ∧ Hid (reverseLoop i jn dk = reverseLoop a (b - 1) d))
  case atStart => exact ⟨a, b - 1, (b : Int) - 1, d, rfl, rfl, fun h => ⟨by omega, by omega⟩, fun h => by omega, by omega, H0.out, rfl⟩
  case round =>
    obtain ⟨i, jn, jz, dk, rfl, rfl, h1, h2, hk, hL, heq⟩ := hrel
    by_cases hlt : (i : Int) < jz
    · obtain ⟨rfl, hjn⟩ := h1 hlt
      have hij : i < jn := by omega
      have mS := F.findS hL.st
      clear h1 h2
      go_wp2_with fail
      refine (F.swapAt hL i jn (by omega) (by omega) rfl rfl).mono ?_
      rintro e w2 ⟨rfl, hL2⟩
      go_wp2_with fail
      go_roundg (jn - 1 - (i + 1))
      case measure => omega
      case rel =>
        have heq' := heq.out
        rw [reverseLoop, if_pos hij] at heq'
        exact ⟨i + 1, jn - 1, (jn : Int) - 1, swp dk i jn, by simp, rfl, fun h => ⟨by omega, by omega⟩, fun h => by omega, Nat.le_refl _, hL2, heq'⟩
    · have hnot := h2 hlt
      go_wp2
      go_end0
      refine ⟨rfl, ?_⟩
      have heq' := heq.out
      rw [reverseLoop, if_neg hnot] at heq'
      rw [reverseRange, ← heq']
      exact hL

set_option maxHeartbeats 4000000 in
set_option maxRecDepth 1000000 in
theorem fc_siftDown (F : Face lt St B g size T rv gl rl gs rs) (hsz : size < 4611686018427387904) (lo hi first : Nat) (d : Array α) (w : World) (hS : St d w) (hlo : lo ≤ hi) (hb : first + hi ≤ size) :
    Calls Try.prog 180 #[.iface T rv, .int .i64 lo, .int .i64 hi, .int .i64 first] w fun e w' => e = .returned (.tuple #[]) ∧ Lies St g w (siftDown lt hi first lo d) w' := by
  have eL := F.enterL; have eS := F.enterS
  have H0 := Lib.hid (Lies.start (g := g) hS)
  clear hS
  go_enter Try.func180, Try.ntmps180
  go_wp2
  go_loopg [8] (hi - lo) (fun kx s8 wr => ∃ (root : Nat) (dk : Array α), s8 = .int .i64 root ∧ root ≤ hi ∧ hi - root ≤ kx ∧ Lies St g w dk wr ∧ Hid (siftDown lt hi first root dk = siftDown lt hi first lo d))
  case atStart => exact ⟨lo, d, rfl, hlo, Nat.le_refl _, H0.out, rfl⟩
  case round =>
    obtain ⟨root, dk, rfl, hr, hkx, hL, HE⟩ := hrel
    have mL := F.findL hL.st
    by_cases h0 : hi ≤ 2 * root + 1
    · have h0z : (hi : Int) ≤ 2 * (root : Int) + 1 := by omega
      go_wp2
      go_end0
      refine ⟨rfl, ?_⟩
      rw [← HE.out, sd_end lt dk h0]
      exact hL
    · have h0z : ¬ ((hi : Int) ≤ 2 * (root : Int) + 1) := by omega
      by_cases h1 : 2 * root + 2 < hi
      · have h1z : 2 * (root : Int) + 1 + 1 < (hi : Int) := by omega
        cases hA : lt dk[first + (2 * root + 1)]! dk[first + (2 * root + 2)]! with
        | true =>
          cases hG : lt dk[first + root]! dk[first + (2 * root + 2)]! with
          | true =>
            go_wp2_with fail
            refine (F.lessAt hL (first + (2 * root + 1)) (first + (2 * root + 2)) (by omega) (by omega) (by omega) (by omega) hA).mono ?_
            rintro e w1 ⟨rfl, hL1⟩
            have mL1 := F.findL hL1.st
            go_wp2_with fail
            refine (F.lessAt hL1 (first + root) (first + (2 * root + 2)) (by omega) (by omega) (by omega) (by omega) hG).mono ?_
            rintro e w2 ⟨rfl, hL2⟩
            have mS := F.findS hL2.st
            go_wp2_with fail
            refine (F.swapAt hL2 (first + root) (first + (2 * root + 2)) (by omega) (by omega) (by omega) (by omega)).mono ?_
            rintro e w3 ⟨rfl, hL3⟩
            go_wp2_with fail
            go_roundg (hi - (2 * root + 2))
            case measure => omega
            case rel => exact ⟨2 * root + 2, swp dk (first + root) (first + (2 * root + 2)), by go_num, by omega, Nat.le_refl _, hL3, (show Hid _ from by rw [← HE.out, sd_right_go lt dk h1 hA hG]; exact rfl)⟩
          | false =>
            go_wp2_with fail
            refine (F.lessAt hL (first + (2 * root + 1)) (first + (2 * root + 2)) (by omega) (by omega) (by omega) (by omega) hA).mono ?_
            rintro e w1 ⟨rfl, hL1⟩
            have mL1 := F.findL hL1.st
            go_wp2_with fail
            refine (F.lessAt hL1 (first + root) (first + (2 * root + 2)) (by omega) (by omega) (by omega) (by omega) hG).mono ?_
            rintro e w2 ⟨rfl, hL2⟩
            go_wp2_with fail
            (try simp only [Exit.inBlock, Exit.then]); refine bodyPost_ret (results_none rfl _ _ _) rfl ?_
            refine ⟨rfl, ?_⟩
            rw [← HE.out, sd_right_stop lt dk h1 hA hG]
            exact hL2
        | false =>
          cases hG : lt dk[first + root]! dk[first + (2 * root + 1)]! with
          | true =>
            go_wp2_with fail
            refine (F.lessAt hL (first + (2 * root + 1)) (first + (2 * root + 2)) (by omega) (by omega) (by omega) (by omega) hA).mono ?_
            rintro e w1 ⟨rfl, hL1⟩
            have mL1 := F.findL hL1.st
            go_wp2_with fail
            refine (F.lessAt hL1 (first + root) (first + (2 * root + 1)) (by omega) (by omega) (by omega) (by omega) hG).mono ?_
            rintro e w2 ⟨rfl, hL2⟩
            have mS := F.findS hL2.st
            go_wp2_with fail
            refine (F.swapAt hL2 (first + root) (first + (2 * root + 1)) (by omega) (by omega) (by omega) (by omega)).mono ?_
            rintro e w3 ⟨rfl, hL3⟩
            go_wp2_with fail
            go_roundg (hi - (2 * root + 1))
            case measure => omega
            case rel => exact ⟨2 * root + 1, swp dk (first + root) (first + (2 * root + 1)), by go_num, by omega, Nat.le_refl _, hL3, (show Hid _ from by rw [← HE.out, sd_left_go lt dk (by omega) (fun _ => hA) hG]; exact rfl)⟩
          | false =>
            go_wp2_with fail
            refine (F.lessAt hL (first + (2 * root + 1)) (first + (2 * root + 2)) (by omega) (by omega) (by omega) (by omega) hA).mono ?_
            rintro e w1 ⟨rfl, hL1⟩
            have mL1 := F.findL hL1.st
            go_wp2_with fail
            refine (F.lessAt hL1 (first + root) (first + (2 * root + 1)) (by omega) (by omega) (by omega) (by omega) hG).mono ?_
            rintro e w2 ⟨rfl, hL2⟩
            go_wp2_with fail
            (try simp only [Exit.inBlock, Exit.then]); refine bodyPost_ret (results_none rfl _ _ _) rfl ?_
            refine ⟨rfl, ?_⟩
            rw [← HE.out, sd_left_stop lt dk (by omega) (fun _ => hA) hG]
            exact hL2
      · have h1z : ¬ (2 * (root : Int) + 1 + 1 < (hi : Int)) := by omega
        cases hG : lt dk[first + root]! dk[first + (2 * root + 1)]! with
        | true =>
          go_wp2_with fail
          refine (F.lessAt hL (first + root) (first + (2 * root + 1)) (by omega) (by omega) (by omega) (by omega) hG).mono ?_
          rintro e w2 ⟨rfl, hL2⟩
          have mS := F.findS hL2.st
          go_wp2_with fail
          refine (F.swapAt hL2 (first + root) (first + (2 * root + 1)) (by omega) (by omega) (by omega) (by omega)).mono ?_
          rintro e w3 ⟨rfl, hL3⟩
          go_wp2_with fail
          go_roundg (hi - (2 * root + 1))
          case measure => omega
          case rel => exact ⟨2 * root + 1, swp dk (first + root) (first + (2 * root + 1)), by go_num, by omega, Nat.le_refl _, hL3, (show Hid _ from by rw [← HE.out, sd_left_go lt dk (by omega) (fun h => absurd h h1) hG]; exact rfl)⟩
        | false =>
          go_wp2_with fail
          refine (F.lessAt hL (first + root) (first + (2 * root + 1)) (by omega) (by omega) (by omega) (by omega) hG).mono ?_
          rintro e w2 ⟨rfl, hL2⟩
          go_wp2_with fail
          (try simp only [Exit.inBlock, Exit.then]); refine bodyPost_ret (results_none rfl _ _ _) rfl ?_
          refine ⟨rfl, ?_⟩
          rw [← HE.out, sd_left_stop lt dk (by omega) (fun h => absurd h h1) hG]
          exact hL2

set_option maxHeartbeats 4000000 in
set_option maxRecDepth 1000000 in
theorem fc_heapSort (F : Face lt St B g size T rv gl rl gs rs) (hsz : size < 4611686018427387904) (a b : Nat) (d : Array α) (w : World) (hS : St d w) (hab : a ≤ b) (hb : b ≤ size) :
    Calls Try.prog 157 #[.iface T rv, .int .i64 a, .int .i64 b] w fun e w' => e = .returned (.tuple #[]) ∧ Lies St g w (heapSort lt d a b) w' := by
  have eS := F.enterS
  have H0 := Lib.hid (Lies.start (g := g) hS)
  clear hS
  have ecast : ((b - a : Nat) : Int) = (b : Int) - (a : Int) := by omega
  go_enter Try.func157, Try.ntmps157
  go_wp2
  go_loopg [9] ((b - a - 1) / 2 + 1) (fun kx s9 wr => s9 = .int .i64 ((kx : Int) - 1) ∧ kx ≤ (b - a - 1) / 2 + 1 ∧ ∃ (dk : Array α), Lies St g w dk wr ∧
    Hid (heapBuild lt (b - a) a kx dk = heapBuild lt (b - a) a ((b - a - 1) / 2 + 1) d))
  case atStart => exact ⟨by rw [half_start hab], Nat.le_refl _, d, H0.out, rfl⟩
  case round =>
    obtain ⟨rfl, hkk, dk, hL, HE⟩ := hrel
    cases gk with
    | zero =>
      have hB : dk = heapBuild lt (b - a) a ((b - a - 1) / 2 + 1) d := HE.out
      have HB := Lib.hid hB
      clear HE hkk hB
      go_wp2
      go_loopg [10] (b - a) (fun kx s10 wr2 => s10 = .int .i64 ((kx : Int) - 1) ∧ kx ≤ b - a ∧ ∃ (dj : Array α), Lies St g w dj wr2 ∧ Hid (heapPop lt a kx dj = heapPop lt a (b - a) dk))
      case atStart => exact ⟨by rw [ecast], Nat.le_refl _, dk, hL, rfl⟩
      case round =>
        clear hL
        obtain ⟨rfl, hkk, dj, hL, HE2⟩ := hrel
        cases gk with
        | zero =>
          go_wp2
          go_end0
          have e : dj = heapSort lt d a b := by rw [heapSort, ← HB.out, ← HE2.out]; rfl
          rw [← e]
          exact ⟨rfl, hL⟩
        | succ kx =>
          have mS := F.findS hL.st
          go_wp2_with fail
          refine (F.swapAt hL a (a + kx) (by omega) (by omega) (by omega) (by omega)).mono ?_
          rintro e w2 ⟨rfl, hL2⟩
          go_wp2_with fail
          refine (fc_siftDown F hsz 0 kx a (swp dj a (a + kx)) w2 hL2.st (Nat.zero_le _) (by omega)).mono ?_
          rintro e w3 ⟨rfl, hL3⟩
          go_wp2_with fail
          go_roundg kx
          case measure => omega
          case rel => exact ⟨by simp, by omega, siftDown lt kx a 0 (swp dj a (a + kx)), hL2.trans hL3, HE2⟩
    | succ kx =>
      have hcall := fc_siftDown F hsz kx (b - a) a dk wr hL.st (by omega) (by omega)
      rw [ecast] at hcall
      go_wp2_with fail
      refine hcall.mono ?_
      rintro e w3 ⟨rfl, hL3⟩
      go_wp2_with fail
      go_roundg kx
      case measure => omega
      case rel => exact ⟨by simp, by omega, siftDown lt (b - a) a kx dk, hL.trans hL3, HE⟩
end
#print axioms fc_insertionSort
#print axioms fc_reverseRange
#print axioms fc_siftDown
#print axioms fc_heapSort
end Go.Proofs.Ytaifikhgijnkgaa
