/- Contract of sort.partialInsertionSort over an interface value. Conditions: the bounds lie inside the row. -/
import Derived.Test.YtaifikhgijnkgaaFace
namespace Go.Proofs.Ytaifikhgijnkgaa
open Go.RowKit
open Go.Sort hiding Below
set_option linter.unusedVariables false
set_option linter.unusedSectionVars false
section
variable {α : Type} [Inhabited α] {lt : α → α → Bool} {St : Array α → World → Prop} {B g size : Nat} {T : TypeId} {rv : Value} {gl : Nat} {rl : Value} {gs : Nat} {rs : Value}

set_option maxHeartbeats 16000000 in
set_option maxRecDepth 1000000 in
theorem fc_partialInsertionSort (F : Face lt St B g size T rv gl rl gs rs) (hsz : size < 4611686018427387904) (a b : Nat) (d : Array α) (w : World) (hS : St d w) (hab : a < b) (hb : b ≤ size) :
    Calls Try.prog 161 #[.iface T rv, .int .i64 a, .int .i64 b] w fun e w' => e = .returned (.bool (Sort.partialInsertionSort lt d a b).2) ∧ Lies St g w (Sort.partialInsertionSort lt d a b).1 w' := by
  have eL := F.enterL; have eS := F.enterS
  have hL0 := Lies.start (g := g) hS
  clear hS
  go_enter Try.func161, Try.ntmps161
  go_wp2
  go_loopg [7, 8] 5 (fun g1 vi vs wr => ∃ (i s : Nat) (dk : Array α), vi = .int .i64 i ∧ vs = .int .i64 s ∧ s ≤ 5 ∧ 5 - s ≤ g1 ∧ a < i ∧ i ≤ b ∧ Lies St g w dk wr ∧ Hid (partialIns lt a b (5 - s) i dk = partialIns lt a b 5 (a + 1) d))
  case atStart => exact ⟨a + 1, 0, d, by go_num, rfl, by omega, by omega, by omega, by omega, hL0, rfl⟩
  case round =>
    clear hL0
    obtain ⟨i, s, dk, rfl, rfl, hs5, hg1, hai, hib, hL1, HO⟩ := hrel
    by_cases hs : s < 5
    · have hsz5 : (s : Int) < 5 := by omega
      go_wp2
      go_loopg [7] (b - i) (fun g2 vi wr2 => ∃ (kx : Nat), vi = .int .i64 kx ∧ i ≤ kx ∧ kx ≤ b ∧ b - kx ≤ g2 ∧ Lies St g w dk wr2 ∧ Hid (scanSorted lt dk b kx = scanSorted lt dk b i))
      case atStart => exact ⟨i, rfl, Nat.le_refl _, hib, Nat.le_refl _, hL1, rfl⟩
      case round =>
        clear hL1
        obtain ⟨kx, rfl, hik, hkb, hg2, hL1, HSc⟩ := hrel
        by_cases hkb' : kx < b
        · have hkz : (kx : Int) < (b : Int) := by omega
          cases hlv : lt dk[kx]! dk[kx - 1]! with
          | false =>
            have mL1 := F.findL hL1.st
            go_wp2_with fail
            refine (F.lessAt hL1 (kx) (kx - 1) (by omega) (by omega) (by omega) (by omega) hlv).mono ?_
            rintro e w1 ⟨rfl, hL2⟩
            clear mL1
            go_wp2_with fail
            go_roundg (b - (kx + 1))
            case measure => omega
            case rel => exact ⟨kx + 1, by go_num, by omega, by omega, Nat.le_refl _, hL2, (show Hid _ from by rw [← HSc.out, scanSorted_go lt dk b kx hkb' hlv]; exact rfl)⟩
          | true =>
            have HK : Hid (scanSorted lt dk b i = kx) := by show _ = _; rw [← HSc.out, scanSorted_stop lt dk b kx (Or.inr hlv)]
            have hkne : ((kx : Int) == (b : Int)) = false := beq_eq_false_iff_ne.2 (by omega)
            have mL2 := F.findL hL1.st
            go_wp2_with fail
            refine (F.lessAt hL1 (kx) (kx - 1) (by omega) (by omega) (by omega) (by omega) hlv).mono ?_
            rintro e w2 ⟨rfl, hL2⟩
            clear mL2
            clear hL1
            by_cases h50 : b - a < 50
            · have h50z : (b : Int) - (a : Int) < 50 := by omega
              go_wp2_with fail
              have hv : Sort.partialInsertionSort lt d a b = (dk, false) := by
                unfold Sort.partialInsertionSort
                rw [← HO.out, pi_short lt a b s i dk hs (by rw [HK.out]; omega) h50]
              rw [hv]
              go_ret
              exact ⟨rfl, hL2⟩
            · have h50z : ¬ ((b : Int) - (a : Int) < 50) := by omega
              have mS3 := F.findS hL2.st
              go_wp2_with fail
              refine (F.swapAt hL2 (kx) (kx - 1) (by omega) (by omega) (by omega) (by omega)).mono ?_
              rintro e w3 ⟨rfl, hL3⟩
              clear mS3
              clear hL2
              by_cases hka : kx - a ≥ 2
              · have hkaz : (2 : Int) ≤ (kx : Int) - (a : Int) := by omega
                go_wp2_with fail
                go_loopg [9] (kx - 1) (fun g3 vj wr3 => ∃ (j : Nat) (dj : Array α), vj = .int .i64 j ∧ j ≤ kx - 1 ∧ j ≤ g3 ∧ Lies St g w dj wr3 ∧ Hid (shiftDown lt j dj = shiftDown lt (kx - 1) (swp dk kx (kx - 1))))
                case atStart => exact ⟨kx - 1, swp dk kx (kx - 1), by congr 1; omega, Nat.le_refl _, Nat.le_refl _, hL3, rfl⟩
                case round =>
                  clear hL3
                  obtain ⟨j, dj, rfl, hjk, hg3, hL3, HDn⟩ := hrel
                  by_cases hj1 : 1 ≤ j
                  · have hj1z : (1 : Int) ≤ (j : Int) := by omega
                    cases hlv2 : lt dj[j]! dj[j - 1]! with
                    | true =>
                      have mL4 := F.findL hL3.st
                      go_wp2_with fail
                      refine (F.lessAt hL3 (j) (j - 1) (by omega) (by omega) (by omega) (by omega) hlv2).mono ?_
                      rintro e w4 ⟨rfl, hL4⟩
                      clear mL4
                      have mS5 := F.findS hL4.st
                      go_wp2_with fail
                      refine (F.swapAt hL4 (j) (j - 1) (by omega) (by omega) (by omega) (by omega)).mono ?_
                      rintro e w5 ⟨rfl, hL5⟩
                      clear mS5
                      go_wp2_with fail
                      go_roundg (j - 1)
                      case measure => omega
                      case rel => exact ⟨j - 1, swp dj j (j - 1), by congr 1; omega, by omega, Nat.le_refl _, hL5, (show Hid _ from by rw [← HDn.out, shiftDown_go lt j dj hj1 hlv2]; exact rfl)⟩
                    | false =>
                      have mL6 := F.findL hL3.st
                      go_wp2_with fail
                      refine (F.lessAt hL3 (j) (j - 1) (by omega) (by omega) (by omega) (by omega) hlv2).mono ?_
                      rintro e w6 ⟨rfl, hL4⟩
                      clear mL6
                      clear hL3
                      have HD : Hid (fixDown lt a kx (swp dk kx (kx - 1)) = dj) := by show _ = _; unfold fixDown; rw [if_pos hka, ← HDn.out, shiftDown_stop lt j dj (Or.inr hlv2)]
                      by_cases hbk : b - kx ≥ 2
                      · have hbkz : (2 : Int) ≤ (b : Int) - (kx : Int) := by omega
                        go_wp2_with fail
                        go_loopg [10] (b - (kx + 1)) (fun g4 vj wr4 => ∃ (ju : Nat) (du : Array α), vj = .int .i64 ju ∧ kx + 1 ≤ ju ∧ ju ≤ b ∧ b - ju ≤ g4 ∧ Lies St g w du wr4 ∧ Hid (shiftUp lt b ju du = shiftUp lt b (kx + 1) dj))
                        case atStart => exact ⟨kx + 1, dj, by go_num, Nat.le_refl _, by omega, Nat.le_refl _, hL4, rfl⟩
                        case round =>
                          clear hL4
                          obtain ⟨ju, du, rfl, hkj, hjb, hg4, hLu, HU⟩ := hrel
                          by_cases hjb' : ju < b
                          · have hjz : (ju : Int) < (b : Int) := by omega
                            cases hlv3 : lt du[ju]! du[ju - 1]! with
                            | true =>
                              have mL7 := F.findL hLu.st
                              go_wp2_with fail
                              refine (F.lessAt hLu (ju) (ju - 1) (by omega) (by omega) (by omega) (by omega) hlv3).mono ?_
                              rintro e w7 ⟨rfl, hLv⟩
                              clear mL7
                              have mS8 := F.findS hLv.st
                              go_wp2_with fail
                              refine (F.swapAt hLv (ju) (ju - 1) (by omega) (by omega) (by omega) (by omega)).mono ?_
                              rintro e w8 ⟨rfl, hLw⟩
                              clear mS8
                              go_wp2_with fail
                              go_roundg (b - (ju + 1))
                              case measure => omega
                              case rel => exact ⟨ju + 1, swp du ju (ju - 1), by go_num, by omega, by omega, Nat.le_refl _, hLw, (show Hid _ from by rw [← HU.out, shiftUp_go lt b ju du hjb' hlv3]; exact rfl)⟩
                            | false =>
                              have mL9 := F.findL hLu.st
                              go_wp2_with fail
                              refine (F.lessAt hLu (ju) (ju - 1) (by omega) (by omega) (by omega) (by omega) hlv3).mono ?_
                              rintro e w9 ⟨rfl, hLv⟩
                              clear mL9
                              go_wp2_with fail
                              go_roundg (5 - (s + 1))
                              case measure => omega
                              case rel => exact ⟨kx, s + 1, du, rfl, by go_num, by omega, Nat.le_refl _, by omega, by omega, hLv, (show Hid _ from by rw [← HO.out, pi_go lt a b s i kx dk hs HK.out (by omega) h50, HD.out, show fixUp lt b kx dj = du from by unfold fixUp; rw [if_pos hbk, ← HU.out, shiftUp_stop lt b ju du (Or.inr hlv3)]]; exact rfl)⟩
                          · have hjz : ¬ (ju : Int) < (b : Int) := by omega
                            go_wp2
                            go_roundg (5 - (s + 1))
                            case measure => omega
                            case rel => exact ⟨kx, s + 1, du, rfl, by go_num, by omega, Nat.le_refl _, by omega, by omega, hLu, (show Hid _ from by rw [← HO.out, pi_go lt a b s i kx dk hs HK.out (by omega) h50, HD.out, show fixUp lt b kx dj = du from by unfold fixUp; rw [if_pos hbk, ← HU.out, shiftUp_stop lt b ju du (Or.inl hjb')]]; exact rfl)⟩
                      · have hbkz : ¬ (2 : Int) ≤ (b : Int) - (kx : Int) := by omega
                        go_wp2_with fail
                        go_roundg (5 - (s + 1))
                        case measure => omega
                        case rel => exact ⟨kx, s + 1, dj, rfl, by go_num, by omega, Nat.le_refl _, by omega, by omega, hL4, (show Hid _ from by rw [← HO.out, pi_go lt a b s i kx dk hs HK.out (by omega) h50, HD.out, show fixUp lt b kx dj = dj from by unfold fixUp; rw [if_neg hbk]]; exact rfl)⟩
                  · have hj1z : ¬ (1 : Int) ≤ (j : Int) := by omega
                    have HD : Hid (fixDown lt a kx (swp dk kx (kx - 1)) = dj) := by show _ = _; unfold fixDown; rw [if_pos hka, ← HDn.out, shiftDown_stop lt j dj (Or.inl (by omega))]
                    by_cases hbk : b - kx ≥ 2
                    · have hbkz : (2 : Int) ≤ (b : Int) - (kx : Int) := by omega
                      go_wp2_with fail
                      go_loopg [10] (b - (kx + 1)) (fun g4 vj wr4 => ∃ (ju : Nat) (du : Array α), vj = .int .i64 ju ∧ kx + 1 ≤ ju ∧ ju ≤ b ∧ b - ju ≤ g4 ∧ Lies St g w du wr4 ∧ Hid (shiftUp lt b ju du = shiftUp lt b (kx + 1) dj))
                      case atStart => exact ⟨kx + 1, dj, by go_num, Nat.le_refl _, by omega, Nat.le_refl _, hL3, rfl⟩
                      case round =>
                        clear hL3
                        obtain ⟨ju, du, rfl, hkj, hjb, hg4, hLu, HU⟩ := hrel
                        by_cases hjb' : ju < b
                        · have hjz : (ju : Int) < (b : Int) := by omega
                          cases hlv3 : lt du[ju]! du[ju - 1]! with
                          | true =>
                            have mL10 := F.findL hLu.st
                            go_wp2_with fail
                            refine (F.lessAt hLu (ju) (ju - 1) (by omega) (by omega) (by omega) (by omega) hlv3).mono ?_
                            rintro e w10 ⟨rfl, hLv⟩
                            clear mL10
                            have mS11 := F.findS hLv.st
                            go_wp2_with fail
                            refine (F.swapAt hLv (ju) (ju - 1) (by omega) (by omega) (by omega) (by omega)).mono ?_
                            rintro e w11 ⟨rfl, hLw⟩
                            clear mS11
                            go_wp2_with fail
                            go_roundg (b - (ju + 1))
                            case measure => omega
                            case rel => exact ⟨ju + 1, swp du ju (ju - 1), by go_num, by omega, by omega, Nat.le_refl _, hLw, (show Hid _ from by rw [← HU.out, shiftUp_go lt b ju du hjb' hlv3]; exact rfl)⟩
                          | false =>
                            have mL12 := F.findL hLu.st
                            go_wp2_with fail
                            refine (F.lessAt hLu (ju) (ju - 1) (by omega) (by omega) (by omega) (by omega) hlv3).mono ?_
                            rintro e w12 ⟨rfl, hLv⟩
                            clear mL12
                            go_wp2_with fail
                            go_roundg (5 - (s + 1))
                            case measure => omega
                            case rel => exact ⟨kx, s + 1, du, rfl, by go_num, by omega, Nat.le_refl _, by omega, by omega, hLv, (show Hid _ from by rw [← HO.out, pi_go lt a b s i kx dk hs HK.out (by omega) h50, HD.out, show fixUp lt b kx dj = du from by unfold fixUp; rw [if_pos hbk, ← HU.out, shiftUp_stop lt b ju du (Or.inr hlv3)]]; exact rfl)⟩
                        · have hjz : ¬ (ju : Int) < (b : Int) := by omega
                          go_wp2
                          go_roundg (5 - (s + 1))
                          case measure => omega
                          case rel => exact ⟨kx, s + 1, du, rfl, by go_num, by omega, Nat.le_refl _, by omega, by omega, hLu, (show Hid _ from by rw [← HO.out, pi_go lt a b s i kx dk hs HK.out (by omega) h50, HD.out, show fixUp lt b kx dj = du from by unfold fixUp; rw [if_pos hbk, ← HU.out, shiftUp_stop lt b ju du (Or.inl hjb')]]; exact rfl)⟩
                    · have hbkz : ¬ (2 : Int) ≤ (b : Int) - (kx : Int) := by omega
                      go_wp2_with fail
                      go_roundg (5 - (s + 1))
                      case measure => omega
                      case rel => exact ⟨kx, s + 1, dj, rfl, by go_num, by omega, Nat.le_refl _, by omega, by omega, hL3, (show Hid _ from by rw [← HO.out, pi_go lt a b s i kx dk hs HK.out (by omega) h50, HD.out, show fixUp lt b kx dj = dj from by unfold fixUp; rw [if_neg hbk]]; exact rfl)⟩
              · have hkaz : ¬ (2 : Int) ≤ (kx : Int) - (a : Int) := by omega
                have HD : Hid (fixDown lt a kx (swp dk kx (kx - 1)) = (swp dk kx (kx - 1))) := by show _ = _; unfold fixDown; rw [if_neg hka]
                by_cases hbk : b - kx ≥ 2
                · have hbkz : (2 : Int) ≤ (b : Int) - (kx : Int) := by omega
                  go_wp2_with fail
                  go_loopg [10] (b - (kx + 1)) (fun g4 vj wr4 => ∃ (ju : Nat) (du : Array α), vj = .int .i64 ju ∧ kx + 1 ≤ ju ∧ ju ≤ b ∧ b - ju ≤ g4 ∧ Lies St g w du wr4 ∧ Hid (shiftUp lt b ju du = shiftUp lt b (kx + 1) (swp dk kx (kx - 1))))
                  case atStart => exact ⟨kx + 1, (swp dk kx (kx - 1)), by go_num, Nat.le_refl _, by omega, Nat.le_refl _, hL3, rfl⟩
                  case round =>
                    clear hL3
                    obtain ⟨ju, du, rfl, hkj, hjb, hg4, hLu, HU⟩ := hrel
                    by_cases hjb' : ju < b
                    · have hjz : (ju : Int) < (b : Int) := by omega
                      cases hlv3 : lt du[ju]! du[ju - 1]! with
                      | true =>
                        have mL13 := F.findL hLu.st
                        go_wp2_with fail
                        refine (F.lessAt hLu (ju) (ju - 1) (by omega) (by omega) (by omega) (by omega) hlv3).mono ?_
                        rintro e w13 ⟨rfl, hLv⟩
                        clear mL13
                        have mS14 := F.findS hLv.st
                        go_wp2_with fail
                        refine (F.swapAt hLv (ju) (ju - 1) (by omega) (by omega) (by omega) (by omega)).mono ?_
                        rintro e w14 ⟨rfl, hLw⟩
                        clear mS14
                        go_wp2_with fail
                        go_roundg (b - (ju + 1))
                        case measure => omega
                        case rel => exact ⟨ju + 1, swp du ju (ju - 1), by go_num, by omega, by omega, Nat.le_refl _, hLw, (show Hid _ from by rw [← HU.out, shiftUp_go lt b ju du hjb' hlv3]; exact rfl)⟩
                      | false =>
                        have mL15 := F.findL hLu.st
                        go_wp2_with fail
                        refine (F.lessAt hLu (ju) (ju - 1) (by omega) (by omega) (by omega) (by omega) hlv3).mono ?_
                        rintro e w15 ⟨rfl, hLv⟩
                        clear mL15
                        go_wp2_with fail
                        go_roundg (5 - (s + 1))
                        case measure => omega
                        case rel => exact ⟨kx, s + 1, du, rfl, by go_num, by omega, Nat.le_refl _, by omega, by omega, hLv, (show Hid _ from by rw [← HO.out, pi_go lt a b s i kx dk hs HK.out (by omega) h50, HD.out, show fixUp lt b kx (swp dk kx (kx - 1)) = du from by unfold fixUp; rw [if_pos hbk, ← HU.out, shiftUp_stop lt b ju du (Or.inr hlv3)]]; exact rfl)⟩
                    · have hjz : ¬ (ju : Int) < (b : Int) := by omega
                      go_wp2
                      go_roundg (5 - (s + 1))
                      case measure => omega
                      case rel => exact ⟨kx, s + 1, du, rfl, by go_num, by omega, Nat.le_refl _, by omega, by omega, hLu, (show Hid _ from by rw [← HO.out, pi_go lt a b s i kx dk hs HK.out (by omega) h50, HD.out, show fixUp lt b kx (swp dk kx (kx - 1)) = du from by unfold fixUp; rw [if_pos hbk, ← HU.out, shiftUp_stop lt b ju du (Or.inl hjb')]]; exact rfl)⟩
                · have hbkz : ¬ (2 : Int) ≤ (b : Int) - (kx : Int) := by omega
                  exfalso; omega
        · obtain rfl : kx = b := by omega
          have hkz : ¬ (kx : Int) < (kx : Int) := by omega
          go_wp2
          have hv : Sort.partialInsertionSort lt d a kx = (dk, true) := by
            unfold Sort.partialInsertionSort
            rw [← HO.out, pi_true lt a kx s i dk hs (by rw [← HSc.out, scanSorted_stop lt dk kx kx (Or.inl (by omega))])]
          rw [hv]
          go_ret
          exact ⟨rfl, hL1⟩
    · obtain rfl : s = 5 := by omega
      go_wp2
      have hv : Sort.partialInsertionSort lt d a b = (dk, false) := by
        unfold Sort.partialInsertionSort
        rw [← HO.out, pi_end]
      rw [hv]
      go_ret
      exact ⟨rfl, hL1⟩
end
#print axioms fc_partialInsertionSort
end Go.Proofs.Ytaifikhgijnkgaa
