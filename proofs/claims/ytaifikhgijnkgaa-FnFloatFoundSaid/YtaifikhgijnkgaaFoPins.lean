/- Contract of sort.partialInsertionSort over a row of floats. Conditions: the bounds lie inside the row. -/
import Derived.Test.YtaifikhgijnkgaaOrd
namespace Go.Proofs.Ytaifikhgijnkgaa
open Go.RowKit
open Go.Sort hiding Below
set_option linter.unusedVariables false
set_option linter.unusedSectionVars false
section
variable {St : Array Nat → World → Prop} {B g size cap : Nat}

set_option maxHeartbeats 16000000 in
set_option maxRecDepth 1000000 in
theorem fo_partialInsertionSort (F : OFace St B g size) (hsz : size < 4611686018427387904) (a b : Nat) (d : Array Nat) (w : World) (hS : St d w) (hab : a < b) (hb : b ≤ size) :
    Calls Try.prog 176 #[.slice (some ⟨g, 0, none⟩) size cap, .int .i64 a, .int .i64 b] w fun e w' => e = .returned (.bool (Sort.partialInsertionSort fLt d a b).2) ∧ Lies St g w (Sort.partialInsertionSort fLt d a b).1 w' := by
  have hL0 := Lies.start (g := g) hS
  clear hS
  go_enter Try.func176, Try.ntmps176
  go_wp2
  go_loopg [7, 8] 5 (fun g1 vi vs wr => ∃ (i s : Nat) (dk : Array Nat), vi = .int .i64 i ∧ vs = .int .i64 s ∧ s ≤ 5 ∧ 5 - s ≤ g1 ∧ a < i ∧ i ≤ b ∧ Lies St g w dk wr ∧ Hid (partialIns fLt a b (5 - s) i dk = partialIns fLt a b 5 (a + 1) d))
  case atStart => exact ⟨a + 1, 0, d, by go_num, rfl, by omega, by omega, by omega, by omega, hL0, rfl⟩
  case round =>
    clear hL0
    obtain ⟨i, s, dk, rfl, rfl, hs5, hg1, hai, hib, hL1, HO⟩ := hrel
    by_cases hs : s < 5
    · have hsz5 : (s : Int) < 5 := by omega
      go_wp2
      go_loopg [7] (b - i) (fun g2 vi wr2 => ∃ (kx : Nat), vi = .int .i64 kx ∧ i ≤ kx ∧ kx ≤ b ∧ b - kx ≤ g2 ∧ Lies St g w dk wr2 ∧ Hid (scanSorted fLt dk b kx = scanSorted fLt dk b i))
      case atStart => exact ⟨i, rfl, Nat.le_refl _, hib, Nat.le_refl _, hL1, rfl⟩
      case round =>
        clear hL1
        obtain ⟨kx, rfl, hik, hkb, hg2, hL1, HSc⟩ := hrel
        by_cases hkb' : kx < b
        · have hkz : (kx : Int) < (b : Int) := by omega
          cases hlv : fLt dk[kx]! dk[kx - 1]! with
          | false =>
            have z0 : (kx : Int) < (size : Int) := by omega
            obtain ⟨p1, hp1⟩ : ∃ p : Nat, p = kx - 1 := ⟨_, rfl⟩
            have e1 : (kx : Int) - 1 = (p1 : Int) := by omega
            have z1 : (p1 : Int) < (size : Int) := by omega
            have c0 := F.cell hL1.st kx (by omega)
            have c1 := F.cell hL1.st p1 (by omega)
            have hvq := hlv
            rw [← hp1] at hvq
            have Hhp1 := Lib.hid hp1
            clear hp1
            go_wp2
            go_quiet ((go_at_call 154; exact quiet_eq (cmp_Less_at _ _ _ _ hvq)))
            have hL2 := hL1.drewN F.toBase nq
            clear hvq c0 c1 z0 z1 e1
            generalize World.drewN _ nq = w1 at hL2 ⊢
            go_wp2_with fail
            go_roundg (b - (kx + 1))
            case measure => omega
            case rel => exact ⟨kx + 1, by go_num, by omega, by omega, Nat.le_refl _, hL2, (show Hid _ from by rw [← HSc.out, scanSorted_go fLt dk b kx hkb' hlv]; exact rfl)⟩
          | true =>
            have HK : Hid (scanSorted fLt dk b i = kx) := by show _ = _; rw [← HSc.out, scanSorted_stop fLt dk b kx (Or.inr hlv)]
            have hkne : ((kx : Int) == (b : Int)) = false := beq_eq_false_iff_ne.2 (by omega)
            have z0 : (kx : Int) < (size : Int) := by omega
            obtain ⟨p2, hp2⟩ : ∃ p : Nat, p = kx - 1 := ⟨_, rfl⟩
            have e1 : (kx : Int) - 1 = (p2 : Int) := by omega
            have z1 : (p2 : Int) < (size : Int) := by omega
            have c0 := F.cell hL1.st kx (by omega)
            have c1 := F.cell hL1.st p2 (by omega)
            have hvq := hlv
            rw [← hp2] at hvq
            have Hhp2 := Lib.hid hp2
            clear hp2
            go_wp2
            go_quiet ((go_at_call 154; exact quiet_eq (cmp_Less_at _ _ _ _ hvq)))
            have hL2 := hL1.drewN F.toBase nq
            clear hvq c0 c1 z0 z1 e1
            generalize World.drewN _ nq = w2 at hL2 ⊢
            clear hL1
            by_cases h50 : b - a < 50
            · have h50z : (b : Int) - (a : Int) < 50 := by omega
              go_wp2_with fail
              have hv : Sort.partialInsertionSort fLt d a b = (dk, false) := by
                unfold Sort.partialInsertionSort
                rw [← HO.out, pi_short fLt a b s i dk hs (by rw [HK.out]; omega) h50]
              rw [hv]
              go_ret
              exact ⟨rfl, hL2⟩
            · have h50z : ¬ ((b : Int) - (a : Int) < 50) := by omega
              have z0 : (kx : Int) < (size : Int) := by omega
              obtain ⟨p3, hp3⟩ : ∃ p : Nat, p = kx - 1 := ⟨_, rfl⟩
              have e1 : (kx : Int) - 1 = (p3 : Int) := by omega
              have z1 : (p3 : Int) < (size : Int) := by omega
              have c0 := F.cell hL2.st kx (by omega)
              have c1 := F.cell hL2.st p3 (by omega)
              have f0 := F.fz hL2.st kx
              have f1 := F.fz hL2.st p3
              obtain ⟨v', hv'⟩ := F.cell2 hL2 kx p3 (by omega)
              have hL3 := F.swapAt hL2 kx p3 (by omega) (by omega)
              have Hhp3 := Lib.hid hp3
              clear hp3
              go_wp2
              go_region
              clear hv' f0 f1 c0 c1 z0 z1 e1
              generalize World.drew _ = w3 at hL3 ⊢
              rw [Hhp3.out] at hL3
              clear hL2
              by_cases hka : kx - a ≥ 2
              · have hkaz : (2 : Int) ≤ (kx : Int) - (a : Int) := by omega
                go_wp2_with fail
                go_loopg [9] (kx - 1) (fun g3 vj wr3 => ∃ (j : Nat) (dj : Array Nat), vj = .int .i64 j ∧ j ≤ kx - 1 ∧ j ≤ g3 ∧ Lies St g w dj wr3 ∧ Hid (shiftDown fLt j dj = shiftDown fLt (kx - 1) (swp dk kx (kx - 1))))
                case atStart => exact ⟨kx - 1, swp dk kx (kx - 1), by congr 1; omega, Nat.le_refl _, Nat.le_refl _, hL3, rfl⟩
                case round =>
                  clear hL3
                  obtain ⟨j, dj, rfl, hjk, hg3, hL3, HDn⟩ := hrel
                  by_cases hj1 : 1 ≤ j
                  · have hj1z : (1 : Int) ≤ (j : Int) := by omega
                    cases hlv2 : fLt dj[j]! dj[j - 1]! with
                    | true =>
                      have z0 : (j : Int) < (size : Int) := by omega
                      obtain ⟨p4, hp4⟩ : ∃ p : Nat, p = j - 1 := ⟨_, rfl⟩
                      have e1 : (j : Int) - 1 = (p4 : Int) := by omega
                      have z1 : (p4 : Int) < (size : Int) := by omega
                      have c0 := F.cell hL3.st j (by omega)
                      have c1 := F.cell hL3.st p4 (by omega)
                      have hvq := hlv2
                      rw [← hp4] at hvq
                      have Hhp4 := Lib.hid hp4
                      clear hp4
                      go_wp2
                      go_quiet ((go_at_call 154; exact quiet_eq (cmp_Less_at _ _ _ _ hvq)))
                      have hL4 := hL3.drewN F.toBase nq
                      clear hvq c0 c1 z0 z1 e1
                      generalize World.drewN _ nq = w4 at hL4 ⊢
                      have z0 : (j : Int) < (size : Int) := by omega
                      obtain ⟨p5, hp5⟩ : ∃ p : Nat, p = j - 1 := ⟨_, rfl⟩
                      have e1 : (j : Int) - 1 = (p5 : Int) := by omega
                      have z1 : (p5 : Int) < (size : Int) := by omega
                      have c0 := F.cell hL4.st j (by omega)
                      have c1 := F.cell hL4.st p5 (by omega)
                      have f0 := F.fz hL4.st j
                      have f1 := F.fz hL4.st p5
                      obtain ⟨v', hv'⟩ := F.cell2 hL4 j p5 (by omega)
                      have hL5 := F.swapAt hL4 j p5 (by omega) (by omega)
                      have Hhp5 := Lib.hid hp5
                      clear hp5
                      go_wp2
                      go_region
                      clear hv' f0 f1 c0 c1 z0 z1 e1
                      generalize World.drew _ = w5 at hL5 ⊢
                      rw [Hhp5.out] at hL5
                      go_wp2_with fail
                      go_roundg (j - 1)
                      case measure => omega
                      case rel => exact ⟨j - 1, swp dj j (j - 1), by congr 1; omega, by omega, Nat.le_refl _, hL5, (show Hid _ from by rw [← HDn.out, shiftDown_go fLt j dj hj1 hlv2]; exact rfl)⟩
                    | false =>
                      have z0 : (j : Int) < (size : Int) := by omega
                      obtain ⟨p6, hp6⟩ : ∃ p : Nat, p = j - 1 := ⟨_, rfl⟩
                      have e1 : (j : Int) - 1 = (p6 : Int) := by omega
                      have z1 : (p6 : Int) < (size : Int) := by omega
                      have c0 := F.cell hL3.st j (by omega)
                      have c1 := F.cell hL3.st p6 (by omega)
                      have hvq := hlv2
                      rw [← hp6] at hvq
                      have Hhp6 := Lib.hid hp6
                      clear hp6
                      go_wp2
                      go_quiet ((go_at_call 154; exact quiet_eq (cmp_Less_at _ _ _ _ hvq)))
                      have hL4 := hL3.drewN F.toBase nq
                      clear hvq c0 c1 z0 z1 e1
                      generalize World.drewN _ nq = w6 at hL4 ⊢
                      clear hL3
                      have HD : Hid (fixDown fLt a kx (swp dk kx (kx - 1)) = dj) := by show _ = _; unfold fixDown; rw [if_pos hka, ← HDn.out, shiftDown_stop fLt j dj (Or.inr hlv2)]
                      by_cases hbk : b - kx ≥ 2
                      · have hbkz : (2 : Int) ≤ (b : Int) - (kx : Int) := by omega
                        go_wp2_with fail
                        go_loopg [10] (b - (kx + 1)) (fun g4 vj wr4 => ∃ (ju : Nat) (du : Array Nat), vj = .int .i64 ju ∧ kx + 1 ≤ ju ∧ ju ≤ b ∧ b - ju ≤ g4 ∧ Lies St g w du wr4 ∧ Hid (shiftUp fLt b ju du = shiftUp fLt b (kx + 1) dj))
                        case atStart => exact ⟨kx + 1, dj, by go_num, Nat.le_refl _, by omega, Nat.le_refl _, hL4, rfl⟩
                        case round =>
                          clear hL4
                          obtain ⟨ju, du, rfl, hkj, hjb, hg4, hLu, HU⟩ := hrel
                          by_cases hjb' : ju < b
                          · have hjz : (ju : Int) < (b : Int) := by omega
                            cases hlv3 : fLt du[ju]! du[ju - 1]! with
                            | true =>
                              have z0 : (ju : Int) < (size : Int) := by omega
                              obtain ⟨p7, hp7⟩ : ∃ p : Nat, p = ju - 1 := ⟨_, rfl⟩
                              have e1 : (ju : Int) - 1 = (p7 : Int) := by omega
                              have z1 : (p7 : Int) < (size : Int) := by omega
                              have c0 := F.cell hLu.st ju (by omega)
                              have c1 := F.cell hLu.st p7 (by omega)
                              have hvq := hlv3
                              rw [← hp7] at hvq
                              have Hhp7 := Lib.hid hp7
                              clear hp7
                              go_wp2
                              go_quiet ((go_at_call 154; exact quiet_eq (cmp_Less_at _ _ _ _ hvq)))
                              have hLv := hLu.drewN F.toBase nq
                              clear hvq c0 c1 z0 z1 e1
                              generalize World.drewN _ nq = w7 at hLv ⊢
                              have z0 : (ju : Int) < (size : Int) := by omega
                              obtain ⟨p8, hp8⟩ : ∃ p : Nat, p = ju - 1 := ⟨_, rfl⟩
                              have e1 : (ju : Int) - 1 = (p8 : Int) := by omega
                              have z1 : (p8 : Int) < (size : Int) := by omega
                              have c0 := F.cell hLv.st ju (by omega)
                              have c1 := F.cell hLv.st p8 (by omega)
                              have f0 := F.fz hLv.st ju
                              have f1 := F.fz hLv.st p8
                              obtain ⟨v', hv'⟩ := F.cell2 hLv ju p8 (by omega)
                              have hLw := F.swapAt hLv ju p8 (by omega) (by omega)
                              have Hhp8 := Lib.hid hp8
                              clear hp8
                              go_wp2
                              go_region
                              clear hv' f0 f1 c0 c1 z0 z1 e1
                              generalize World.drew _ = w8 at hLw ⊢
                              rw [Hhp8.out] at hLw
                              go_wp2_with fail
                              go_roundg (b - (ju + 1))
                              case measure => omega
                              case rel => exact ⟨ju + 1, swp du ju (ju - 1), by go_num, by omega, by omega, Nat.le_refl _, hLw, (show Hid _ from by rw [← HU.out, shiftUp_go fLt b ju du hjb' hlv3]; exact rfl)⟩
                            | false =>
                              have z0 : (ju : Int) < (size : Int) := by omega
                              obtain ⟨p9, hp9⟩ : ∃ p : Nat, p = ju - 1 := ⟨_, rfl⟩
                              have e1 : (ju : Int) - 1 = (p9 : Int) := by omega
                              have z1 : (p9 : Int) < (size : Int) := by omega
                              have c0 := F.cell hLu.st ju (by omega)
                              have c1 := F.cell hLu.st p9 (by omega)
                              have hvq := hlv3
                              rw [← hp9] at hvq
                              have Hhp9 := Lib.hid hp9
                              clear hp9
                              go_wp2
                              go_quiet ((go_at_call 154; exact quiet_eq (cmp_Less_at _ _ _ _ hvq)))
                              have hLv := hLu.drewN F.toBase nq
                              clear hvq c0 c1 z0 z1 e1
                              generalize World.drewN _ nq = w9 at hLv ⊢
                              go_wp2_with fail
                              go_roundg (5 - (s + 1))
                              case measure => omega
                              case rel => exact ⟨kx, s + 1, du, rfl, by go_num, by omega, Nat.le_refl _, by omega, by omega, hLv, (show Hid _ from by rw [← HO.out, pi_go fLt a b s i kx dk hs HK.out (by omega) h50, HD.out, show fixUp fLt b kx dj = du from by unfold fixUp; rw [if_pos hbk, ← HU.out, shiftUp_stop fLt b ju du (Or.inr hlv3)]]; exact rfl)⟩
                          · have hjz : ¬ (ju : Int) < (b : Int) := by omega
                            go_wp2
                            go_roundg (5 - (s + 1))
                            case measure => omega
                            case rel => exact ⟨kx, s + 1, du, rfl, by go_num, by omega, Nat.le_refl _, by omega, by omega, hLu, (show Hid _ from by rw [← HO.out, pi_go fLt a b s i kx dk hs HK.out (by omega) h50, HD.out, show fixUp fLt b kx dj = du from by unfold fixUp; rw [if_pos hbk, ← HU.out, shiftUp_stop fLt b ju du (Or.inl hjb')]]; exact rfl)⟩
                      · have hbkz : ¬ (2 : Int) ≤ (b : Int) - (kx : Int) := by omega
                        go_wp2_with fail
                        go_roundg (5 - (s + 1))
                        case measure => omega
                        case rel => exact ⟨kx, s + 1, dj, rfl, by go_num, by omega, Nat.le_refl _, by omega, by omega, hL4, (show Hid _ from by rw [← HO.out, pi_go fLt a b s i kx dk hs HK.out (by omega) h50, HD.out, show fixUp fLt b kx dj = dj from by unfold fixUp; rw [if_neg hbk]]; exact rfl)⟩
                  · have hj1z : ¬ (1 : Int) ≤ (j : Int) := by omega
                    have HD : Hid (fixDown fLt a kx (swp dk kx (kx - 1)) = dj) := by show _ = _; unfold fixDown; rw [if_pos hka, ← HDn.out, shiftDown_stop fLt j dj (Or.inl (by omega))]
                    by_cases hbk : b - kx ≥ 2
                    · have hbkz : (2 : Int) ≤ (b : Int) - (kx : Int) := by omega
                      go_wp2_with fail
                      go_loopg [10] (b - (kx + 1)) (fun g4 vj wr4 => ∃ (ju : Nat) (du : Array Nat), vj = .int .i64 ju ∧ kx + 1 ≤ ju ∧ ju ≤ b ∧ b - ju ≤ g4 ∧ Lies St g w du wr4 ∧ Hid (shiftUp fLt b ju du = shiftUp fLt b (kx + 1) dj))
                      case atStart => exact ⟨kx + 1, dj, by go_num, Nat.le_refl _, by omega, Nat.le_refl _, hL3, rfl⟩
                      case round =>
                        clear hL3
                        obtain ⟨ju, du, rfl, hkj, hjb, hg4, hLu, HU⟩ := hrel
                        by_cases hjb' : ju < b
                        · have hjz : (ju : Int) < (b : Int) := by omega
                          cases hlv3 : fLt du[ju]! du[ju - 1]! with
                          | true =>
                            have z0 : (ju : Int) < (size : Int) := by omega
                            obtain ⟨p10, hp10⟩ : ∃ p : Nat, p = ju - 1 := ⟨_, rfl⟩
                            have e1 : (ju : Int) - 1 = (p10 : Int) := by omega
                            have z1 : (p10 : Int) < (size : Int) := by omega
                            have c0 := F.cell hLu.st ju (by omega)
                            have c1 := F.cell hLu.st p10 (by omega)
                            have hvq := hlv3
                            rw [← hp10] at hvq
                            have Hhp10 := Lib.hid hp10
                            clear hp10
                            go_wp2
                            go_quiet ((go_at_call 154; exact quiet_eq (cmp_Less_at _ _ _ _ hvq)))
                            have hLv := hLu.drewN F.toBase nq
                            clear hvq c0 c1 z0 z1 e1
                            generalize World.drewN _ nq = w10 at hLv ⊢
                            have z0 : (ju : Int) < (size : Int) := by omega
                            obtain ⟨p11, hp11⟩ : ∃ p : Nat, p = ju - 1 := ⟨_, rfl⟩
                            have e1 : (ju : Int) - 1 = (p11 : Int) := by omega
                            have z1 : (p11 : Int) < (size : Int) := by omega
                            have c0 := F.cell hLv.st ju (by omega)
                            have c1 := F.cell hLv.st p11 (by omega)
                            have f0 := F.fz hLv.st ju
                            have f1 := F.fz hLv.st p11
                            obtain ⟨v', hv'⟩ := F.cell2 hLv ju p11 (by omega)
                            have hLw := F.swapAt hLv ju p11 (by omega) (by omega)
                            have Hhp11 := Lib.hid hp11
                            clear hp11
                            go_wp2
                            go_region
                            clear hv' f0 f1 c0 c1 z0 z1 e1
                            generalize World.drew _ = w11 at hLw ⊢
                            rw [Hhp11.out] at hLw
                            go_wp2_with fail
                            go_roundg (b - (ju + 1))
                            case measure => omega
                            case rel => exact ⟨ju + 1, swp du ju (ju - 1), by go_num, by omega, by omega, Nat.le_refl _, hLw, (show Hid _ from by rw [← HU.out, shiftUp_go fLt b ju du hjb' hlv3]; exact rfl)⟩
                          | false =>
                            have z0 : (ju : Int) < (size : Int) := by omega
                            obtain ⟨p12, hp12⟩ : ∃ p : Nat, p = ju - 1 := ⟨_, rfl⟩
                            have e1 : (ju : Int) - 1 = (p12 : Int) := by omega
                            have z1 : (p12 : Int) < (size : Int) := by omega
                            have c0 := F.cell hLu.st ju (by omega)
                            have c1 := F.cell hLu.st p12 (by omega)
                            have hvq := hlv3
                            rw [← hp12] at hvq
                            have Hhp12 := Lib.hid hp12
                            clear hp12
                            go_wp2
                            go_quiet ((go_at_call 154; exact quiet_eq (cmp_Less_at _ _ _ _ hvq)))
                            have hLv := hLu.drewN F.toBase nq
                            clear hvq c0 c1 z0 z1 e1
                            generalize World.drewN _ nq = w12 at hLv ⊢
                            go_wp2_with fail
                            go_roundg (5 - (s + 1))
                            case measure => omega
                            case rel => exact ⟨kx, s + 1, du, rfl, by go_num, by omega, Nat.le_refl _, by omega, by omega, hLv, (show Hid _ from by rw [← HO.out, pi_go fLt a b s i kx dk hs HK.out (by omega) h50, HD.out, show fixUp fLt b kx dj = du from by unfold fixUp; rw [if_pos hbk, ← HU.out, shiftUp_stop fLt b ju du (Or.inr hlv3)]]; exact rfl)⟩
                        · have hjz : ¬ (ju : Int) < (b : Int) := by omega
                          go_wp2
                          go_roundg (5 - (s + 1))
                          case measure => omega
                          case rel => exact ⟨kx, s + 1, du, rfl, by go_num, by omega, Nat.le_refl _, by omega, by omega, hLu, (show Hid _ from by rw [← HO.out, pi_go fLt a b s i kx dk hs HK.out (by omega) h50, HD.out, show fixUp fLt b kx dj = du from by unfold fixUp; rw [if_pos hbk, ← HU.out, shiftUp_stop fLt b ju du (Or.inl hjb')]]; exact rfl)⟩
                    · have hbkz : ¬ (2 : Int) ≤ (b : Int) - (kx : Int) := by omega
                      go_wp2_with fail
                      go_roundg (5 - (s + 1))
                      case measure => omega
                      case rel => exact ⟨kx, s + 1, dj, rfl, by go_num, by omega, Nat.le_refl _, by omega, by omega, hL3, (show Hid _ from by rw [← HO.out, pi_go fLt a b s i kx dk hs HK.out (by omega) h50, HD.out, show fixUp fLt b kx dj = dj from by unfold fixUp; rw [if_neg hbk]]; exact rfl)⟩
              · have hkaz : ¬ (2 : Int) ≤ (kx : Int) - (a : Int) := by omega
                have HD : Hid (fixDown fLt a kx (swp dk kx (kx - 1)) = (swp dk kx (kx - 1))) := by show _ = _; unfold fixDown; rw [if_neg hka]
                by_cases hbk : b - kx ≥ 2
                · have hbkz : (2 : Int) ≤ (b : Int) - (kx : Int) := by omega
                  go_wp2_with fail
                  go_loopg [10] (b - (kx + 1)) (fun g4 vj wr4 => ∃ (ju : Nat) (du : Array Nat), vj = .int .i64 ju ∧ kx + 1 ≤ ju ∧ ju ≤ b ∧ b - ju ≤ g4 ∧ Lies St g w du wr4 ∧ Hid (shiftUp fLt b ju du = shiftUp fLt b (kx + 1) (swp dk kx (kx - 1))))
                  case atStart => exact ⟨kx + 1, (swp dk kx (kx - 1)), by go_num, Nat.le_refl _, by omega, Nat.le_refl _, hL3, rfl⟩
                  case round =>
                    clear hL3
                    obtain ⟨ju, du, rfl, hkj, hjb, hg4, hLu, HU⟩ := hrel
                    by_cases hjb' : ju < b
                    · have hjz : (ju : Int) < (b : Int) := by omega
                      cases hlv3 : fLt du[ju]! du[ju - 1]! with
                      | true =>
                        have z0 : (ju : Int) < (size : Int) := by omega
                        obtain ⟨p13, hp13⟩ : ∃ p : Nat, p = ju - 1 := ⟨_, rfl⟩
                        have e1 : (ju : Int) - 1 = (p13 : Int) := by omega
                        have z1 : (p13 : Int) < (size : Int) := by omega
                        have c0 := F.cell hLu.st ju (by omega)
                        have c1 := F.cell hLu.st p13 (by omega)
                        have hvq := hlv3
                        rw [← hp13] at hvq
                        have Hhp13 := Lib.hid hp13
                        clear hp13
                        go_wp2
                        go_quiet ((go_at_call 154; exact quiet_eq (cmp_Less_at _ _ _ _ hvq)))
                        have hLv := hLu.drewN F.toBase nq
                        clear hvq c0 c1 z0 z1 e1
                        generalize World.drewN _ nq = w13 at hLv ⊢
                        have z0 : (ju : Int) < (size : Int) := by omega
                        obtain ⟨p14, hp14⟩ : ∃ p : Nat, p = ju - 1 := ⟨_, rfl⟩
                        have e1 : (ju : Int) - 1 = (p14 : Int) := by omega
                        have z1 : (p14 : Int) < (size : Int) := by omega
                        have c0 := F.cell hLv.st ju (by omega)
                        have c1 := F.cell hLv.st p14 (by omega)
                        have f0 := F.fz hLv.st ju
                        have f1 := F.fz hLv.st p14
                        obtain ⟨v', hv'⟩ := F.cell2 hLv ju p14 (by omega)
                        have hLw := F.swapAt hLv ju p14 (by omega) (by omega)
                        have Hhp14 := Lib.hid hp14
                        clear hp14
                        go_wp2
                        go_region
                        clear hv' f0 f1 c0 c1 z0 z1 e1
                        generalize World.drew _ = w14 at hLw ⊢
                        rw [Hhp14.out] at hLw
                        go_wp2_with fail
                        go_roundg (b - (ju + 1))
                        case measure => omega
                        case rel => exact ⟨ju + 1, swp du ju (ju - 1), by go_num, by omega, by omega, Nat.le_refl _, hLw, (show Hid _ from by rw [← HU.out, shiftUp_go fLt b ju du hjb' hlv3]; exact rfl)⟩
                      | false =>
                        have z0 : (ju : Int) < (size : Int) := by omega
                        obtain ⟨p15, hp15⟩ : ∃ p : Nat, p = ju - 1 := ⟨_, rfl⟩
                        have e1 : (ju : Int) - 1 = (p15 : Int) := by omega
                        have z1 : (p15 : Int) < (size : Int) := by omega
                        have c0 := F.cell hLu.st ju (by omega)
                        have c1 := F.cell hLu.st p15 (by omega)
                        have hvq := hlv3
                        rw [← hp15] at hvq
                        have Hhp15 := Lib.hid hp15
                        clear hp15
                        go_wp2
                        go_quiet ((go_at_call 154; exact quiet_eq (cmp_Less_at _ _ _ _ hvq)))
                        have hLv := hLu.drewN F.toBase nq
                        clear hvq c0 c1 z0 z1 e1
                        generalize World.drewN _ nq = w15 at hLv ⊢
                        go_wp2_with fail
                        go_roundg (5 - (s + 1))
                        case measure => omega
                        case rel => exact ⟨kx, s + 1, du, rfl, by go_num, by omega, Nat.le_refl _, by omega, by omega, hLv, (show Hid _ from by rw [← HO.out, pi_go fLt a b s i kx dk hs HK.out (by omega) h50, HD.out, show fixUp fLt b kx (swp dk kx (kx - 1)) = du from by unfold fixUp; rw [if_pos hbk, ← HU.out, shiftUp_stop fLt b ju du (Or.inr hlv3)]]; exact rfl)⟩
                    · have hjz : ¬ (ju : Int) < (b : Int) := by omega
                      go_wp2
                      go_roundg (5 - (s + 1))
                      case measure => omega
                      case rel => exact ⟨kx, s + 1, du, rfl, by go_num, by omega, Nat.le_refl _, by omega, by omega, hLu, (show Hid _ from by rw [← HO.out, pi_go fLt a b s i kx dk hs HK.out (by omega) h50, HD.out, show fixUp fLt b kx (swp dk kx (kx - 1)) = du from by unfold fixUp; rw [if_pos hbk, ← HU.out, shiftUp_stop fLt b ju du (Or.inl hjb')]]; exact rfl)⟩
                · have hbkz : ¬ (2 : Int) ≤ (b : Int) - (kx : Int) := by omega
                  exfalso; omega
        · obtain rfl : kx = b := by omega
          have hkz : ¬ (kx : Int) < (kx : Int) := by omega
          go_wp2
          go_quiet (fail)
          have hL1 := hL1.drewN F.toBase nq
          generalize World.drewN _ nq = wz at hL1 ⊢
          go_wp2
          have hv : Sort.partialInsertionSort fLt d a kx = (dk, true) := by
            unfold Sort.partialInsertionSort
            rw [← HO.out, pi_true fLt a kx s i dk hs (by rw [← HSc.out, scanSorted_stop fLt dk kx kx (Or.inl (by omega))])]
          rw [hv]
          go_ret
          exact ⟨rfl, hL1⟩
    · obtain rfl : s = 5 := by omega
      go_wp2
      have hv : Sort.partialInsertionSort fLt d a b = (dk, false) := by
        unfold Sort.partialInsertionSort
        rw [← HO.out, pi_end]
      rw [hv]
      go_ret
      exact ⟨rfl, hL1⟩
end
#print axioms fo_partialInsertionSort
end Go.Proofs.Ytaifikhgijnkgaa
