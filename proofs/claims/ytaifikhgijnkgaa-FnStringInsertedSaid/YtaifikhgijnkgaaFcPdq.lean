/- Contract of sort.pdqsort and sort.Sort over an interface value. Conditions: the bounds lie inside the row. -/
import Derived.Test.YtaifikhgijnkgaaFcIns
import Derived.Test.YtaifikhgijnkgaaFcPart
import Derived.Test.YtaifikhgijnkgaaFcPins
import Derived.Test.YtaifikhgijnkgaaFcPivot
namespace Go.Proofs.Ytaifikhgijnkgaa
open Go.RowKit
open Go.Sort hiding Below
set_option linter.unusedVariables false
set_option linter.unusedSectionVars false
section
variable {α : Type} [Inhabited α] {lt : α → α → Bool} {St : Array α → World → Prop} {B g size : Nat} {T : TypeId} {rv : Value} {gl : Nat} {rl : Value} {gs : Nat} {rs : Value}

set_option maxHeartbeats 12800000 in
set_option maxRecDepth 1000000 in
theorem fc_pdqsort (F : Face lt St B g size T rv gl rl gs rs) (hsz : size < 4611686018427387904) :
    ∀ (N a b limit : Nat) (d : Array α) (w : World), b - a < N → St d w → a ≤ b → b ≤ size → limit < 4611686018427387904 →
    Calls Try.prog 129 #[.iface T rv, .int .i64 a, .int .i64 b, .int .i64 limit] w fun e w' => e = .returned (.tuple #[]) ∧ Lies St g w (pdq lt d a b limit true true) w' := by
  have eL := F.enterL
  intro N
  induction N with
  | zero => intro _ _ _ _ _ h; exact absurd h (Nat.not_lt_zero _)
  | succ N ih =>
    intro a b limit d w hN hS hab hb hlimit
    have HL0 := Lib.hid (Lies.start (g := g) hS)
    clear hS
    go_enter Try.func129, Try.ntmps129
    go_wp2
    go_loopg [1, 2, 3, 8, 9] (b - a) (fun k s1 s2 s3 s8 s9 wr => ∃ (a' b' lim : Nat) (wb wp : Bool) (dk : Array α), s1 = .int .i64 a' ∧ s2 = .int .i64 b' ∧ s3 = .int .i64 lim ∧ s8 = .bool wb ∧ s9 = .bool wp ∧
      a' ≤ b' ∧ b' ≤ size ∧ b' - a' ≤ k ∧ k ≤ b - a ∧ lim ≤ limit ∧ Lies St g w dk wr ∧ Hid (pdq lt dk a' b' lim wb wp = pdq lt d a b limit true true))
    case atStart => exact ⟨a, b, limit, true, true, d, rfl, rfl, rfl, rfl, rfl, hab, hb, Nat.le_refl _, Nat.le_refl _, Nat.le_refl _, HL0.out, rfl⟩
    case round =>
      obtain ⟨a', b', lim, wb, wp, dk, rfl, rfl, rfl, rfl, rfl, hab', hb', hk, hkN, hlim, hL, A⟩ := hrel
      by_cases h12 : b' - a' ≤ 12
      · have h12z : (b' : Int) - (a' : Int) ≤ 12 := by omega
        have hc := Lib.hid (fc_insertionSort F hsz a' b' dk wr hL.st hab' hb')
        go_wp2_with fail
        refine hc.out.mono ?_
        rintro e w1 ⟨rfl, hw1⟩
        go_wp2_with fail
        (try simp only [Exit.inBlock, Exit.then]); refine bodyPost_ret (results_none rfl _ _ _) rfl ?_
        refine ⟨rfl, ?_⟩
        rw [← A.out, pdq_small h12]
        exact hL.trans hw1
      · have h12z : ¬ ((b' : Int) - (a' : Int) ≤ 12) := by omega
        by_cases hl0 : lim = 0
        · subst hl0
          have hc := Lib.hid (fc_heapSort F hsz a' b' dk wr hL.st hab' hb')
          go_wp2_with fail
          refine hc.out.mono ?_
          rintro e w1 ⟨rfl, hw1⟩
          go_wp2_with fail
          (try simp only [Exit.inBlock, Exit.then]); refine bodyPost_ret (results_none rfl _ _ _) rfl ?_
          refine ⟨rfl, ?_⟩
          rw [← A.out, pdq_heap h12 rfl]
          exact hL.trans hw1
        · have hl0z : ¬ ((lim : Int) = 0) := by omega
          have hc1 : a' ≤ (rd lt dk a' b' lim wb wp).c.1 ∧ (rd lt dk a' b' lim wb wp).c.1 < b' := choosePivot_holds lt (rd lt dk a' b' lim wb wp).d1 a' b' (by omega)
          have hpv : a' ≤ (rd lt dk a' b' lim wb wp).pivot ∧ (rd lt dk a' b' lim wb wp).pivot < b' := pivot_range hc1.1 hc1.2 ((rd lt dk a' b' lim wb wp).c.2 = .decreasing)
          -- 'if !wasBalanced { breakPatterns; limit-- }'
          go_upto_if 35 with fail
          go_cut [3] from 19 (fun s3 wc => s3 = .int .i64 (rd lt dk a' b' lim wb wp).lim ∧ Lies St g w (rd lt dk a' b' lim wb wp).d1 wc)
          case first =>
            cases wb
            · have hc := Lib.hid (fc_breakPatterns F hsz a' b' dk wr hL.st hab' hb')
              go_wp2_with fail
              refine hc.out.mono ?_
              rintro e w1 ⟨rfl, hw1⟩
              go_wp2_with fail
              go_meet
              case rel =>
                refine ⟨?_, hL.trans hw1⟩
                show Value.int .i64 ((lim : Int) - 1) = Value.int .i64 ((lim - 1 : Nat) : Int)
                congr 1
                omega
            · go_wp2_with fail
              go_meet
              case rel => exact ⟨rfl, hL⟩
          case rest =>
            clear hL
            obtain ⟨rfl, hL1⟩ := hcut
            have hc17 : Hid (Calls Try.prog 159 #[.iface T rv, .int .i64 a', .int .i64 b'] wc fun e w' => e = .returned (.tuple #[.int .i64 (rd lt dk a' b' lim wb wp).c.1, .int .i64 (hintCode (rd lt dk a' b' lim wb wp).c.2)]) ∧ Lies St g wc (rd lt dk a' b' lim wb wp).d1 w') :=
              Lib.hid (fc_choosePivot F hsz a' b' (rd lt dk a' b' lim wb wp).d1 wc hL1.st (by omega) hb')
            go_upto_if 50 with (go_at_call 159; refine hc17.out.mono ?_; rintro e w2 ⟨rfl, hw2⟩)
            have hL2 : Lies St g w (rd lt dk a' b' lim wb wp).d1 w2 := hL1.trans hw2
            clear hL1 hw2 hc17
            -- 'if hint == decreasingHint { reverseRange; pivot = ..; hint = increasingHint }'
            go_cut [11, 12] from 19 (fun s11 s12 wc => s11 = .int .i64 (rd lt dk a' b' lim wb wp).pivot ∧ s12 = .int .i64 (hintCode (rd lt dk a' b' lim wb wp).hint) ∧ Lies St g w (rd lt dk a' b' lim wb wp).d2 wc)
            case first =>
              by_cases hh : (rd lt dk a' b' lim wb wp).c.2 = .decreasing
              · have hcode : hintCode (rd lt dk a' b' lim wb wp).c.2 = 2 := by rw [hh]; rfl
                obtain ⟨e2, epv, eht⟩ := rd_dec hh
                have E := Lib.hid (And.intro e2 (And.intro epv eht))
                have hc18 := Lib.hid (fc_reverseRange F hsz a' b' (rd lt dk a' b' lim wb wp).d1 w2 hL2.st hab' hb')
                clear e2 epv eht hh
                go_wp2_with fail
                refine hc18.out.mono ?_
                rintro e w3 ⟨rfl, hw3⟩
                go_wp2_with fail
                go_meet
                case rel =>
                  obtain ⟨e2, epv, eht⟩ := E.out
                  refine ⟨?_, by rw [eht]; rfl, by rw [e2]; exact hL2.trans hw3⟩
                  rw [epv]
                  congr 1
                  omega
              · have hcode : ¬ (hintCode (rd lt dk a' b' lim wb wp).c.2 = 2) := fun h => hh (hintCode_two h)
                obtain ⟨e2, epv, eht⟩ := rd_not hh
                have E := Lib.hid (And.intro e2 (And.intro epv eht))
                clear e2 epv eht hh
                go_wp2_with fail
                go_meet
                case rel =>
                  obtain ⟨e2, epv, eht⟩ := E.out
                  exact ⟨by rw [epv], by rw [eht], by rw [e2]; exact hL2⟩
            case rest =>
              clear hL2
              obtain ⟨rfl, rfl, hL3⟩ := hcut
              -- the test 'wasBalanced && wasPartitioned && hint == increasingHint'
              go_upto_region 15 with fail
              go_cut [12, 68] from 19 (fun s12 s68 wx => s12 = .int .i64 (hintCode (rd lt dk a' b' lim wb wp).hint) ∧ s68 = .bool (wb && wp && decide ((rd lt dk a' b' lim wb wp).hint = .increasing)) ∧ wx = wc)
              case first =>
                cases wb <;> cases wp <;> cases hh3 : (rd lt dk a' b' lim _ _).hint <;>
                  (have hcode3 := congrArg hintCode hh3
                   simp only [hintCode] at hcode3
                   go_wp2_with fail
                   go_meet
                   exact ⟨by simp [hh3, hintCode], by simp [hh3, hintCode], rfl⟩)
              case rest =>
                obtain ⟨rfl, rfl, rfl⟩ := hcut
                go_upto_if 68 with fail
                go_cut [] from 19 (fun wx => (rd lt dk a' b' lim wb wp).pi.2 = false ∧ Lies St g w (rd lt dk a' b' lim wb wp).pi.1 wx)
                case first =>
                  cases h68 : (wb && wp && decide ((rd lt dk a' b' lim wb wp).hint = .increasing))
                  · have epi := Lib.hid (rd_pi_no h68)
                    go_wp2_with fail
                    go_meet
                    case rel => exact ⟨by rw [epi.out], by rw [epi.out]; exact hL3⟩
                  · have epi := rd_pi_yes h68
                    have hc19 := fc_partialInsertionSort F hsz a' b' (rd lt dk a' b' lim wb wp).d2 wc hL3.st (by omega) hb'
                    rw [← epi] at hc19
                    have HC19 := Lib.hid hc19
                    clear epi hc19
                    go_wp2_with fail
                    refine HC19.out.mono ?_
                    rintro e w4 ⟨rfl, hw4⟩
                    cases hp2 : (rd lt dk a' b' lim wb wp).pi.2
                    · go_wp2_with fail
                      go_meet
                      case rel => exact ⟨hp2, hL3.trans hw4⟩
                    · go_wp2_with fail
                      (try simp only [Exit.inBlock, Exit.then]); refine bodyPost_ret (results_none rfl _ _ _) rfl ?_
                      refine ⟨rfl, ?_⟩
                      rw [← A.out, pdq_done h12 hl0 hp2]
                      exact hL3.trans hw4
                case rest =>
                  clear hL3
                  obtain ⟨hp2, hL5⟩ := hcut
                  have HP2 := Lib.hid hp2
                  clear hp2
                  -- the test 'a > 0 && !data.Less(a-1, pivot)'
                  go_upto_region 17 with fail
                  go_cut [82] from 19 (fun s82 wx => s82 = .bool (decide (a' > 0) && !lt (rd lt dk a' b' lim wb wp).pi.1[a' - 1]! (rd lt dk a' b' lim wb wp).pi.1[(rd lt dk a' b' lim wb wp).pivot]!) ∧ Lies St g w (rd lt dk a' b' lim wb wp).pi.1 wx)
                  case first =>
                    rcases Nat.eq_zero_or_pos a' with ha0 | ha0
                    · have ha0z : decide ((a' : Int) > 0) = false := decide_eq_false (by omega)
                      go_wp2_with fail
                      go_meet
                      case rel => exact ⟨by simp [ha0], hL5⟩
                    · have ha0z : (a' : Int) > 0 := by omega
                      have mL := F.findL hL5.st
                      cases hlv : lt (rd lt dk a' b' lim wb wp).pi.1[a' - 1]! (rd lt dk a' b' lim wb wp).pi.1[(rd lt dk a' b' lim wb wp).pivot]! <;>
                        (have hl := Lib.hid (F.lessAt hL5 (a' - 1) (rd lt dk a' b' lim wb wp).pivot (by omega) (by omega) (x := (a' : Int) - 1) (y := (rd lt dk a' b' lim wb wp).pivot) (by omega) rfl hlv)
                         go_wp2_with fail
                         refine hl.out.mono ?_
                         rintro e w' ⟨rfl, hL6⟩
                         go_wp2_with fail
                         go_meet
                         exact ⟨by simp [ha0, hlv], hL6⟩)
                  case rest =>
                    clear hL5
                    obtain ⟨rfl, hL6⟩ := hcut
                    have hds := F.len hL6.st
                    cases h87 : (decide (a' > 0) && !lt (rd lt dk a' b' lim wb wp).pi.1[a' - 1]! (rd lt dk a' b' lim wb wp).pi.1[(rd lt dk a' b' lim wb wp).pivot]!)
                    · -- 'mid, alreadyPartitioned := partition(..)'
                      have r12 := partition_range (lt := lt) (rd lt dk a' b' lim wb wp).pi.1 a' b' (rd lt dk a' b' lim wb wp).pivot hpv.1 hpv.2 (by omega)
                      obtain ⟨mid, ap, d4, hx⟩ : ∃ mid ap d4, partition lt (rd lt dk a' b' lim wb wp).pi.1 a' b' (rd lt dk a' b' lim wb wp).pivot = (mid, ap, d4) := ⟨_, _, _, rfl⟩
                      have hc22 := fc_partition F hsz a' b' (rd lt dk a' b' lim wb wp).pivot (rd lt dk a' b' lim wb wp).pi.1 wc hL6.st hpv.1 hpv.2 hb'
                      rw [hx] at hc22 r12
                      obtain ⟨r1, r2⟩ : a' ≤ mid ∧ mid < b' := r12
                      have HC22 := Lib.hid hc22
                      have X := Lib.hid hx
                      clear hx hc22
                      go_upto_if 108 with (go_at_call 163; refine HC22.out.mono ?_; rintro e w7 ⟨rfl, hw7⟩)
                      have hL7 : Lies St g w d4 w7 := hL6.trans hw7
                      clear hL6 hw7 HC22
                      by_cases h4 : mid - a' < b' - mid
                      · have h4z : (mid : Int) - (a' : Int) < (b' : Int) - (mid : Int) := by omega
                        have hih := Lib.hid (ih a' mid (rd lt dk a' b' lim wb wp).lim d4 w7 (by omega) hL7.st (by omega) (by omega) (Nat.lt_of_le_of_lt (Nat.le_trans rd_lim_le hlim) hlimit))
                        go_wp2_with fail
                        refine hih.out.mono ?_
                        rintro e w8 ⟨rfl, hw8⟩
                        go_wp2_with fail
                        go_roundg (b' - (mid + 1))
                        case measure => omega
                        case rel =>
                          have hx := X.out
                          refine ⟨mid + 1, b', (rd lt dk a' b' lim wb wp).lim, decide (mid - a' ≥ (b' - a') / 8), ap, pdq lt d4 a' mid (rd lt dk a' b' lim wb wp).lim true true, by simp, rfl, rfl, ?_, rfl, by omega, by omega, Nat.le_refl _, by omega, Nat.le_trans rd_lim_le hlim, hL7.trans hw8, (show Hid _ from ?_)⟩
                          · exact congrArg Value.bool (eighth (by omega) (by omega))
                          · rw [← A.out, pdq_left h12 hl0 HP2.out h87 (by rw [hx]; exact ⟨r1, r2⟩) (by rw [hx]; exact h4), hx]
                            exact rfl
                      · have h4z : ¬ ((mid : Int) - (a' : Int) < (b' : Int) - (mid : Int)) := by omega
                        have hih := ih (mid + 1) b' (rd lt dk a' b' lim wb wp).lim d4 w7 (by omega) hL7.st (by omega) (by omega) (Nat.lt_of_le_of_lt (Nat.le_trans rd_lim_le hlim) hlimit)
                        rw [show ((mid + 1 : Nat) : Int) = (mid : Int) + 1 by omega] at hih
                        have HIH := Lib.hid hih
                        clear hih
                        go_wp2_with fail
                        refine HIH.out.mono ?_
                        rintro e w8 ⟨rfl, hw8⟩
                        go_wp2_with fail
                        go_roundg (mid - a')
                        case measure => omega
                        case rel =>
                          have hx := X.out
                          refine ⟨a', mid, (rd lt dk a' b' lim wb wp).lim, decide (b' - mid ≥ (b' - a') / 8), ap, pdq lt d4 (mid + 1) b' (rd lt dk a' b' lim wb wp).lim true true, rfl, rfl, rfl, ?_, rfl, by omega, by omega, Nat.le_refl _, by omega, Nat.le_trans rd_lim_le hlim, hL7.trans hw8, (show Hid _ from ?_)⟩
                          · exact congrArg Value.bool (eighth (by omega) (by omega))
                          · rw [← A.out, pdq_right h12 hl0 HP2.out h87 (by rw [hx]; exact ⟨r1, r2⟩) (by rw [hx]; exact h4), hx]
                            exact rfl
                    · -- 'mid := partitionEqual(..); a = mid; continue'
                      have r12 := partitionEqual_range (lt := lt) (rd lt dk a' b' lim wb wp).pi.1 a' b' (rd lt dk a' b' lim wb wp).pivot hpv.1 hpv.2 (by omega)
                      obtain ⟨mid, d4, hx⟩ : ∃ mid d4, partitionEqual lt (rd lt dk a' b' lim wb wp).pi.1 a' b' (rd lt dk a' b' lim wb wp).pivot = (mid, d4) := ⟨_, _, rfl⟩
                      have hc21 := fc_partitionEqual F hsz a' b' (rd lt dk a' b' lim wb wp).pivot (rd lt dk a' b' lim wb wp).pi.1 wc hL6.st hpv.1 hpv.2 hb'
                      rw [hx] at hc21 r12
                      obtain ⟨r1, r2⟩ : a' < mid ∧ mid ≤ b' := r12
                      have HC21 := Lib.hid hc21
                      have X := Lib.hid hx
                      clear hx hc21
                      go_wp2_with fail
                      refine HC21.out.mono ?_
                      rintro e w7 ⟨rfl, hw7⟩
                      go_wp2_with fail
                      go_roundg (b' - mid)
                      case measure => omega
                      case rel =>
                        have hx := X.out
                        exact ⟨mid, b', (rd lt dk a' b' lim wb wp).lim, wb, wp, d4, rfl, rfl, rfl, rfl, rfl, r2, hb', Nat.le_refl _, by omega, Nat.le_trans rd_lim_le hlim, hL6.trans hw7, (show Hid _ from by rw [← A.out, pdq_eq h12 hl0 HP2.out h87 (by rw [hx]; exact ⟨r1, r2⟩), hx]; exact rfl)⟩
end
#print axioms fc_pdqsort
end Go.Proofs.Ytaifikhgijnkgaa
