/- Contracts of sort.partitionEqual and sort.partition over an interface value. Conditions: the bounds lie inside the row. -/
import Derived.Test.YtaifikhgijnkgaaFace
namespace Go.Proofs.Ytaifikhgijnkgaa
open Go.RowKit
open Go.Sort hiding Below
set_option linter.unusedVariables false
set_option linter.unusedSectionVars false
section
variable {α : Type} [Inhabited α] {lt : α → α → Bool} {St : Array α → World → Prop} {B g size : Nat} {T : TypeId} {rv : Value} {gl : Nat} {rl : Value} {gs : Nat} {rs : Value}

set_option maxHeartbeats 12800000 in
set_option maxRecDepth 100000 in
theorem fc_partitionEqual (F : Face lt St B g size T rv gl rl gs rs) (hsz : size < 4611686018427387904) (a b pivot : Nat) (d : Array α) (w : World) (hS : St d w) (hap : a ≤ pivot) (hpb : pivot < b) (hb : b ≤ size) :
    Calls Try.prog 162 #[.iface T rv, .int .i64 a, .int .i64 b, .int .i64 pivot] w fun e w' => e = .returned (.int .i64 (Sort.partitionEqual lt d a b pivot).1) ∧ Lies St g w (Sort.partitionEqual lt d a b pivot).2 w' := by
  have eL := F.enterL; have eS := F.enterS
  have hL0 := Lies.start (g := g) hS
  clear hS
  go_enter Try.func162, Try.ntmps162
  have mS1 := F.findS hL0.st
  go_wp2_with fail
  refine (F.swapAt hL0 (a) (pivot) (by omega) (by omega) (by omega) (by omega)).mono ?_
  rintro e w1 ⟨rfl, hL1⟩
  clear mS1
  clear hL0
  go_wp2_with fail
  go_loopw [9, 10] (fun vi vj wr => ∃ (i j : Nat) (dk : Array α), vi = .int .i64 i ∧ vj = .int .i64 j ∧ a < i ∧ i ≤ j + 1 ∧ j < b ∧ Lies St g w dk wr ∧ Hid (partEqLoop lt a i j dk = partEqLoop lt a (a + 1) (b - 1) (swp d a pivot))) (fun vi vj _ => (intOf vj).toNat + 1 - (intOf vi).toNat)
  case atStart => exact ⟨a + 1, b - 1, swp d a pivot, by go_num, by go_num, by omega, by omega, by omega, hL1, rfl⟩
  case round =>
    clear hL1
    obtain ⟨i, j, dk, rfl, rfl, hai, hij, hjb, hL1, AE⟩ := hrel
    go_wp2
    go_loopw [9] (fun vi w1 => ∃ (i' : Nat), vi = .int .i64 i' ∧ i ≤ i' ∧ i' ≤ j + 1 ∧ Lies St g w dk w1 ∧ Hid (scanUp (fun x => !lt dk[a]! x) dk j i' = scanUp (fun x => !lt dk[a]! x) dk j i)) (fun vi _ => j + 1 - (intOf vi).toNat)
    case atStart => exact ⟨i, rfl, Nat.le_refl _, hij, hL1, rfl⟩
    case round =>
      clear hL1
      obtain ⟨i', rfl, hii, hij', hL1, hsc⟩ := hrel
      by_cases hle : i' ≤ j
      · cases hlv : lt dk[a]! dk[i']! with
        | false =>
          have mL2 := F.findL hL1.st
          go_wp2_with fail
          refine (F.lessAt hL1 (a) (i') (by omega) (by omega) (by omega) (by omega) hlv).mono ?_
          rintro e w2 ⟨rfl, hL2⟩
          clear mL2
          go_wp2_with fail
          go_roundw
          case rel => exact ⟨i' + 1, by go_num, by omega, by omega, hL2, (scanUp_go (fun x => !lt dk[a]! x) dk j i' hle (by simp [hlv])).symm.trans hsc.out⟩
          case measure => simp [intOf]; omega
        | true =>
          have hi2 : Hid (i' = scanUp (fun x => !lt dk[a]! x) dk j i) := (scanUp_end (fun x => !lt dk[a]! x) dk j i' (Or.inr (by simp [hlv]))).symm.trans hsc.out
          have mL3 := F.findL hL1.st
          go_wp2_with fail
          refine (F.lessAt hL1 (a) (i') (by omega) (by omega) (by omega) (by omega) hlv).mono ?_
          rintro e w3 ⟨rfl, hL2⟩
          clear mL3
          clear hL1 hsc
          go_wp2_with fail
          go_loopw [10] (fun vj w2 => ∃ (j' : Nat), vj = .int .i64 j' ∧ j' ≤ j ∧ i' ≤ j' + 1 ∧ Lies St g w dk w2 ∧ Hid (scanDown (fun x => lt dk[a]! x) dk i' j' = scanDown (fun x => lt dk[a]! x) dk i' j)) (fun vj _ => (intOf vj).toNat)
          case atStart => exact ⟨j, rfl, Nat.le_refl _, hij', hL2, rfl⟩
          case round =>
            clear hL2
            obtain ⟨j', rfl, hjj, hij2, hL3, hsd⟩ := hrel
            by_cases hle2 : i' ≤ j'
            · cases hlv2 : lt dk[a]! dk[j']! with
              | true =>
                have mL4 := F.findL hL3.st
                go_wp2_with fail
                refine (F.lessAt hL3 (a) (j') (by omega) (by omega) (by omega) (by omega) hlv2).mono ?_
                rintro e w4 ⟨rfl, hL4⟩
                clear mL4
                go_wp2_with fail
                go_roundw
                case rel => exact ⟨j' - 1, by go_num, by omega, by omega, hL4, (scanDown_go (fun x => lt dk[a]! x) dk i' j' hle2 (by omega) hlv2).symm.trans hsd.out⟩
                case measure => simp [intOf]; omega
              | false =>
                have hj2 : Hid (j' = scanDown (fun x => lt dk[a]! x) dk i' j) := (scanDown_end (fun x => lt dk[a]! x) dk i' j' (Or.inr hlv2)).symm.trans hsd.out
                have hlt3 := scans_lt lt a i j dk (by omega) hi2.out hj2.out hle2
                have mL5 := F.findL hL3.st
                go_wp2_with fail
                refine (F.lessAt hL3 (a) (j') (by omega) (by omega) (by omega) (by omega) hlv2).mono ?_
                rintro e w5 ⟨rfl, hL4⟩
                clear mL5
                clear hL3 hsd
                have mS6 := F.findS hL4.st
                go_wp2_with fail
                refine (F.swapAt hL4 (i') (j') (by omega) (by omega) (by omega) (by omega)).mono ?_
                rintro e w6 ⟨rfl, hL5⟩
                clear mS6
                go_wp2_with fail
                go_roundw
                case rel => exact ⟨i' + 1, j' - 1, swp dk i' j', by go_num, by go_num, by omega, by omega, by omega, hL5, (show Hid _ from by rw [← AE.out]; exact (partEq_go lt a i j dk hi2.out hj2.out (by omega)).symm)⟩
                case measure => simp [intOf]; omega
            · have hj2 : Hid (j' = scanDown (fun x => lt dk[a]! x) dk i' j) := (scanDown_end (fun x => lt dk[a]! x) dk i' j' (Or.inl hle2)).symm.trans hsd.out
              clear hsd
              go_wp2
              go_ret
              have e := partEq_break lt a i j dk hi2.out hj2.out (by omega)
              unfold Sort.partitionEqual
              rw [← AE.out, e]
              exact ⟨rfl, hL3⟩
      · have hi2 : Hid (i' = scanUp (fun x => !lt dk[a]! x) dk j i) := (scanUp_end (fun x => !lt dk[a]! x) dk j i' (Or.inl hle)).symm.trans hsc.out
        clear hsc
        go_wp2
        go_loopw [10] (fun vj w2 => ∃ (j' : Nat), vj = .int .i64 j' ∧ j' ≤ j ∧ i' ≤ j' + 1 ∧ Lies St g w dk w2 ∧ Hid (scanDown (fun x => lt dk[a]! x) dk i' j' = scanDown (fun x => lt dk[a]! x) dk i' j)) (fun vj _ => (intOf vj).toNat)
        case atStart => exact ⟨j, rfl, Nat.le_refl _, hij', hL1, rfl⟩
        case round =>
          clear hL1
          obtain ⟨j', rfl, hjj, hij2, hL3, hsd⟩ := hrel
          by_cases hle2 : i' ≤ j'
          · exfalso; omega
          · have hj2 : Hid (j' = scanDown (fun x => lt dk[a]! x) dk i' j) := (scanDown_end (fun x => lt dk[a]! x) dk i' j' (Or.inl hle2)).symm.trans hsd.out
            clear hsd
            go_wp2
            go_ret
            have e := partEq_break lt a i j dk hi2.out hj2.out (by omega)
            unfold Sort.partitionEqual
            rw [← AE.out, e]
            exact ⟨rfl, hL3⟩

set_option maxHeartbeats 12800000 in
set_option maxRecDepth 100000 in
theorem fc_partition (F : Face lt St B g size T rv gl rl gs rs) (hsz : size < 4611686018427387904) (a b pivot : Nat) (d : Array α) (w : World) (hS : St d w) (hap : a ≤ pivot) (hpb : pivot < b) (hb : b ≤ size) :
    Calls Try.prog 163 #[.iface T rv, .int .i64 a, .int .i64 b, .int .i64 pivot] w fun e w' => e = .returned (.tuple #[.int .i64 (Sort.partition lt d a b pivot).1, .bool (Sort.partition lt d a b pivot).2.1]) ∧ Lies St g w (Sort.partition lt d a b pivot).2.2 w' := by
  have eL := F.enterL; have eS := F.enterS
  have hL0 := Lies.start (g := g) hS
  clear hS
  obtain ⟨i, hi⟩ : ∃ i : Nat, i = a + 1 := ⟨_, rfl⟩
  obtain ⟨j, hj⟩ : ∃ j : Nat, j = b - 1 := ⟨_, rfl⟩
  obtain ⟨dk, hdk⟩ : ∃ dk : Array α, dk = swp d a pivot := ⟨_, rfl⟩
  have hai : a < i := by omega
  have hij : i ≤ j + 1 := by omega
  have hjb : j < b := by omega
  have Hi : Hid (i = a + 1) := hi
  have Hj : Hid (j = b - 1) := hj
  have Hdk : Hid (dk = swp d a pivot) := hdk
  clear hi hj hdk
  go_enter Try.func163, Try.ntmps163
  have mS7 := F.findS hL0.st
  go_wp2_with fail
  refine (F.swapAt hL0 (a) (pivot) (by omega) (by omega) (by omega) (by omega)).mono ?_
  rintro e w7 ⟨rfl, hL1⟩
  clear mS7
  clear hL0
  rw [← Hdk.out] at hL1
  go_wp2_with fail
  rw [show ((a : Int) + 1) = (i : Int) by have := Hi.out; omega, show ((b : Int) - 1) = (j : Int) by have := Hj.out; omega]
  go_loopw [10] (fun vi w1 => ∃ (i' : Nat), vi = .int .i64 i' ∧ i ≤ i' ∧ i' ≤ j + 1 ∧ Lies St g w dk w1 ∧ Hid (scanUp (fun x => lt x dk[a]!) dk j i' = scanUp (fun x => lt x dk[a]!) dk j i)) (fun vi _ => j + 1 - (intOf vi).toNat)
  case atStart => exact ⟨i, rfl, Nat.le_refl _, hij, hL1, rfl⟩
  case round =>
    clear hL1
    obtain ⟨i', rfl, hii, hij', hL1, hsc⟩ := hrel
    by_cases hle : i' ≤ j
    · cases hlv : lt dk[i']! dk[a]! with
      | true =>
        have mL8 := F.findL hL1.st
        go_wp2_with fail
        refine (F.lessAt hL1 (i') (a) (by omega) (by omega) (by omega) (by omega) hlv).mono ?_
        rintro e w8 ⟨rfl, hL2⟩
        clear mL8
        go_wp2_with fail
        go_roundw
        case rel => exact ⟨i' + 1, by go_num, by omega, by omega, hL2, (scanUp_go (fun x => lt x dk[a]!) dk j i' hle hlv).symm.trans hsc.out⟩
        case measure => simp [intOf]; omega
      | false =>
        have hi2 : Hid (i' = scanUp (fun x => lt x dk[a]!) dk j i) := (scanUp_end (fun x => lt x dk[a]!) dk j i' (Or.inr hlv)).symm.trans hsc.out
        have mL9 := F.findL hL1.st
        go_wp2_with fail
        refine (F.lessAt hL1 (i') (a) (by omega) (by omega) (by omega) (by omega) hlv).mono ?_
        rintro e w9 ⟨rfl, hL2⟩
        clear mL9
        clear hL1 hsc
        go_wp2_with fail
        go_loopw [11] (fun vj w2 => ∃ (j' : Nat), vj = .int .i64 j' ∧ j' ≤ j ∧ i' ≤ j' + 1 ∧ Lies St g w dk w2 ∧ Hid (scanDown (fun x => !lt x dk[a]!) dk i' j' = scanDown (fun x => !lt x dk[a]!) dk i' j)) (fun vj _ => (intOf vj).toNat)
        case atStart => exact ⟨j, rfl, Nat.le_refl _, hij', hL2, rfl⟩
        case round =>
          clear hL2
          obtain ⟨j', rfl, hjj, hij2, hL3, hsd⟩ := hrel
          by_cases hle2 : i' ≤ j'
          · cases hlv2 : lt dk[j']! dk[a]! with
            | false =>
              have mL10 := F.findL hL3.st
              go_wp2_with fail
              refine (F.lessAt hL3 (j') (a) (by omega) (by omega) (by omega) (by omega) hlv2).mono ?_
              rintro e w10 ⟨rfl, hL4⟩
              clear mL10
              go_wp2_with fail
              go_roundw
              case rel => exact ⟨j' - 1, by go_num, by omega, by omega, hL4, (scanDown_go (fun x => !lt x dk[a]!) dk i' j' hle2 (by omega) (by simp [hlv2])).symm.trans hsd.out⟩
              case measure => simp [intOf]; omega
            | true =>
              have hj2 : Hid (j' = scanDown (fun x => !lt x dk[a]!) dk i' j) := (scanDown_end (fun x => !lt x dk[a]!) dk i' j' (Or.inr (by simp [hlv2]))).symm.trans hsd.out
              have hlt3 := part_scans_lt lt a i j dk (by omega) hi2.out hj2.out hle2
              have mL11 := F.findL hL3.st
              go_wp2_with fail
              refine (F.lessAt hL3 (j') (a) (by omega) (by omega) (by omega) (by omega) hlv2).mono ?_
              rintro e w11 ⟨rfl, hL4⟩
              clear mL11
              clear hL3 hsd
              have mS12 := F.findS hL4.st
              go_wp2_with fail
              refine (F.swapAt hL4 (i') (j') (by omega) (by omega) (by omega) (by omega)).mono ?_
              rintro e w12 ⟨rfl, hL5⟩
              clear mS12
              go_wp2_with fail
              (try rw [decide_eq_false (show ¬ j' < i' by omega)])
              obtain ⟨I0, hI0⟩ : ∃ I0 : Nat, I0 = i' + 1 := ⟨_, rfl⟩
              obtain ⟨J0, hJ0⟩ : ∃ J0 : Nat, J0 = j' - 1 := ⟨_, rfl⟩
              obtain ⟨D0, hD0⟩ : ∃ D0 : Array α, D0 = swp dk i' j' := ⟨_, rfl⟩
              have PF : Hid (Sort.partition lt d a b pivot = ((partLoop lt a I0 J0 D0).1, false, swp (partLoop lt a I0 J0 D0).2 (partLoop lt a I0 J0 D0).1 a)) := by
                rw [hI0, hJ0, hD0]; exact part_first_go lt d a b pivot Hi.out Hj.out Hdk.out hi2.out hj2.out (by omega)
              go_loopw [10, 11] (fun vi vj wr => ∃ (i j : Nat) (dk : Array α), vi = .int .i64 i ∧ vj = .int .i64 j ∧ a < i ∧ i ≤ j + 1 ∧ j < b ∧ Lies St g w dk wr ∧ Hid (partLoop lt a i j dk = partLoop lt a I0 J0 D0)) (fun vi vj _ => (intOf vj).toNat + 1 - (intOf vi).toNat)
              case atStart => exact ⟨i' + 1, j' - 1, swp dk i' j', by go_num, by go_num, by omega, by omega, by omega, hL5, (show Hid _ from by rw [hI0, hJ0, hD0]; exact rfl)⟩
              case round =>
                clear hI0 hJ0 hD0 hj2 hi2 hlt3 Hi Hj Hdk hL5 hL4
                obtain ⟨i, j, dk, rfl, rfl, hai, hij, hjb, hL1, AE⟩ := hrel
                go_wp2
                go_loopw [10] (fun vi w1 => ∃ (i' : Nat), vi = .int .i64 i' ∧ i ≤ i' ∧ i' ≤ j + 1 ∧ Lies St g w dk w1 ∧ Hid (scanUp (fun x => lt x dk[a]!) dk j i' = scanUp (fun x => lt x dk[a]!) dk j i)) (fun vi _ => j + 1 - (intOf vi).toNat)
                case atStart => exact ⟨i, rfl, Nat.le_refl _, hij, hL1, rfl⟩
                case round =>
                  clear hL1
                  obtain ⟨i', rfl, hii, hij', hL1, hsc⟩ := hrel
                  by_cases hle : i' ≤ j
                  · cases hlv : lt dk[i']! dk[a]! with
                    | true =>
                      have mL13 := F.findL hL1.st
                      go_wp2_with fail
                      refine (F.lessAt hL1 (i') (a) (by omega) (by omega) (by omega) (by omega) hlv).mono ?_
                      rintro e w13 ⟨rfl, hL2⟩
                      clear mL13
                      go_wp2_with fail
                      go_roundw
                      case rel => exact ⟨i' + 1, by go_num, by omega, by omega, hL2, (scanUp_go (fun x => lt x dk[a]!) dk j i' hle hlv).symm.trans hsc.out⟩
                      case measure => simp [intOf]; omega
                    | false =>
                      have hi2 : Hid (i' = scanUp (fun x => lt x dk[a]!) dk j i) := (scanUp_end (fun x => lt x dk[a]!) dk j i' (Or.inr hlv)).symm.trans hsc.out
                      have mL14 := F.findL hL1.st
                      go_wp2_with fail
                      refine (F.lessAt hL1 (i') (a) (by omega) (by omega) (by omega) (by omega) hlv).mono ?_
                      rintro e w14 ⟨rfl, hL2⟩
                      clear mL14
                      clear hL1 hsc
                      go_wp2_with fail
                      go_loopw [11] (fun vj w2 => ∃ (j' : Nat), vj = .int .i64 j' ∧ j' ≤ j ∧ i' ≤ j' + 1 ∧ Lies St g w dk w2 ∧ Hid (scanDown (fun x => !lt x dk[a]!) dk i' j' = scanDown (fun x => !lt x dk[a]!) dk i' j)) (fun vj _ => (intOf vj).toNat)
                      case atStart => exact ⟨j, rfl, Nat.le_refl _, hij', hL2, rfl⟩
                      case round =>
                        clear hL2
                        obtain ⟨j', rfl, hjj, hij2, hL3, hsd⟩ := hrel
                        by_cases hle2 : i' ≤ j'
                        · cases hlv2 : lt dk[j']! dk[a]! with
                          | false =>
                            have mL15 := F.findL hL3.st
                            go_wp2_with fail
                            refine (F.lessAt hL3 (j') (a) (by omega) (by omega) (by omega) (by omega) hlv2).mono ?_
                            rintro e w15 ⟨rfl, hL4⟩
                            clear mL15
                            go_wp2_with fail
                            go_roundw
                            case rel => exact ⟨j' - 1, by go_num, by omega, by omega, hL4, (scanDown_go (fun x => !lt x dk[a]!) dk i' j' hle2 (by omega) (by simp [hlv2])).symm.trans hsd.out⟩
                            case measure => simp [intOf]; omega
                          | true =>
                            have hj2 : Hid (j' = scanDown (fun x => !lt x dk[a]!) dk i' j) := (scanDown_end (fun x => !lt x dk[a]!) dk i' j' (Or.inr (by simp [hlv2]))).symm.trans hsd.out
                            have hlt3 := part_scans_lt lt a i j dk (by omega) hi2.out hj2.out hle2
                            have mL16 := F.findL hL3.st
                            go_wp2_with fail
                            refine (F.lessAt hL3 (j') (a) (by omega) (by omega) (by omega) (by omega) hlv2).mono ?_
                            rintro e w16 ⟨rfl, hL4⟩
                            clear mL16
                            clear hL3 hsd
                            have mS17 := F.findS hL4.st
                            go_wp2_with fail
                            refine (F.swapAt hL4 (i') (j') (by omega) (by omega) (by omega) (by omega)).mono ?_
                            rintro e w17 ⟨rfl, hL5⟩
                            clear mS17
                            go_wp2_with fail
                            go_roundw
                            case rel => exact ⟨i' + 1, j' - 1, swp dk i' j', by go_num, by go_num, by omega, by omega, by omega, hL5, (show Hid _ from by rw [← AE.out]; exact (part_go lt a i j dk hi2.out hj2.out (by omega)).symm)⟩
                            case measure => simp [intOf]; omega
                        · have hj2 : Hid (j' = scanDown (fun x => !lt x dk[a]!) dk i' j) := (scanDown_end (fun x => !lt x dk[a]!) dk i' j' (Or.inl hle2)).symm.trans hsd.out
                          clear hsd
                          have mS18 := F.findS hL3.st
                          go_wp2_with fail
                          refine (F.swapAt hL3 (j') (a) (by omega) (by omega) (by omega) (by omega)).mono ?_
                          rintro e w18 ⟨rfl, hL5⟩
                          clear mS18
                          go_wp2_with fail
                          go_ret2
                          have e := part_break lt a i j dk hi2.out hj2.out (by omega)
                          rw [PF.out, ← AE.out, e]
                          exact ⟨rfl, hL5⟩
                  · have hi2 : Hid (i' = scanUp (fun x => lt x dk[a]!) dk j i) := (scanUp_end (fun x => lt x dk[a]!) dk j i' (Or.inl hle)).symm.trans hsc.out
                    clear hsc
                    go_wp2
                    go_loopw [11] (fun vj w2 => ∃ (j' : Nat), vj = .int .i64 j' ∧ j' ≤ j ∧ i' ≤ j' + 1 ∧ Lies St g w dk w2 ∧ Hid (scanDown (fun x => !lt x dk[a]!) dk i' j' = scanDown (fun x => !lt x dk[a]!) dk i' j)) (fun vj _ => (intOf vj).toNat)
                    case atStart => exact ⟨j, rfl, Nat.le_refl _, hij', hL1, rfl⟩
                    case round =>
                      clear hL1
                      obtain ⟨j', rfl, hjj, hij2, hL3, hsd⟩ := hrel
                      by_cases hle2 : i' ≤ j'
                      · exfalso; omega
                      · have hj2 : Hid (j' = scanDown (fun x => !lt x dk[a]!) dk i' j) := (scanDown_end (fun x => !lt x dk[a]!) dk i' j' (Or.inl hle2)).symm.trans hsd.out
                        clear hsd
                        have mS19 := F.findS hL3.st
                        go_wp2_with fail
                        refine (F.swapAt hL3 (j') (a) (by omega) (by omega) (by omega) (by omega)).mono ?_
                        rintro e w19 ⟨rfl, hL5⟩
                        clear mS19
                        go_wp2_with fail
                        go_ret2
                        have e := part_break lt a i j dk hi2.out hj2.out (by omega)
                        rw [PF.out, ← AE.out, e]
                        exact ⟨rfl, hL5⟩
          · have hj2 : Hid (j' = scanDown (fun x => !lt x dk[a]!) dk i' j) := (scanDown_end (fun x => !lt x dk[a]!) dk i' j' (Or.inl hle2)).symm.trans hsd.out
            clear hsd
            have mS20 := F.findS hL3.st
            go_wp2_with fail
            refine (F.swapAt hL3 (j') (a) (by omega) (by omega) (by omega) (by omega)).mono ?_
            rintro e w20 ⟨rfl, hL5⟩
            clear mS20
            go_wp2_with fail
            go_ret2
            have e := part_first_break lt d a b pivot Hi.out Hj.out Hdk.out hi2.out hj2.out (by omega)
            rw [e]
            exact ⟨rfl, hL5⟩
    · have hi2 : Hid (i' = scanUp (fun x => lt x dk[a]!) dk j i) := (scanUp_end (fun x => lt x dk[a]!) dk j i' (Or.inl hle)).symm.trans hsc.out
      clear hsc
      go_wp2
      go_loopw [11] (fun vj w2 => ∃ (j' : Nat), vj = .int .i64 j' ∧ j' ≤ j ∧ i' ≤ j' + 1 ∧ Lies St g w dk w2 ∧ Hid (scanDown (fun x => !lt x dk[a]!) dk i' j' = scanDown (fun x => !lt x dk[a]!) dk i' j)) (fun vj _ => (intOf vj).toNat)
      case atStart => exact ⟨j, rfl, Nat.le_refl _, hij', hL1, rfl⟩
      case round =>
        clear hL1
        obtain ⟨j', rfl, hjj, hij2, hL3, hsd⟩ := hrel
        by_cases hle2 : i' ≤ j'
        · exfalso; omega
        · have hj2 : Hid (j' = scanDown (fun x => !lt x dk[a]!) dk i' j) := (scanDown_end (fun x => !lt x dk[a]!) dk i' j' (Or.inl hle2)).symm.trans hsd.out
          clear hsd
          have mS21 := F.findS hL3.st
          go_wp2_with fail
          refine (F.swapAt hL3 (j') (a) (by omega) (by omega) (by omega) (by omega)).mono ?_
          rintro e w21 ⟨rfl, hL5⟩
          clear mS21
          go_wp2_with fail
          go_ret2
          have e := part_first_break lt d a b pivot Hi.out Hj.out Hdk.out hi2.out hj2.out (by omega)
          rw [e]
          exact ⟨rfl, hL5⟩
end
#print axioms fc_partitionEqual
#print axioms fc_partition
end Go.Proofs.Ytaifikhgijnkgaa
