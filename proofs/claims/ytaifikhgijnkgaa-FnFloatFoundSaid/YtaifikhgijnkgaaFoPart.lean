/- Contracts of the ordered family of slices: sort.partitionEqual and sort.partition over a row of floats. Conditions: the bounds lie inside the row. -/
import Derived.Test.YtaifikhgijnkgaaOrd
namespace Go.Proofs.Ytaifikhgijnkgaa
open Go.RowKit
open Go.Sort hiding Below
set_option linter.unusedVariables false
set_option linter.unusedSectionVars false
section
variable {St : Array Nat → World → Prop} {B g size cap : Nat}

set_option maxHeartbeats 12800000 in
set_option maxRecDepth 100000 in
theorem fo_partitionEqual (F : OFace St B g size) (hsz : size < 4611686018427387904) (a b pivot : Nat) (d : Array Nat) (w : World) (hS : St d w) (hap : a ≤ pivot) (hpb : pivot < b) (hb : b ≤ size) :
    Calls Try.prog 177 #[.slice (some ⟨g, 0, none⟩) size cap, .int .i64 a, .int .i64 b, .int .i64 pivot] w fun e w' => e = .returned (.int .i64 (Sort.partitionEqual fLt d a b pivot).1) ∧ Lies St g w (Sort.partitionEqual fLt d a b pivot).2 w' := by
  have hL0 := Lies.start (g := g) hS
  clear hS
  go_enter Try.func177, Try.ntmps177
  have z0 : (a : Int) < (size : Int) := by omega
  have z1 : (pivot : Int) < (size : Int) := by omega
  have c0 := F.cell hL0.st a (by omega)
  have c1 := F.cell hL0.st pivot (by omega)
  have f0 := F.fz hL0.st a
  have f1 := F.fz hL0.st pivot
  obtain ⟨v', hv'⟩ := F.cell2 hL0 a pivot (by omega)
  have hL1 := F.swapAt hL0 a pivot (by omega) (by omega)
  go_wp2
  go_region
  clear hv' f0 f1 c0 c1 z0 z1
  generalize World.drew _ = w1 at hL1 ⊢
  clear hL0
  go_wp2_with fail
  go_loopw [9, 10] (fun vi vj wr => ∃ (i j : Nat) (dk : Array Nat), vi = .int .i64 i ∧ vj = .int .i64 j ∧ a < i ∧ i ≤ j + 1 ∧ j < b ∧ Lies St g w dk wr ∧ Hid (partEqLoop fLt a i j dk = partEqLoop fLt a (a + 1) (b - 1) (swp d a pivot))) (fun vi vj _ => (intOf vj).toNat + 1 - (intOf vi).toNat)
  case atStart => exact ⟨a + 1, b - 1, swp d a pivot, by go_num, by go_num, by omega, by omega, by omega, hL1, rfl⟩
  case round =>
    clear hL1
    obtain ⟨i, j, dk, rfl, rfl, hai, hij, hjb, hL1, AE⟩ := hrel
    go_wp2
    go_loopw [9] (fun vi w1 => ∃ (i' : Nat), vi = .int .i64 i' ∧ i ≤ i' ∧ i' ≤ j + 1 ∧ Lies St g w dk w1 ∧ Hid (scanUp (fun x => !fLt dk[a]! x) dk j i' = scanUp (fun x => !fLt dk[a]! x) dk j i)) (fun vi _ => j + 1 - (intOf vi).toNat)
    case atStart => exact ⟨i, rfl, Nat.le_refl _, hij, hL1, rfl⟩
    case round =>
      clear hL1
      obtain ⟨i', rfl, hii, hij', hL1, hsc⟩ := hrel
      by_cases hle : i' ≤ j
      · have hlez : (i' : Int) ≤ (j : Int) := by omega
        cases hlv : fLt dk[a]! dk[i']! with
        | false =>
          have z0 : (a : Int) < (size : Int) := by omega
          have z1 : (i' : Int) < (size : Int) := by omega
          have c0 := F.cell hL1.st a (by omega)
          have c1 := F.cell hL1.st i' (by omega)
          have hvq := hlv
          go_wp2
          go_quiet ((go_at_call 154; exact quiet_eq (cmp_Less_at _ _ _ _ hvq)))
          have hL2 := hL1.drewN F.toBase nq
          clear hvq c0 c1 z0 z1
          generalize World.drewN _ nq = w2 at hL2 ⊢
          go_wp2_with fail
          go_roundw
          case rel => exact ⟨i' + 1, by go_num, by omega, by omega, hL2, (scanUp_go (fun x => !fLt dk[a]! x) dk j i' hle (by simp [hlv])).symm.trans hsc.out⟩
          case measure => simp [intOf]; omega
        | true =>
          have hi2 : Hid (i' = scanUp (fun x => !fLt dk[a]! x) dk j i) := (scanUp_end (fun x => !fLt dk[a]! x) dk j i' (Or.inr (by simp [hlv]))).symm.trans hsc.out
          have z0 : (a : Int) < (size : Int) := by omega
          have z1 : (i' : Int) < (size : Int) := by omega
          have c0 := F.cell hL1.st a (by omega)
          have c1 := F.cell hL1.st i' (by omega)
          have hvq := hlv
          go_wp2
          go_quiet ((go_at_call 154; exact quiet_eq (cmp_Less_at _ _ _ _ hvq)))
          have hL2 := hL1.drewN F.toBase nq
          clear hvq c0 c1 z0 z1
          generalize World.drewN _ nq = w3 at hL2 ⊢
          clear hL1 hsc
          go_wp2_with fail
          go_loopw [10] (fun vj w2 => ∃ (j' : Nat), vj = .int .i64 j' ∧ j' ≤ j ∧ i' ≤ j' + 1 ∧ Lies St g w dk w2 ∧ Hid (scanDown (fun x => fLt dk[a]! x) dk i' j' = scanDown (fun x => fLt dk[a]! x) dk i' j)) (fun vj _ => (intOf vj).toNat)
          case atStart => exact ⟨j, rfl, Nat.le_refl _, hij', hL2, rfl⟩
          case round =>
            clear hL2
            obtain ⟨j', rfl, hjj, hij2, hL3, hsd⟩ := hrel
            by_cases hle2 : i' ≤ j'
            · have hle2z : (i' : Int) ≤ (j' : Int) := by omega
              cases hlv2 : fLt dk[a]! dk[j']! with
              | true =>
                have z0 : (a : Int) < (size : Int) := by omega
                have z1 : (j' : Int) < (size : Int) := by omega
                have c0 := F.cell hL3.st a (by omega)
                have c1 := F.cell hL3.st j' (by omega)
                have hvq := hlv2
                go_wp2
                go_quiet ((go_at_call 154; exact quiet_eq (cmp_Less_at _ _ _ _ hvq)))
                have hL4 := hL3.drewN F.toBase nq
                clear hvq c0 c1 z0 z1
                generalize World.drewN _ nq = w4 at hL4 ⊢
                go_wp2_with fail
                go_roundw
                case rel => exact ⟨j' - 1, by go_num, by omega, by omega, hL4, (scanDown_go (fun x => fLt dk[a]! x) dk i' j' hle2 (by omega) hlv2).symm.trans hsd.out⟩
                case measure => simp [intOf]; omega
              | false =>
                have hj2 : Hid (j' = scanDown (fun x => fLt dk[a]! x) dk i' j) := (scanDown_end (fun x => fLt dk[a]! x) dk i' j' (Or.inr hlv2)).symm.trans hsd.out
                have hlt3 := scans_lt fLt a i j dk (by omega) hi2.out hj2.out hle2
                have z0 : (a : Int) < (size : Int) := by omega
                have z1 : (j' : Int) < (size : Int) := by omega
                have c0 := F.cell hL3.st a (by omega)
                have c1 := F.cell hL3.st j' (by omega)
                have hvq := hlv2
                go_wp2
                go_quiet ((go_at_call 154; exact quiet_eq (cmp_Less_at _ _ _ _ hvq)))
                have hL4 := hL3.drewN F.toBase nq
                clear hvq c0 c1 z0 z1
                generalize World.drewN _ nq = w5 at hL4 ⊢
                clear hL3 hsd
                have z0 : (i' : Int) < (size : Int) := by omega
                have z1 : (j' : Int) < (size : Int) := by omega
                have c0 := F.cell hL4.st i' (by omega)
                have c1 := F.cell hL4.st j' (by omega)
                have f0 := F.fz hL4.st i'
                have f1 := F.fz hL4.st j'
                obtain ⟨v', hv'⟩ := F.cell2 hL4 i' j' (by omega)
                have hL5 := F.swapAt hL4 i' j' (by omega) (by omega)
                go_wp2
                go_region
                clear hv' f0 f1 c0 c1 z0 z1
                generalize World.drew _ = w6 at hL5 ⊢
                go_wp2_with fail
                go_roundw
                case rel => exact ⟨i' + 1, j' - 1, swp dk i' j', by go_num, by go_num, by omega, by omega, by omega, hL5, (show Hid _ from by rw [← AE.out]; exact (partEq_go fLt a i j dk hi2.out hj2.out (by omega)).symm)⟩
                case measure => simp [intOf]; omega
            · have hj2 : Hid (j' = scanDown (fun x => fLt dk[a]! x) dk i' j) := (scanDown_end (fun x => fLt dk[a]! x) dk i' j' (Or.inl hle2)).symm.trans hsd.out
              clear hsd
              have hle2z : ¬ (i' : Int) ≤ (j' : Int) := by omega
              go_wp2
              go_quiet (fail)
              have hL3 := hL3.drewN F.toBase nq
              generalize World.drewN _ nq = wz at hL3 ⊢
              go_wp2
              go_ret
              have e := partEq_break fLt a i j dk hi2.out hj2.out (by omega)
              unfold Sort.partitionEqual
              rw [← AE.out, e]
              exact ⟨rfl, hL3⟩
      · have hi2 : Hid (i' = scanUp (fun x => !fLt dk[a]! x) dk j i) := (scanUp_end (fun x => !fLt dk[a]! x) dk j i' (Or.inl hle)).symm.trans hsc.out
        clear hsc
        have hlez : ¬ (i' : Int) ≤ (j : Int) := by omega
        go_wp2
        go_quiet (fail)
        have hL1 := hL1.drewN F.toBase nq
        generalize World.drewN _ nq = wz at hL1 ⊢
        go_wp2
        go_loopw [10] (fun vj w2 => ∃ (j' : Nat), vj = .int .i64 j' ∧ j' ≤ j ∧ i' ≤ j' + 1 ∧ Lies St g w dk w2 ∧ Hid (scanDown (fun x => fLt dk[a]! x) dk i' j' = scanDown (fun x => fLt dk[a]! x) dk i' j)) (fun vj _ => (intOf vj).toNat)
        case atStart => exact ⟨j, rfl, Nat.le_refl _, hij', hL1, rfl⟩
        case round =>
          clear hL1
          obtain ⟨j', rfl, hjj, hij2, hL3, hsd⟩ := hrel
          by_cases hle2 : i' ≤ j'
          · exfalso; omega
          · have hj2 : Hid (j' = scanDown (fun x => fLt dk[a]! x) dk i' j) := (scanDown_end (fun x => fLt dk[a]! x) dk i' j' (Or.inl hle2)).symm.trans hsd.out
            clear hsd
            have hle2z : ¬ (i' : Int) ≤ (j' : Int) := by omega
            go_wp2
            go_quiet (fail)
            have hL3 := hL3.drewN F.toBase nq
            generalize World.drewN _ nq = wz at hL3 ⊢
            go_wp2
            go_ret
            have e := partEq_break fLt a i j dk hi2.out hj2.out (by omega)
            unfold Sort.partitionEqual
            rw [← AE.out, e]
            exact ⟨rfl, hL3⟩

set_option maxHeartbeats 12800000 in
set_option maxRecDepth 100000 in
theorem fo_partition (F : OFace St B g size) (hsz : size < 4611686018427387904) (a b pivot : Nat) (d : Array Nat) (w : World) (hS : St d w) (hap : a ≤ pivot) (hpb : pivot < b) (hb : b ≤ size) :
    Calls Try.prog 178 #[.slice (some ⟨g, 0, none⟩) size cap, .int .i64 a, .int .i64 b, .int .i64 pivot] w fun e w' => e = .returned (.tuple #[.int .i64 (Sort.partition fLt d a b pivot).1, .bool (Sort.partition fLt d a b pivot).2.1]) ∧ Lies St g w (Sort.partition fLt d a b pivot).2.2 w' := by
  have hL0 := Lies.start (g := g) hS
  clear hS
  obtain ⟨i, hi⟩ : ∃ i : Nat, i = a + 1 := ⟨_, rfl⟩
  obtain ⟨j, hj⟩ : ∃ j : Nat, j = b - 1 := ⟨_, rfl⟩
  obtain ⟨dk, hdk⟩ : ∃ dk : Array Nat, dk = swp d a pivot := ⟨_, rfl⟩
  have hai : a < i := by omega
  have hij : i ≤ j + 1 := by omega
  have hjb : j < b := by omega
  have Hi : Hid (i = a + 1) := hi
  have Hj : Hid (j = b - 1) := hj
  have Hdk : Hid (dk = swp d a pivot) := hdk
  clear hi hj hdk
  go_enter Try.func178, Try.ntmps178
  have z0 : (a : Int) < (size : Int) := by omega
  have z1 : (pivot : Int) < (size : Int) := by omega
  have c0 := F.cell hL0.st a (by omega)
  have c1 := F.cell hL0.st pivot (by omega)
  have f0 := F.fz hL0.st a
  have f1 := F.fz hL0.st pivot
  obtain ⟨v', hv'⟩ := F.cell2 hL0 a pivot (by omega)
  have hL1 := F.swapAt hL0 a pivot (by omega) (by omega)
  go_wp2
  go_region
  clear hv' f0 f1 c0 c1 z0 z1
  generalize World.drew _ = w7 at hL1 ⊢
  clear hL0
  rw [← Hdk.out] at hL1
  go_wp2_with fail
  rw [show ((a : Int) + 1) = (i : Int) by have := Hi.out; omega, show ((b : Int) - 1) = (j : Int) by have := Hj.out; omega]
  go_loopw [10] (fun vi w1 => ∃ (i' : Nat), vi = .int .i64 i' ∧ i ≤ i' ∧ i' ≤ j + 1 ∧ Lies St g w dk w1 ∧ Hid (scanUp (fun x => fLt x dk[a]!) dk j i' = scanUp (fun x => fLt x dk[a]!) dk j i)) (fun vi _ => j + 1 - (intOf vi).toNat)
  case atStart => exact ⟨i, rfl, Nat.le_refl _, hij, hL1, rfl⟩
  case round =>
    clear hL1
    obtain ⟨i', rfl, hii, hij', hL1, hsc⟩ := hrel
    by_cases hle : i' ≤ j
    · have hlez : (i' : Int) ≤ (j : Int) := by omega
      cases hlv : fLt dk[i']! dk[a]! with
      | true =>
        have z0 : (i' : Int) < (size : Int) := by omega
        have z1 : (a : Int) < (size : Int) := by omega
        have c0 := F.cell hL1.st i' (by omega)
        have c1 := F.cell hL1.st a (by omega)
        have hvq := hlv
        go_wp2
        go_quiet ((go_at_call 154; exact quiet_eq (cmp_Less_at _ _ _ _ hvq)))
        have hL2 := hL1.drewN F.toBase nq
        clear hvq c0 c1 z0 z1
        generalize World.drewN _ nq = w8 at hL2 ⊢
        go_wp2_with fail
        go_roundw
        case rel => exact ⟨i' + 1, by go_num, by omega, by omega, hL2, (scanUp_go (fun x => fLt x dk[a]!) dk j i' hle hlv).symm.trans hsc.out⟩
        case measure => simp [intOf]; omega
      | false =>
        have hi2 : Hid (i' = scanUp (fun x => fLt x dk[a]!) dk j i) := (scanUp_end (fun x => fLt x dk[a]!) dk j i' (Or.inr hlv)).symm.trans hsc.out
        have z0 : (i' : Int) < (size : Int) := by omega
        have z1 : (a : Int) < (size : Int) := by omega
        have c0 := F.cell hL1.st i' (by omega)
        have c1 := F.cell hL1.st a (by omega)
        have hvq := hlv
        go_wp2
        go_quiet ((go_at_call 154; exact quiet_eq (cmp_Less_at _ _ _ _ hvq)))
        have hL2 := hL1.drewN F.toBase nq
        clear hvq c0 c1 z0 z1
        generalize World.drewN _ nq = w9 at hL2 ⊢
        clear hL1 hsc
        go_wp2_with fail
        go_loopw [11] (fun vj w2 => ∃ (j' : Nat), vj = .int .i64 j' ∧ j' ≤ j ∧ i' ≤ j' + 1 ∧ Lies St g w dk w2 ∧ Hid (scanDown (fun x => !fLt x dk[a]!) dk i' j' = scanDown (fun x => !fLt x dk[a]!) dk i' j)) (fun vj _ => (intOf vj).toNat)
        case atStart => exact ⟨j, rfl, Nat.le_refl _, hij', hL2, rfl⟩
        case round =>
          clear hL2
          obtain ⟨j', rfl, hjj, hij2, hL3, hsd⟩ := hrel
          by_cases hle2 : i' ≤ j'
          · have hle2z : (i' : Int) ≤ (j' : Int) := by omega
            cases hlv2 : fLt dk[j']! dk[a]! with
            | false =>
              have z0 : (j' : Int) < (size : Int) := by omega
              have z1 : (a : Int) < (size : Int) := by omega
              have c0 := F.cell hL3.st j' (by omega)
              have c1 := F.cell hL3.st a (by omega)
              have hvq := hlv2
              go_wp2
              go_quiet ((go_at_call 154; exact quiet_eq (cmp_Less_at _ _ _ _ hvq)))
              have hL4 := hL3.drewN F.toBase nq
              clear hvq c0 c1 z0 z1
              generalize World.drewN _ nq = w10 at hL4 ⊢
              go_wp2_with fail
              go_roundw
              case rel => exact ⟨j' - 1, by go_num, by omega, by omega, hL4, (scanDown_go (fun x => !fLt x dk[a]!) dk i' j' hle2 (by omega) (by simp [hlv2])).symm.trans hsd.out⟩
              case measure => simp [intOf]; omega
            | true =>
              have hj2 : Hid (j' = scanDown (fun x => !fLt x dk[a]!) dk i' j) := (scanDown_end (fun x => !fLt x dk[a]!) dk i' j' (Or.inr (by simp [hlv2]))).symm.trans hsd.out
              have hlt3 := part_scans_lt fLt a i j dk (by omega) hi2.out hj2.out hle2
              have z0 : (j' : Int) < (size : Int) := by omega
              have z1 : (a : Int) < (size : Int) := by omega
              have c0 := F.cell hL3.st j' (by omega)
              have c1 := F.cell hL3.st a (by omega)
              have hvq := hlv2
              go_wp2
              go_quiet ((go_at_call 154; exact quiet_eq (cmp_Less_at _ _ _ _ hvq)))
              have hL4 := hL3.drewN F.toBase nq
              clear hvq c0 c1 z0 z1
              generalize World.drewN _ nq = w11 at hL4 ⊢
              clear hL3 hsd
              have z0 : (i' : Int) < (size : Int) := by omega
              have z1 : (j' : Int) < (size : Int) := by omega
              have c0 := F.cell hL4.st i' (by omega)
              have c1 := F.cell hL4.st j' (by omega)
              have f0 := F.fz hL4.st i'
              have f1 := F.fz hL4.st j'
              obtain ⟨v', hv'⟩ := F.cell2 hL4 i' j' (by omega)
              have hL5 := F.swapAt hL4 i' j' (by omega) (by omega)
              go_wp2
              go_region
              clear hv' f0 f1 c0 c1 z0 z1
              generalize World.drew _ = w12 at hL5 ⊢
              go_wp2_with fail
              (try rw [decide_eq_false (show ¬ j' < i' by omega)])
              obtain ⟨I0, hI0⟩ : ∃ I0 : Nat, I0 = i' + 1 := ⟨_, rfl⟩
              obtain ⟨J0, hJ0⟩ : ∃ J0 : Nat, J0 = j' - 1 := ⟨_, rfl⟩
              obtain ⟨D0, hD0⟩ : ∃ D0 : Array Nat, D0 = swp dk i' j' := ⟨_, rfl⟩
              have PF : Hid (Sort.partition fLt d a b pivot = ((partLoop fLt a I0 J0 D0).1, false, swp (partLoop fLt a I0 J0 D0).2 (partLoop fLt a I0 J0 D0).1 a)) := by
                rw [hI0, hJ0, hD0]; exact part_first_go fLt d a b pivot Hi.out Hj.out Hdk.out hi2.out hj2.out (by omega)
              go_loopw [10, 11] (fun vi vj wr => ∃ (i j : Nat) (dk : Array Nat), vi = .int .i64 i ∧ vj = .int .i64 j ∧ a < i ∧ i ≤ j + 1 ∧ j < b ∧ Lies St g w dk wr ∧ Hid (partLoop fLt a i j dk = partLoop fLt a I0 J0 D0)) (fun vi vj _ => (intOf vj).toNat + 1 - (intOf vi).toNat)
              case atStart => exact ⟨i' + 1, j' - 1, swp dk i' j', by go_num, by go_num, by omega, by omega, by omega, hL5, (show Hid _ from by rw [hI0, hJ0, hD0]; exact rfl)⟩
              case round =>
                clear hI0 hJ0 hD0 hj2 hi2 hlt3 Hi Hj Hdk hL5 hL4
                obtain ⟨i, j, dk, rfl, rfl, hai, hij, hjb, hL1, AE⟩ := hrel
                go_wp2
                go_loopw [10] (fun vi w1 => ∃ (i' : Nat), vi = .int .i64 i' ∧ i ≤ i' ∧ i' ≤ j + 1 ∧ Lies St g w dk w1 ∧ Hid (scanUp (fun x => fLt x dk[a]!) dk j i' = scanUp (fun x => fLt x dk[a]!) dk j i)) (fun vi _ => j + 1 - (intOf vi).toNat)
                case atStart => exact ⟨i, rfl, Nat.le_refl _, hij, hL1, rfl⟩
                case round =>
                  clear hL1
                  obtain ⟨i', rfl, hii, hij', hL1, hsc⟩ := hrel
                  by_cases hle : i' ≤ j
                  · have hlez : (i' : Int) ≤ (j : Int) := by omega
                    cases hlv : fLt dk[i']! dk[a]! with
                    | true =>
                      have z0 : (i' : Int) < (size : Int) := by omega
                      have z1 : (a : Int) < (size : Int) := by omega
                      have c0 := F.cell hL1.st i' (by omega)
                      have c1 := F.cell hL1.st a (by omega)
                      have hvq := hlv
                      go_wp2
                      go_quiet ((go_at_call 154; exact quiet_eq (cmp_Less_at _ _ _ _ hvq)))
                      have hL2 := hL1.drewN F.toBase nq
                      clear hvq c0 c1 z0 z1
                      generalize World.drewN _ nq = w13 at hL2 ⊢
                      go_wp2_with fail
                      go_roundw
                      case rel => exact ⟨i' + 1, by go_num, by omega, by omega, hL2, (scanUp_go (fun x => fLt x dk[a]!) dk j i' hle hlv).symm.trans hsc.out⟩
                      case measure => simp [intOf]; omega
                    | false =>
                      have hi2 : Hid (i' = scanUp (fun x => fLt x dk[a]!) dk j i) := (scanUp_end (fun x => fLt x dk[a]!) dk j i' (Or.inr hlv)).symm.trans hsc.out
                      have z0 : (i' : Int) < (size : Int) := by omega
                      have z1 : (a : Int) < (size : Int) := by omega
                      have c0 := F.cell hL1.st i' (by omega)
                      have c1 := F.cell hL1.st a (by omega)
                      have hvq := hlv
                      go_wp2
                      go_quiet ((go_at_call 154; exact quiet_eq (cmp_Less_at _ _ _ _ hvq)))
                      have hL2 := hL1.drewN F.toBase nq
                      clear hvq c0 c1 z0 z1
                      generalize World.drewN _ nq = w14 at hL2 ⊢
                      clear hL1 hsc
                      go_wp2_with fail
                      go_loopw [11] (fun vj w2 => ∃ (j' : Nat), vj = .int .i64 j' ∧ j' ≤ j ∧ i' ≤ j' + 1 ∧ Lies St g w dk w2 ∧ Hid (scanDown (fun x => !fLt x dk[a]!) dk i' j' = scanDown (fun x => !fLt x dk[a]!) dk i' j)) (fun vj _ => (intOf vj).toNat)
                      case atStart => exact ⟨j, rfl, Nat.le_refl _, hij', hL2, rfl⟩
                      case round =>
                        clear hL2
                        obtain ⟨j', rfl, hjj, hij2, hL3, hsd⟩ := hrel
                        by_cases hle2 : i' ≤ j'
                        · have hle2z : (i' : Int) ≤ (j' : Int) := by omega
                          cases hlv2 : fLt dk[j']! dk[a]! with
                          | false =>
                            have z0 : (j' : Int) < (size : Int) := by omega
                            have z1 : (a : Int) < (size : Int) := by omega
                            have c0 := F.cell hL3.st j' (by omega)
                            have c1 := F.cell hL3.st a (by omega)
                            have hvq := hlv2
                            go_wp2
                            go_quiet ((go_at_call 154; exact quiet_eq (cmp_Less_at _ _ _ _ hvq)))
                            have hL4 := hL3.drewN F.toBase nq
                            clear hvq c0 c1 z0 z1
                            generalize World.drewN _ nq = w15 at hL4 ⊢
                            go_wp2_with fail
                            go_roundw
                            case rel => exact ⟨j' - 1, by go_num, by omega, by omega, hL4, (scanDown_go (fun x => !fLt x dk[a]!) dk i' j' hle2 (by omega) (by simp [hlv2])).symm.trans hsd.out⟩
                            case measure => simp [intOf]; omega
                          | true =>
                            have hj2 : Hid (j' = scanDown (fun x => !fLt x dk[a]!) dk i' j) := (scanDown_end (fun x => !fLt x dk[a]!) dk i' j' (Or.inr (by simp [hlv2]))).symm.trans hsd.out
                            have hlt3 := part_scans_lt fLt a i j dk (by omega) hi2.out hj2.out hle2
                            have z0 : (j' : Int) < (size : Int) := by omega
                            have z1 : (a : Int) < (size : Int) := by omega
                            have c0 := F.cell hL3.st j' (by omega)
                            have c1 := F.cell hL3.st a (by omega)
                            have hvq := hlv2
                            go_wp2
                            go_quiet ((go_at_call 154; exact quiet_eq (cmp_Less_at _ _ _ _ hvq)))
                            have hL4 := hL3.drewN F.toBase nq
                            clear hvq c0 c1 z0 z1
                            generalize World.drewN _ nq = w16 at hL4 ⊢
                            clear hL3 hsd
                            have z0 : (i' : Int) < (size : Int) := by omega
                            have z1 : (j' : Int) < (size : Int) := by omega
                            have c0 := F.cell hL4.st i' (by omega)
                            have c1 := F.cell hL4.st j' (by omega)
                            have f0 := F.fz hL4.st i'
                            have f1 := F.fz hL4.st j'
                            obtain ⟨v', hv'⟩ := F.cell2 hL4 i' j' (by omega)
                            have hL5 := F.swapAt hL4 i' j' (by omega) (by omega)
                            go_wp2
                            go_region
                            clear hv' f0 f1 c0 c1 z0 z1
                            generalize World.drew _ = w17 at hL5 ⊢
                            go_wp2_with fail
                            go_roundw
                            case rel => exact ⟨i' + 1, j' - 1, swp dk i' j', by go_num, by go_num, by omega, by omega, by omega, hL5, (show Hid _ from by rw [← AE.out]; exact (part_go fLt a i j dk hi2.out hj2.out (by omega)).symm)⟩
                            case measure => simp [intOf]; omega
                        · have hj2 : Hid (j' = scanDown (fun x => !fLt x dk[a]!) dk i' j) := (scanDown_end (fun x => !fLt x dk[a]!) dk i' j' (Or.inl hle2)).symm.trans hsd.out
                          clear hsd
                          have hle2z : ¬ (i' : Int) ≤ (j' : Int) := by omega
                          go_wp2
                          go_quiet (fail)
                          have hL3 := hL3.drewN F.toBase nq
                          generalize World.drewN _ nq = wz at hL3 ⊢
                          have z0 : (j' : Int) < (size : Int) := by omega
                          have z1 : (a : Int) < (size : Int) := by omega
                          have c0 := F.cell hL3.st j' (by omega)
                          have c1 := F.cell hL3.st a (by omega)
                          have f0 := F.fz hL3.st j'
                          have f1 := F.fz hL3.st a
                          obtain ⟨v', hv'⟩ := F.cell2 hL3 j' a (by omega)
                          have hL5 := F.swapAt hL3 j' a (by omega) (by omega)
                          go_wp2
                          go_region
                          clear hv' f0 f1 c0 c1 z0 z1
                          generalize World.drew _ = w18 at hL5 ⊢
                          go_wp2_with fail
                          go_ret2
                          have e := part_break fLt a i j dk hi2.out hj2.out (by omega)
                          rw [PF.out, ← AE.out, e]
                          exact ⟨rfl, hL5⟩
                  · have hi2 : Hid (i' = scanUp (fun x => fLt x dk[a]!) dk j i) := (scanUp_end (fun x => fLt x dk[a]!) dk j i' (Or.inl hle)).symm.trans hsc.out
                    clear hsc
                    have hlez : ¬ (i' : Int) ≤ (j : Int) := by omega
                    go_wp2
                    go_quiet (fail)
                    have hL1 := hL1.drewN F.toBase nq
                    generalize World.drewN _ nq = wz at hL1 ⊢
                    go_wp2
                    go_loopw [11] (fun vj w2 => ∃ (j' : Nat), vj = .int .i64 j' ∧ j' ≤ j ∧ i' ≤ j' + 1 ∧ Lies St g w dk w2 ∧ Hid (scanDown (fun x => !fLt x dk[a]!) dk i' j' = scanDown (fun x => !fLt x dk[a]!) dk i' j)) (fun vj _ => (intOf vj).toNat)
                    case atStart => exact ⟨j, rfl, Nat.le_refl _, hij', hL1, rfl⟩
                    case round =>
                      clear hL1
                      obtain ⟨j', rfl, hjj, hij2, hL3, hsd⟩ := hrel
                      by_cases hle2 : i' ≤ j'
                      · exfalso; omega
                      · have hj2 : Hid (j' = scanDown (fun x => !fLt x dk[a]!) dk i' j) := (scanDown_end (fun x => !fLt x dk[a]!) dk i' j' (Or.inl hle2)).symm.trans hsd.out
                        clear hsd
                        have hle2z : ¬ (i' : Int) ≤ (j' : Int) := by omega
                        go_wp2
                        go_quiet (fail)
                        have hL3 := hL3.drewN F.toBase nq
                        generalize World.drewN _ nq = wz at hL3 ⊢
                        have z0 : (j' : Int) < (size : Int) := by omega
                        have z1 : (a : Int) < (size : Int) := by omega
                        have c0 := F.cell hL3.st j' (by omega)
                        have c1 := F.cell hL3.st a (by omega)
                        have f0 := F.fz hL3.st j'
                        have f1 := F.fz hL3.st a
                        obtain ⟨v', hv'⟩ := F.cell2 hL3 j' a (by omega)
                        have hL5 := F.swapAt hL3 j' a (by omega) (by omega)
                        go_wp2
                        go_region
                        clear hv' f0 f1 c0 c1 z0 z1
                        generalize World.drew _ = w19 at hL5 ⊢
                        go_wp2_with fail
                        go_ret2
                        have e := part_break fLt a i j dk hi2.out hj2.out (by omega)
                        rw [PF.out, ← AE.out, e]
                        exact ⟨rfl, hL5⟩
          · have hj2 : Hid (j' = scanDown (fun x => !fLt x dk[a]!) dk i' j) := (scanDown_end (fun x => !fLt x dk[a]!) dk i' j' (Or.inl hle2)).symm.trans hsd.out
            clear hsd
            have hle2z : ¬ (i' : Int) ≤ (j' : Int) := by omega
            go_wp2
            go_quiet (fail)
            have hL3 := hL3.drewN F.toBase nq
            generalize World.drewN _ nq = wz at hL3 ⊢
            have z0 : (j' : Int) < (size : Int) := by omega
            have z1 : (a : Int) < (size : Int) := by omega
            have c0 := F.cell hL3.st j' (by omega)
            have c1 := F.cell hL3.st a (by omega)
            have f0 := F.fz hL3.st j'
            have f1 := F.fz hL3.st a
            obtain ⟨v', hv'⟩ := F.cell2 hL3 j' a (by omega)
            have hL5 := F.swapAt hL3 j' a (by omega) (by omega)
            go_wp2
            go_region
            clear hv' f0 f1 c0 c1 z0 z1
            generalize World.drew _ = w20 at hL5 ⊢
            go_wp2_with fail
            go_ret2
            have e := part_first_break fLt d a b pivot Hi.out Hj.out Hdk.out hi2.out hj2.out (by omega)
            rw [e]
            exact ⟨rfl, hL5⟩
    · have hi2 : Hid (i' = scanUp (fun x => fLt x dk[a]!) dk j i) := (scanUp_end (fun x => fLt x dk[a]!) dk j i' (Or.inl hle)).symm.trans hsc.out
      clear hsc
      have hlez : ¬ (i' : Int) ≤ (j : Int) := by omega
      go_wp2
      go_quiet (fail)
      have hL1 := hL1.drewN F.toBase nq
      generalize World.drewN _ nq = wz at hL1 ⊢
      go_wp2
      go_loopw [11] (fun vj w2 => ∃ (j' : Nat), vj = .int .i64 j' ∧ j' ≤ j ∧ i' ≤ j' + 1 ∧ Lies St g w dk w2 ∧ Hid (scanDown (fun x => !fLt x dk[a]!) dk i' j' = scanDown (fun x => !fLt x dk[a]!) dk i' j)) (fun vj _ => (intOf vj).toNat)
      case atStart => exact ⟨j, rfl, Nat.le_refl _, hij', hL1, rfl⟩
      case round =>
        clear hL1
        obtain ⟨j', rfl, hjj, hij2, hL3, hsd⟩ := hrel
        by_cases hle2 : i' ≤ j'
        · exfalso; omega
        · have hj2 : Hid (j' = scanDown (fun x => !fLt x dk[a]!) dk i' j) := (scanDown_end (fun x => !fLt x dk[a]!) dk i' j' (Or.inl hle2)).symm.trans hsd.out
          clear hsd
          have hle2z : ¬ (i' : Int) ≤ (j' : Int) := by omega
          go_wp2
          go_quiet (fail)
          have hL3 := hL3.drewN F.toBase nq
          generalize World.drewN _ nq = wz at hL3 ⊢
          have z0 : (j' : Int) < (size : Int) := by omega
          have z1 : (a : Int) < (size : Int) := by omega
          have c0 := F.cell hL3.st j' (by omega)
          have c1 := F.cell hL3.st a (by omega)
          have f0 := F.fz hL3.st j'
          have f1 := F.fz hL3.st a
          obtain ⟨v', hv'⟩ := F.cell2 hL3 j' a (by omega)
          have hL5 := F.swapAt hL3 j' a (by omega) (by omega)
          go_wp2
          go_region
          clear hv' f0 f1 c0 c1 z0 z1
          generalize World.drew _ = w21 at hL5 ⊢
          go_wp2_with fail
          go_ret2
          have e := part_first_break fLt d a b pivot Hi.out Hj.out Hdk.out hi2.out hj2.out (by omega)
          rw [e]
          exact ⟨rfl, hL5⟩
end
#print axioms fo_partitionEqual
#print axioms fo_partition
end Go.Proofs.Ytaifikhgijnkgaa
