/- Contracts of sort.stable and sort.Stable over an interface value. Conditions: the methods do what Face says. -/
import Derived.Test.YtaifikhgijnkgaaFcSym
import Derived.Test.YtaifikhgijnkgaaFcIns
namespace Go.Proofs.Ytaifikhgijnkgaa
open Go.RowKit
open Go.Sort hiding Below
set_option linter.unusedVariables false
set_option linter.unusedSectionVars false
section
variable {α : Type} [Inhabited α] {lt R : α → α → Bool} {St : Array α → World → Prop} {B g size : Nat} {T : TypeId} {rv : Value} {gl : Nat} {rl : Value} {gs : Nat} {rs : Value}

set_option maxHeartbeats 8000000 in
set_option maxRecDepth 100000 in
theorem fc_stable (F : Face lt St B g size T rv gl rl gs rs) (hsz : size < 1152921504606846976) (d : Array α) (w : World) (hS : St d w) :
    Calls Try.prog 131 #[.iface T rv, .int .i64 size] w fun e w' => e = .returned (.tuple #[]) ∧ ∃ d', Lies St g w d' w' ∧ PermIn 0 size d d' ∧ (SWO R → Agrees lt R size d → SortedIn R 0 size d') := by
  have H0 := Lib.hid (Lies.start (g := g) hS)
  have HZ := Lib.hid (show ∀ (dk : Array α) (w : World), St dk w → dk.size = size from fun _ _ h => F.len h)
  clear hS
  go_enter Try.func131, Try.ntmps131
  go_wp2
  go_loopg [5, 6] size (fun k sa sb wr => ∃ (a : Nat) (dk : Array α), sa = .int .i64 a ∧ sb = .int .i64 ((a + 20 : Nat) : Int) ∧ a ≤ size ∧ size - a ≤ k ∧ Lies St g w dk wr ∧ Hid (20 ∣ a) ∧ Hid (PermIn 0 size d dk) ∧ Hid (SWO R → Agrees lt R size d → First lt R size 20 a d dk))
  case atStart => exact ⟨0, d, rfl, rfl, by omega, by omega, H0.out, Nat.dvd_zero _, permIn_refl _ _ _, fun _ h => First.start h⟩
  case round =>
    obtain ⟨a, dk, rfl, rfl, han, hk, hL, HD, HP, HF⟩ := hrel
    by_cases hle : a + 20 ≤ size
    · have hlez : ((a + 20 : Nat) : Int) ≤ (size : Int) := by omega
      have hc := Lib.hid (fc_insertionSort F (by omega) a (a + 20) dk wr hL.st (by omega) hle)
      go_wp2_with fail
      refine hc.out.mono ?_
      rintro e w1 ⟨rfl, hL1⟩
      have hL2 := Lib.hid (hL.trans hL1)
      have HZ1 := Lib.hid (HZ.out _ _ hL.st)
      clear hL hL1 hc
      go_wp2_with fail
      go_roundg (size - (a + 20))
      case measure => omega
      case rel => exact ⟨a + 20, insertionSort lt dk a (a + 20), by go_num, by go_num, hle, Nat.le_refl _, hL2.out, Nat.dvd_add HD.out (Nat.dvd_refl 20), permIn_trans _ _ _ _ _ HP.out (permIn_mono _ _ _ _ _ _ (Nat.zero_le _) hle (by rw [HZ1.out]; omega) (insertionSort_permAny a (a + 20) dk (by rw [HZ1.out]; omega))), fun hO hA => (HF.out hO hA).step hO hA HZ1.out.symm HD.out hle⟩
    · have hlez : ¬ ((a + 20 : Nat) : Int) ≤ (size : Int) := by omega
      have hc := Lib.hid (fc_insertionSort F (by omega) a size dk wr hL.st han (Nat.le_refl _))
      go_wp2_with fail
      refine hc.out.mono ?_
      rintro e w1 ⟨rfl, hL1⟩
      have hL2 := Lib.hid (hL.trans hL1)
      have HZ1 := Lib.hid (HZ.out _ _ hL.st)
      have HP2 := Lib.hid (permIn_trans _ _ _ _ _ HP.out (permIn_mono _ _ _ _ _ _ (Nat.zero_le _) (Nat.le_refl _) (by rw [HZ1.out]; omega) (insertionSort_permAny (lt := lt) a size dk (by rw [HZ1.out]; omega))))
      have HF2 := Lib.hid (show SWO R → Agrees lt R size d → Blocks lt R size 20 (insertionSort lt dk a size) from fun hO hA => (HF.out hO hA).last hO hA HZ1.out.symm HD.out han (by omega))
      clear hL hL1 hc HP HF HD
      generalize insertionSort lt dk a size = d1 at hL2 HP2 HF2
      clear HZ1 hle hlez hk
      go_wp2_with fail
      go_loopg [4] size (fun k s4 wr => ∃ (s : Nat) (dk : Array α), s4 = .int .i64 s ∧ 0 < s ∧ s ≤ 2 * size + 20 ∧ size - s ≤ k ∧ Lies St g w dk wr ∧ Hid (PermIn 0 size d dk) ∧ Hid (SWO R → Agrees lt R size d → Blocks lt R size s dk))
      case atStart => exact ⟨20, d1, rfl, by omega, by omega, by omega, hL2.out, HP2.out, HF2.out⟩
      case round =>
        clear hL2 HP2 HF2
        obtain ⟨s, dj, rfl, hs0, hs2, hk, hL, HP, HF⟩ := hrel
        by_cases hlt : s < size
        · have hltz : (s : Int) < (size : Int) := by omega
          go_wp2_with fail
          go_loopg [5, 6] size (fun k sa sb wr => ∃ (a : Nat) (dk : Array α), sa = .int .i64 a ∧ sb = .int .i64 ((a + 2 * s : Nat) : Int) ∧ a ≤ size ∧ size - a ≤ k ∧ Lies St g w dk wr ∧ Hid (2 * s ∣ a) ∧ Hid (PermIn 0 size d dk) ∧ Hid (SWO R → Agrees lt R size d → Pass lt R size s a dk))
          case atStart => exact ⟨0, dj, rfl, by congr 1 <;> omega, by omega, by omega, hL, Nat.dvd_zero _, HP.out, fun hO hA => Pass.start (HF.out hO hA)⟩
          case round =>
            clear hL HP HF
            obtain ⟨a, dk, rfl, rfl, han, hka, hL, HD, HP, HF⟩ := hrel
            by_cases hle : a + 2 * s ≤ size
            · have hlez : ((a + 2 * s : Nat) : Int) ≤ (size : Int) := by omega
              have hc := fc_symMerge (R := R) F hsz (a + 2 * s - a) a (a + s) (a + 2 * s) dk wr (Nat.le_refl _) hL.st (by omega) (by omega) hle
              rw [show ((a + s : Nat) : Int) = (a : Int) + (s : Int) by omega] at hc
              have HC := Lib.hid hc
              clear hc
              go_wp2_with fail
              refine HC.out.mono ?_
              rintro e w1 ⟨rfl, d2, hL1, hm⟩
              have hL2 := Lib.hid (hL.trans hL1)
              have HZ1 := Lib.hid (HZ.out _ _ hL.st)
              have HM := Lib.hid hm
              clear hL hL1 HC hm
              go_wp2_with fail
              go_roundg (size - (a + 2 * s))
              case measure => omega
              case rel => exact ⟨a + 2 * s, d2, rfl, by congr 1 <;> omega, hle, Nat.le_refl _, hL2.out, Nat.dvd_add HD.out (Nat.dvd_refl _), permIn_trans _ _ _ _ _ HP.out (permIn_mono _ _ _ _ _ _ (Nat.zero_le _) hle (by rw [HZ1.out]; omega) HM.out.1), fun hO hA => (HF.out hO hA).step hO HZ1.out.symm HD.out hle hs0 HM.out⟩
            · have hlez : ¬ ((a + 2 * s : Nat) : Int) ≤ (size : Int) := by omega
              by_cases hmn : a + s < size
              · have hmnz : (a : Int) + (s : Int) < (size : Int) := by omega
                have hc := fc_symMerge (R := R) F hsz (size - a) a (a + s) size dk wr (Nat.le_refl _) hL.st (by omega) hmn (Nat.le_refl _)
                rw [show ((a + s : Nat) : Int) = (a : Int) + (s : Int) by omega] at hc
                have HC := Lib.hid hc
                clear hc
                go_wp2_with fail
                refine HC.out.mono ?_
                rintro e w1 ⟨rfl, d2, hL1, hm⟩
                have hL2 := Lib.hid (hL.trans hL1)
                have HZ1 := Lib.hid (HZ.out _ _ hL.st)
                have HM := Lib.hid hm
                clear hL hL1 HC hm
                go_wp2_with fail
                go_roundg (size - 2 * s)
                case measure => omega
                case rel => exact ⟨2 * s, d2, by congr 1 <;> omega, by omega, by omega, Nat.le_refl _, hL2.out, permIn_trans _ _ _ _ _ HP.out (permIn_mono _ _ _ _ _ _ (Nat.zero_le _) (Nat.le_refl _) (by rw [HZ1.out]; omega) HM.out.1), fun hO hA => (HF.out hO hA).last hO HZ1.out.symm HD.out han (by omega) hmn HM.out⟩
              · have hmnz : ¬ (a : Int) + (s : Int) < (size : Int) := by omega
                go_wp2_with fail
                go_roundg (size - 2 * s)
                case measure => omega
                case rel => exact ⟨2 * s, dk, by congr 1 <;> omega, by omega, by omega, Nat.le_refl _, hL, HP.out, fun hO hA => (HF.out hO hA).end HD.out han (by omega) hmn⟩
        · have hltz : ¬ (s : Int) < (size : Int) := by omega
          go_wp2_with fail
          go_end0
          exact ⟨rfl, dj, hL, HP.out, fun hO hA => (HF.out hO hA).all (by omega)⟩
set_option maxHeartbeats 1000000 in
set_option maxRecDepth 100000 in
theorem fc_Stable (F : Face lt St B g size T rv gl rl gs rs) (hsz : size < 1152921504606846976) (gn : Nat) (rn : Value) (d : Array α) (w : World) (hS : St d w) (findN : Sem.run Try.prog (method 285 T rv "Len") w = .ok (gn, rn) w) (enterN : ∀ args w, (callFunc gn args).run Try.prog w = .ok (.enter gn args) w)
    (hlen : Calls Try.prog gn #[rn] w fun e w' => e = .returned (.int .i64 size) ∧ Below w.heap.size w w') :
    Calls Try.prog 112 #[.iface T rv] w fun e w' => e = .returned (.tuple #[]) ∧ ∃ d', Lies St g w d' w' ∧ PermIn 0 size d d' ∧ (SWO R → Agrees lt R size d → SortedIn R 0 size d') := by
  have HN := Lib.hid hlen
  have HS := Lib.hid hS
  clear hlen hS
  go_enter Try.func112, Try.ntmps112
  go_wp2_with fail
  refine HN.out.mono ?_
  rintro e w1 ⟨rfl, hb1⟩
  have hL1 : Lies St g w d w1 := (Lies.start HS.out).quiet F.toBase hb1
  have HL1 := Lib.hid hL1
  have HP := Lib.hid (fc_stable (R := R) F hsz d w1 hL1.st)
  clear hb1 findN hL1
  go_wp2_with fail
  refine HP.out.mono ?_
  rintro e w3 ⟨rfl, d', hw3, hpm, hso⟩
  have H3 := Lib.hid (And.intro hw3 (And.intro hpm hso))
  clear hw3 hpm hso
  go_wp2_with fail
  go_end0
  exact ⟨rfl, d', HL1.out.trans H3.out.1, H3.out.2⟩
end

set_option maxHeartbeats 1000000 in
set_option maxRecDepth 100000 in
theorem insertionSort_tiny (T : TypeId) (rv : Value) (n : Nat) (w : World) (hn : n ≤ 1) : Calls Try.prog 156 #[.iface T rv, .int .i64 0, .int .i64 n] w fun e w' => e = .returned (.tuple #[]) ∧ w = w' := by
  have hnz : ¬ (1 : Int) < (n : Int) := by omega
  go_enter Try.func156, Try.ntmps156
  go_wp2
  go_loopw [6] (fun vi wr => vi = .int .i64 1 ∧ wr = w) (fun _ _ => 0)
  case atStart => exact ⟨by simp, rfl⟩
  case round =>
    obtain ⟨rfl, rfl⟩ := hrel
    go_wp2
    go_end0
    exact ⟨rfl, rfl⟩

set_option maxHeartbeats 1000000 in
set_option maxRecDepth 100000 in
theorem stable_tiny (T : TypeId) (rv : Value) (n : Nat) (w : World) (hn : n ≤ 1) : Calls Try.prog 131 #[.iface T rv, .int .i64 n] w fun e w' => e = .returned (.tuple #[]) ∧ w = w' := by
  have hnz : ¬ (20 : Int) ≤ (n : Int) := by omega
  have hnz2 : ¬ (20 : Int) < (n : Int) := by omega
  have HI := Lib.hid (insertionSort_tiny T rv n w hn)
  go_enter Try.func131, Try.ntmps131
  go_wp2
  go_loopw [5, 6] (fun va vb wr => va = .int .i64 0 ∧ vb = .int .i64 20 ∧ wr = w) (fun _ _ _ => 0)
  case atStart => exact ⟨rfl, rfl, rfl⟩
  case round =>
    obtain ⟨rfl, rfl, rfl⟩ := hrel
    go_wp2_with fail
    refine HI.out.mono ?_
    rintro e w1 ⟨rfl, rfl⟩
    go_wp2_with fail
    go_loopw [4] (fun vs wr2 => vs = .int .i64 20 ∧ wr2 = wr) (fun _ _ => 0)
    case atStart => exact ⟨rfl, rfl⟩
    case round =>
      obtain ⟨rfl, rfl⟩ := hrel
      go_wp2_with fail
      go_end0
      exact ⟨rfl, rfl⟩

set_option maxHeartbeats 1000000 in
set_option maxRecDepth 100000 in
theorem fc_Stable_tiny (T : TypeId) (rv : Value) (gn : Nat) (rn : Value) (n : Nat) (w : World) (findN : Sem.run Try.prog (method 285 T rv "Len") w = .ok (gn, rn) w) (enterN : ∀ args w, (callFunc gn args).run Try.prog w = .ok (.enter gn args) w) (hn : n ≤ 1)
    (hlen : Calls Try.prog gn #[rn] w fun e w' => e = .returned (.int .i64 n) ∧ Below w.heap.size w w') :
    Calls Try.prog 112 #[.iface T rv] w fun e w' => e = .returned (.tuple #[]) ∧ Below w.heap.size w w' := by
  have HN := Lib.hid hlen
  clear hlen
  go_enter Try.func112, Try.ntmps112
  go_wp2_with fail
  refine HN.out.mono ?_
  rintro e w1 ⟨rfl, hb1⟩
  have HB := Lib.hid hb1
  have HP := Lib.hid (stable_tiny T rv n w1 hn)
  clear hb1
  go_wp2_with fail
  refine HP.out.mono ?_
  rintro e w2 ⟨rfl, rfl⟩
  go_wp2_with fail
  go_end0
  exact ⟨rfl, HB.out⟩
#print axioms fc_Stable
#print axioms fc_Stable_tiny
#print axioms fc_stable
end Go.Proofs.Ytaifikhgijnkgaa
