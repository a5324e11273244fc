/- The contract of sort.symMerge over an interface value: two sorted neighbours are merged. Conditions: the bounds lie inside the row. -/
import Derived.Test.YtaifikhgijnkgaaFcRot
namespace Go.Proofs.Ytaifikhgijnkgaa
open Go.RowKit
open Go.Sort hiding Below
set_option linter.unusedVariables false
set_option linter.unusedSectionVars false
section
variable {α : Type} [Inhabited α] {lt R : α → α → Bool} {St : Array α → World → Prop} {B g size : Nat} {T : TypeId} {rv : Value} {gl : Nat} {rl : Value} {gs : Nat} {rs : Value}

theorem Rot.nil (m z : Nat) (d : Array α) : Rot m m z d d := ⟨permIn_refl _ _ _, fun t _ _ => by rw [Nat.sub_self, Nat.add_zero], fun t h1 h2 => by omega⟩

set_option maxHeartbeats 4000000 in
set_option maxRecDepth 100000 in
theorem fc_symMerge_one (F : Face lt St B g size T rv gl rl gs rs) (hsz : size < 1152921504606846976) (a m b : Nat) (d : Array α) (w : World) (hS : St d w) (hm : m = a + 1) (hab : a + 1 < b) (hb : b ≤ size) :
    Calls Try.prog 165 #[.iface T rv, .int .i64 a, .int .i64 m, .int .i64 b] w fun e w' => e = .returned (.tuple #[]) ∧ ∃ d', Lies St g w d' w' ∧ Merged lt R a m b d d' := by
  have eL := F.enterL; have eS := F.enterS
  have H0 := Lib.hid (Lies.start (g := g) hS)
  have HN := Lib.hid (F.len hS)
  clear hS
  have HM := Lib.hid hm
  have hm1 : m ≤ a + 1 := by omega
  have hm2 : a + 1 ≤ m := by omega
  have hma : (m : Int) - (a : Int) = 1 := by omega
  clear hm
  go_enter Try.func165, Try.ntmps165
  go_wp2
  clear hma
  go_loopg [8, 9] (b - m) (fun kx si sj wr => ∃ (i j : Nat), si = .int .i64 i ∧ sj = .int .i64 j ∧ m ≤ i ∧ i ≤ j ∧ j ≤ b ∧ j - i ≤ kx ∧ Lies St g w d wr ∧ Hid (∀ r, Turns (fun h => lt d[h]! d[a]!) i j r → Turns (fun h => lt d[h]! d[a]!) m b r))
  case atStart => exact ⟨m, b, rfl, rfl, by omega, by omega, by omega, by omega, H0.out, fun r h => h⟩
  case round =>
    obtain ⟨i, j, rfl, rfl, hmi, hij, hjb, hk, hL, HT⟩ := hrel
    by_cases hlt : i < j
    · have hltz : (i : Int) < (j : Int) := by omega
      have mL := F.findL hL.st
      cases hlv : lt d[(i + j) / 2]! d[a]! with
      | true =>
        go_wp2_with fail
        refine (F.lessAt hL ((i + j) / 2) a (by omega) (by omega) (by omega) rfl hlv).mono ?_
        rintro e w1 ⟨rfl, hL1⟩
        go_wp2_with fail
        go_roundg (j - ((i + j) / 2 + 1))
        case measure => omega
        case rel => exact ⟨(i + j) / 2 + 1, j, by congr 1 <;> omega, rfl, by omega, by omega, hjb, Nat.le_refl _, hL1, (fun r h => HT.out r (Turns.up (by omega) hlv h) : ∀ r, _ → _)⟩
      | false =>
        go_wp2_with fail
        refine (F.lessAt hL ((i + j) / 2) a (by omega) (by omega) (by omega) rfl hlv).mono ?_
        rintro e w1 ⟨rfl, hL1⟩
        go_wp2_with fail
        go_roundg ((i + j) / 2 - i)
        case measure => omega
        case rel => exact ⟨i, (i + j) / 2, rfl, by congr 1 <;> omega, by omega, by omega, by omega, Nat.le_refl _, hL1, (fun r h => HT.out r (Turns.down (by omega) hlv h) : ∀ r, _ → _)⟩
    · obtain rfl : i = j := by omega
      have hltz : ¬ (i : Int) < (i : Int) := by omega
      have HTi := Lib.hid (HT.out i (Turns.stop _ i))
      clear HT
      go_wp2
      go_loopg [11] (i - m) (fun kx sk wr2 => ∃ (k : Nat) (dk : Array α), sk = .int .i64 k ∧ a ≤ k ∧ k + 1 ≤ i ∧ i - (k + 1) ≤ kx ∧ Lies St g w dk wr2 ∧ Hid (Rot a (a + 1) (k + 1) d dk))
      case atStart => exact ⟨a, d, rfl, by omega, by omega, by omega, hL, Rot.none _ _ _ (by omega)⟩
      case round =>
        clear hL
        obtain ⟨k, dk, rfl, hak, hki, hkx, hL, HR⟩ := hrel
        by_cases hlt : k + 1 < i
        · have hltk : (k : Int) < (i : Int) - 1 := by omega
          have mS := F.findS hL.st
          go_wp2_with fail
          refine (F.swapAt hL k (k + 1) (by omega) (by omega) (by omega) (by omega)).mono ?_
          rintro e w2 ⟨rfl, hL2⟩
          go_wp2_with fail
          go_roundg (i - (k + 1 + 1))
          case measure => omega
          case rel => exact ⟨k + 1, swp dk k (k + 1), by go_num, by omega, by omega, Nat.le_refl _, hL2, HR.out.up hak (by rw [HN.out]; omega)⟩
        · obtain rfl : i = k + 1 := by omega
          have hltk : ¬ (k : Int) < ((k + 1 : Nat) : Int) - 1 := by omega
          go_wp2_with fail
          (try simp only [Exit.inBlock, Exit.then]); refine bodyPost_ret (results_none rfl _ _ _) rfl ?_
          have ht := HTi.out
          rw [HM.out] at ht ⊢
          exact ⟨rfl, dk, hL, merged_one hab ht HR.out (by rw [HN.out]; omega)⟩
set_option maxHeartbeats 4000000 in
set_option maxRecDepth 100000 in
theorem fc_symMerge_last (F : Face lt St B g size T rv gl rl gs rs) (hsz : size < 1152921504606846976) (a m b : Nat) (d : Array α) (w : World) (hS : St d w) (hne : m ≠ a + 1) (ham : a < m) (hm : b = m + 1) (hb : b ≤ size) :
    Calls Try.prog 165 #[.iface T rv, .int .i64 a, .int .i64 m, .int .i64 b] w fun e w' => e = .returned (.tuple #[]) ∧ ∃ d', Lies St g w d' w' ∧ Merged lt R a m b d d' := by
  have eL := F.enterL; have eS := F.enterS
  have H0 := Lib.hid (Lies.start (g := g) hS)
  have HN := Lib.hid (F.len hS)
  clear hS
  have HM := Lib.hid hm
  have hm1 : b ≤ m + 1 := by omega
  have hm2 : m + 1 ≤ b := by omega
  have hma : ((m : Int) - (a : Int) == 1) = false := by rw [beq_eq_false_iff_ne]; omega
  have hmb : ((b : Int) - (m : Int) == 1) = true := by rw [beq_iff_eq]; omega
  clear hm hne
  go_enter Try.func165, Try.ntmps165
  go_wp2
  go_loopg [12, 13] (m - a) (fun kx si sj wr => ∃ (i j : Nat), si = .int .i64 i ∧ sj = .int .i64 j ∧ a ≤ i ∧ i ≤ j ∧ j ≤ m ∧ j - i ≤ kx ∧ Lies St g w d wr ∧ Hid (∀ r, Turns (fun h => !lt d[m]! d[h]!) i j r → Turns (fun h => !lt d[m]! d[h]!) a m r))
  case atStart => exact ⟨a, m, rfl, rfl, by omega, by omega, by omega, by omega, H0.out, fun r h => h⟩
  case round =>
    obtain ⟨i, j, rfl, rfl, hmi, hij, hjb, hk, hL, HT⟩ := hrel
    by_cases hlt : i < j
    · have hltz : (i : Int) < (j : Int) := by omega
      have mL := F.findL hL.st
      cases hlv : lt d[m]! d[(i + j) / 2]! with
      | true =>
        go_wp2_with fail
        refine (F.lessAt hL m ((i + j) / 2) (by omega) (by omega) rfl (by omega) hlv).mono ?_
        rintro e w1 ⟨rfl, hL1⟩
        go_wp2_with fail
        go_roundg ((i + j) / 2 - i)
        case measure => omega
        case rel => exact ⟨i, (i + j) / 2, rfl, by congr 1 <;> omega, by omega, by omega, by omega, Nat.le_refl _, hL1, (fun r h => HT.out r (Turns.down (by omega) (by simp [hlv]) h) : ∀ r, _ → _)⟩
      | false =>
        go_wp2_with fail
        refine (F.lessAt hL m ((i + j) / 2) (by omega) (by omega) rfl (by omega) hlv).mono ?_
        rintro e w1 ⟨rfl, hL1⟩
        go_wp2_with fail
        go_roundg (j - ((i + j) / 2 + 1))
        case measure => omega
        case rel => exact ⟨(i + j) / 2 + 1, j, by congr 1 <;> omega, rfl, by omega, by omega, hjb, Nat.le_refl _, hL1, (fun r h => HT.out r (Turns.up (by omega) (by simp [hlv]) h) : ∀ r, _ → _)⟩
    · obtain rfl : i = j := by omega
      have hltz : ¬ (i : Int) < (i : Int) := by omega
      have HTi := Lib.hid (HT.out i (Turns.stop _ i))
      clear HT
      go_wp2
      go_loopg [15] (m - i) (fun kx sk wr2 => ∃ (k : Nat) (dk : Array α), sk = .int .i64 k ∧ i ≤ k ∧ k ≤ m ∧ k - i ≤ kx ∧ Lies St g w dk wr2 ∧ Hid (Rot k m (m + 1) d dk))
      case atStart => exact ⟨m, d, rfl, by omega, by omega, by omega, hL, Rot.nil _ _ _⟩
      case round =>
        clear hL
        obtain ⟨k, dk, rfl, hak, hki, hkx, hL, HR⟩ := hrel
        by_cases hlt : i < k
        · have hltk : (i : Int) < (k : Int) := by omega
          have mS := F.findS hL.st
          go_wp2_with fail
          refine (F.swapAt hL k (k - 1) (by omega) (by omega) (by omega) (by omega)).mono ?_
          rintro e w2 ⟨rfl, hL2⟩
          go_wp2_with fail
          go_roundg (k - 1 - i)
          case measure => omega
          case rel => exact ⟨k - 1, swp dk k (k - 1), by congr 1 <;> omega, by omega, by omega, Nat.le_refl _, hL2, HR.out.down (by omega) (by omega) (by rw [HN.out]; omega)⟩
        · obtain rfl : i = k := by omega
          have hltk : ¬ (i : Int) < (i : Int) := by omega
          go_wp2_with fail
          (try simp only [Exit.inBlock, Exit.then]); refine bodyPost_ret (results_none rfl _ _ _) rfl ?_
          rw [HM.out]
          exact ⟨rfl, dk, hL, merged_last ham HTi.out HR.out (by rw [HN.out]; omega)⟩

set_option maxHeartbeats 8000000 in
set_option maxRecDepth 100000 in
theorem fc_symMerge_mid (F : Face lt St B g size T rv gl rl gs rs) (hsz : size < 1152921504606846976) (a m b : Nat) (d : Array α) (w : World) (hS : St d w) (hne : m ≠ a + 1) (hne2 : b ≠ m + 1) (ham : a < m) (hmb : m < b) (hb : b ≤ size)
    (IH : ∀ (a' m' b' : Nat) (d' : Array α) (w' : World), St d' w' → a' < m' → m' < b' → b' ≤ size → b' - a' < b - a → Calls Try.prog 165 #[.iface T rv, .int .i64 a', .int .i64 m', .int .i64 b'] w' fun e w'' => e = .returned (.tuple #[]) ∧ ∃ d'', Lies St g w' d'' w'' ∧ Merged lt R a' m' b' d' d'') :
    Calls Try.prog 165 #[.iface T rv, .int .i64 a, .int .i64 m, .int .i64 b] w fun e w' => e = .returned (.tuple #[]) ∧ ∃ d', Lies St g w d' w' ∧ Merged lt R a m b d d' := by
  have eL := F.enterL
  have H0 := Lib.hid (Lies.start (g := g) hS)
  have HN := Lib.hid (F.len hS)
  have HI := Lib.hid IH
  clear hS IH
  have hma : ((m : Int) - (a : Int) == 1) = false := by rw [beq_eq_false_iff_ne]; omega
  have hmb1 : ((b : Int) - (m : Int) == 1) = false := by rw [beq_eq_false_iff_ne]; omega
  obtain ⟨mid, hmid⟩ : ∃ mid, mid = (a + b) / 2 := ⟨_, rfl⟩
  have HM := Lib.hid hmid
  have hm1 : 2 * mid ≤ a + b := by omega
  have hm2 : a + b ≤ 2 * mid + 1 := by omega
  have hmz : ((a : Int) + (b : Int)) / 2 = (mid : Int) := by omega
  clear hne hne2 hmid
  go_enter Try.func165, Try.ntmps165
  go_upto_if 102 with fail
  clear hma hmb1
  go_cut [16, 17, 18, 19] from 23 (fun s16 s17 s18 s19 wc => s16 = .int .i64 mid ∧ s17 = .int .i64 ((mid + m : Nat) : Int) ∧ w = wc ∧ ∃ s0 r0 : Nat, s18 = .int .i64 s0 ∧ s19 = .int .i64 r0 ∧ ((mid < m ∧ s0 = mid + m - b ∧ r0 = mid) ∨ (m ≤ mid ∧ s0 = a ∧ r0 = m)))
  case first =>
    by_cases hgt : mid < m
    · have hgtz : (mid : Int) < (m : Int) := by omega
      go_wp2_with fail
      go_meet
      case rel => exact ⟨by simp, by simp, rfl, mid + m - b, mid, by simp; omega, by simp, Or.inl ⟨hgt, rfl, rfl⟩⟩
    · have hgtz : ¬ (mid : Int) < (m : Int) := by omega
      go_wp2_with fail
      go_meet
      case rel => exact ⟨by simp, by simp, rfl, a, m, rfl, rfl, Or.inr ⟨by omega, rfl, rfl⟩⟩
  case rest =>
    obtain ⟨rfl, rfl, rfl, s0, r0, rfl, rfl, hcase⟩ := hcut
    have hb1 : a ≤ s0 := by omega
    have hb2 : s0 ≤ r0 := by omega
    have hb3 : r0 ≤ m := by omega
    have hb4 : r0 ≤ mid := by omega
    have hb5 : mid + m ≤ b + s0 := by omega
    have HC := Lib.hid hcase
    clear hcase
    go_wp2
    go_loopg [18, 19] (r0 - s0) (fun kx s18 s19 wr => ∃ (s r : Nat), s18 = .int .i64 s ∧ s19 = .int .i64 r ∧ s0 ≤ s ∧ s ≤ r ∧ r ≤ r0 ∧ r - s ≤ kx ∧ Lies St g w d wr ∧ Hid (∀ q, Turns (fun c => !lt d[mid + m - 1 - c]! d[c]!) s r q → Turns (fun c => !lt d[mid + m - 1 - c]! d[c]!) s0 r0 q))
    case atStart => exact ⟨s0, r0, rfl, rfl, by omega, by omega, by omega, by omega, H0.out, fun r h => h⟩
    case round =>
      obtain ⟨s, r, rfl, rfl, hss, hsr, hrr, hk, hL, HT⟩ := hrel
      by_cases hlt : s < r
      · have hltz : (s : Int) < (r : Int) := by omega
        have mL := F.findL hL.st
        cases hlv : lt d[mid + m - 1 - (s + r) / 2]! d[(s + r) / 2]! with
        | true =>
          go_wp2_with fail
          refine (F.lessAt hL (mid + m - 1 - (s + r) / 2) ((s + r) / 2) (by omega) (by omega) (by omega) (by omega) hlv).mono ?_
          rintro e w1 ⟨rfl, hL1⟩
          go_wp2_with fail
          go_roundg ((s + r) / 2 - s)
          case measure => omega
          case rel => exact ⟨s, (s + r) / 2, rfl, by congr 1 <;> omega, by omega, by omega, by omega, Nat.le_refl _, hL1, (fun q h => HT.out q (Turns.down (by omega) (by simp [hlv]) h) : ∀ q, _ → _)⟩
        | false =>
          go_wp2_with fail
          refine (F.lessAt hL (mid + m - 1 - (s + r) / 2) ((s + r) / 2) (by omega) (by omega) (by omega) (by omega) hlv).mono ?_
          rintro e w1 ⟨rfl, hL1⟩
          go_wp2_with fail
          go_roundg (r - ((s + r) / 2 + 1))
          case measure => omega
          case rel => exact ⟨(s + r) / 2 + 1, r, by congr 1 <;> omega, rfl, by omega, by omega, hrr, Nat.le_refl _, hL1, (fun q h => HT.out q (Turns.up (by omega) (by simp [hlv]) h) : ∀ q, _ → _)⟩
      · obtain rfl : s = r := by omega
        have hltz : ¬ (s : Int) < (s : Int) := by omega
        have HTi := Lib.hid (HT.out s (Turns.stop _ s))
        clear HT
        obtain ⟨en, hen⟩ : ∃ en, en = mid + m - s := ⟨_, rfl⟩
        have HE := Lib.hid hen
        have he1 : en + s ≤ mid + m := by omega
        have he2 : mid + m ≤ en + s := by omega
        have he3 : en ≤ b := by omega
        have he4 : m ≤ en := by omega
        clear hen
        go_upto_region 38 with fail
        go_cut [18, 22] from 23 (fun s18 s22 wx => s18 = .int .i64 s ∧ s22 = .int .i64 en ∧ Lies St g w d wx)
        case first =>
          go_wp2_with fail
          go_meet
          case rel => exact ⟨rfl, by congr 1 <;> omega, hL⟩
        case rest =>
          clear hL
          obtain ⟨rfl, rfl, hL⟩ := hcut
          go_upto_region 39 with fail
          go_cut [18, 22, 140] from 23 (fun s18 s22 s140 wx => s18 = .int .i64 s ∧ s22 = .int .i64 en ∧ (∃ t1 : Bool, s140 = .bool t1 ∧ Hid (t1 = true ↔ (s < m ∧ m < en))) ∧ Lies St g w d wx)
          case first =>
            by_cases c1 : s < m
            · have c1z : (s : Int) < (m : Int) := by omega
              by_cases c2 : m < en
              · have c2z : (m : Int) < (en : Int) := by omega
                go_wp2_with fail
                go_meet
                case rel => exact ⟨rfl, rfl, ⟨true, rfl, (by simp [c1, c2] : true = true ↔ (s < m ∧ m < en))⟩, hL⟩
              · have c2z : ¬ (m : Int) < (en : Int) := by omega
                go_wp2_with fail
                go_meet
                case rel => exact ⟨rfl, rfl, ⟨false, rfl, (by simp [c2] : false = true ↔ (s < m ∧ m < en))⟩, hL⟩
            · have c1z : ¬ (s : Int) < (m : Int) := by omega
              go_wp2_with fail
              go_meet
              case rel => exact ⟨rfl, rfl, ⟨false, rfl, (by simp [c1] : false = true ↔ (s < m ∧ m < en))⟩, hL⟩
          case rest =>
            clear hL
            obtain ⟨rfl, rfl, ⟨t1, rfl, HT1⟩, hL⟩ := hcut
            go_upto_if 140 with fail
            go_cut [] from 23 (fun wx => ∃ d1 : Array α, Lies St g w d1 wx ∧ Hid ((s < m ∧ m < en ∧ Rot s m en d d1) ∨ (¬ (s < m ∧ m < en) ∧ d1 = d)))
            case first =>
              cases t1 with
              | true =>
                obtain ⟨c1, c2⟩ := HT1.out.1 rfl
                have hc := Lib.hid (fc_rotate F hsz s m en d wc hL.st c1 c2 (by omega))
                go_wp2_with fail
                refine hc.out.mono ?_
                rintro e w2 ⟨rfl, d1, hL2, hr⟩
                have HR := Lib.hid hr
                clear hr
                go_wp2_with fail
                go_meet
                case rel => exact ⟨d1, hL.trans hL2, Or.inl ⟨c1, c2, HR.out⟩⟩
              | false =>
                go_wp2_with fail
                go_meet
                case rel => exact ⟨d, hL, Or.inr ⟨fun h => absurd (HT1.out.2 h) (by simp), rfl⟩⟩
            case rest =>
              clear hL HT1
              obtain ⟨d1, hL, H1⟩ := hcut
              go_upto_region 41 with fail
              go_cut [18, 22, 153] from 23 (fun s18 s22 s153 wx => s18 = .int .i64 s ∧ s22 = .int .i64 en ∧ (∃ t1 : Bool, s153 = .bool t1 ∧ Hid (t1 = true ↔ (a < s ∧ s < mid))) ∧ Lies St g w d1 wx)
              case first =>
                by_cases c1 : a < s
                · have c1z : (a : Int) < (s : Int) := by omega
                  by_cases c2 : s < mid
                  · have c2z : (s : Int) < (mid : Int) := by omega
                    go_wp2_with fail
                    go_meet
                    case rel => exact ⟨rfl, rfl, ⟨true, rfl, (by simp [c1, c2] : true = true ↔ (a < s ∧ s < mid))⟩, hL⟩
                  · have c2z : ¬ (s : Int) < (mid : Int) := by omega
                    go_wp2_with fail
                    go_meet
                    case rel => exact ⟨rfl, rfl, ⟨false, rfl, (by simp [c2] : false = true ↔ (a < s ∧ s < mid))⟩, hL⟩
                · have c1z : ¬ (a : Int) < (s : Int) := by omega
                  go_wp2_with fail
                  go_meet
                  case rel => exact ⟨rfl, rfl, ⟨false, rfl, (by simp [c1] : false = true ↔ (a < s ∧ s < mid))⟩, hL⟩
              case rest =>
                clear hL
                obtain ⟨rfl, rfl, ⟨t1, rfl, HT1⟩, hL⟩ := hcut
                go_upto_if 153 with fail
                go_cut [] from 23 (fun wx => ∃ d2 : Array α, Lies St g w d2 wx ∧ Hid ((a < s ∧ s < mid ∧ Merged lt R a s mid d1 d2) ∨ (¬ (a < s ∧ s < mid) ∧ d2 = d1)))
                case first =>
                  cases t1 with
                  | true =>
                    obtain ⟨c1, c2⟩ := HT1.out.1 rfl
                    have hc := Lib.hid (HI.out a s mid d1 wc hL.st c1 c2 (by omega) (by omega))
                    go_wp2_with fail
                    refine hc.out.mono ?_
                    rintro e w2 ⟨rfl, d2, hL2, hr⟩
                    have HR := Lib.hid hr
                    clear hr
                    go_wp2_with fail
                    go_meet
                    case rel => exact ⟨d2, hL.trans hL2, Or.inl ⟨c1, c2, HR.out⟩⟩
                  | false =>
                    go_wp2_with fail
                    go_meet
                    case rel => exact ⟨d1, hL, Or.inr ⟨fun h => absurd (HT1.out.2 h) (by simp), rfl⟩⟩
                case rest =>
                  clear hL HT1
                  obtain ⟨d2, hL, H2⟩ := hcut
                  go_upto_region 43 with fail
                  go_cut [18, 22, 166] from 23 (fun s18 s22 s166 wx => s18 = .int .i64 s ∧ s22 = .int .i64 en ∧ (∃ t1 : Bool, s166 = .bool t1 ∧ Hid (t1 = true ↔ (mid < en ∧ en < b))) ∧ Lies St g w d2 wx)
                  case first =>
                    by_cases c1 : mid < en
                    · have c1z : (mid : Int) < (en : Int) := by omega
                      by_cases c2 : en < b
                      · have c2z : (en : Int) < (b : Int) := by omega
                        go_wp2_with fail
                        go_meet
                        case rel => exact ⟨rfl, rfl, ⟨true, rfl, (by simp [c1, c2] : true = true ↔ (mid < en ∧ en < b))⟩, hL⟩
                      · have c2z : ¬ (en : Int) < (b : Int) := by omega
                        go_wp2_with fail
                        go_meet
                        case rel => exact ⟨rfl, rfl, ⟨false, rfl, (by simp [c2] : false = true ↔ (mid < en ∧ en < b))⟩, hL⟩
                    · have c1z : ¬ (mid : Int) < (en : Int) := by omega
                      go_wp2_with fail
                      go_meet
                      case rel => exact ⟨rfl, rfl, ⟨false, rfl, (by simp [c1] : false = true ↔ (mid < en ∧ en < b))⟩, hL⟩
                  case rest =>
                    clear hL
                    obtain ⟨rfl, rfl, ⟨t1, rfl, HT1⟩, hL⟩ := hcut
                    cases t1 with
                    | true =>
                      obtain ⟨c1, c2⟩ := HT1.out.1 rfl
                      have hc := Lib.hid (HI.out mid en b d2 wc hL.st c1 c2 (by omega) (by omega))
                      go_wp2_with fail
                      refine hc.out.mono ?_
                      rintro e w2 ⟨rfl, d3, hL2, hr⟩
                      have HR := Lib.hid hr
                      clear hr
                      go_wp2_with fail
                      go_end0
                      exact ⟨rfl, d3, hL.trans hL2, merged_mid ham hmb (by rw [HN.out]; exact hb) HM.out rfl HC.out HTi.out HE.out H1.out H2.out (Or.inl ⟨c1, c2, HR.out⟩)⟩
                    | false =>
                      go_wp2_with fail
                      go_end0
                      exact ⟨rfl, d2, hL, merged_mid ham hmb (by rw [HN.out]; exact hb) HM.out rfl HC.out HTi.out HE.out H1.out H2.out (Or.inr ⟨fun h => absurd (HT1.out.2 h) (by simp), rfl⟩)⟩

/-- sort.symMerge. -/
theorem fc_symMerge (F : Face lt St B g size T rv gl rl gs rs) (hsz : size < 1152921504606846976) : ∀ (n a m b : Nat) (d : Array α) (w : World), b - a ≤ n → St d w → a < m → m < b → b ≤ size →
    Calls Try.prog 165 #[.iface T rv, .int .i64 a, .int .i64 m, .int .i64 b] w fun e w' => e = .returned (.tuple #[]) ∧ ∃ d', Lies St g w d' w' ∧ Merged lt R a m b d d' := by
  intro n
  induction n with
  | zero => intro a m b d w h1 _ h2 h3 _; omega
  | succ n ih =>
    intro a m b d w hn hS ham hmb hb
    by_cases h1 : m = a + 1
    · exact fc_symMerge_one F hsz a m b d w hS h1 (by omega) hb
    · by_cases h2 : b = m + 1
      · exact fc_symMerge_last F hsz a m b d w hS h1 ham h2 hb
      · exact fc_symMerge_mid F hsz a m b d w hS h1 h2 ham hmb hb fun a' m' b' d' w' k1 k2 k3 k4 k5 => ih a' m' b' d' w' (by omega) k1 k2 k3 k4
end
#print axioms fc_symMerge_one
#print axioms fc_symMerge_last
#print axioms fc_symMerge
end Go.Proofs.Ytaifikhgijnkgaa
