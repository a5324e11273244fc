/- Contracts of laws.equal[int], laws.count[int], laws.permuted[int]. No conditions. -/
import Derived.Test.YtaifikhgijnkgaaOwn
namespace Go.Proofs.Ytaifikhgijnkgaa
open Go.RowKit
set_option linter.unusedVariables false

theorem take_ne {α : Type} [Inhabited α] {xs ys : List α} {k : Nat} (h : k < xs.length) (hne : el xs k ≠ el ys k) : xs ≠ ys := fun e => hne (by rw [e])

theorem eq_of_prefix {α : Type} [Inhabited α] {xs ys : List α} (hl : xs.length = ys.length) (h : ∀ t, t < xs.length → el xs t = el ys t) : xs = ys := ext_el hl h

set_option maxHeartbeats 400000 in
theorem equal_int (a : Option Addr) (la ca : Nat) (xs : List Int) (b : Option Addr) (lb cb : Nat) (ys : List Int) (w : World)
    (sa : Sl (Value.int .i64) w a la ca xs) (sb : Sl (Value.int .i64) w b lb cb ys) (hla : la < 4611686018427387904) :
    Calls Try.prog 50 #[.slice a la ca, .slice b lb cb] w fun e w' => e = .returned (.bool (decide (xs = ys))) ∧ ∃ q, w' = w.drewN q := by
  obtain ⟨ea, _, _, hca⟩ := sa
  obtain ⟨eb, _, _, hcb⟩ := sb
  by_cases hne : la = lb
  · subst hne
    by_cases h0 : la = 0
    · subst h0
      obtain rfl : xs = [] := List.length_eq_zero_iff.1 ea
      obtain rfl : ys = [] := List.length_eq_zero_iff.1 eb
      clear hca hcb ea eb
      go_enter Try.func50, Try.ntmps50
      go_wp2
      go_loopw [13] (fun s wr => s = .int .i64 0 ∧ wr = w) (fun _ _ => 0)
      case atStart => exact ⟨rfl, rfl⟩
      case round =>
        obtain ⟨rfl, rfl⟩ := hrel
        go_wp2
        go_ret
        exact ⟨by simp, 0, rfl⟩
    · rcases hca with hca | ⟨ba, oa, rfl, _, hca⟩
      · exact absurd hca h0
      rcases hcb with hcb | ⟨bb, ob, rfl, _, hcb⟩
      · exact absurd hcb h0
      have HA := Lib.hid hca
      have HB := Lib.hid hcb
      have EA := Lib.hid ea
      have EB := Lib.hid eb
      clear hca hcb ea eb
      go_enter Try.func50, Try.ntmps50
      go_wp2
      go_loopw [13] (fun s wr => ∃ k q : Nat, s = .int .i64 k ∧ k ≤ la ∧ wr = w.drewN q ∧ ∀ t, t < k → el xs t = el ys t) (fun s _ => la - (intOf s).toNat)
      case atStart => exact ⟨0, 0, rfl, by omega, rfl, fun t ht => by omega⟩
      case round =>
        obtain ⟨k, q, rfl, hk, rfl, hI⟩ := hrel
        have HI := Lib.hid hI
        clear hI
        by_cases hlt : k < la
        · have hlt' : (k : Int) < la := by omega
          have ck := HA.out k hlt
          have dk := HB.out k hlt
          by_cases he : el xs k = el ys k
          · have he' : (el xs k != el ys k) = false := by rw [he]; simp
            have HE := Lib.hid he
            clear he
            go_wp2
            go_quiet (fail)
            go_wp2
            go_roundw
            case rel =>
              refine ⟨k + 1, _, by go_num, by omega, rfl, fun t ht => ?_⟩
              by_cases htk : t = k
              · subst htk; exact HE.out
              · exact HI.out t (by omega)
            case measure => simp [intOf]; omega
          · have he' : (el xs k != el ys k) = true := by rw [bne_iff_ne]; exact he
            have HE := Lib.hid (take_ne (by rw [EA.out]; exact hlt) he)
            clear he
            go_wp2
            go_quiet (fail)
            go_wp2
            go_ret
            exact ⟨by simp [HE.out], _, World.drewN_drewN _ _ _⟩
        · obtain rfl : k = la := by omega
          have hfin : xs = ys := ext_el (by rw [EA.out, EB.out]) (fun t ht => HI.out t (by rw [EA.out] at ht; exact ht))
          have HF := Lib.hid hfin
          clear hfin
          go_wp2
          go_ret
          exact ⟨by simp [HF.out], _, rfl⟩
  · have hn : xs ≠ ys := fun e => hne (by rw [← ea, ← eb, e])
    have HN := Lib.hid hn
    have h1 : ((la : Int) != (lb : Int)) = true := by rw [bne_iff_ne]; omega
    clear hn hca hcb hne ea eb
    go_enter Try.func50, Try.ntmps50
    go_wp2
    go_ret
    exact ⟨by simp [HN.out], 0, rfl⟩

/-- How often an element is among the first k. -/
def cnt {α : Type} [BEq α] (xs : List α) (x : α) (k : Nat) : Nat := (xs.take k).countP (fun y => x == y)

theorem cnt_zero {α : Type} [BEq α] (xs : List α) (x : α) : cnt xs x 0 = 0 := by simp [cnt]
theorem cnt_le {α : Type} [BEq α] (xs : List α) (x : α) (k : Nat) : cnt xs x k ≤ k := by
  unfold cnt
  exact Nat.le_trans List.countP_le_length (List.length_take_le _ _)
theorem cnt_succ {α : Type} [BEq α] [Inhabited α] (xs : List α) (x : α) (k : Nat) (h : k < xs.length) : cnt xs x (k + 1) = cnt xs x k + if (x == el xs k) = true then 1 else 0 := by
  unfold cnt
  rw [List.take_succ_eq_append_getElem h, List.countP_append, el_eq xs k h]
  simp
theorem cnt_all {α : Type} [BEq α] (xs : List α) (x : α) : cnt xs x xs.length = xs.countP (fun y => x == y) := by simp [cnt]

set_option maxHeartbeats 400000 in
theorem count_int (a : Option Addr) (la ca : Nat) (xs : List Int) (x : Int) (w : World)
    (sa : Sl (Value.int .i64) w a la ca xs) (hla : la < 4611686018427387904) :
    Calls Try.prog 99 #[.slice a la ca, .int .i64 x] w fun e w' => e = .returned (.int .i64 (xs.countP (fun y => x == y) : Nat)) ∧ w = w' := by
  obtain ⟨ea, _, _, hca⟩ := sa
  by_cases h0 : la = 0
  · subst h0
    obtain rfl : xs = [] := List.length_eq_zero_iff.1 ea
    clear hca ea
    go_enter Try.func99, Try.ntmps99
    go_wp2
    go_loopw [5, 10] (fun n s wr => n = .int .i64 0 ∧ s = .int .i64 0 ∧ wr = w) (fun _ _ _ => 0)
    case atStart => exact ⟨rfl, rfl, rfl⟩
    case round =>
      obtain ⟨rfl, rfl, rfl⟩ := hrel
      go_wp2
      go_ret
      exact ⟨by simp, rfl⟩
  · rcases hca with hca | ⟨ba, oa, rfl, _, hca⟩
    · exact absurd hca h0
    have HA := Lib.hid hca
    have EA := Lib.hid ea
    clear hca ea
    go_enter Try.func99, Try.ntmps99
    go_wp2
    go_loopw [5, 10] (fun n s wr => ∃ k : Nat, n = .int .i64 (cnt xs x k : Nat) ∧ s = .int .i64 k ∧ k ≤ la ∧ wr = w) (fun _ s _ => la - (intOf s).toNat)
    case atStart => exact ⟨0, by rw [cnt_zero]; rfl, rfl, by omega, rfl⟩
    case round =>
      obtain ⟨k, rfl, rfl, hk, rfl⟩ := hrel
      have hc := cnt_le xs x k
      by_cases hlt : k < la
      · have hlt' : (k : Int) < la := by omega
        have ck := HA.out k hlt
        have HS := Lib.hid (cnt_succ xs x k (by rw [EA.out]; exact hlt))
        go_wp2
        all_goals
          go_roundw
          case rel =>
            refine ⟨k + 1, ?_, by go_num, by omega, by first | rfl | trivial⟩
            rw [HS.out]
            first | (rw [if_pos (by assumption)]; go_num; done) | (rw [if_neg (by simp_all)]; rfl)
          case measure => simp [intOf]; omega
      · obtain rfl : k = la := by omega
        have HF := Lib.hid (show cnt xs x k = xs.countP (fun y => x == y) by have := cnt_all xs x; rw [EA.out] at this; exact this)
        go_wp2
        go_ret
        exact ⟨by rw [HF.out]; rfl, rfl⟩

set_option maxHeartbeats 400000 in
theorem permuted_int (a : Option Addr) (la ca : Nat) (xs : List Int) (b : Option Addr) (lb cb : Nat) (ys : List Int) (w : World)
    (sa : Sl (Value.int .i64) w a la ca xs) (sb : Sl (Value.int .i64) w b lb cb ys) (hla : la < 4611686018427387904) (hp : xs.Perm ys) :
    Calls Try.prog 52 #[.slice a la ca, .slice b lb cb] w fun e w' => e = .returned (.bool true) ∧ w = w' := by
  have sa' := sa
  obtain ⟨ea, _, _, hca⟩ := sa
  obtain rfl : la = lb := by rw [← ea, ← sb.1]; exact hp.length_eq
  have HCa := Lib.hid (fun x => count_int a la ca xs x w sa' hla)
  have HCb := Lib.hid (fun x => count_int b la cb ys x w sb hla)
  have HP := Lib.hid hp
  clear sa' sb hp
  by_cases h0 : la = 0
  · subst h0
    clear hca ea
    go_enter Try.func52, Try.ntmps52
    go_wp2
    go_loopw [14] (fun s wr => s = .int .i64 0 ∧ wr = w) (fun _ _ => 0)
    case atStart => exact ⟨rfl, rfl⟩
    case round =>
      obtain ⟨rfl, rfl⟩ := hrel
      go_wp2
      go_ret
      exact ⟨rfl, rfl⟩
  · rcases hca with hca | ⟨ba, oa, rfl, _, hca⟩
    · exact absurd hca h0
    have HA := Lib.hid hca
    clear hca ea
    go_enter Try.func52, Try.ntmps52
    go_wp2
    go_loopw [14] (fun s wr => ∃ k : Nat, s = .int .i64 k ∧ k ≤ la ∧ wr = w) (fun s _ => la - (intOf s).toNat)
    case atStart => exact ⟨0, rfl, by omega, rfl⟩
    case round =>
      obtain ⟨k, rfl, hk, rfl⟩ := hrel
      by_cases hlt : k < la
      · have hlt' : (k : Int) < la := by omega
        have ck := HA.out k hlt
        have h1 := HCa.out (el xs k)
        have h2 := HCb.out (el xs k)
        rw [← HP.out.countP_eq] at h2
        generalize List.countP (fun y => el xs k == y) xs = c at h1 h2
        have H1 := Lib.hid h1
        have H2 := Lib.hid h2
        clear h1 h2
        go_wp2_with fail
        refine H1.out.mono ?_
        rintro e w' ⟨rfl, rfl⟩
        go_wp2_with fail
        refine H2.out.mono ?_
        rintro e w' ⟨rfl, rfl⟩
        go_wp2_with fail
        go_roundw
        case rel => exact ⟨k + 1, by go_num, by omega, by first | rfl | trivial⟩
        case measure => simp [intOf]; omega
      · go_wp2
        go_ret
        exact ⟨rfl, rfl⟩
#print axioms equal_int
#print axioms count_int
#print axioms permuted_int
end Go.Proofs.Ytaifikhgijnkgaa
