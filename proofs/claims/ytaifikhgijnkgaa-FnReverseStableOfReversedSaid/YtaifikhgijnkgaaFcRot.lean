/- Contracts of sort.swapRange and sort.rotate over an interface value. Conditions: the ranges lie inside the row. -/
import Derived.Test.YtaifikhgijnkgaaFace
import Derived.Test.YtaifikhgijnkgaaStab
namespace Go.Proofs.Ytaifikhgijnkgaa
open Go.RowKit
open Go.Sort hiding Below
set_option linter.unusedVariables false
set_option linter.unusedSectionVars false
section
variable {α : Type} [Inhabited α] {lt : α → α → Bool} {St : Array α → World → Prop} {B g size : Nat} {T : TypeId} {rv : Value} {gl : Nat} {rl : Value} {gs : Nat} {rs : Value}

set_option maxHeartbeats 2000000 in
set_option maxRecDepth 100000 in
theorem fc_swapRange (F : Face lt St B g size T rv gl rl gs rs) (hsz : size < 1152921504606846976) (a b n : Nat) (d : Array α) (w : World) (hS : St d w) (hab : a + n ≤ b) (hb : b + n ≤ size) :
    Calls Try.prog 191 #[.iface T rv, .int .i64 a, .int .i64 b, .int .i64 n] w fun e w' => e = .returned (.tuple #[]) ∧ ∃ d', Lies St g w d' w' ∧ SwR a b n d d' := by
  have eS := F.enterS
  have H0 := Lib.hid (Lies.start (g := g) hS)
  have HN := Lib.hid (F.len hS)
  clear hS
  go_enter Try.func191, Try.ntmps191
  go_wp2
  go_loopw [8] (fun vi wr => ∃ (i : Nat) (dk : Array α), vi = .int .i64 i ∧ i ≤ n ∧ Lies St g w dk wr ∧ Hid (SwR a b i d dk)) (fun vi _ => n - (intOf vi).toNat)
  case atStart => exact ⟨0, d, rfl, by omega, H0.out, SwR.zero a b d⟩
  case round =>
    obtain ⟨i, dk, rfl, hin, hL, HO⟩ := hrel
    by_cases hlt : i < n
    · have hltz : (i : Int) < (n : Int) := by omega
      have mS := F.findS hL.st
      go_wp2_with fail
      refine (F.swapAt hL (a + i) (b + i) (by omega) (by omega) (by omega) (by omega)).mono ?_
      rintro e w2 ⟨rfl, hL2⟩
      go_wp2_with fail
      go_roundw
      case rel => exact ⟨i + 1, swp dk (a + i) (b + i), by go_num, by omega, hL2, HO.out.step (by omega) (by rw [HN.out]; omega)⟩
      case measure => simp [intOf]; omega
    · obtain rfl : i = n := by omega
      have hltz : ¬ (i : Int) < (i : Int) := by omega
      go_wp2
      go_end0
      exact ⟨rfl, dk, hL, HO.out⟩

set_option maxHeartbeats 2000000 in
set_option maxRecDepth 100000 in
theorem fc_rotate (F : Face lt St B g size T rv gl rl gs rs) (hsz : size < 1152921504606846976) (a m b : Nat) (d : Array α) (w : World) (hS : St d w) (ham : a < m) (hmb : m < b) (hb : b ≤ size) :
    Calls Try.prog 183 #[.iface T rv, .int .i64 a, .int .i64 m, .int .i64 b] w fun e w' => e = .returned (.tuple #[]) ∧ ∃ d', Lies St g w d' w' ∧ Rot a m b d d' := by
  have H0 := Lib.hid (Lies.start (g := g) hS)
  have HN := Lib.hid (F.len hS)
  clear hS
  go_enter Try.func183, Try.ntmps183
  go_wp2
  go_loopg [8, 9] (b - a) (fun k si sj wr => ∃ (i j : Nat) (dk : Array α), si = .int .i64 i ∧ sj = .int .i64 j ∧ 0 < i ∧ 0 < j ∧ i + a ≤ m ∧ m + j ≤ b ∧ i + j ≤ k ∧ Lies St g w dk wr ∧ Hid (dk.size = size) ∧ Hid (∀ d', Rot (m - i) m (m + j) dk d' → Rot a m b d d'))
  case atStart => exact ⟨m - a, b - m, d, by congr 1; omega, by congr 1; omega, by omega, by omega, by omega, by omega, by omega, H0.out, HN.out, by rw [show m - (m - a) = a by omega, show m + (b - m) = b by omega]; exact fun d' h => h⟩
  case round =>
    obtain ⟨i, j, dk, rfl, rfl, hi, hj, hia, hjb, hk, hL, HZ, HR⟩ := hrel
    by_cases hij : i = j
    · subst hij
      have hc := fc_swapRange F hsz (m - i) m i dk wr hL.st (by omega) (by omega)
      rw [show ((m - i : Nat) : Int) = (m : Int) - (i : Int) by omega] at hc
      have HC := Lib.hid hc
      clear hc
      go_wp2_with fail
      refine HC.out.mono ?_
      rintro e w2 ⟨rfl, d', hL2, hs⟩
      have HS := Lib.hid hs
      clear hs
      go_wp2_with fail
      go_end0
      exact ⟨rfl, d', hL.trans hL2, HR.out d' (Rot.last (by omega) HS.out)⟩
    · have hijz : ((i : Int) != (j : Int)) = true := by rw [bne_iff_ne]; omega
      by_cases hgt : j < i
      · have hgtz : (j : Int) < (i : Int) := by omega
        have hc := fc_swapRange F hsz (m - i) m j dk wr hL.st (by omega) (by omega)
        rw [show ((m - i : Nat) : Int) = (m : Int) - (i : Int) by omega] at hc
        have HC := Lib.hid hc
        clear hc
        go_wp2_with fail
        refine HC.out.mono ?_
        rintro e w2 ⟨rfl, d', hL2, hs⟩
        have HS := Lib.hid hs
        clear hs
        go_wp2_with fail
        go_roundg (i - j + j)
        case measure => omega
        case rel => exact ⟨i - j, j, d', by congr 1; omega, rfl, by omega, hj, by omega, hjb, Nat.le_refl _, hL.trans hL2, by rw [HS.out.perm.1]; exact HZ.out, (fun d2 h2 => HR.out d2 (Rot.gt (by omega) hgt (by rw [HZ.out]; omega) HS.out h2) : ∀ d2, _ → _)⟩
      · have hgtz : ¬ (j : Int) < (i : Int) := by omega
        have hc := fc_swapRange F hsz (m - i) (m + j - i) i dk wr hL.st (by omega) (by omega)
        rw [show ((m - i : Nat) : Int) = (m : Int) - (i : Int) by omega, show ((m + j - i : Nat) : Int) = (m : Int) + (j : Int) - (i : Int) by omega] at hc
        have HC := Lib.hid hc
        clear hc
        go_wp2_with fail
        refine HC.out.mono ?_
        rintro e w2 ⟨rfl, d', hL2, hs⟩
        have HS := Lib.hid hs
        clear hs
        go_wp2_with fail
        go_roundg (i + (j - i))
        case measure => omega
        case rel => exact ⟨i, j - i, d', rfl, by congr 1; omega, hi, by omega, hia, by omega, Nat.le_refl _, hL.trans hL2, by rw [HS.out.perm.1]; exact HZ.out, (fun d2 h2 => HR.out d2 (Rot.lt (by omega) (by omega) (by rw [HZ.out]; omega) HS.out h2) : ∀ d2, _ → _)⟩
end
#print axioms fc_swapRange
#print axioms fc_rotate
end Go.Proofs.Ytaifikhgijnkgaa
