/- Contract of sort.Sort over an interface value: the row holds what pdqsort makes of it. Conditions: the methods do what Face says. -/
import Derived.Test.YtaifikhgijnkgaaFcPdq
namespace Go.Proofs.Ytaifikhgijnkgaa
open Go.RowKit
open Go.Sort hiding Below
set_option linter.unusedVariables false
set_option linter.unusedSectionVars false

set_option maxHeartbeats 1000000 in
set_option maxRecDepth 100000 in
theorem fc_Sort_tiny (T : TypeId) (rv : Value) (gn : Nat) (rn : Value) (n : Nat) (w : World) (findN : Sem.run Try.prog (method 285 T rv "Len") w = .ok (gn, rn) w) (enterN : ∀ args w, (callFunc gn args).run Try.prog w = .ok (.enter gn args) w) (hn : n ≤ 1)
    (hlen : Calls Try.prog gn #[rn] w fun e w' => e = .returned (.int .i64 n) ∧ Below w.heap.size w w') :
    Calls Try.prog 109 #[.iface T rv] w fun e w' => e = .returned (.tuple #[]) ∧ Below w.heap.size w w' := by
  have HN := Lib.hid hlen
  clear hlen
  have hnz : (n : Int) ≤ 1 := by omega
  go_enter Try.func109, Try.ntmps109
  go_wp2_with fail
  refine HN.out.mono ?_
  rintro e w1 ⟨rfl, hb1⟩
  have HB := Lib.hid hb1
  clear hb1
  go_wp2_with fail
  (try simp only [Exit.inBlock, Exit.then]); refine bodyPost_ret (results_none rfl _ _ _) rfl ?_
  exact ⟨rfl, HB.out⟩

section
variable {α : Type} [Inhabited α] {lt : α → α → Bool} {St : Array α → World → Prop} {B g size : Nat} {T : TypeId} {rv : Value} {gl : Nat} {rl : Value} {gs : Nat} {rs : Value}

set_option maxHeartbeats 1000000 in
set_option maxRecDepth 100000 in
theorem fc_Sort (F : Face lt St B g size T rv gl rl gs rs) (hsz : size < 4611686018427387904) (h2 : 2 ≤ size) (gn : Nat) (rn : Value) (d : Array α) (w : World) (hS : St d w) (findN : Sem.run Try.prog (method 285 T rv "Len") w = .ok (gn, rn) w) (enterN : ∀ args w, (callFunc gn args).run Try.prog w = .ok (.enter gn args) w)
    (hlen : Calls Try.prog gn #[rn] w fun e w' => e = .returned (.int .i64 size) ∧ Below w.heap.size w w') :
    Calls Try.prog 109 #[.iface T rv] w fun e w' => e = .returned (.tuple #[]) ∧ Lies St g w (pdq lt d 0 size (bitsLen size) true true) w' := by
  have HN := Lib.hid hlen
  have HS := Lib.hid hS
  clear hlen hS
  have hnz : ¬ (size : Int) ≤ 1 := by omega
  have hlim : bitsLen size < 4611686018427387904 := Nat.lt_of_le_of_lt ((bitsLen_le_iff size 62).2 (by omega)) (by omega)
  have wr : IntKind.u64.wrap (size : Int) = size := by simp [IntKind.wrap, IntKind.bits, IntKind.signed]; omega
  go_enter Try.func109, Try.ntmps109
  go_wp2_with fail
  refine HN.out.mono ?_
  rintro e w1 ⟨rfl, hb1⟩
  have hL1 : Lies St g w d w1 := (Lies.start HS.out).quiet F.toBase hb1
  have HL1 := Lib.hid hL1
  clear hb1 findN hL1
  go_wp2_with fail
  refine (bits_Len_nat size _ hsz).mono ?_
  rintro e w' ⟨rfl, rfl⟩
  have hp := fc_pdqsort F hsz (size + 1) 0 size (bitsLen size) d _ (by omega) HL1.out.st (Nat.zero_le _) (Nat.le_refl _) hlim
  rw [show ((0 : Nat) : Int) = 0 from rfl] at hp
  have HP := Lib.hid hp
  clear hp
  go_wp2_with fail
  refine HP.out.mono ?_
  rintro e w3 ⟨rfl, hw3⟩
  go_wp2_with fail
  go_end0
  exact ⟨rfl, HL1.out.trans hw3⟩
end

/-! ### What pdqsort makes of a row: the same elements, sorted -/
theorem permIn_perm {α : Type} [Inhabited α] {d d' : Array α} {n : Nat} (h : PermIn 0 n d d') (hn : d.size = n) : d'.toList.Perm d.toList := by
  obtain ⟨h1, _, h3⟩ := h
  have e1 : d'.extract 0 n = d' := by rw [Array.extract_eq_self_iff]; right; exact ⟨rfl, by omega⟩
  have e2 : d.extract 0 n = d := by rw [Array.extract_eq_self_iff]; right; exact ⟨rfl, by omega⟩
  rwa [e1, e2] at h3

theorem pdq_both {α : Type} [Inhabited α] {lt : α → α → Bool} (hO : SWO lt) (d : Array α) (n lim : Nat) (hn : d.size = n) :
    (pdq lt d 0 n lim true true).toList.Perm d.toList ∧ SortedIn lt 0 n (pdq lt d 0 n lim true true) := by
  have h := pdq_sorts lt hO d 0 n lim true true (Nat.zero_le _) (by omega) (Or.inl rfl)
  exact ⟨permIn_perm h.1 hn, h.2⟩

/-- Sorted by pairs, as a list. -/
theorem sortedIn_pairwise {α : Type} [Inhabited α] {lt : α → α → Bool} {d : Array α} {n : Nat} (h : SortedIn lt 0 n d) (hn : d.size = n) : d.toList.Pairwise fun x y => lt y x = false := by
  rw [List.pairwise_iff_getElem]
  intro i j hi hj hij
  have := h i j (Nat.zero_le _) hij (by simpa [hn] using hj)
  simp only [Array.length_toList] at hi hj
  rw [getElem!_pos d j hj, getElem!_pos d i hi] at this
  simpa using this
#print axioms fc_Sort
#print axioms fc_Sort_tiny
#print axioms pdq_both
#print axioms sortedIn_pairwise
end Go.Proofs.Ytaifikhgijnkgaa
