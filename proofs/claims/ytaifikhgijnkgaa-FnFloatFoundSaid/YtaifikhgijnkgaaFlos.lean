/- Contracts of impl.floats and impl.bitsOf. Conditions: what the slice holds. -/
import Derived.Test.YtaifikhgijnkgaaFlo
namespace Go.Proofs.Ytaifikhgijnkgaa
open Go.RowKit
set_option linter.unusedVariables false

/-- A float is stored as any other value of one cell. -/
theorem run_store_float {P : Program} {w : World} {a : Addr} {m : Mode} (k : FloatKind) (b : Nat) : (store a (.float k b) m).run P w = stored P w a (.float k b) m := run_store P w a _ m rfl
attribute [go_sem] run_store_float

abbrev encF (x : Nat) : List Value := [Value.float .f64 x]
abbrev encU (x : Int) : List Value := [Value.int .u64 x]
theorem Try.info89 : (Try.prog.info? 89).map (fun i => (i.zero, i.size, i.bytes)) = some (some (.float .f64 0), 1, 8) := by kernel_rfl
theorem Try.info48 : (Try.prog.info? 48).map (fun i => (i.zero, i.size, i.bytes)) = some (some (.int .u64 0), 1, 8) := by kernel_rfl

/-- The first k converted, the others still zero. -/
def part {α β : Type} (f : α → β) (z : β) (xs : List α) (k : Nat) : List β := (xs.take k).map f ++ List.replicate (xs.length - k) z

theorem part_length {α β : Type} (f : α → β) (z : β) (xs : List α) (k : Nat) (h : k ≤ xs.length) : (part f z xs k).length = xs.length := by simp [part]; omega
theorem part_zero {α β : Type} (f : α → β) (z : β) (xs : List α) : part f z xs 0 = List.replicate xs.length z := by simp [part]
theorem part_all {α β : Type} (f : α → β) (z : β) (xs : List α) : part f z xs xs.length = xs.map f := by simp [part]
theorem part_succ {α β : Type} [Inhabited α] (f : α → β) (z : β) (xs : List α) (k : Nat) (h : k < xs.length) : (part f z xs k).set k (f (el xs k)) = part f z xs (k + 1) := by
  unfold part
  rw [List.set_append_right _ _ (by simp; omega)]
  simp only [List.length_map, List.length_take]
  have e1 : k - min k xs.length = 0 := by omega
  have e2 : xs.length - k = (xs.length - (k + 1)) + 1 := by omega
  rw [e1, e2, List.replicate_succ, List.set_cons_zero, List.take_succ_eq_append_getElem h, el_eq xs k h]
  simp only [List.map_append, List.map_cons, List.map_nil, List.append_assoc, List.cons_append, List.nil_append]

theorem flat_one {β : Type} (enc : β → Value) (ys : List β) : ys.flatMap (fun x => [enc x]) = ys.map enc := by
  induction ys with
  | nil => rfl
  | cons y ys ih => simp [ih]

theorem Own.set1 {β : Type} [Inhabited β] {enc : β → Value} {e : TypeId} {w : World} {base g n cap : Nat} {ys : List β} (h : Own 1 (fun x => [enc x]) e w base (.slice (some ⟨g, 0, none⟩) n cap) ys) (hn : ys.length = n) (k : Nat) (y : β) :
    Own 1 (fun x => [enc x]) e (w.setCell ⟨g, k, none⟩ (enc y)) base (.slice (some ⟨g, 0, none⟩) n cap) (ys.set k y) := by
  unfold Own at *
  subst hn
  have h2 := (h.stored k (enc y)).1
  rw [List.length_set, flat_one, List.map_set]
  rw [flat_one] at h2
  exact h2

theorem Own.frozen {β : Type} [Inhabited β] {C : Nat} {encL : β → List Value} {e : TypeId} {w : World} {base g n cap : Nat} {ys : List β} (h : Own C encL e w base (.slice (some ⟨g, 0, none⟩) n cap) ys) (hn : ys.length = n) (k : Nat) : w.frozen? ⟨g, k, none⟩ = false := by
  unfold Own at h
  subst hn
  exact h.frozenAt k

set_option maxHeartbeats 2000000 in
theorem impl_floats (a : Option Addr) (len cap : Nat) (xs : List Int) (w : World) (hs : Sl (Value.int .u64) w a len cap xs) (hb : len * 8 ≤ 140737488351232) :
    Calls Try.prog 100 #[.slice a len cap] w fun e w' => ∃ g, e = .returned (.slice (some ⟨g, 0, none⟩) len len) ∧ w.heap.size ≤ g ∧ Own 1 encF 89 w' w.heap.size (.slice (some ⟨g, 0, none⟩) len len) (xs.map Int.toNat) ∧ Below w.heap.size w w' := by
  obtain ⟨i0, hi0, hz0, hz1, hz2⟩ := info_parts Try.info89
  have HI := Lib.hid (And.intro hi0 (And.intro hz0 (And.intro hz1 hz2)))
  have HS := Lib.hid hs
  have HL := Lib.hid hs.1
  clear hs hi0 hz0 hz1 hz2
  go_enter Try.func100, Try.ntmps100
  go_wp2_with (first
    | (at_make; refine wpList_make_full _ rfl _ _ 84 rfl w.heap.size 89 i0 (.float .f64 0) 1 Try.underlying84 HI.out.1 HI.out.2.1 HI.out.2.2.1 .i64 .i64 _ _ len rfl rfl rfl rfl (by rw [HI.out.2.2.2]; omega) (by unfold maxLen; omega) (Nat.le_refl _) ?_; intro w1 hown hg)
    | fail)
  have hown' : Own 1 encF 89 w1 w.heap.size (.slice (some ⟨w.heap.size, 0, none⟩) len len) (part Int.toNat 0 xs 0) := by
    unfold Own
    rw [part_zero, flat_one, List.length_replicate, HL.out, List.map_replicate]
    have e : (madeCells (Value.float .f64 0).cells (len * 1)).toList = List.replicate len (.float .f64 0) := by rw [Nat.mul_one]; exact toList_madeCells_one _ _
    rw [e] at hown
    exact hown
  have HB := Lib.hid ((Below.refl w.heap.size w).grown hg (Nat.le_refl _) (fun k hk => by cases hk))
  clear hown hg
  go_loopw [11] (fun s wr => ∃ k : Nat, s = .int .i64 k ∧ k ≤ len ∧ Own 1 encF 89 wr w.heap.size (.slice (some ⟨w.heap.size, 0, none⟩) len len) (part Int.toNat 0 xs k) ∧ Below w.heap.size w wr) (fun s _ => len - (intOf s).toNat)
  case atStart => exact ⟨0, rfl, by omega, hown', HB.out⟩
  case round =>
    obtain ⟨k, rfl, hk, ho, hbw⟩ := hrel
    have HO := Lib.hid ho
    have HBW := Lib.hid hbw
    have hpl : (part Int.toNat 0 xs k).length = len := by rw [part_length _ _ _ _ (by rw [HL.out]; exact hk)]; exact HL.out
    have HPL := Lib.hid hpl
    clear ho hbw hown' hpl
    by_cases hlt : k < len
    · have hlt' : (k : Int) < len := by omega
      obtain ⟨b, off, rfl, hbs, hc⟩ : ∃ b off, a = some ⟨b, off, none⟩ ∧ b < w.heap.size ∧ ∀ i, i < len → w.cell? ⟨b, off + i, none⟩ = some (.int .u64 (el xs i)) := by
        rcases HS.out.2.2.2 with h | h
        · omega
        · exact h
      have ck := (HBW.out.cell (p := ⟨b, off + k, none⟩) hbs).trans (hc k hlt)
      have c2 := HO.out.cell1 HPL.out k hlt
      have fz := HO.out.frozen HPL.out k
      have f1 := frombits_run (el xs k)
      clear hc
      go_wp2
      go_roundw
      case rel =>
        refine ⟨k + 1, by go_num, by omega, ?_, HBW.out.setCell (p := ⟨w.heap.size, k, none⟩) (Nat.le_refl _) _⟩
        rw [← part_succ _ _ _ _ (by rw [HL.out]; exact hlt)]
        exact HO.out.set1 HPL.out k _
      case measure => simp [intOf]; omega
    · obtain rfl : k = len := by omega
      have HF := Lib.hid (show part Int.toNat 0 xs k = xs.map Int.toNat by rw [← HL.out]; exact part_all _ _ _)
      go_wp2
      go_ret
      exact ⟨_, rfl, Nat.le_refl _, by rw [← HF.out]; exact HO.out, HBW.out⟩
set_option maxHeartbeats 2000000 in
theorem impl_bitsOf (a : Option Addr) (len cap : Nat) (xs : List Nat) (w : World) (hs : Sl (Value.float .f64) w a len cap xs) (hb : len * 8 ≤ 140737488351232) :
    Calls Try.prog 102 #[.slice a len cap] w fun e w' => ∃ g, e = .returned (.slice (some ⟨g, 0, none⟩) len len) ∧ w.heap.size ≤ g ∧ Own 1 encU 48 w' w.heap.size (.slice (some ⟨g, 0, none⟩) len len) (xs.map Int.ofNat) ∧ Below w.heap.size w w' := by
  obtain ⟨i0, hi0, hz0, hz1, hz2⟩ := info_parts Try.info48
  have HI := Lib.hid (And.intro hi0 (And.intro hz0 (And.intro hz1 hz2)))
  have HS := Lib.hid hs
  have HL := Lib.hid hs.1
  clear hs hi0 hz0 hz1 hz2
  go_enter Try.func102, Try.ntmps102
  go_wp2_with (first
    | (at_make; refine wpList_make_full _ rfl _ _ 45 rfl w.heap.size 48 i0 (.int .u64 0) 1 Try.underlying45 HI.out.1 HI.out.2.1 HI.out.2.2.1 .i64 .i64 _ _ len rfl rfl rfl rfl (by rw [HI.out.2.2.2]; omega) (by unfold maxLen; omega) (Nat.le_refl _) ?_; intro w1 hown hg)
    | fail)
  have hown' : Own 1 encU 48 w1 w.heap.size (.slice (some ⟨w.heap.size, 0, none⟩) len len) (part Int.ofNat 0 xs 0) := by
    unfold Own
    rw [part_zero, flat_one, List.length_replicate, HL.out, List.map_replicate]
    have e : (madeCells (Value.int .u64 0).cells (len * 1)).toList = List.replicate len (.int .u64 0) := by rw [Nat.mul_one]; exact toList_madeCells_one _ _
    rw [e] at hown
    exact hown
  have HB := Lib.hid ((Below.refl w.heap.size w).grown hg (Nat.le_refl _) (fun k hk => by cases hk))
  clear hown hg
  go_loopw [11] (fun s wr => ∃ k : Nat, s = .int .i64 k ∧ k ≤ len ∧ Own 1 encU 48 wr w.heap.size (.slice (some ⟨w.heap.size, 0, none⟩) len len) (part Int.ofNat 0 xs k) ∧ Below w.heap.size w wr) (fun s _ => len - (intOf s).toNat)
  case atStart => exact ⟨0, rfl, by omega, hown', HB.out⟩
  case round =>
    obtain ⟨k, rfl, hk, ho, hbw⟩ := hrel
    have HO := Lib.hid ho
    have HBW := Lib.hid hbw
    have hpl : (part Int.ofNat 0 xs k).length = len := by rw [part_length _ _ _ _ (by rw [HL.out]; exact hk)]; exact HL.out
    have HPL := Lib.hid hpl
    clear ho hbw hown' hpl
    by_cases hlt : k < len
    · have hlt' : (k : Int) < len := by omega
      obtain ⟨b, off, rfl, hbs, hc⟩ : ∃ b off, a = some ⟨b, off, none⟩ ∧ b < w.heap.size ∧ ∀ i, i < len → w.cell? ⟨b, off + i, none⟩ = some (.float .f64 (el xs i)) := by
        rcases HS.out.2.2.2 with h | h
        · omega
        · exact h
      have ck := (HBW.out.cell (p := ⟨b, off + k, none⟩) hbs).trans (hc k hlt)
      have c2 := HO.out.cell1 HPL.out k hlt
      have fz := HO.out.frozen HPL.out k
      have f1 := bits_run (el xs k)
      clear hc
      go_wp2
      go_roundw
      case rel =>
        refine ⟨k + 1, by go_num, by omega, ?_, HBW.out.setCell (p := ⟨w.heap.size, k, none⟩) (Nat.le_refl _) _⟩
        rw [← part_succ _ _ _ _ (by rw [HL.out]; exact hlt)]
        exact HO.out.set1 HPL.out k _
      case measure => simp [intOf]; omega
    · obtain rfl : k = len := by omega
      have HF := Lib.hid (show part Int.ofNat 0 xs k = xs.map Int.ofNat by rw [← HL.out]; exact part_all _ _ _)
      go_wp2
      go_ret
      exact ⟨_, rfl, Nat.le_refl _, by rw [← HF.out]; exact HO.out, HBW.out⟩
#print axioms impl_floats
#print axioms impl_bitsOf
end Go.Proofs.Ytaifikhgijnkgaa
