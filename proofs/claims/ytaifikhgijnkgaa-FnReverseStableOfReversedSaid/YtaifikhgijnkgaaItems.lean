/- Contracts of laws.sItems and laws.iItems. No conditions. -/
import Derived.Test.YtaifikhgijnkgaaEqualIt
import Derived.Test.YtaifikhgijnkgaaOwn2
namespace Go.Proofs.Ytaifikhgijnkgaa
open Go.RowKit
set_option linter.unusedVariables false

theorem Try.info57 : (Try.prog.info? 57).map (fun i => (i.zero, i.size, i.bytes)) = some (some (.agg #[.int .i64 0, .int .i64 0]), 2, 16) := by kernel_rfl
theorem Try.info52' : (Try.prog.info? 52).map (fun i => (i.zero, i.size, i.bytes)) = some (some (.agg #[.int .i64 0, .int .i64 0]), 2, 16) := by kernel_rfl

theorem two_new (w : World) (x : It) (t : TypeId) : ∀ j u, (encIt x)[j]? = some u → (w.alloc (.cells #[.int .i64 x.1, .int .i64 x.2] t)).cell? ⟨w.heap.size, j, none⟩ = some u := by
  intro j u hu
  match j, hu with
  | 0, hu => simp [encIt] at hu; subst hu; simp
  | 1, hu => simp [encIt] at hu; subst hu; simp

theorem take_snoc_el {α : Type} [Inhabited α] (xs : List α) (k : Nat) (h : k < xs.length) : xs.take (k + 1) = xs.take k ++ [el xs k] := by
  rw [List.take_succ_eq_append_getElem h, el_eq xs k h]

def GivesIts (e : TypeId) (w : World) (len : Nat) (xs : List It) (r : Ending) (w' : World) : Prop :=
  ∃ a c, r = .returned (.slice a len c) ∧ Own 2 encIt e w' w.heap.size (.slice a len c) xs ∧ SlK 2 encIt w' a len c xs ∧ Below w.heap.size w w'

set_option maxHeartbeats 2000000 in
set_option maxRecDepth 100000 in
theorem laws_sItems (a : Option Addr) (len cap : Nat) (xs : List It) (w : World) (hs : SlK 2 encIt w a len cap xs) (hb : len * 16 ≤ 140737488351232) :
    Calls Try.prog 47 #[.slice a len cap] w (GivesIts 57 w len xs) := by
  have HL := Lib.hid hs.1
  have HS := Lib.hid hs
  clear hs
  go_enter Try.func47, Try.ntmps47
  go_wp2
  go_loopg [3, 8] len (fun n s3 s8 wr => ∃ (k : Nat) (ao : Option Addr) (co : Nat), s3 = .slice ao k co ∧ s8 = .int .i64 k ∧ k ≤ len ∧ n = len - k ∧ Own 2 encIt 57 wr w.heap.size (.slice ao k co) (xs.take k) ∧ Below w.heap.size w wr)
  case atStart => exact ⟨0, none, 0, rfl, rfl, by omega, by omega, by rw [List.take_zero]; exact World.ownsRow_nil _ _ _ _, Below.refl _ _⟩
  case round =>
    obtain ⟨k, ao, co, rfl, rfl, hk, hn, ho, hbw⟩ := hrel
    have HO := Lib.hid ho
    have HB := Lib.hid hbw
    have HN := Lib.hid hn
    have HTL := Lib.hid (show (xs.take k).length = k by rw [List.length_take, HL.out]; omega)
    have hsz := hbw.size
    clear ho hbw hn
    by_cases hlt : k < len
    · have hlt' : (k : Int) < len := by omega
      obtain ⟨b, off, rfl, hbs, hc⟩ : ∃ b off, a = some ⟨b, off, none⟩ ∧ b < w.heap.size ∧ ∀ i, i < len → ∀ j, j < 2 → w.cell? ⟨b, off + i * 2 + j, none⟩ = (encIt (el xs i))[j]? := by
        rcases HS.out.2.2.2 with h | h
        · omega
        · exact h
      obtain ⟨c0, c1⟩ := it_cells hc k hlt
      have d0 := (HB.out.cell (p := ⟨b, off + k * 2, none⟩) hbs).trans c0
      have d1 := (HB.out.cell (p := ⟨b, off + k * 2 + 1, none⟩) hbs).trans c1
      clear hc c0 c1
      go_wp2_with (first
        | (at_builtin; refine wpList_push rfl _ _ 39 rfl 57 (.agg #[.int .i64 0, .int .i64 0]) 2 16 encIt Try.underlying39 Try.info57 rfl (by decide) (fun _ => rfl) (by simp [encIt, Value.oneCell']) w.heap.size ao k co (xs.take k) rfl (Own.below (Own.below HO.out (belowA wr _)) (belowA _ _)) HTL.out (wr.heap.size + 1) 1 (el xs k) rfl (fun j u hu => by have h := two_new (wr.alloc (.cells #[.int .i64 (el xs k).1, .int .i64 (el xs k).2] 52)) (el xs k) 57 j u hu; simpa using h) (by unfold maxLen; omega) (by omega) (by simp; omega) (wr.heap.size + 1 + 1) (by simp) ?_; intro g cg w3 ho3 hg3 hat3 hlt3)
        | fail)
      have hbw3 : Below w.heap.size w w3 := ((HB.out.alloc HB.out.size _).alloc (by have := HB.out.size; simp; omega) _).grown hg3 (by have := HB.out.size; simp; omega) (fun kk hkk => by
        rcases ao with _ | ad
        · cases hkk
        · simp at hkk
          obtain ⟨aa, cc, hv, _, _, hlo2⟩ := Own.slk (C := 2) (encL := encIt) (fun _ => rfl) HO.out
          have := hlo2 ad (Value.slice.inj hv).1.symm
          omega)
      have HB3 := Lib.hid hbw3
      have HO3 := Lib.hid ho3
      clear hbw3 ho3 hg3 hat3 hlt3
      have hwrap : IntKind.i64.wrap ((k : Int) + 1) = (k : Int) + 1 := IntWalk.i64_in _ (by omega)
      go_roundg (len - (k + 1))
      case measure => have := HN.out; omega
      case rel =>
        have ho := HO3.out
        rw [← take_snoc_el xs k (by rw [HL.out]; exact hlt)] at ho
        exact ⟨k + 1, some ⟨g, 0, none⟩, cg, rfl, by go_num, by omega, rfl, ho, HB3.out⟩
    · obtain rfl : k = len := by omega
      have HT := Lib.hid (show xs.take k = xs by rw [← HL.out]; exact List.take_length)
      go_wp2
      go_ret
      have ho := HO.out
      rw [HT.out] at ho
      obtain ⟨aa, cc, hv, h, _, _⟩ := Own.slk (C := 2) (encL := encIt) (fun _ => rfl) ho
      rw [HL.out] at hv h
      cases hv
      exact ⟨ao, co, rfl, ho, h, HB.out⟩

set_option maxHeartbeats 2000000 in
set_option maxRecDepth 100000 in
theorem laws_iItems (a : Option Addr) (len cap : Nat) (xs : List It) (w : World) (hs : SlK 2 encIt w a len cap xs) (hb : len * 16 ≤ 140737488351232) :
    Calls Try.prog 77 #[.slice a len cap] w (GivesIts 52 w len xs) := by
  have HL := Lib.hid hs.1
  have HS := Lib.hid hs
  clear hs
  go_enter Try.func77, Try.ntmps77
  go_wp2
  go_loopg [3, 8] len (fun n s3 s8 wr => ∃ (k : Nat) (ao : Option Addr) (co : Nat), s3 = .slice ao k co ∧ s8 = .int .i64 k ∧ k ≤ len ∧ n = len - k ∧ Own 2 encIt 52 wr w.heap.size (.slice ao k co) (xs.take k) ∧ Below w.heap.size w wr)
  case atStart => exact ⟨0, none, 0, rfl, rfl, by omega, by omega, by rw [List.take_zero]; exact World.ownsRow_nil _ _ _ _, Below.refl _ _⟩
  case round =>
    obtain ⟨k, ao, co, rfl, rfl, hk, hn, ho, hbw⟩ := hrel
    have HO := Lib.hid ho
    have HB := Lib.hid hbw
    have HN := Lib.hid hn
    have HTL := Lib.hid (show (xs.take k).length = k by rw [List.length_take, HL.out]; omega)
    have hsz := hbw.size
    clear ho hbw hn
    by_cases hlt : k < len
    · have hlt' : (k : Int) < len := by omega
      obtain ⟨b, off, rfl, hbs, hc⟩ : ∃ b off, a = some ⟨b, off, none⟩ ∧ b < w.heap.size ∧ ∀ i, i < len → ∀ j, j < 2 → w.cell? ⟨b, off + i * 2 + j, none⟩ = (encIt (el xs i))[j]? := by
        rcases HS.out.2.2.2 with h | h
        · omega
        · exact h
      obtain ⟨c0, c1⟩ := it_cells hc k hlt
      have d0 := (HB.out.cell (p := ⟨b, off + k * 2, none⟩) hbs).trans c0
      have d1 := (HB.out.cell (p := ⟨b, off + k * 2 + 1, none⟩) hbs).trans c1
      clear hc c0 c1
      go_wp2_with (first
        | (at_builtin; refine wpList_push rfl _ _ 30 rfl 52 (.agg #[.int .i64 0, .int .i64 0]) 2 16 encIt Try.underlying30 Try.info52' rfl (by decide) (fun _ => rfl) (by simp [encIt, Value.oneCell']) w.heap.size ao k co (xs.take k) rfl (Own.below (Own.below HO.out (belowA wr _)) (belowA _ _)) HTL.out (wr.heap.size + 1) 1 (el xs k) rfl (fun j u hu => by have h := two_new (wr.alloc (.cells #[.int .i64 (el xs k).1, .int .i64 (el xs k).2] 57)) (el xs k) 52 j u hu; simpa using h) (by unfold maxLen; omega) (by omega) (by simp; omega) (wr.heap.size + 1 + 1) (by simp) ?_; intro g cg w3 ho3 hg3 hat3 hlt3)
        | fail)
      have hbw3 : Below w.heap.size w w3 := ((HB.out.alloc HB.out.size _).alloc (by have := HB.out.size; simp; omega) _).grown hg3 (by have := HB.out.size; simp; omega) (fun kk hkk => by
        rcases ao with _ | ad
        · cases hkk
        · simp at hkk
          obtain ⟨aa, cc, hv, _, _, hlo2⟩ := Own.slk (C := 2) (encL := encIt) (fun _ => rfl) HO.out
          have := hlo2 ad (Value.slice.inj hv).1.symm
          omega)
      have HB3 := Lib.hid hbw3
      have HO3 := Lib.hid ho3
      clear hbw3 ho3 hg3 hat3 hlt3
      have hwrap : IntKind.i64.wrap ((k : Int) + 1) = (k : Int) + 1 := IntWalk.i64_in _ (by omega)
      go_roundg (len - (k + 1))
      case measure => have := HN.out; omega
      case rel =>
        have ho := HO3.out
        rw [← take_snoc_el xs k (by rw [HL.out]; exact hlt)] at ho
        exact ⟨k + 1, some ⟨g, 0, none⟩, cg, rfl, by go_num, by omega, rfl, ho, HB3.out⟩
    · obtain rfl : k = len := by omega
      have HT := Lib.hid (show xs.take k = xs by rw [← HL.out]; exact List.take_length)
      go_wp2
      go_ret
      have ho := HO.out
      rw [HT.out] at ho
      obtain ⟨aa, cc, hv, h, _, _⟩ := Own.slk (C := 2) (encL := encIt) (fun _ => rfl) ho
      rw [HL.out] at hv h
      cases hv
      exact ⟨ao, co, rfl, ho, h, HB.out⟩
end Go.Proofs.Ytaifikhgijnkgaa
