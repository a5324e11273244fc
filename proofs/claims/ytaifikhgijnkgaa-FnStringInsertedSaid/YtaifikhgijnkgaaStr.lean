/- Contracts of spec.StringBefore, (sort.StringSlice).Less, impl.StringLess. Conditions: the places lie inside. -/
import Derived.Test.YtaifikhgijnkgaaKit
import Derived.Test.YtaifikhgijnkgaaStrPlain
namespace Go.Proofs.Ytaifikhgijnkgaa
open Go.RowKit
set_option linter.unusedVariables false

theorem ret_bool {a b : Bool} (h : a = b) : Ending.returned (.bool a) = .returned (.bool b) := by rw [h]

set_option maxHeartbeats 400000 in
theorem spec_StringBefore (a b : ByteArray) (w : World) (ha : a.size ≤ maxLen) (hb : b.size ≤ maxLen) :
    Calls Try.prog 43 #[.string a, .string b] w fun e w' => e = .returned (.bool (sLt a b)) ∧ ∃ q, w' = w.drewN q := by
  unfold maxLen at ha hb
  go_enter Try.func43, Try.ntmps43
  go_wp2
  go_loopw [5] (fun s5 wr => ∃ k q : Nat, k ≤ a.size ∧ k ≤ b.size ∧ s5 = .int .i64 k ∧ wr = w.drewN q ∧ Op.bytesLess (a.toList.drop k) (b.toList.drop k) = sLt a b) (fun s5 _ => a.size - (intOf s5).toNat)
  case atStart => exact ⟨0, 0, by omega, by omega, rfl, rfl, rfl⟩
  case round =>
    obtain ⟨k, q, hka, hkb, rfl, rfl, hI⟩ := hrel
    have HI := Lib.hid hI
    clear hI
    by_cases hk : k < a.size ∧ k < b.size
    · obtain ⟨h1, h2⟩ := hk
      have h1' : (k : Int) < a.size := by omega
      have h2' : (k : Int) < b.size := by omega
      by_cases he : (a[k].toNat : Int) = (b[k].toNat : Int)
      · have HE := Lib.hid (bless_eq a b k h1 h2 he)
        have he' : ((a[k].toNat : Int) != (b[k].toNat : Int)) = false := by rw [he]; simp
        clear he
        go_wp2
        go_quiet (fail)
        go_wp2
        go_roundw
        case rel => exact ⟨k + 1, _, by omega, by omega, by go_num, rfl, by rw [← HI.out, HE.out]⟩
        case measure => simp [intOf]; omega
      · have HE := Lib.hid (bless_ne a b k h1 h2 he)
        have he' : ((a[k].toNat : Int) != (b[k].toNat : Int)) = true := by rw [bne_iff_ne]; exact he
        clear he
        go_wp2
        go_quiet (fail)
        go_wp2
        go_quiet (fail)
        go_wp2
        go_ret
        exact ⟨ret_bool (by rw [← HI.out, HE.out]; simp), _, by rw [World.drewN_drewN, World.drewN_drewN]⟩
    · have HE := Lib.hid (bless_end a b k hka hkb hk)
      by_cases h1 : k < a.size
      · have h2 : ¬ k < b.size := fun h => hk ⟨h1, h⟩
        clear hk
        go_wp2
        go_ret
        exact ⟨ret_bool (by rw [← HI.out, HE.out]; simp), _, rfl⟩
      · clear hk
        go_wp2
        go_ret
        exact ⟨ret_bool (by rw [← HI.out, HE.out]; simp), _, rfl⟩

theorem strLess (b off len cap i j : Nat) (xs : List ByteArray) (w : World) (hi : i < len) (hj : j < len) (hl : len < 4611686018427387904)
    (ci : w.cell? ⟨b, off + i, none⟩ = some (.string (el xs i))) (cj : w.cell? ⟨b, off + j, none⟩ = some (.string (el xs j))) :
    Calls Try.prog 92 #[.slice (some ⟨b, off, none⟩) len cap, .int .i64 i, .int .i64 j] w fun e w' => e = .returned (.bool (sLt (el xs i) (el xs j))) ∧ ∃ q, w' = w.drewN q := by
  have hi' : (i : Int) < len := by omega
  have hj' : (j : Int) < len := by omega
  go_enter Try.func92, Try.ntmps92
  go_wp2
  go_quiet (fail)
  go_wp2
  go_ret
  exact ⟨rfl, _, rfl⟩

theorem impl_StringLess_no (a : Option Addr) (len cap : Nat) (i j : Int) (w : World) (h : insB len i j = false) :
    Calls Try.prog 42 #[.slice a len cap, .int .i64 i, .int .i64 j] w fun e w' => e = .returned (.bool false) ∧ w = w' := by
  go_enter Try.func42, Try.ntmps42
  go_wp2_with (go_at_call 90; refine (inside_impl_at _ _ _ _ _ h).mono ?_; rintro e w' ⟨rfl, rfl⟩)
  go_ret
  exact ⟨rfl, rfl⟩

theorem impl_StringLess_yes (b off len cap i j : Nat) (xs : List ByteArray) (w : World) (hi : i < len) (hj : j < len) (hl : len < 4611686018427387904)
    (ci : w.cell? ⟨b, off + i, none⟩ = some (.string (el xs i))) (cj : w.cell? ⟨b, off + j, none⟩ = some (.string (el xs j))) :
    Calls Try.prog 42 #[.slice (some ⟨b, off, none⟩) len cap, .int .i64 i, .int .i64 j] w fun e w' => e = .returned (.bool (sLt (el xs i) (el xs j))) ∧ ∃ q, w' = w.drewN q := by
  have h : insB len i j = true := by simp [insB]; omega
  have H := Lib.hid (strLess b off len cap i j xs w hi hj hl ci cj)
  go_enter Try.func42, Try.ntmps42
  go_wp2_with (first | (go_at_call 90; refine (inside_impl_at _ _ _ _ _ h).mono ?_; rintro e w' ⟨rfl, rfl⟩) | (go_at_call 92; refine H.out.mono ?_; rintro e w' ⟨rfl, q, rfl⟩))
  go_ret
  exact ⟨rfl, _, rfl⟩

theorem walk_FnStringLess (a0 : Option Addr) (len0 cap0 : Nat) (x0 : List ByteArray) (x1 : Int) (x2 : Int) (w : World)
    (s0 : Sl Value.string w a0 len0 cap0 x0) (g0 : ∀ x ∈ x0, x.size ≤ maxLen) (b0 : cap0 * 16 ≤ 140737488351232) (g1 : (Lit.int .i64 x1).wf = true) (g2 : (Lit.int .i64 x2).wf = true) :
    Calls Try.prog 5 #[.slice a0 len0 cap0, .int .i64 x1, .int .i64 x2] w (Good w) := by
  clear g1 g2
  obtain ⟨hlen, hcap, _, hcells⟩ := s0
  cases h : insB len0 x1 x2 with
  | false =>
    clear hcells hlen g0
    go_enter Try.func5, Try.ntmps5
    go_wp2
    go_quiet (first | (go_at_call 42; exact quiet_eq (impl_StringLess_no _ _ _ _ _ _ h)) | (go_at_call 41; exact quiet_eq (inside_laws_at _ _ _ _ _ h)))
    go_wp2
    go_ret
    exact ⟨rfl, Below.drewN (Below.refl _ _) _⟩
  | true =>
    obtain ⟨h1, h2, h3, h4⟩ := insB_true h
    obtain ⟨i, rfl⟩ := Int.eq_ofNat_of_zero_le h1
    obtain ⟨j, rfl⟩ := Int.eq_ofNat_of_zero_le h3
    rcases hcells with h0 | ⟨b, off, rfl, hbz, hc⟩
    · omega
    · have ci := hc i (by omega)
      have cj := hc j (by omega)
      have si : (el x0 i).size ≤ maxLen := by rw [el_eq x0 i (by omega)]; exact g0 _ (List.getElem_mem _)
      have sj : (el x0 j).size ≤ maxLen := by rw [el_eq x0 j (by omega)]; exact g0 _ (List.getElem_mem _)
      have Hc := Lib.hid (fun n => impl_StringLess_yes b off len0 cap0 i j x0 (w.drewN n) (by omega) (by omega) (by omega) ci cj)
      have Hb := Lib.hid (fun n => spec_StringBefore (el x0 i) (el x0 j) (w.drewN n) si sj)
      clear hc hlen g0 si sj
      go_enter Try.func5, Try.ntmps5
      go_wp2
      go_quiet (first | (go_at_call 42; exact Calls.quiet_of (Hc.out _)) | (go_at_call 41; exact quiet_eq (inside_laws_at _ _ _ _ _ h)) | (go_at_call 43; exact Calls.quiet_of (Hb.out _)))
      go_wp2
      go_ret
      exact ⟨by simp, Below.drewN (Below.refl _ _) _⟩

set_option maxHeartbeats 400000 in
theorem walk_FnStringLessTotal (a0 : Option Addr) (len0 cap0 : Nat) (x0 : List ByteArray) (x1 : Int) (x2 : Int) (w : World)
    (s0 : Sl Value.string w a0 len0 cap0 x0) (g0 : ∀ x ∈ x0, x.size ≤ maxLen) (b0 : cap0 * 16 ≤ 140737488351232) (g1 : (Lit.int .i64 x1).wf = true) (g2 : (Lit.int .i64 x2).wf = true) :
    Calls Try.prog 6 #[.slice a0 len0 cap0, .int .i64 x1, .int .i64 x2] w (Good w) := by
  clear g1 g2 g0
  obtain ⟨hlen, hcap, _, hcells⟩ := s0
  cases h : insB len0 x1 x2 with
  | false =>
    clear hcells hlen
    go_enter Try.func6, Try.ntmps6
    go_wp2_with (go_at_call 41; refine (inside_laws_at _ _ _ _ _ h).mono ?_; rintro e w' ⟨rfl, rfl⟩)
    go_ret
    exact ⟨rfl, Below.refl _ _⟩
  | true =>
    obtain ⟨h1, h2, h3, h4⟩ := insB_true h
    obtain ⟨i, rfl⟩ := Int.eq_ofNat_of_zero_le h1
    obtain ⟨j, rfl⟩ := Int.eq_ofNat_of_zero_le h3
    rcases hcells with h0 | ⟨b, off, rfl, hbz, hc⟩
    · omega
    · have ci := hc i (by omega)
      have cj := hc j (by omega)
      clear hc hlen
      have Hij := Lib.hid (fun n => impl_StringLess_yes b off len0 cap0 i j x0 (w.drewN n) (by omega) (by omega) (by omega) ci cj)
      have Hji := Lib.hid (fun n => impl_StringLess_yes b off len0 cap0 j i x0 (w.drewN n) (by omega) (by omega) (by omega) cj ci)
      generalize el x0 i = u at *
      generalize el x0 j = v at *
      have h3 : (sLt u v = false ∧ sLt v u = false) ∨ (sLt u v = true ∧ sLt v u = false) ∨ (sLt u v = false ∧ sLt v u = true) := by
        cases hu : sLt u v
        · cases hv : sLt v u <;> simp
        · simp [sLt_asymm hu]
      rcases h3 with ⟨hu, hv⟩ | ⟨hu, hv⟩ | ⟨hu, hv⟩
      all_goals
        rw [hu] at Hij
        rw [hv] at Hji
        have HU := Lib.hid hu
        have HV := Lib.hid hv
        clear hu hv
        go_enter Try.func6, Try.ntmps6
        go_wp2_with (go_at_call 41; refine (inside_laws_at _ _ _ _ _ h).mono ?_; rintro e w' ⟨rfl, rfl⟩)
        refine (Hij.out 0).mono ?_
        rintro e w' ⟨rfl, q, rfl⟩
        go_wp2_with fail
        refine (Hji.out q).mono ?_
        rintro e w' ⟨rfl, q', rfl⟩
        go_wp2_with fail
        go_quiet (fail)
        go_wp2
        go_ret
        refine ⟨ret_bool ?_, Below.drewN (Below.drewN (Below.refl _ _) _) _⟩
        first
          | (have e := sLt_total HU.out HV.out; subst e; simp; done)
          | (simp [sLt_ne HU.out]; done)
          | (simp [sLt_ne' HV.out]; done)
#print axioms walk_FnStringLess
#print axioms walk_FnStringLessTotal
end Go.Proofs.Ytaifikhgijnkgaa
