/- The walk of laws.FnFloatSortsAgree. No conditions. -/
import Derived.Test.YtaifikhgijnkgaaFloS
import Derived.Test.YtaifikhgijnkgaaFloSearchLaw
import Derived.Test.YtaifikhgijnkgaaWeakly
namespace Go.Proofs.Ytaifikhgijnkgaa
open Go.RowKit
open Go.Sort hiding Below
set_option linter.unusedVariables false

theorem fLt_weak (xs : List Nat) : WeakOn fLt xs where
  irr := fun x _ => fLt_swo.irrefl x
  tr := fun x _ y _ z _ h1 h2 => fLt_swo.trans x y z h1 h2
  ntr := fun x _ y _ z _ h1 h2 => fLt_swo.ntrans x y z h1 h2

/-- Two sorts of the same floats: no place at which one is before the other. -/
theorem agree_at {A B xs : List Int} {len : Nat} (hl : xs.length = len) (pa : A.Perm xs) (pb : B.Perm xs) (sa : (A.map Int.toNat).Pairwise fun x y => fLt y x = false) (sb : (B.map Int.toNat).Pairwise fun x y => fLt y x = false) (k : Nat) (hk : k < len) :
    fLt (el A k).toNat (el B k).toNat = false := by
  have hA : A.length = len := by rw [pa.length_eq]; exact hl
  have hB : B.length = len := by rw [pb.length_eq]; exact hl
  have h := sorted_same (fLt_weak (xs.map Int.toNat)) (pa.map Int.toNat) (pb.map Int.toNat) sa sb k (by rw [List.length_map]; omega)
  rwa [el_map_toNat A k (by omega), el_map_toNat B k (by omega)] at h

theorem fb_at (r : Bool) (x y : Int) (w : World) (h : fLt x.toNat y.toNat = r) : Calls Try.prog 55 #[.int .u64 x, .int .u64 y] w fun e w' => e = .returned (.bool r) ∧ w = w' := by subst h; exact spec_FloatBefore x y w

theorem sorted_adj {A : List Int} (sa : (A.map Int.toNat).Pairwise fun x y => fLt y x = false) : adjB fLt (A.map Int.toNat) = true := by
  rw [adjB_iff]
  intro i h0 hi
  rw [el_eq _ i hi, el_eq _ (i - 1) (by omega)]
  exact List.pairwise_iff_getElem.1 sa (i - 1) i (by omega) hi (by omega)

set_option maxHeartbeats 2000000 in
set_option maxRecDepth 100000 in
theorem walk_FnFloatSortsAgree (a0 : Option Addr) (len0 cap0 : Nat) (x0 : List Int) (w : World)
    (s0 : Sl (Value.int .u64) w a0 len0 cap0 x0) (g0 : ∀ x ∈ x0, (Lit.int .u64 x).wf = true) (b0 : cap0 * 8 ≤ 140737488351232) :
    Calls Try.prog 11 #[.slice a0 len0 cap0] w (Good w) := by
  have hcap := s0.2.1
  have HL := Lib.hid s0.1
  have HS := Lib.hid s0
  have HNN := Lib.hid (nonneg_u g0)
  have HC := Lib.hid (impl_Float64s a0 len0 cap0 x0 w s0 (by omega) (nonneg_u g0))
  clear s0 g0
  go_enter Try.func11, Try.ntmps11
  go_wp2_with fail
  refine HC.out.mono ?_
  rintro e w1 ⟨g, A, rfl, hs1, hp, hso, hb1⟩
  have HC2 := Lib.hid (impl_Float64Sort a0 len0 cap0 x0 w1 (HS.out.below hb1) (by omega) HNN.out)
  have HB1 := Lib.hid hb1
  have HS1 := Lib.hid hs1
  have HPA := Lib.hid hp
  have HSA := Lib.hid hso
  clear hs1 hp hso hb1 HC
  go_wp2_with fail
  refine HC2.out.mono ?_
  rintro e w2 ⟨h, B, rfl, hs2, hp, hso, hb2⟩
  have HB2 := Lib.hid (HB1.out.trans (hb2.mono HB1.out.size))
  have HA2 := Lib.hid (HS1.out.below hb2)
  have HS2 := Lib.hid hs2
  have HPB := Lib.hid hp
  have HSB := Lib.hid hso
  clear hs2 hp hso hb2 HC2
  go_wp2_with fail
  go_loopw [24] (fun s wr => ∃ k q : Nat, s = .int .i64 k ∧ k ≤ len0 ∧ wr = w2.drewN q) (fun s _ => len0 - (intOf s).toNat)
  case atStart => exact ⟨0, 0, rfl, by omega, rfl⟩
  case round =>
    obtain ⟨k, q, rfl, hk, rfl⟩ := hrel
    by_cases hlt : k < len0
    · have hlt' : (k : Int) < len0 := by omega
      have hca : ∀ i, i < len0 → w2.cell? ⟨g, 0 + i, none⟩ = some (.int .u64 (el A i)) := by
        rcases HA2.out.2.2.2 with h0 | ⟨b, o, ha, _, hc⟩
        · omega
        · cases ha; exact hc
      have hcb : ∀ i, i < len0 → w2.cell? ⟨h, 0 + i, none⟩ = some (.int .u64 (el B i)) := by
        rcases HS2.out.2.2.2 with h0 | ⟨b, o, ha, _, hc⟩
        · omega
        · cases ha; exact hc
      have c0 : (w2.drewN q).cell? ⟨g, k, none⟩ = some (.int .u64 (el A k)) := by have := hca k hlt; rwa [Nat.zero_add] at this
      have c1 : (w2.drewN q).cell? ⟨h, k, none⟩ = some (.int .u64 (el B k)) := by have := hcb k hlt; rwa [Nat.zero_add] at this
      have k1 := Lib.hid (agree_at HL.out HPA.out HPB.out HSA.out HSB.out k hlt)
      have k2 := Lib.hid (agree_at HL.out HPB.out HPA.out HSB.out HSA.out k hlt)
      clear hca hcb
      generalize hq : w2.drewN q = wq at c0 c1 ⊢
      have HQ := Lib.hid hq
      clear hq
      go_wp2_with fail
      go_quiet ((go_at_call 55; first | with_reducible exact quiet_eq (fb_at false (el A k) (el B k) _ k1.out) | with_reducible exact quiet_eq (fb_at false (el B k) (el A k) _ k2.out)))
      go_wp2
      go_roundw
      case rel => exact ⟨k + 1, _, by go_num, by omega, by rw [← HQ.out]; exact World.drewN_drewN _ _ _⟩
      case measure => simp [intOf]; omega
    · obtain rfl : k = len0 := by omega
      have HB3 := Lib.hid (Below.drewN HB2.out q)
      have HA3 := Lib.hid (HA2.out.below (Below.drewN (Below.refl _ _) q))
      generalize w2.drewN q = w3 at *
      have HI := impl_Float64sAreSorted _ k k A w3 HA3.out (by omega)
      rw [sorted_adj HSA.out] at HI
      have HII := Lib.hid HI
      clear HI
      go_wp2_with fail
      refine HII.out.mono ?_
      rintro e w4 ⟨rfl, hb4⟩
      have HB4 := Lib.hid (HB3.out.trans (hb4.mono HB3.out.size))
      clear hb4
      go_wp2_with fail
      go_ret
      exact ⟨rfl, HB4.out⟩
#print axioms walk_FnFloatSortsAgree
end Go.Proofs.Ytaifikhgijnkgaa
