/- The walk of laws.FnFloatFound. No conditions. -/
import Derived.Test.YtaifikhgijnkgaaFloAgree
namespace Go.Proofs.Ytaifikhgijnkgaa
open Go.RowKit
open Go.Sort hiding Below
set_option linter.unusedVariables false

/-- How many of the first m are before x. -/
def cl (xs : List Int) (x : Int) (m : Nat) : Nat := (xs.take m).countP fun y => fLt y.toNat x.toNat
theorem cl_zero (xs : List Int) (x : Int) : cl xs x 0 = 0 := by simp [cl]
theorem cl_succ (xs : List Int) (x : Int) (k : Nat) (h : k < xs.length) : cl xs x (k + 1) = cl xs x k + if fLt (el xs k).toNat x.toNat = true then 1 else 0 := by
  unfold cl
  rw [List.take_succ_eq_append_getElem h, List.countP_append, el_eq xs k h]
  simp [List.countP_cons]
theorem cl_le (xs : List Int) (x : Int) (k : Nat) : cl xs x k ≤ k := Nat.le_trans List.countP_le_length (by rw [List.length_take]; omega)

theorem found_at {O xs : List Int} {len i : Nat} (hl : xs.length = len) (hp : O.Perm xs) (hso : (O.map Int.toNat).Pairwise fun x y => fLt y x = false) (hN : anyNaN xs = false) (hi : i < len) :
    fAt O (el xs i) len = cl xs (el xs i) len ∧ fAt O (el xs i) len < len ∧ fLt (el O (fAt O (el xs i) len)).toNat (el xs i).toNat = false ∧ fLt (el xs i).toNat (el O (fAt O (el xs i) len)).toNat = false := by
  have hOl : O.length = len := by rw [hp.length_eq]; exact hl
  have hm : el xs i ∈ xs := by rw [el_eq xs i (by omega)]; exact List.getElem_mem _
  have hx := anyNaN_false hN _ hm
  have hNO : ∀ y ∈ O, fNaN y.toNat = false := fun y hy => anyNaN_false hN y (hp.mem_iff.1 hy)
  obtain ⟨s1, s2, s3⟩ := fAt_spec hOl hso hNO hx
  obtain ⟨k, hk, he⟩ := List.getElem_of_mem (hp.mem_iff.2 hm)
  have hek : el O k = el xs i := by rw [el_eq O k hk]; exact he
  generalize fAt O (el xs i) len = r at *
  have hrk : r ≤ k := by
    rcases Nat.lt_or_ge k r with h | h
    · have := s2 k h
      rw [hek, fLt_swo.irrefl] at this
      cases this
    · exact h
  refine ⟨?_, by omega, s3 r (Nat.le_refl _) (by omega), ?_⟩
  · have hc : cl xs (el xs i) len = O.countP fun y => fLt y.toNat (el xs i).toNat := by
      unfold cl
      rw [← hl, List.take_length, hp.countP_eq]
    rw [hc]
    refine Nat.le_antisymm ?_ (countP_le_of_range (fun y : Int => fLt y.toNat (el xs i).toNat) O r fun t h1 h2 => s3 t h2 (by omega))
    rcases Nat.eq_zero_or_pos r with h0 | h0
    · omega
    · have := le_countP_of_range (fun y : Int => fLt y.toNat (el xs i).toNat) O (r - 1) (by omega) fun t h1 => s2 t (by omega)
      omega
  · rw [← hek]
    rcases Nat.lt_or_ge r k with h | h
    · rw [← el_map_toNat O k (by omega), ← el_map_toNat O r (by omega), el_eq _ k (by rw [List.length_map]; omega), el_eq _ r (by rw [List.length_map]; omega)]
      exact List.pairwise_iff_getElem.1 hso r k (by rw [List.length_map]; omega) (by rw [List.length_map]; omega) h
    · obtain rfl : r = k := by omega
      exact fLt_swo.irrefl _

set_option maxHeartbeats 4000000 in
set_option maxRecDepth 100000 in
theorem walk_FnFloatFound (a0 : Option Addr) (len0 cap0 : Nat) (x0 : List Int) (w : World)
    (s0 : Sl (Value.int .u64) w a0 len0 cap0 x0) (g0 : ∀ x ∈ x0, (Lit.int .u64 x).wf = true) (b0 : cap0 * 8 ≤ 140737488351232) :
    Calls Try.prog 33 #[.slice a0 len0 cap0] w (Good w) := by
  have hcap := s0.2.1
  have HL := Lib.hid s0.1
  have HS := Lib.hid s0
  have HNN := Lib.hid (nonneg_u g0)
  have HN := fun r h => Lib.hid (laws_hasNaN r a0 len0 cap0 x0 w h s0 (by omega))
  have HC := Lib.hid (impl_Float64s a0 len0 cap0 x0 w s0 (by omega) (nonneg_u g0))
  clear s0 g0
  cases hN : anyNaN x0 with
  | true =>
    have HN1 := HN true hN
    clear HN hN HC
    go_enter Try.func33, Try.ntmps33
    go_wp2_with fail
    refine HN1.out.mono ?_
    rintro e w2 ⟨rfl, rfl⟩
    go_wp2_with fail
    go_ret
    exact ⟨rfl, Below.refl _ _⟩
  | false =>
    have HN1 := HN false hN
    have HNF := Lib.hid hN
    clear HN hN
    go_enter Try.func33, Try.ntmps33
    go_wp2_with fail
    refine HN1.out.mono ?_
    rintro e w2 ⟨rfl, rfl⟩
    go_wp2_with fail
    refine HC.out.mono ?_
    rintro e w1 ⟨g, O, rfl, hs1, hp, hso, hb1⟩
    have HB1 := Lib.hid hb1
    have HS1 := Lib.hid hs1
    have HFA := Lib.hid (fun i hi => found_at (i := i) HL.out hp hso HNF.out hi)
    have HI := Lib.hid (show ∀ W x, Below w1.heap.size w1 W → Calls Try.prog 86 #[.slice (some ⟨g, 0, none⟩) len0 len0, .int .u64 x] W fun e w' => e = .returned (.int .i64 (fAt O x len0 : Nat)) ∧ Below W.heap.size W w' from fun W x h => impl_SearchFloat64s _ len0 len0 O x W (hs1.below h) (by omega))
    clear hs1 hp hso hb1 HC HN1
    go_wp2_with fail
    go_loopw [21] (fun s wr => ∃ i : Nat, s = .int .i64 i ∧ i ≤ len0 ∧ Below w1.heap.size w1 wr) (fun s _ => len0 - (intOf s).toNat)
    case atStart => exact ⟨0, rfl, by omega, Below.refl _ _⟩
    case round =>
      obtain ⟨i, rfl, hi, hbw⟩ := hrel
      have HBW := Lib.hid hbw
      clear hbw
      by_cases hlt : i < len0
      · have hlt' : (i : Int) < len0 := by omega
        have HSW := Lib.hid (HS.out.below (HB1.out.trans (HBW.out.mono HB1.out.size)))
        obtain ⟨b, off, rfl, hbs, hc⟩ : ∃ b off, a0 = some ⟨b, off, none⟩ ∧ b < wr.heap.size ∧ ∀ i, i < len0 → wr.cell? ⟨b, off + i, none⟩ = some (.int .u64 (el x0 i)) := by
          rcases HSW.out.2.2.2 with h | h
          · omega
          · exact h
        have ci := hc i hlt
        have HCX := Lib.hid hc
        have HF := Lib.hid (HFA.out i hlt)
        clear hc
        go_wp2_with fail
        go_loopw [6, 27] (fun s6 s27 wq => ∃ k : Nat, s6 = .int .i64 (cl x0 (el x0 i) k : Nat) ∧ s27 = .int .i64 k ∧ k ≤ len0 ∧ wq = wr) (fun _ s _ => len0 - (intOf s).toNat)
        case atStart => exact ⟨0, by rw [cl_zero]; rfl, rfl, by omega, rfl⟩
        case round =>
          obtain ⟨k, rfl, rfl, hk, rfl⟩ := hrel
          by_cases hkl : k < len0
          · have hkl' : (k : Int) < len0 := by omega
            have ck := HCX.out k hkl
            have hcl := cl_le x0 (el x0 i) k
            have HSU := Lib.hid (cl_succ x0 (el x0 i) k (by rw [HL.out]; exact hkl))
            cases hv : fLt (el x0 k).toNat (el x0 i).toNat with
            | true =>
              have HB := Lib.hid (fun W => fb_at true (el x0 k) (el x0 i) W hv)
              rw [hv] at HSU
              clear hv
              go_wp2_with fail
              refine (HB.out _).mono ?_
              rintro e w' ⟨rfl, rfl⟩
              go_wp2_with fail
              go_roundw
              case rel => exact ⟨k + 1, by rw [HSU.out]; go_num, by go_num, by omega, by first | rfl | trivial⟩
              case measure => simp [intOf]; omega
            | false =>
              have HB := Lib.hid (fun W => fb_at false (el x0 k) (el x0 i) W hv)
              rw [hv] at HSU
              clear hv
              go_wp2_with fail
              refine (HB.out _).mono ?_
              rintro e w' ⟨rfl, rfl⟩
              go_wp2_with fail
              go_roundw
              case rel => exact ⟨k + 1, by rw [HSU.out]; rfl, by go_num, by omega, by first | rfl | trivial⟩
              case measure => simp [intOf]; omega
          · obtain rfl : k = len0 := by omega
            have HSI := Lib.hid (HI.out _ (el x0 i) HBW.out)
            go_wp2_with fail
            refine HSI.out.mono ?_
            rintro e w3 ⟨rfl, hb3⟩
            have HB3 := Lib.hid (HBW.out.trans (hb3.mono HBW.out.size))
            clear hb3 HSI
            obtain ⟨f1, f2, f3, f4⟩ := HF.out
            rw [← f1]
            have HO3 := Lib.hid (HS1.out.below HB3.out)
            have hco : w3.cell? ⟨g, fAt O (el x0 i) k, none⟩ = some (.int .u64 (el O (fAt O (el x0 i) k))) := by
              rcases HO3.out.2.2.2 with h0 | ⟨b', o', ha, _, hc'⟩
              · omega
              · cases ha; have := hc' _ f2; rwa [Nat.zero_add] at this
            have HX1 := Lib.hid (fun W => fb_at false (el O (fAt O (el x0 i) k)) (el x0 i) W f3)
            have HX2 := Lib.hid (fun W => fb_at false (el x0 i) (el O (fAt O (el x0 i) k)) W f4)
            clear f1 f3 f4 HF
            generalize fAt O (el x0 i) k = R at *
            have r1 : ¬ ((R : Int) = (k : Int)) := by omega
            have r2 : (R : Int) < (k : Int) := by omega
            go_wp2_with fail
            refine (HX1.out _).mono ?_
            rintro e w' ⟨rfl, rfl⟩
            go_wp2_with fail
            refine (HX2.out _).mono ?_
            rintro e w' ⟨rfl, rfl⟩
            go_wp2_with fail
            go_roundw
            case rel => exact ⟨i + 1, by go_num, by omega, HB3.out⟩
            case measure => simp [intOf]; omega
      · go_wp2
        go_ret
        exact ⟨rfl, HB1.out.trans (HBW.out.mono HB1.out.size)⟩
#print axioms walk_FnFloatFound
end Go.Proofs.Ytaifikhgijnkgaa
