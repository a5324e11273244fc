/- Contracts of sort.order2, sort.median, sort.medianAdjacent, sort.choosePivot and sort.breakPatterns over an interface value. Conditions: the places lie inside the row. -/
import Derived.Test.YtaifikhgijnkgaaBits
namespace Go.Proofs.Ytaifikhgijnkgaa
open Go.RowKit
open Go.Sort hiding Below
set_option linter.unusedVariables false
set_option linter.unusedSectionVars false
section
variable {α : Type} [Inhabited α]

/-- The row lies as it lay; a counter of the call's own stands at s. -/
structure Ctr (St : Array α → World → Prop) (g : Nat) (w0 : World) (d : Array α) (cb s : Nat) (w' : World) : Prop where
  l : Lies St g w0 d w'
  c : w'.cell? ⟨cb, 0, none⟩ = some (.int .i64 s)
  f : w'.frozen? ⟨cb, 0, none⟩ = false
  lt : cb < w'.heap.size

theorem Ctr.below {St : Array α → World → Prop} {B g size : Nat} {w0 w1 w2 : World} {d : Array α} {cb s : Nat} (F : Base St B g size) (h : Ctr St g w0 d cb s w1) (hb : Below w1.heap.size w1 w2) : Ctr St g w0 d cb s w2 :=
  ⟨h.l.quiet F hb, (hb.cell (p := ⟨cb, 0, none⟩) h.lt).trans h.c, (hb.frozen (p := ⟨cb, 0, none⟩) h.lt).trans h.f, Nat.lt_of_lt_of_le h.lt hb.size⟩
theorem Ctr.set {St : Array α → World → Prop} {B g size : Nat} {w0 w1 : World} {d : Array α} {cb s : Nat} (F : Base St B g size) (hB : B ≤ w0.heap.size) (hcb : w0.heap.size ≤ cb) (h : Ctr St g w0 d cb s w1) (t : Nat) :
    Ctr St g w0 d cb t (w1.setCell ⟨cb, 0, none⟩ (.int .i64 t)) :=
  ⟨h.l.own F hB hcb _, World.cell?_setCell_same _ _ _ h.c, by simpa using h.f, by simpa [World.setCell] using h.lt⟩

variable {lt : α → α → Bool} {St : Array α → World → Prop} {B g size : Nat} {T : TypeId} {rv : Value} {gl : Nat} {rl : Value} {gs : Nat} {rs : Value}

theorem order2_in (d : Array α) {a b n : Nat} (s : Nat) (ha : a < n) (hb : b < n) {x y t : Nat} (h : order2 lt d a b s = (x, y, t)) : x < n ∧ y < n ∧ t ≤ s + 1 := by
  unfold order2 at h
  split at h <;> (simp only [Prod.mk.injEq] at h; omega)

set_option maxHeartbeats 1000000 in
set_option maxRecDepth 100000 in
theorem fc_order2 (F : Face lt St B g size T rv gl rl gs rs) (w0 w : World) (d : Array α) (a b cb s : Nat) (hB : B ≤ w0.heap.size) (hcb : w0.heap.size ≤ cb) (hC : Ctr St g w0 d cb s w) (ha : a < size) (hb : b < size) (hs : s < 4611686018427387904) :
    Calls Try.prog 190 #[.iface T rv, .int .i64 a, .int .i64 b, .pointer (some ⟨cb, 0, none⟩)] w fun e w' =>
      e = .returned (.tuple #[.int .i64 (order2 lt d a b s).1, .int .i64 (order2 lt d a b s).2.1]) ∧ Ctr St g w0 d cb (order2 lt d a b s).2.2 w' := by
  have eL := F.enterL
  have mL := F.findL hC.l.st
  have HC0 := Lib.hid hC
  clear hC
  cases hlv : lt d[b]! d[a]! with
  | true =>
    have e2 : order2 lt d a b s = (b, a, s + 1) := by simp [order2, hlv]
    rw [e2]
    clear e2
    go_enter Try.func190, Try.ntmps190
    go_wp2_with fail
    refine (F.less b a HC0.out.l.st hb ha).mono ?_
    rintro e w1 ⟨rfl, hb1⟩
    have hC1 := HC0.out.below F.toBase hb1
    have c1 := hC1.c
    have f1 := hC1.f
    have HC := Lib.hid hC1
    clear HC0 hC1 hb1 mL
    go_wp2_with fail
    go_ret2
    exact ⟨rfl, HC.out.set F.toBase hB hcb (s + 1)⟩
  | false =>
    have e2 : order2 lt d a b s = (a, b, s) := by simp [order2, hlv]
    rw [e2]
    clear e2
    go_enter Try.func190, Try.ntmps190
    go_wp2_with fail
    refine (F.less b a HC0.out.l.st hb ha).mono ?_
    rintro e w1 ⟨rfl, hb1⟩
    have hC1 := HC0.out.below F.toBase hb1
    have HC := Lib.hid hC1
    clear HC0 hC1 hb1 mL
    go_wp2_with fail
    go_ret2
    exact ⟨rfl, HC.out⟩

set_option maxHeartbeats 1000000 in
set_option maxRecDepth 100000 in
theorem fc_median (F : Face lt St B g size T rv gl rl gs rs) (w0 w : World) (d : Array α) (a b c cb s : Nat) (hB : B ≤ w0.heap.size) (hcb : w0.heap.size ≤ cb) (hC : Ctr St g w0 d cb s w) (ha : a < size) (hb : b < size) (hc : c < size) (hs : s + 3 < 4611686018427387904) :
    Calls Try.prog 182 #[.iface T rv, .int .i64 a, .int .i64 b, .int .i64 c, .pointer (some ⟨cb, 0, none⟩)] w fun e w' =>
      e = .returned (.int .i64 (median lt d a b c s).1) ∧ Ctr St g w0 d cb (median lt d a b c s).2 w' := by
  obtain ⟨x1, y1, s1, h1⟩ : ∃ x y t, order2 lt d a b s = (x, y, t) := ⟨_, _, _, rfl⟩
  obtain ⟨x2, y2, s2, h2⟩ : ∃ x y t, order2 lt d y1 c s1 = (x, y, t) := ⟨_, _, _, rfl⟩
  obtain ⟨x3, y3, s3, h3⟩ : ∃ x y t, order2 lt d x1 x2 s2 = (x, y, t) := ⟨_, _, _, rfl⟩
  have l1 := order2_in d s ha hb h1
  have l2 := order2_in d s1 l1.2.1 hc h2
  have em : median lt d a b c s = (y3, s3) := by simp only [median, h1, h2, h3]
  rw [em]
  have hc1 := fc_order2 F w0 w d a b cb s hB hcb hC ha hb (by omega)
  have hc2 := fun W (h : Ctr St g w0 d cb s1 W) => fc_order2 F w0 W d y1 c cb s1 hB hcb h l1.2.1 hc (by omega)
  have hc3 := fun W (h : Ctr St g w0 d cb s2 W) => fc_order2 F w0 W d x1 x2 cb s2 hB hcb h l1.1 l2.1 (by omega)
  rw [h1] at hc1
  simp only [h2] at hc2
  simp only [h3] at hc3
  have HC1 := Lib.hid hc1
  have HC2 := Lib.hid hc2
  have HC3 := Lib.hid hc3
  clear em h1 h2 h3 hc1 hc2 hc3 hC
  go_enter Try.func182, Try.ntmps182
  go_wp2_with fail
  refine HC1.out.mono ?_
  rintro e w1 ⟨rfl, hC1⟩
  go_wp2_with fail
  refine (HC2.out _ hC1).mono ?_
  rintro e w2 ⟨rfl, hC2⟩
  go_wp2_with fail
  refine (HC3.out _ hC2).mono ?_
  rintro e w3 ⟨rfl, hC3⟩
  go_wp2_with fail
  go_ret
  exact ⟨rfl, hC3⟩

set_option maxHeartbeats 1000000 in
set_option maxRecDepth 100000 in
theorem fc_medianAdjacent (F : Face lt St B g size T rv gl rl gs rs) (hsz : size < 4611686018427387904) (w0 w : World) (d : Array α) (a cb s : Nat) (hB : B ≤ w0.heap.size) (hcb : w0.heap.size ≤ cb) (hC : Ctr St g w0 d cb s w) (ha1 : 1 ≤ a) (ha2 : a + 1 < size) (hs : s + 3 < 4611686018427387904) :
    Calls Try.prog 181 #[.iface T rv, .int .i64 a, .pointer (some ⟨cb, 0, none⟩)] w fun e w' =>
      e = .returned (.int .i64 (medianAdjacent lt d a s).1) ∧ Ctr St g w0 d cb (medianAdjacent lt d a s).2 w' := by
  have hm := fc_median F w0 w d (a - 1) a (a + 1) cb s hB hcb hC (by omega) (by omega) ha2 hs
  rw [show ((a - 1 : Nat) : Int) = (a : Int) - 1 by omega, show ((a + 1 : Nat) : Int) = (a : Int) + 1 by omega] at hm
  have HM := Lib.hid hm
  clear hm hC
  go_enter Try.func181, Try.ntmps181
  go_wp2_with fail
  refine HM.out.mono ?_
  rintro e w1 ⟨rfl, hC1⟩
  go_wp2_with fail
  go_ret
  exact ⟨rfl, hC1⟩

set_option maxHeartbeats 2000000 in
set_option maxRecDepth 100000 in
theorem fc_choosePivot (F : Face lt St B g size T rv gl rl gs rs) (hsz : size < 4611686018427387904) (a b : Nat) (d : Array α) (w : World) (hS : St d w) (hab : a < b) (hb : b ≤ size) :
    Calls Try.prog 159 #[.iface T rv, .int .i64 a, .int .i64 b] w fun e w' =>
      e = .returned (.tuple #[.int .i64 (choosePivot lt d a b).1, .int .i64 (hintCode (choosePivot lt d a b).2)]) ∧ Lies St g w d w' := by
  have hB : B ≤ w.heap.size := F.base hS
  have hC0 : Ctr St g w d w.heap.size 0 (w.alloc (.cells #[.int .i64 0] 3)) := ⟨(Lies.start hS).alloc F.toBase _, by simp, by simp, by simp⟩
  have HC0 := Lib.hid hC0
  clear hC0 hS
  rw [choosePivot_eq]
  obtain ⟨I, hI⟩ : ∃ I : Nat, I = a + (b - a) / 4 * 1 := ⟨_, rfl⟩
  obtain ⟨J, hJ⟩ : ∃ J : Nat, J = a + (b - a) / 4 * 2 := ⟨_, rfl⟩
  obtain ⟨K, hK⟩ : ∃ K : Nat, K = a + (b - a) / 4 * 3 := ⟨_, rfl⟩
  have eI : ((a : Int) + ((b : Int) - (a : Int)) / 4) = (I : Int) := by omega
  have eJ : ((a : Int) + ((b : Int) - (a : Int)) / 4 * 2) = (J : Int) := by omega
  have eK : ((a : Int) + ((b : Int) - (a : Int)) / 4 * 3) = (K : Int) := by omega
  by_cases h8 : b - a ≥ 8
  · by_cases h50 : b - a ≥ 50
    · obtain ⟨i1, s1, h1⟩ : ∃ i1 s1, medianAdjacent lt d I 0 = (i1, s1) := ⟨_, _, rfl⟩
      obtain ⟨j1, s2, h2⟩ : ∃ j1 s2, medianAdjacent lt d J s1 = (j1, s2) := ⟨_, _, rfl⟩
      obtain ⟨k1, s3, h3⟩ : ∃ k1 s3, medianAdjacent lt d K s2 = (k1, s3) := ⟨_, _, rfl⟩
      obtain ⟨p, s, h4⟩ : ∃ p s, median lt d i1 j1 k1 s3 = (p, s) := ⟨_, _, rfl⟩
      have hraw : rawPivot lt d a b = (p, s) := by simp only [rawPivot, if_pos h8, if_pos h50, ← hI, ← hJ, ← hK, h1, h2, h3, h4]
      have m1 := medianAdjacent_mem lt d I 0; rw [h1] at m1
      have m2 := medianAdjacent_mem lt d J s1; rw [h2] at m2
      have m3 := medianAdjacent_mem lt d K s2; rw [h3] at m3
      have n1 := medianAdjacent_count lt d I 0; rw [h1] at n1
      have n2 := medianAdjacent_count lt d J s1; rw [h2] at n2
      have n3 := medianAdjacent_count lt d K s2; rw [h3] at n3
      simp only [] at m1 m2 m3 n1 n2 n3
      have c1 := fun W (h : Ctr St g w d w.heap.size 0 W) => fc_medianAdjacent F hsz w W d I w.heap.size 0 hB (Nat.le_refl _) h (by omega) (by omega) (by omega)
      have c2 := fun W (h : Ctr St g w d w.heap.size s1 W) => fc_medianAdjacent F hsz w W d J w.heap.size s1 hB (Nat.le_refl _) h (by omega) (by omega) (by omega)
      have c3 := fun W (h : Ctr St g w d w.heap.size s2 W) => fc_medianAdjacent F hsz w W d K w.heap.size s2 hB (Nat.le_refl _) h (by omega) (by omega) (by omega)
      have c4 := fun W (h : Ctr St g w d w.heap.size s3 W) => fc_median F w W d i1 j1 k1 w.heap.size s3 hB (Nat.le_refl _) h (by omega) (by omega) (by omega) (by omega)
      simp only [h1] at c1
      simp only [h2] at c2
      simp only [h3] at c3
      simp only [h4] at c4
      have C1 := Lib.hid c1; have C2 := Lib.hid c2; have C3 := Lib.hid c3; have C4 := Lib.hid c4
      rw [hraw]
      obtain ⟨Hc, hHc⟩ : ∃ Hc : Int, Hc = hintCode (hintOf s) := ⟨_, rfl⟩
      have hh0 := Lib.hid (show s = 0 → Hc = 1 from fun h => by rw [hHc, h]; rfl)
      have hh12 := Lib.hid (show s = 12 → Hc = 2 from fun h => by rw [hHc, h]; rfl)
      have hhx := Lib.hid (show s ≠ 0 → s ≠ 12 → Hc = 0 from fun h1 h2 => by rw [hHc]; unfold hintOf; rw [if_neg h1, if_neg h2]; rfl)
      show Calls Try.prog 159 _ w fun e w' => e = .returned (.tuple #[.int .i64 (p : Int), .int .i64 (hintCode (hintOf s))]) ∧ Lies St g w d w'
      rw [← hHc]
      clear hHc hraw h1 h2 h3 h4 c1 c2 c3 c4 hI hJ hK m1 m2 m3
      have h8z : (8 : Int) ≤ (b : Int) - (a : Int) := by omega
      have h50z : (50 : Int) ≤ (b : Int) - (a : Int) := by omega
      go_enter Try.func159, Try.ntmps159
      go_wp2_with fail
      refine (C1.out _ HC0.out).mono ?_
      rintro e w1 ⟨rfl, hC1⟩
      go_wp2_with fail
      refine (C2.out _ hC1).mono ?_
      rintro e w2 ⟨rfl, hC2⟩
      go_wp2_with fail
      refine (C3.out _ hC2).mono ?_
      rintro e w3 ⟨rfl, hC3⟩
      go_wp2_with fail
      refine (C4.out _ hC3).mono ?_
      rintro e w4 ⟨rfl, hC4⟩
      have cS := hC4.c
      have HL := Lib.hid hC4.l
      clear hC1 hC2 hC3 hC4
      go_wp2_with fail
      all_goals
        go_ret2
        refine ⟨?_, HL.out⟩
        first
          | (have e0 : (s : Int) = 0 := of_beq_int (by assumption)
             rw [hh0.out (by omega)]; rfl)
          | (have e1 : (s : Int) = 12 := of_beq_int (by assumption)
             rw [hh12.out (by omega)]; rfl)
          | (have e0 : (s : Int) ≠ 0 := of_bne_int (by assumption)
             have e1 : (s : Int) ≠ 12 := of_bne_int (by assumption)
             rw [hhx.out (by omega) (by omega)]; rfl)
          | (rw [hh0.out (by omega)]; rfl)
    · obtain ⟨p, s, h4⟩ : ∃ p s, median lt d I J K 0 = (p, s) := ⟨_, _, rfl⟩
      have hraw : rawPivot lt d a b = (p, s) := by simp only [rawPivot, if_pos h8, if_neg h50, ← hI, ← hJ, ← hK, h4]
      have c4 := fun W (h : Ctr St g w d w.heap.size 0 W) => fc_median F w W d I J K w.heap.size 0 hB (Nat.le_refl _) h (by omega) (by omega) (by omega) (by omega)
      simp only [h4] at c4
      have C4 := Lib.hid c4
      have n4 := median_count lt d I J K 0
      rw [h4] at n4
      simp only [] at n4
      rw [hraw]
      obtain ⟨Hc, hHc⟩ : ∃ Hc : Int, Hc = hintCode (hintOf s) := ⟨_, rfl⟩
      have hh0 := Lib.hid (show s = 0 → Hc = 1 from fun h => by rw [hHc, h]; rfl)
      have hh12 := Lib.hid (show s = 12 → Hc = 2 from fun h => by rw [hHc, h]; rfl)
      have hhx := Lib.hid (show s ≠ 0 → s ≠ 12 → Hc = 0 from fun h1 h2 => by rw [hHc]; unfold hintOf; rw [if_neg h1, if_neg h2]; rfl)
      show Calls Try.prog 159 _ w fun e w' => e = .returned (.tuple #[.int .i64 (p : Int), .int .i64 (hintCode (hintOf s))]) ∧ Lies St g w d w'
      rw [← hHc]
      clear hHc hraw h4 c4 hI hJ hK
      have h8z : (8 : Int) ≤ (b : Int) - (a : Int) := by omega
      have h50z : ¬ (50 : Int) ≤ (b : Int) - (a : Int) := by omega
      go_enter Try.func159, Try.ntmps159
      go_wp2_with fail
      refine (C4.out _ HC0.out).mono ?_
      rintro e w4 ⟨rfl, hC4⟩
      have cS := hC4.c
      have HL := Lib.hid hC4.l
      clear hC4
      go_wp2_with fail
      all_goals
        go_ret2
        refine ⟨?_, HL.out⟩
        first
          | (have e0 : (s : Int) = 0 := of_beq_int (by assumption)
             rw [hh0.out (by omega)]; rfl)
          | (have e1 : (s : Int) = 12 := of_beq_int (by assumption)
             rw [hh12.out (by omega)]; rfl)
          | (have e0 : (s : Int) ≠ 0 := of_bne_int (by assumption)
             have e1 : (s : Int) ≠ 12 := of_bne_int (by assumption)
             rw [hhx.out (by omega) (by omega)]; rfl)
          | (rw [hh0.out (by omega)]; rfl)
  · have hraw : rawPivot lt d a b = (J, 0) := by simp only [rawPivot, if_neg h8, ← hJ]
    rw [hraw]
    clear hraw hI hJ hK
    have h8z : ¬ (8 : Int) ≤ (b : Int) - (a : Int) := by omega
    have HL := Lib.hid HC0.out.l
    have cS := HC0.out.c
    clear HC0
    go_enter Try.func159, Try.ntmps159
    go_wp2
    go_ret2
    exact ⟨rfl, HL.out⟩

set_option maxHeartbeats 4000000 in
set_option maxRecDepth 1000000 in
theorem fc_breakPatterns_go (F : Face lt St B g size T rv gl rl gs rs) (hsz : size < 4611686018427387904) (a L : Nat) (d : Array α) (w : World) (hS : St d w) (hb : a + L ≤ size) (h8 : 8 ≤ L) :
    Calls Try.prog 158 #[.iface T rv, .int .i64 a, .int .i64 ((a + L : Nat) : Int)] w fun e w' => e = .returned (.tuple #[]) ∧ Lies St g w (breakPatterns d a (a + L)) w' := by
  have eS := F.enterS
  have hB : B ≤ w.heap.size := F.base hS
  have hgB := F.gB
  rw [breakPatterns_eq d a L h8]
  obtain ⟨M, hM⟩ : ∃ M : Nat, M = 1 <<< bitsLen L := ⟨_, rfl⟩
  have hM1 : 1 ≤ M := by rw [hM, Nat.one_shiftLeft]; exact Nat.two_pow_pos _
  have hM2 : M ≤ 2 * L := by rw [hM, Nat.one_shiftLeft]; exact two_pow_bitsLen_le (by omega)
  have hNP : ∀ w, Calls Try.prog 167 #[.int .i64 (L : Int)] w fun e w' => e = .returned (.int .u64 (M : Int)) ∧ w' = w := by rw [hM]; exact fun w => sort_nextPow L (by omega) w
  rw [← hM]
  clear hM
  have hLz : ((a : Int) + (L : Int) - (a : Int)) = (L : Int) := by omega
  have h8z : (8 : Int) ≤ (L : Int) := by omega
  have HL0 := Lib.hid (Lies.start (g := g) hS)
  clear hS
  go_enter Try.func158, Try.ntmps158
  go_wp2_with fail
  refine (hNP _).mono ?_
  rintro e w' ⟨rfl, rfl⟩
  go_wp2_with fail
  go_loopg [9] 3 (fun g1 vi wr => ∃ (t : Nat) (r : UInt64) (dk : Array α), vi = .int .i64 ((a : Int) + (L : Int) / 4 * 2 - 1 + (t : Int)) ∧ t ≤ 3 ∧ 3 - t ≤ g1 ∧ Lies St g w dk wr ∧ w.heap.size < wr.heap.size ∧
      wr.cell? ⟨w.heap.size, 0, none⟩ = some (.int .u64 (r.toNat : Int)) ∧ wr.frozen? ⟨w.heap.size, 0, none⟩ = false ∧
      Hid (bpRest a L M (a + L / 4 * 2 - 1) (3 - t) t (r, dk) = bpRest a L M (a + L / 4 * 2 - 1) 3 0 (UInt64.ofNat L, d)))
  case atStart =>
    refine ⟨0, UInt64.ofNat L, d, by simp, by omega, by omega, HL0.out.alloc F.toBase _, by simp, ?_, by simp, rfl⟩
    rw [show (UInt64.ofNat L).toNat = L from by simp; omega]
    simp
  case round =>
    obtain ⟨t, r, dk, rfl, ht, hg1, hL1, hlt1, cR, fR, HR⟩ := hrel
    by_cases ht3 : t < 3
    · have hle : (a : Int) + (L : Int) / 4 * 2 - 1 + (t : Int) ≤ (a : Int) + (L : Int) / 4 * 2 + 1 := by omega
      obtain ⟨R, hRr⟩ : ∃ R : Nat, R = r.toNat := ⟨_, rfl⟩
      have lR : R < 18446744073709551616 := by rw [hRr]; exact r.toNat_lt
      obtain ⟨R', hR'⟩ : ∃ R' : Nat, R' = xorNextN R := ⟨_, rfl⟩
      have lR' : R' < 18446744073709551616 := by rw [hR']; exact xorNextN_lt R lR
      obtain ⟨O, hO⟩ : ∃ O : Nat, O = R' &&& (M - 1) := ⟨_, rfl⟩
      have lO : O ≤ M - 1 := by rw [hO]; exact Nat.and_le_right
      have eAnd : bits .and .u64 (R' : Int) ((M : Int) - 1) = (O : Int) := by
        rw [show ((M : Int) - 1) = ((M - 1 : Nat) : Int) by omega, bits_and_u64_nat _ _ lR' (by omega), hO]
      rw [← hRr] at cR
      have hNext : Calls Try.prog 168 #[.pointer (some ⟨w.heap.size, 0, none⟩)] wr fun e w' => e = .returned (.int .u64 (R' : Int)) ∧ w' = (wr.setCell ⟨w.heap.size, 0, none⟩ (.int .u64 (R' : Int))).drewN 3 := by
        rw [hR']; exact sort_xorNext _ R lR wr cR fR
      have HN : Hid (R' = (xorNext r).toNat ∧ O = (xorNext r).toNat &&& (M - 1)) := by
        have e : R' = (xorNext r).toNat := by rw [hR', hRr, xorNext_toNat]
        exact ⟨e, by rw [hO, e]⟩
      clear hRr hR' hO
      have S2 : Lies St g w dk ((wr.setCell ⟨w.heap.size, 0, none⟩ (.int .u64 (R' : Int))).drewN 3) := (hL1.own F.toBase hB (Nat.le_refl _) _).drewN F.toBase 3
      have cR' : ((wr.setCell ⟨w.heap.size, 0, none⟩ (.int .u64 (R' : Int))).drewN 3).cell? ⟨w.heap.size, 0, none⟩ = some (.int .u64 (R' : Int)) := by
        rw [World.cell?_drewN]; exact World.cell?_setCell_same _ _ _ cR
      have fR' : ((wr.setCell ⟨w.heap.size, 0, none⟩ (.int .u64 (R' : Int))).drewN 3).frozen? ⟨w.heap.size, 0, none⟩ = false := by
        rw [World.frozen?_drewN]; simpa using fR
      have zR' : w.heap.size < ((wr.setCell ⟨w.heap.size, 0, none⟩ (.int .u64 (R' : Int))).drewN 3).heap.size := by simpa [World.setCell] using hlt1
      generalize (wr.setCell ⟨w.heap.size, 0, none⟩ (.int .u64 (R' : Int))).drewN 3 = w2 at hNext S2 cR' fR' zR'
      have HK := Lib.hid (show ∀ (X : Array α) (w3 : World), Lies St g w2 X w3 → Lies St g w X w3 ∧ w.heap.size < w3.heap.size ∧ w3.cell? ⟨w.heap.size, 0, none⟩ = some (.int .u64 (R' : Int)) ∧ w3.frozen? ⟨w.heap.size, 0, none⟩ = false from fun X w3 h =>
        ⟨S2.trans h, Nat.lt_of_lt_of_le zR' h.ap.size, (h.ap.cell (p := ⟨w.heap.size, 0, none⟩) zR' (by show w.heap.size ≠ g; omega)).trans cR', (h.ap.frozen (p := ⟨w.heap.size, 0, none⟩) zR' (by show w.heap.size ≠ g; omega)).trans fR'⟩)
      have mS := F.findS S2.st
      have SS := Lib.hid (Lies.start (g := g) S2.st)
      clear cR fR S2 cR' fR' zR' hL1
      by_cases hLO : L ≤ O
      · have hLOz : (L : Int) ≤ (O : Int) := by omega
        go_wp2_with fail
        refine hNext.mono ?_
        rintro e w' ⟨rfl, rfl⟩
        go_wp2_with fail
        refine (F.swapAt SS.out (a + L / 4 * 2 - 1 + t) (a + (O - L)) (by omega) (by omega) (by omega) (by omega)).mono ?_
        rintro e w3 ⟨rfl, h3⟩
        obtain ⟨k1, k2, k3, k4⟩ := HK.out _ _ h3
        go_wp2_with fail
        go_roundg (3 - (t + 1))
        case measure => omega
        case rel => exact ⟨t + 1, xorNext r, swp dk (a + L / 4 * 2 - 1 + t) (a + (O - L)), by congr 1; push_cast; omega, by omega, Nat.le_refl _, k1, k2, by rw [← HN.out.1]; exact k3, k4,
          (show Hid _ from by rw [← HR.out, bp_step a L M _ t r dk (O - L) ht3 (by rw [← HN.out.2, if_pos (by omega)])]; exact rfl)⟩
      · have hLOz : ¬ (L : Int) ≤ (O : Int) := by omega
        go_wp2_with fail
        refine hNext.mono ?_
        rintro e w' ⟨rfl, rfl⟩
        go_wp2_with fail
        refine (F.swapAt SS.out (a + L / 4 * 2 - 1 + t) (a + O) (by omega) (by omega) (by omega) (by omega)).mono ?_
        rintro e w3 ⟨rfl, h3⟩
        obtain ⟨k1, k2, k3, k4⟩ := HK.out _ _ h3
        go_wp2_with fail
        go_roundg (3 - (t + 1))
        case measure => omega
        case rel => exact ⟨t + 1, xorNext r, swp dk (a + L / 4 * 2 - 1 + t) (a + O), by congr 1; push_cast; omega, by omega, Nat.le_refl _, k1, k2, by rw [← HN.out.1]; exact k3, k4,
          (show Hid _ from by rw [← HR.out, bp_step a L M _ t r dk O ht3 (by rw [← HN.out.2, if_neg (by omega)])]; exact rfl)⟩
    · obtain rfl : t = 3 := by omega
      have hle : ¬ ((a : Int) + (L : Int) / 4 * 2 - 1 + ((3 : Nat) : Int) ≤ (a : Int) + (L : Int) / 4 * 2 + 1) := by omega
      go_wp2
      go_end0
      refine ⟨rfl, ?_⟩
      rw [← HR.out]
      exact hL1

set_option maxHeartbeats 1000000 in
theorem fc_breakPatterns (F : Face lt St B g size T rv gl rl gs rs) (hsz : size < 4611686018427387904) (a b : Nat) (d : Array α) (w : World) (hS : St d w) (hab : a ≤ b) (hb : b ≤ size) :
    Calls Try.prog 158 #[.iface T rv, .int .i64 a, .int .i64 b] w fun e w' => e = .returned (.tuple #[]) ∧ Lies St g w (breakPatterns d a b) w' := by
  obtain ⟨L, rfl⟩ : ∃ L, b = a + L := ⟨b - a, by omega⟩
  by_cases h8 : 8 ≤ L
  · exact fc_breakPatterns_go F hsz a L d w hS hb h8
  · have hv : breakPatterns d a (a + L) = d := by unfold breakPatterns; simp only [Nat.add_sub_cancel_left]; rw [if_neg h8]
    rw [hv]
    have hLz : ((a : Int) + (L : Int) - (a : Int)) = (L : Int) := by omega
    have h8z : ¬ (8 : Int) ≤ (L : Int) := by omega
    have HL0 := Lib.hid (Lies.start (g := g) hS)
    clear hS hv
    go_enter Try.func158, Try.ntmps158
    go_wp2
    go_end0
    exact ⟨rfl, HL0.out⟩
end
#print axioms fc_choosePivot
#print axioms fc_breakPatterns
end Go.Proofs.Ytaifikhgijnkgaa
