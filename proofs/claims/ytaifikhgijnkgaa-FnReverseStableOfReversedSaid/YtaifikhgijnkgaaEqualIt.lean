/- Contracts of laws.equal[impl.Item], laws.count[impl.Item], laws.permuted[impl.Item]. No conditions. -/
import Derived.Test.YtaifikhgijnkgaaEqualZ
import Derived.Laws.StructEq
import Derived.Deep.RegionHeld3
namespace Go.Proofs.Ytaifikhgijnkgaa
open Go.RowKit
set_option linter.unusedVariables false

abbrev itV (x : It) : Value := .agg #[.int .i64 x.1, .int .i64 x.2]
theorem fields52 : Try.prog.fieldsOf 52 = #[{ name := "Key", type := 3, offset := 0, embedded := false, tag := "", pkgPath := "", byteOffset := 0 }, { name := "Tag", type := 3, offset := 1, embedded := false, tag := "", pkgPath := "", byteOffset := 8 }] := by kernel_rfl
set_option maxRecDepth 100000 in
theorem neq_it (x y : It) (w : World) : (binOp .neq 52 (itV x) (itV y)).run Try.prog w = .ok (.bool (!decide (x = y))) w := by
  have h1 : Try.prog.underlying 52 = some (.struct (Try.prog.fieldsOf 52)) := by kernel_rfl
  have h2 : Try.prog.stoodInHeld 52 = false := by kernel_rfl
  rw [run_neq_struct]
  have e := run_equalIn_agg (P := Try.prog) (w := w) 9999 52 #[.int .i64 x.1, .int .i64 x.2] #[.int .i64 y.1, .int .i64 y.2] h1 h2
  rw [show (10000 : Nat) = 9999 + 1 from rfl, e, fields52]
  simp [go_sem, Op.eqFields]
  by_cases h1 : x.1 = y.1 <;> by_cases h2 : x.2 = y.2
  · have : x = y := Prod.ext h1 h2
    simp [this]
  · have : x ≠ y := fun e => h2 (by rw [e])
    simp [h1, h2, this]
  · have : x ≠ y := fun e => h1 (by rw [e])
    simp [h1, this]
  · have : x ≠ y := fun e => h1 (by rw [e])
    simp [h1, this]
set_option maxRecDepth 100000 in
theorem eql_it (x y : It) (w : World) : (binOp .eql 52 (itV x) (itV y)).run Try.prog w = .ok (.bool (decide (x = y))) w := by
  have h1 : Try.prog.underlying 52 = some (.struct (Try.prog.fieldsOf 52)) := by kernel_rfl
  have h2 : Try.prog.stoodInHeld 52 = false := by kernel_rfl
  rw [run_eql_struct]
  have e := run_equalIn_agg (P := Try.prog) (w := w) 9999 52 #[.int .i64 x.1, .int .i64 x.2] #[.int .i64 y.1, .int .i64 y.2] h1 h2
  rw [show (10000 : Nat) = 9999 + 1 from rfl, e, fields52]
  simp [go_sem, Op.eqFields]
  by_cases h1 : x.1 = y.1 <;> by_cases h2 : x.2 = y.2
  · have : x = y := Prod.ext h1 h2
    simp [this]
  · have : x ≠ y := fun e => h2 (by rw [e])
    simp [h1, h2, this]
  · have : x ≠ y := fun e => h1 (by rw [e])
    simp [h1, this]
  · have : x ≠ y := fun e => h1 (by rw [e])
    simp [h1, this]
/-- The two cells of an item of a slice. -/
theorem it_cells {w : World} {b off len : Nat} {xs : List It} (hc : ∀ i, i < len → ∀ j, j < 2 → w.cell? ⟨b, off + i * 2 + j, none⟩ = (encIt (el xs i))[j]?) (i : Nat) (hi : i < len) :
    w.cell? ⟨b, off + i * 2, none⟩ = some (.int .i64 (el xs i).1) ∧ w.cell? ⟨b, off + i * 2 + 1, none⟩ = some (.int .i64 (el xs i).2) :=
  ⟨by simpa [encIt] using hc i hi 0 (by omega), by simpa [encIt] using hc i hi 1 (by omega)⟩

set_option maxHeartbeats 400000 in
set_option maxRecDepth 100000 in
theorem equal_it (a : Option Addr) (la ca : Nat) (xs : List It) (b : Option Addr) (lb cb : Nat) (ys : List It) (w : World)
    (sa : SlK 2 encIt w a la ca xs) (sb : SlK 2 encIt w b lb cb ys) (hla : la < 4611686018427387904) :
    Calls Try.prog 58 #[.slice a la ca, .slice b lb cb] w fun e w' => e = .returned (.bool (decide (xs = ys))) ∧ ∃ q, w' = w.drewN q := by
  obtain ⟨ea, _, _, hca⟩ := sa
  obtain ⟨eb, _, _, hcb⟩ := sb
  by_cases hne : la = lb
  · subst hne
    by_cases h0 : la = 0
    · subst h0
      obtain rfl : xs = [] := List.length_eq_zero_iff.1 ea
      obtain rfl : ys = [] := List.length_eq_zero_iff.1 eb
      clear hca hcb ea eb
      go_enter Try.func58, Try.ntmps58
      go_wp2
      go_loopw [13] (fun s wr => s = .int .i64 0 ∧ wr = w) (fun _ _ => 0)
      case atStart => exact ⟨rfl, rfl⟩
      case round =>
        obtain ⟨rfl, rfl⟩ := hrel
        go_wp2
        go_ret
        exact ⟨by simp, 0, rfl⟩
    · rcases hca with hca | ⟨ba, oa, rfl, _, hca⟩
      · exact absurd hca h0
      rcases hcb with hcb | ⟨bb, ob, rfl, _, hcb⟩
      · exact absurd hcb h0
      have HA := Lib.hid hca
      have HB := Lib.hid hcb
      have EA := Lib.hid ea
      have EB := Lib.hid eb
      clear hca hcb ea eb
      go_enter Try.func58, Try.ntmps58
      go_wp2
      go_loopw [13] (fun s wr => ∃ k q : Nat, s = .int .i64 k ∧ k ≤ la ∧ wr = w.drewN q ∧ ∀ t, t < k → el xs t = el ys t) (fun s _ => la - (intOf s).toNat)
      case atStart => exact ⟨0, 0, rfl, by omega, rfl, fun t ht => by omega⟩
      case round =>
        obtain ⟨k, q, rfl, hk, rfl, hI⟩ := hrel
        have HI := Lib.hid hI
        clear hI
        by_cases hlt : k < la
        · have hlt' : (k : Int) < la := by omega
          obtain ⟨ck, ck'⟩ := it_cells HA.out k hlt
          obtain ⟨dk, dk'⟩ := it_cells HB.out k hlt
          by_cases he : el xs k = el ys k
          · have hq : ∀ w, Sem.run Try.prog (binOp .neq 52 (itV (el xs k)) (itV (el ys k))) w = .ok (.bool false) w := fun w => by rw [neq_it]; simp [he]
            have HE := Lib.hid he
            clear he
            go_wp2
            go_quiet (fail)
            go_wp2
            go_roundw
            case rel =>
              refine ⟨k + 1, _, by go_num, by omega, rfl, fun t ht => ?_⟩
              by_cases htk : t = k
              · subst htk; exact HE.out
              · exact HI.out t (by omega)
            case measure => simp [intOf]; omega
          · have hq : ∀ w, Sem.run Try.prog (binOp .neq 52 (itV (el xs k)) (itV (el ys k))) w = .ok (.bool true) w := fun w => by rw [neq_it]; simp [he]
            have HE := Lib.hid (take_ne (by rw [EA.out]; exact hlt) he)
            clear he
            go_wp2
            go_quiet (fail)
            go_wp2
            go_ret
            exact ⟨by simp [HE.out], _, World.drewN_drewN _ _ _⟩
        · obtain rfl : k = la := by omega
          have hfin : xs = ys := ext_el (by rw [EA.out, EB.out]) (fun t ht => HI.out t (by rw [EA.out] at ht; exact ht))
          have HF := Lib.hid hfin
          clear hfin
          go_wp2
          go_ret
          exact ⟨by simp [HF.out], _, rfl⟩
  · have hn : xs ≠ ys := fun e => hne (by rw [← ea, ← eb, e])
    have HN := Lib.hid hn
    have h1 : ((la : Int) != (lb : Int)) = true := by rw [bne_iff_ne]; omega
    clear hn hca hcb hne ea eb
    go_enter Try.func58, Try.ntmps58
    go_wp2
    go_ret
    exact ⟨by simp [HN.out], 0, rfl⟩

theorem belowA (w : World) (A : Obj) : Below w.heap.size w (w.alloc A) := (Below.refl _ _).alloc (Nat.le_refl _) _

set_option maxHeartbeats 1000000 in
set_option maxRecDepth 100000 in
theorem count_it (a : Option Addr) (la ca : Nat) (xs : List It) (x : It) (w : World)
    (sa : SlK 2 encIt w a la ca xs) (hla : la < 4611686018427387904) :
    Calls Try.prog 115 #[.slice a la ca, .agg #[.int .i64 x.1, .int .i64 x.2]] w fun e w' => e = .returned (.int .i64 (xs.countP (fun y => x == y) : Nat)) ∧ Below w.heap.size w w' := by
  have B1 := Lib.hid (belowA w (.cells #[.int .i64 x.1, .int .i64 x.2] 52))
  have c0 : (w.alloc (.cells #[.int .i64 x.1, .int .i64 x.2] 52)).cell? ⟨w.heap.size, 0, none⟩ = some (.int .i64 x.1) := by simp
  have c1 : (w.alloc (.cells #[.int .i64 x.1, .int .i64 x.2] 52)).cell? ⟨w.heap.size, 1, none⟩ = some (.int .i64 x.2) := by simp
  have hz : w.heap.size < (w.alloc (.cells #[.int .i64 x.1, .int .i64 x.2] 52)).heap.size := by simp
  obtain ⟨ea, _, _, hca⟩ := sa
  by_cases h0 : la = 0
  · subst h0
    obtain rfl : xs = [] := List.length_eq_zero_iff.1 ea
    clear hca ea
    go_enter Try.func115, Try.ntmps115
    go_wp2
    generalize w.alloc (.cells #[.int .i64 x.1, .int .i64 x.2] 52) = w1 at *
    go_loopw [5, 10] (fun n s wr => n = .int .i64 0 ∧ s = .int .i64 0 ∧ wr = w1) (fun _ _ _ => 0)
    case atStart => exact ⟨rfl, rfl, rfl⟩
    case round =>
      obtain ⟨rfl, rfl, rfl⟩ := hrel
      go_wp2
      go_ret
      exact ⟨by simp, B1.out⟩
  · rcases hca with hca | ⟨ba, oa, rfl, hba, hca⟩
    · exact absurd hca h0
    have HA := Lib.hid hca
    have EA := Lib.hid ea
    clear hca ea
    go_enter Try.func115, Try.ntmps115
    go_wp2
    generalize w.alloc (.cells #[.int .i64 x.1, .int .i64 x.2] 52) = w1 at *
    go_loopw [5, 10] (fun n s wr => ∃ k : Nat, n = .int .i64 (cnt xs x k : Nat) ∧ s = .int .i64 k ∧ k ≤ la ∧ Below w1.heap.size w1 wr) (fun _ s _ => la - (intOf s).toNat)
    case atStart => exact ⟨0, by rw [cnt_zero]; rfl, rfl, by omega, Below.refl _ _⟩
    case round =>
      obtain ⟨k, rfl, rfl, hk, hb⟩ := hrel
      have hc := cnt_le xs x k
      by_cases hlt : k < la
      · have hlt' : (k : Int) < la := by omega
        obtain ⟨ck, ck'⟩ := it_cells HA.out k hlt
        have hba1 : ba < w1.heap.size := by omega
        have d0 := (hb.cell (p := ⟨ba, oa + k * 2, none⟩) hba1).trans ((B1.out.cell (p := ⟨ba, oa + k * 2, none⟩) hba).trans ck)
        have d1 := (hb.cell (p := ⟨ba, oa + k * 2 + 1, none⟩) hba1).trans ((B1.out.cell (p := ⟨ba, oa + k * 2 + 1, none⟩) hba).trans ck')
        have f0 := (hb.cell (p := ⟨w.heap.size, 0, none⟩) hz).trans c0
        have f1 := (hb.cell (p := ⟨w.heap.size, 1, none⟩) hz).trans c1
        have hwr := hb.size
        have g0 : ∀ A, (wr.alloc A).cell? ⟨w.heap.size, 0, none⟩ = some (.int .i64 x.1) := fun A => ((belowA wr A).cell (p := ⟨w.heap.size, 0, none⟩) (show w.heap.size < wr.heap.size by omega)).trans f0
        have g1 : ∀ A, (wr.alloc A).cell? ⟨w.heap.size, 1, none⟩ = some (.int .i64 x.2) := fun A => ((belowA wr A).cell (p := ⟨w.heap.size, 1, none⟩) (show w.heap.size < wr.heap.size by omega)).trans f1
        have HS := Lib.hid (cnt_succ xs x k (by rw [EA.out]; exact hlt))
        have HB := Lib.hid (fun A => hb.trans ((belowA wr A).mono hb.size))
        clear hb ck ck' f0 f1
        cases he : (x == el xs k)
        · have hq : ∀ w, Sem.run Try.prog (binOp .eql 52 (itV x) (itV (el xs k))) w = .ok (.bool false) w := fun w => by rw [eql_it]; simp at he; simp [he]
          have HE := Lib.hid he
          clear he
          go_wp2
          go_roundw
          case rel => exact ⟨k + 1, by rw [HS.out, HE.out]; rfl, by go_num, by omega, HB.out _⟩
          case measure => simp [intOf]; omega
        · have hq : ∀ w, Sem.run Try.prog (binOp .eql 52 (itV x) (itV (el xs k))) w = .ok (.bool true) w := fun w => by rw [eql_it]; simp at he; simp [he]
          have HE := Lib.hid he
          clear he
          go_wp2
          go_roundw
          case rel => exact ⟨k + 1, by rw [HS.out, HE.out]; go_num, by go_num, by omega, HB.out _⟩
          case measure => simp [intOf]; omega
      · obtain rfl : k = la := by omega
        have HF := Lib.hid (show cnt xs x k = xs.countP (fun y => x == y) by have := cnt_all xs x; rw [EA.out] at this; exact this)
        have HB := Lib.hid (B1.out.trans (hb.mono B1.out.size))
        clear hb
        go_wp2
        go_ret
        exact ⟨by rw [HF.out]; rfl, HB.out⟩

/-- Kept beside calls that make memory: an item in a box of the walk's own, and what lay below. -/
abbrev SIt (w : World) (P : Nat) (x : It) (W : World) : Prop := W.cell? ⟨P, 0, none⟩ = some (.int .i64 x.1) ∧ W.cell? ⟨P, 1, none⟩ = some (.int .i64 x.2) ∧ Below w.heap.size w W

theorem SIt.keep {w W W' : World} {P : Nat} {x : It} (h : SIt w P x W) (hb : Below W.heap.size W W') : SIt w P x W' :=
  ⟨(hb.cell (p := ⟨P, 0, none⟩) (block_of_cell h.1)).trans h.1, (hb.cell (p := ⟨P, 1, none⟩) (block_of_cell h.2.1)).trans h.2.1, h.2.2.trans (hb.mono h.2.2.size)⟩

set_option maxHeartbeats 1000000 in
set_option maxRecDepth 100000 in
theorem permuted_it (a : Option Addr) (la ca : Nat) (xs : List It) (b : Option Addr) (lb cb : Nat) (ys : List It) (w : World)
    (sa : SlK 2 encIt w a la ca xs) (sb : SlK 2 encIt w b lb cb ys) (hla : la < 4611686018427387904) (hp : xs.Perm ys) :
    Calls Try.prog 82 #[.slice a la ca, .slice b lb cb] w fun e w' => e = .returned (.bool true) ∧ Below w.heap.size w w' := by
  have sa' := sa
  obtain ⟨ea, _, _, hca⟩ := sa
  obtain rfl : la = lb := by rw [← ea, ← sb.1]; exact hp.length_eq
  have HCa := Lib.hid (fun x W (hb : Below w.heap.size w W) => count_it a la ca xs x W (sa'.belowS hb) hla)
  have HCb := Lib.hid (fun x W (hb : Below w.heap.size w W) => count_it b la cb ys x W (sb.belowS hb) hla)
  have HP := Lib.hid hp
  clear sa' sb hp
  by_cases h0 : la = 0
  · subst h0
    clear hca ea
    go_enter Try.func82, Try.ntmps82
    go_wp2
    go_loopw [14] (fun s wr => s = .int .i64 0 ∧ wr = w) (fun _ _ => 0)
    case atStart => exact ⟨rfl, rfl⟩
    case round =>
      obtain ⟨rfl, rfl⟩ := hrel
      go_wp2
      go_ret
      exact ⟨rfl, Below.refl _ _⟩
  · rcases hca with hca | ⟨ba, oa, rfl, hba, hca⟩
    · exact absurd hca h0
    have HA := Lib.hid hca
    clear hca ea
    go_enter Try.func82, Try.ntmps82
    go_wp2
    go_loopw [14] (fun s wr => ∃ k : Nat, s = .int .i64 k ∧ k ≤ la ∧ Below w.heap.size w wr) (fun s _ => la - (intOf s).toNat)
    case atStart => exact ⟨0, rfl, by omega, Below.refl _ _⟩
    case round =>
      obtain ⟨k, rfl, hk, hb⟩ := hrel
      by_cases hlt : k < la
      · have hlt' : (k : Int) < la := by omega
        obtain ⟨ck, ck'⟩ := it_cells HA.out k hlt
        have d0 := (hb.cell (p := ⟨ba, oa + k * 2, none⟩) hba).trans ck
        have d1 := (hb.cell (p := ⟨ba, oa + k * 2 + 1, none⟩) hba).trans ck'
        have hsz := hb.size
        have S0 : SIt w wr.heap.size (el xs k) (wr.alloc (.cells #[.int .i64 (el xs k).1, .int .i64 (el xs k).2] 52)) := ⟨by simp, by simp, hb.trans ((belowA wr _).mono hb.size)⟩
        have Ca : ∀ W, SIt w wr.heap.size (el xs k) W → Calls Try.prog 115 #[.slice (some ⟨ba, oa, none⟩) la ca, .agg #[.int .i64 (el xs k).1, .int .i64 (el xs k).2]] W fun e w' => e = .returned (.int .i64 (xs.countP (fun y => el xs k == y) : Nat)) ∧ SIt w wr.heap.size (el xs k) w' := fun W hS =>
          (HCa.out (el xs k) W hS.2.2).mono fun e w' h => ⟨h.1, hS.keep h.2⟩
        have Cb : ∀ W, SIt w wr.heap.size (el xs k) W → Calls Try.prog 115 #[.slice b la cb, .agg #[.int .i64 (el xs k).1, .int .i64 (el xs k).2]] W fun e w' => e = .returned (.int .i64 (xs.countP (fun y => el xs k == y) : Nat)) ∧ SIt w wr.heap.size (el xs k) w' := fun W hS =>
          (HCb.out (el xs k) W hS.2.2).mono fun e w' h => ⟨by rw [h.1, HP.out.countP_eq], hS.keep h.2⟩
        generalize List.countP (fun y => el xs k == y) xs = c at Ca Cb
        have H1 := Lib.hid Ca
        have H2 := Lib.hid Cb
        have HS0 := Lib.hid S0
        clear Ca Cb S0 hb ck ck'
        go_wp2
        have S1 := HS0.out
        generalize hW : wr.alloc (.cells #[.int .i64 (el xs k).1, .int .i64 (el xs k).2] 52) = W at *
        have HW := Lib.hid hW
        clear hW d0 d1
        generalize wr.heap.size = P at *
        go_region_held3 (fun w' => w'.cell? ⟨P, 0, none⟩ = some (.int .i64 (el xs k).1) ∧ w'.cell? ⟨P, 1, none⟩ = some (.int .i64 (el xs k).2) ∧ Below w.heap.size w w')
          (first | exact ⟨S1.1, S1.2.1, S1.2.2.drew⟩ | assumption)
          (first
            | (go_at_call 115; with_reducible refine (H1.out _ (by assumption)).mono ?_; rintro e w' ⟨rfl, hS'⟩)
            | (go_at_call 115; with_reducible refine (H2.out _ (by assumption)).mono ?_; rintro e w' ⟨rfl, hS'⟩))
        go_wp2_with fail
        go_roundw
        case rel => exact ⟨k + 1, by go_num, by omega, hS'.2.2⟩
        case measure => simp [intOf]; omega
      · have HB := Lib.hid hb
        clear hb
        go_wp2
        go_ret
        exact ⟨rfl, HB.out⟩
#print axioms permuted_it
#print axioms equal_it
#print axioms count_it
end Go.Proofs.Ytaifikhgijnkgaa
