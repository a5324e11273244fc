/- The contract of laws.equalByOrder where the items are equal by the order, one by one. Conditions: they are. -/
import Derived.Test.YtaifikhgijnkgaaWeak
namespace Go.Proofs.Ytaifikhgijnkgaa
open Go.RowKit
set_option linter.unusedVariables false

/-- The cells that a round reads: the order's box, an item of each list. -/
abbrev SEq (P : Nat) (n : Int) (t : Value) (tu : Bool) (p : Addr) (x : It) (q : Addr) (y : It) (w5 w' : World) : Prop :=
  w'.cell? ⟨P, 0, none⟩ = some (.int .i64 n) ∧ w'.cell? ⟨P, 1, none⟩ = some t ∧ w'.cell? ⟨P, 2, none⟩ = some (.bool tu) ∧ w'.cell? ⟨p.block, p.off, none⟩ = some (.int .i64 x.1) ∧ w'.cell? ⟨p.block, p.off + 1, none⟩ = some (.int .i64 x.2) ∧ w'.cell? ⟨q.block, q.off, none⟩ = some (.int .i64 y.1) ∧ w'.cell? ⟨q.block, q.off + 1, none⟩ = some (.int .i64 y.2) ∧ Below w5.heap.size w5 w'
theorem SEq.below {P : Nat} {n : Int} {t : Value} {tu : Bool} {p : Addr} {x : It} {q : Addr} {y : It} {w5 W : World} (h : SEq P n t tu p x q y w5 W) : Below w5.heap.size w5 W := h.2.2.2.2.2.2.2
theorem SEq.keep {P : Nat} {n : Int} {t : Value} {tu : Bool} {p : Addr} {x : It} {q : Addr} {y : It} {w5 W W' : World} (h : SEq P n t tu p x q y w5 W) (hb : Below W.heap.size W W') : SEq P n t tu p x q y w5 W' := by
  obtain ⟨h0, h1, h2, h3, h4, h5, h6, h9⟩ := h
  have k : ∀ {p : Addr} {v : Value}, p.spot = none → W.cell? p = some v → W'.cell? p = some v := fun {p v} hp hv => (hb.cell (p := p) (by obtain ⟨b, o, s⟩ := p; subst hp; exact block_of_cell hv)).trans hv
  exact ⟨k rfl h0, k rfl h1, k rfl h2, k rfl h3, k rfl h4, k rfl h5, k rfl h6, h9.trans (hb.mono h9.size)⟩

set_option maxHeartbeats 4000000 in
set_option maxRecDepth 100000 in
theorem laws_equalByOrder (n : Int) (ab : Option Addr) (lb cb : Nat) (bs : List Bool) (tu : Bool) (a : Option Addr) (len cap : Nat) (xs : List It) (b : Option Addr) (cap2 : Nat) (ys : List It) (w : World) (hs : SlK 2 encIt w a len cap xs) (hs2 : SlK 2 encIt w b len cap2 ys) (ho : Sl Value.bool w ab lb cb bs) (hl : len < 4611686018427387904)
    (he : ∀ i, i < len → sbef n bs tu (el xs i) (el ys i) = false ∧ sbef n bs tu (el ys i) (el xs i) = false) :
    Calls Try.prog 49 #[.slice a len cap, .slice b len cap2, .agg #[.int .i64 n, .slice ab lb cb, .bool tu]] w fun e w' => e = .returned (.bool true) ∧ Below w.heap.size w w' := by
  have B0 := Lib.hid (below1 w (.cells #[.int .i64 n, .slice ab lb cb, .bool tu] 37))
  have HS := Lib.hid (hs.belowS B0.out)
  have HS2 := Lib.hid (hs2.belowS B0.out)
  have HO := Lib.hid (ho.below B0.out)
  have HP := Lib.hid (boxO_new w n (.slice ab lb cb) tu 37)
  have HE := Lib.hid he
  clear hs hs2 ho he
  go_enter Try.func49, Try.ntmps49
  go_wp2
  generalize w.alloc (.cells #[.int .i64 n, .slice ab lb cb, .bool tu] 37) = w1 at *
  generalize hPe : w.heap.size = P at *
  have HPE := Lib.hid hPe
  clear hPe
  go_loopw [15] (fun s wr => ∃ i : Nat, s = .int .i64 i ∧ i ≤ len ∧ Below w1.heap.size w1 wr) (fun s _ => len - (intOf s).toNat)
  case atStart => exact ⟨0, rfl, by omega, Below.refl _ _⟩
  case round =>
    obtain ⟨i, rfl, hi, hbw⟩ := hrel
    have HB1 := Lib.hid hbw
    by_cases hlt : i < len
    · have hlt' : (i : Int) < len := by omega
      obtain ⟨ba, oa, rfl, hba, c0, c1⟩ := (HS.out.belowS hbw).itAt i hlt
      obtain ⟨bb, ob, rfl, hbb, d0, d1⟩ := (HS2.out.belowS hbw).itAt i hlt
      obtain ⟨o0, o1, o2⟩ := HP.out.keep hbw
      clear hbw
      obtain ⟨e1, e2⟩ := HE.out i hlt
      have H1 := Lib.hid (fun (W : World) (hW : Below wr.heap.size wr W) => (spec_Before n ab lb cb bs tu (el xs i) (el ys i) W (HO.out.below (HB1.out.trans (hW.mono HB1.out.size)))))
      have H2 := Lib.hid (fun (W : World) (hW : Below wr.heap.size wr W) => (spec_Before n ab lb cb bs tu (el ys i) (el xs i) W (HO.out.below (HB1.out.trans (hW.mono HB1.out.size)))))
      rw [e1] at H1
      rw [e2] at H2
      clear e1 e2
      have HKeep := Lib.hid (show ∀ W W', SEq P n (.slice ab lb cb) tu ⟨ba, oa + i * 2, none⟩ (el xs i) ⟨bb, ob + i * 2, none⟩ (el ys i) wr W → Below W.heap.size W W' → SEq P n (.slice ab lb cb) tu ⟨ba, oa + i * 2, none⟩ (el xs i) ⟨bb, ob + i * 2, none⟩ (el ys i) wr W' from fun W W' h hb => h.keep hb)
      have HBel := Lib.hid (show ∀ W, SEq P n (.slice ab lb cb) tu ⟨ba, oa + i * 2, none⟩ (el xs i) ⟨bb, ob + i * 2, none⟩ (el ys i) wr W → Below wr.heap.size wr W from fun W h => h.below)
      go_wp2_with fail
      go_region_held3 (fun w' => w'.cell? ⟨P, 0, none⟩ = some (.int .i64 n) ∧ w'.cell? ⟨P, 1, none⟩ = some (.slice ab lb cb) ∧ w'.cell? ⟨P, 2, none⟩ = some (.bool tu) ∧ w'.cell? ⟨ba, oa + i * 2, none⟩ = some (.int .i64 (el xs i).1) ∧ w'.cell? ⟨ba, oa + i * 2 + 1, none⟩ = some (.int .i64 (el xs i).2) ∧ w'.cell? ⟨bb, ob + i * 2, none⟩ = some (.int .i64 (el ys i).1) ∧ w'.cell? ⟨bb, ob + i * 2 + 1, none⟩ = some (.int .i64 (el ys i).2) ∧ Below wr.heap.size wr w')
        (first | exact ⟨o0, o1, o2, c0, c1, d0, d1, (Below.refl _ _).drew⟩ | assumption)
        (first
          | (go_at_call 63; with_reducible refine (H1.out _ (HBel.out _ (by assumption))).mono ?_; rintro e w' ⟨rfl, hb'⟩; have hS' := HKeep.out _ _ (by assumption) hb')
          | (go_at_call 63; with_reducible refine (H2.out _ (HBel.out _ (by assumption))).mono ?_; rintro e w' ⟨rfl, hb'⟩; have hS' := HKeep.out _ _ (by assumption) hb'))
      have HB5 := Lib.hid (HBel.out _ hS')
      go_wp2_with fail
      go_roundw
      case rel => exact ⟨i + 1, by go_num, by omega, HB1.out.trans (HB5.out.mono HB1.out.size)⟩
      case measure => simp [intOf]; omega
    · obtain rfl : i = len := by omega
      go_wp2
      go_ret
      exact ⟨rfl, by rw [HPE.out]; exact B0.out.trans (HB1.out.mono (by rw [← HPE.out]; exact B0.out.size))⟩
#print axioms laws_equalByOrder
end Go.Proofs.Ytaifikhgijnkgaa
