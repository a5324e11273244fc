/- For every input the law laws.FnStringInserted returns true, and each argument reads afterwards as it read before. No conditions. -/
import Derived.Test.YtaifikhgijnkgaaStringInsLaw
import Derived.Test.YtaifikhgijnkgaaOpen
namespace Go.Proofs.Ytaifikhgijnkgaa.fnStringInserted
open Go.ChangeShapes Go.WideShapes Go.ChangeAt Go.RowKit
open Go.ChangeMaps (open_string shut_string)
set_option linter.unusedVariables false

set_option maxRecDepth 100000 in
theorem lifted (os : Os) (started : os.Started) (H : Type) (enc : TypeId × Value → H) :
    ReturnsInHanded {} Try.checked os 32 .any (Rows.fnStringInsertedSpec.pre6 enc Try.prog Try.f32 Rows.fnStringInsertedRow.domain false) (Rows.fnStringInsertedSpec.post enc Try.prog Try.f32 false true false false) := by
  refine returnsInHanded_of_change_sized (C := Try.checked) own started (by kernel_rfl) Try.func32
    (ChangeSpec.witness6 (enc := enc) (C := Try.checked) false ⟨#[], #[.slice none 0 0, .string ByteArray.empty], []⟩ 8 (by kernel_rfl) (by kernel_rfl) (by kernel_rfl) (by kernel_rfl)) ?_
  intro W base args ds gs before hval0 hW hcnd hsz0 _
  have hval : ∀ (j : Nat) t v, Try.f32.params[j]? = some t → args[j]? = some v → Value.okWide Try.prog W .any base t v := hval0
  have hsz : (DataW.weightsEach Try.prog (Try.f32.params.toList ++ Rows.fnStringInsertedSpec.plain.varTypes Try.prog) (ds ++ gs)).all (· ≤ reachBytes) = true := hsz0
  have hW' := hW
  obtain ⟨p, q, hA0, hV, rfl, hfz, hnd⟩ := hW
  have hA : DataW.TrodAll enc Try.prog W 0 (fun _ => true) true Try.f32.params.toList args.toList ds p := hA0
  rw [Try.params32] at hA hval hsz
  obtain ⟨v0, vs0, d0, ds0, p0, q0, hargs, rfl, rfl, h0, r0⟩ := trodAll_cons hA
  obtain ⟨v1, vs1, d1, ds1, p1, q1, rfl, rfl, rfl, h1, r1⟩ := trodAll_cons r0
  obtain ⟨rfl, rfl, rfl⟩ := trodAll_nil r1
  obtain rfl : args = #[v0, v1] := by cases args; simp_all
  obtain ⟨rfl, rfl⟩ := trodVars_none hV
  obtain ⟨a0, len0, cap0, rfl⟩ := okWide_slice Try.underlying27 (hval 0 27 v0 rfl rfl)
  have k0 := h0
  have lt0 : ∀ x ∈ p0, x.block < W.heap.size := by obtain ⟨m, hm⟩ := k0; exact DataW.trod_lt m _ _ _ hm
  obtain ⟨x0, s0, g0, sh0⟩ := open_S h0
  have b0 := sh0.reach hsz (j := 0) (t := 27) (e := 9) rfl rfl Try.underlying27
  rw [Try.bytes9] at b0
  have k1 := h1
  have lt1 : ∀ x ∈ p1, x.block < W.heap.size := by obtain ⟨m, hm⟩ := k1; exact DataW.trod_lt m _ _ _ hm
  obtain ⟨x1, rfl, rfl, hp1, g1⟩ := open_string Try.underlying9 (hval 1 9 v1 rfl rfl) h1
  have b1 := sized_string hsz (j := 1) (t := 9) rfl rfl
  clear hA0 hval0 hsz0
  refine (walk_FnStringInserted a0 len0 cap0 x0 x1 W s0 g0 b0 g1 (by simpa [reachBytes] using b1)).mono fun e W' hgood => ?_
  obtain ⟨he, bel⟩ := hgood
  subst he
  exact ⟨_, rfl, _, _, _, [], _, [], hW', trodAll_mk1 (shut_bool Try.underlying4 _), (trodAll_cons_mk (Below.trod laidOut (by kernel_rfl) (of_decide_eq_true (by kernel_rfl)) k0 bel lt0) (trodAll_cons_mk (Below.trod laidOut (by kernel_rfl) (of_decide_eq_true (by kernel_rfl)) k1 bel lt1) trodAll_mk0)), rfl, bel.frame _, fun h => by cases h⟩

theorem closed : joinedFacts Try.prog 32 Try.f32 Rows.fnStringInsertedSpec Rows.fnStringInsertedRow = true :=
  joined_of _ _ _ _ _ may_enter lifts_none made_cut (by kernel_rfl) (by kernel_rfl) (by kernel_rfl) (by kernel_rfl)

theorem over : Rows.fnStringInsertedRow.holds Try.pinned (OpenSpec.ofChange Rows.fnStringInsertedSpec) :=
  OpenClaim.holds_of_wide 32 Try.f32 rfl rfl rfl rfl rfl rfl rfl ⟨rfl, rfl, rfl, rfl, rfl⟩ rfl rfl rfl rfl rfl (by kernel_rfl) Try.func32 closed
    (of_decide_eq_true (by kernel_rfl)) (by unfold Func.isWrapper; first | (rw [if_pos (by decide +kernel)]; kernel_rfl) | (rw [if_neg (by decide +kernel)]; exact ⟨rfl, rfl⟩))
    (fun os started H enc _ => lifted os started H enc)

theorem proved : Rows.FnStringInsertedSaid := over
#print axioms proved
end Go.Proofs.Ytaifikhgijnkgaa.fnStringInserted
