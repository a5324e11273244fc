/- For every input the law laws.FnFloat64Search returns true, and each argument reads afterwards as it read before. No conditions. -/
import Derived.Test.YtaifikhgijnkgaaFloSearch2
import Derived.Test.YtaifikhgijnkgaaOpen
namespace Go.Proofs.Ytaifikhgijnkgaa.fnFloat64Search
open Go.ChangeShapes Go.WideShapes Go.ChangeAt Go.RowKit
open Go.ChangeMaps (open_string shut_string)
set_option linter.unusedVariables false

set_option maxRecDepth 100000 in
theorem lifted (os : Os) (started : os.Started) (H : Type) (enc : TypeId × Value → H) :
    ReturnsInHanded {} Try.checked os 35 .any (Rows.fnFloat64SearchSpec.pre6 enc Try.prog Try.f35 Rows.fnFloat64SearchRow.domain false) (Rows.fnFloat64SearchSpec.post enc Try.prog Try.f35 false true false false) := by
  refine returnsInHanded_of_change_sized (C := Try.checked) own started (by kernel_rfl) Try.func35
    (ChangeSpec.witness6 (enc := enc) (C := Try.checked) false ⟨#[], #[.slice none 0 0, .int .u64 0], []⟩ 8 (by kernel_rfl) (by kernel_rfl) (by kernel_rfl) (by kernel_rfl)) ?_
  intro W base args ds gs before hval0 hW hcnd hsz0 _
  have hval : ∀ (j : Nat) t v, Try.f35.params[j]? = some t → args[j]? = some v → Value.okWide Try.prog W .any base t v := hval0
  have hsz : (DataW.weightsEach Try.prog (Try.f35.params.toList ++ Rows.fnFloat64SearchSpec.plain.varTypes Try.prog) (ds ++ gs)).all (· ≤ reachBytes) = true := hsz0
  have hW' := hW
  obtain ⟨p, q, hA0, hV, rfl, hfz, hnd⟩ := hW
  have hA : DataW.TrodAll enc Try.prog W 0 (fun _ => true) true Try.f35.params.toList args.toList ds p := hA0
  rw [Try.params35] at hA hval hsz
  obtain ⟨v0, vs0, d0, ds0, p0, q0, hargs, rfl, rfl, h0, r0⟩ := trodAll_cons hA
  obtain ⟨v1, vs1, d1, ds1, p1, q1, rfl, rfl, rfl, h1, r1⟩ := trodAll_cons r0
  obtain ⟨rfl, rfl, rfl⟩ := trodAll_nil r1
  obtain rfl : args = #[v0, v1] := by cases args; simp_all
  obtain ⟨rfl, rfl⟩ := trodVars_none hV
  obtain ⟨a0, len0, cap0, rfl⟩ := okWide_slice Try.underlying45 (hval 0 45 v0 rfl rfl)
  have k0 := h0
  have lt0 : ∀ x ∈ p0, x.block < W.heap.size := by obtain ⟨m, hm⟩ := k0; exact DataW.trod_lt m _ _ _ hm
  obtain ⟨x0, s0, g0, sh0⟩ := open_U h0
  have b0 := sh0.reach hsz (j := 0) (t := 45) (e := 48) rfl rfl Try.underlying45
  rw [Try.bytes48] at b0
  have k1 := h1
  have lt1 : ∀ x ∈ p1, x.block < W.heap.size := by obtain ⟨m, hm⟩ := k1; exact DataW.trod_lt m _ _ _ hm
  obtain ⟨x1, rfl, rfl, hp1, g1⟩ := open_int Try.underlying48 (hval 1 48 v1 rfl rfl) h1
  clear hA0 hval0 hsz0
  refine (walk_FnFloat64Search a0 len0 cap0 x0 x1 W s0 g0 b0 g1).mono fun e W' hgood => ?_
  obtain ⟨he, bel⟩ := hgood
  subst he
  exact ⟨_, rfl, _, _, _, [], _, [], hW', trodAll_mk1 (shut_bool Try.underlying4 _), (trodAll_cons_mk (Below.trod laidOut (by kernel_rfl) (of_decide_eq_true (by kernel_rfl)) k0 bel lt0) (trodAll_cons_mk (Below.trod laidOut (by kernel_rfl) (of_decide_eq_true (by kernel_rfl)) k1 bel lt1) trodAll_mk0)), rfl, bel.frame _, fun h => by cases h⟩

theorem closed : joinedFacts Try.prog 35 Try.f35 Rows.fnFloat64SearchSpec Rows.fnFloat64SearchRow = true :=
  joined_of _ _ _ _ _ may_enter lifts_none made_cut (by kernel_rfl) (by kernel_rfl) (by kernel_rfl) (by kernel_rfl)

theorem over : Rows.fnFloat64SearchRow.holds Try.pinned (OpenSpec.ofChange Rows.fnFloat64SearchSpec) :=
  OpenClaim.holds_of_wide 35 Try.f35 rfl rfl rfl rfl rfl rfl rfl ⟨rfl, rfl, rfl, rfl, rfl⟩ rfl rfl rfl rfl rfl (by kernel_rfl) Try.func35 closed
    (of_decide_eq_true (by kernel_rfl)) (by unfold Func.isWrapper; first | (rw [if_pos (by decide +kernel)]; kernel_rfl) | (rw [if_neg (by decide +kernel)]; exact ⟨rfl, rfl⟩))
    (fun os started H enc _ => lifted os started H enc)

theorem proved : Rows.FnFloat64SearchSaid := over
#print axioms proved
end Go.Proofs.Ytaifikhgijnkgaa.fnFloat64Search
