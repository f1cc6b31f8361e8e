/-
  Calls of Put and Delete that a batch has taken are replayed from what it dumps, all of them in their order: whatever calls; no condition.
-/
import Derived.Test.YtloflmcgbbbnjaaRows
import Derived.Test.YtloflmcgbbbnjaaLawKit
import Derived.Test.YtloflmcgbbbnjaaFnBatch
namespace Go.Proofs.Ytloflmcgbbbnjaa.fnBatch
open Go.ChangeShapes Go.WideShapes Go.ChangeAt Go.RowKit Plain
set_option maxRecDepth 100000 in
theorem lifted (os : Os) (started : os.Started) (H : Type) (enc : TypeId × Value → H) :
    ReturnsInHanded {} Try.checked os 4 .any (Rows.fnBatchSpec.pre6 enc Try.prog Try.f4 Rows.fnBatchRow.domain false) (Rows.fnBatchSpec.post enc Try.prog Try.f4 false true false false) := by
  refine returnsInHanded_of_change_sized (C := Try.checked) Try.own started (by kernel_rfl) Try.func4
    (ChangeSpec.witness6 (enc := enc) (C := Try.checked) false ⟨#[], #[.slice none 0 0], []⟩ 8 (by kernel_rfl) (by kernel_rfl) (by kernel_rfl) (by kernel_rfl)) ?_
  intro W base args ds gs before hval0 hW _ _ _
  have hval : ∀ (j : Nat) t v, Try.f4.params[j]? = some t → args[j]? = some v → Value.okWide Try.prog W .any base t v := hval0
  have hW' := hW
  obtain ⟨p, q, hA0, hV, rfl, hfz, hnd⟩ := hW
  have hA : DataW.TrodAll enc Try.prog W 0 (fun _ => true) true Try.f4.params.toList args.toList ds p := hA0
  rw [Try.params4] at hA hval
  have hback := hA
  obtain ⟨v0, vs0, d0, ds0, p0, q0, hargs, rfl, rfl, h0, r0⟩ := trodAll_cons hA
  obtain ⟨rfl, rfl, rfl⟩ := trodAll_nil r0
  obtain rfl : args = #[v0] := by cases args; simp_all
  obtain ⟨rfl, rfl⟩ := trodVars_none hV
  obtain ⟨a0, len0, cap0, rfl⟩ := okWide_slice Try.underlying28 (hval 0 28 v0 rfl rfl)
  obtain ⟨l0, rfl, hc0, _, hb0⟩ := open_p2s h0
  clear hA0
  refine (batch_walk a0 cap0 l0 W hb0).mono fun e W' ⟨he, ho⟩ => ?_
  subst he
  have bel := ho.below0
  exact ⟨_, rfl, _, _, _, [], _, [], hW', trodAll_mk1 (shut_bool Try.underlying4 _), Below.trodAll Try.laidOut bel (of_decide_eq_true (by kernel_rfl)) hback, rfl, bel.frame _, fun h => by cases h⟩
theorem over : Rows.fnBatchRow.holds Try.pinned (OpenSpec.ofChange Rows.fnBatchSpec) :=
  OpenClaim.holds_of_wide 4 Try.f4 rfl rfl rfl rfl rfl rfl rfl ⟨rfl, rfl, rfl, rfl, rfl⟩ rfl rfl rfl rfl rfl (by kernel_rfl) Try.func4 (by kernel_rfl)
    (of_decide_eq_true (by kernel_rfl)) (by unfold Func.isWrapper; first | (rw [if_pos (by decide +kernel)]; kernel_rfl) | (rw [if_neg (by decide +kernel)]; exact ⟨rfl, rfl⟩))
    (fun os started H enc _ => lifted os started H enc)
end Go.Proofs.Ytloflmcgbbbnjaa.fnBatch
namespace Go.Proofs.Ytloflmcgbbbnjaa
/-- FnBatch, for every input. -/
theorem fnBatch_holds : Rows.FnBatchSaid := fnBatch.over
#print axioms fnBatch_holds
end Go.Proofs.Ytloflmcgbbbnjaa
