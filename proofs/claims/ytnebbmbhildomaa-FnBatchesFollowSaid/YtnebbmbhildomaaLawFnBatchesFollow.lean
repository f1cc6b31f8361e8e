/-
  What two batches dump, one behind the other, is what one dumps that has taken the calls of both.
-/
import Derived.Test.YtnebbmbhildomaaRows
import Derived.Test.YtnebbmbhildomaaLawKit
import Derived.Test.YtnebbmbhildomaaFnBatFol
namespace Go.Proofs.Ytnebbmbhildomaa.fnBatchesFollow
open Go.ChangeShapes Go.WideShapes Go.ChangeAt Go.RowKit Plain
set_option maxRecDepth 100000 in
theorem lifted (os : Os) (started : os.Started) (H : Type) (enc : TypeId × Value → H) :
    ReturnsInHanded {} Try.checked os 5 .any (Rows.fnBatchesFollowSpec.pre6 enc Try.prog Try.f5 Rows.fnBatchesFollowRow.domain false) (Rows.fnBatchesFollowSpec.post enc Try.prog Try.f5 false true false false) := by
  refine returnsInHanded_of_change_sized (C := Try.checked) Try.own started (by kernel_rfl) Try.func5
    (ChangeSpec.witness6 (enc := enc) (C := Try.checked) false ⟨#[], #[.slice none 0 0, .slice none 0 0], []⟩ 8 (by kernel_rfl) (by kernel_rfl) (by kernel_rfl) (by kernel_rfl)) ?_
  intro W base args ds gs before hval0 hW _ _ _
  have hval : ∀ (j : Nat) t v, Try.f5.params[j]? = some t → args[j]? = some v → Value.okWide Try.prog W .any base t v := hval0
  have hW' := hW
  obtain ⟨p, q, hA0, hV, rfl, hfz, hnd⟩ := hW
  have hA : DataW.TrodAll enc Try.prog W 0 (fun _ => true) true Try.f5.params.toList args.toList ds p := hA0
  rw [Try.params5] at hA hval
  have hback := hA
  obtain ⟨v0, vs0, d0, ds0, p0, q0, hargs, rfl, rfl, h0, r0⟩ := trodAll_cons hA
  obtain ⟨v1, vs1, d1, ds1, p1, q1, rfl, rfl, rfl, h1, r1⟩ := trodAll_cons r0
  obtain ⟨rfl, rfl, rfl⟩ := trodAll_nil r1
  obtain rfl : args = #[v0, v1] := by cases args; simp_all
  obtain ⟨rfl, rfl⟩ := trodVars_none hV
  obtain ⟨a0, len0, cap0, rfl⟩ := okWide_slice Try.underlying30 (hval 0 30 v0 rfl rfl)
  obtain ⟨l0, rfl, hc0, _, hb0⟩ := open_p2s h0
  obtain ⟨a1, len1, cap1, rfl⟩ := okWide_slice Try.underlying30 (hval 1 30 v1 rfl rfl)
  obtain ⟨l1, rfl, hc1, _, hb1⟩ := open_p2s h1
  clear hA0
  refine (follow_walk a0 a1 cap0 cap1 l0 l1 W hb0 hb1).mono fun e W' ⟨he, ho⟩ => ?_
  subst he
  have bel := ho.below0
  exact ⟨_, rfl, _, _, _, [], _, [], hW', trodAll_mk1 (shut_bool Try.underlying4 _), Below.trodAll Try.laidOut bel (of_decide_eq_true (by kernel_rfl)) hback, rfl, bel.frame _, fun h => by cases h⟩
theorem over : Rows.fnBatchesFollowRow.holds Try.pinned (OpenSpec.ofChange Rows.fnBatchesFollowSpec) :=
  OpenClaim.holds_of_wide 5 Try.f5 rfl rfl rfl rfl rfl rfl rfl ⟨rfl, rfl, rfl, rfl, rfl⟩ rfl rfl rfl rfl rfl (by kernel_rfl) Try.func5 (by kernel_rfl)
    (of_decide_eq_true (by kernel_rfl)) (by unfold Func.isWrapper; first | (rw [if_pos (by decide +kernel)]; kernel_rfl) | (rw [if_neg (by decide +kernel)]; exact ⟨rfl, rfl⟩))
    (fun os started H enc _ => lifted os started H enc)
end Go.Proofs.Ytnebbmbhildomaa.fnBatchesFollow
namespace Go.Proofs.Ytnebbmbhildomaa
/-- FnBatchesFollow, for every input. -/
theorem fnBatchesFollow_holds : Rows.FnBatchesFollowSaid := fnBatchesFollow.over
#print axioms fnBatchesFollow_holds
end Go.Proofs.Ytnebbmbhildomaa
