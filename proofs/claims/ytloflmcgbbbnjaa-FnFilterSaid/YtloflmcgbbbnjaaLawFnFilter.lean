/-
  A filter has all keys that were added: whatever keys and whatever bits a key; no condition.
-/
import Derived.Test.YtloflmcgbbbnjaaRows
import Derived.Test.YtloflmcgbbbnjaaLawKit
import Derived.Test.YtloflmcgbbbnjaaFnFilter
namespace Go.Proofs.Ytloflmcgbbbnjaa.fnFilter
open Go.ChangeShapes Go.WideShapes Go.ChangeAt Go.RowKit Plain
set_option maxRecDepth 100000 in
theorem lifted (os : Os) (started : os.Started) (H : Type) (enc : TypeId × Value → H) :
    ReturnsInHanded {} Try.checked os 3 .any (Rows.fnFilterSpec.pre6 enc Try.prog Try.f3 Rows.fnFilterRow.domain false) (Rows.fnFilterSpec.post enc Try.prog Try.f3 false true false false) := by
  refine returnsInHanded_of_change_sized (C := Try.checked) Try.own started (by kernel_rfl) Try.func3
    (ChangeSpec.witness6 (enc := enc) (C := Try.checked) false ⟨#[], #[.slice none 0 0, .int .i64 0], []⟩ 8 (by kernel_rfl) (by kernel_rfl) (by kernel_rfl) (by kernel_rfl)) ?_
  intro W base args ds gs before hval0 hW _ _ _
  have hval : ∀ (j : Nat) t v, Try.f3.params[j]? = some t → args[j]? = some v → Value.okWide Try.prog W .any base t v := hval0
  have hW' := hW
  obtain ⟨p, q, hA0, hV, rfl, hfz, hnd⟩ := hW
  have hA : DataW.TrodAll enc Try.prog W 0 (fun _ => true) true Try.f3.params.toList args.toList ds p := hA0
  rw [Try.params3] at hA hval
  have hback := hA
  obtain ⟨v0, vs0, d0, ds0, p0, q0, hargs, rfl, rfl, h0, r0⟩ := trodAll_cons hA
  obtain ⟨v1, vs1, d1, ds1, p1, q1, rfl, rfl, rfl, h1, r1⟩ := trodAll_cons r0
  obtain ⟨rfl, rfl, rfl⟩ := trodAll_nil r1
  obtain rfl : args = #[v0, v1] := by cases args; simp_all
  obtain ⟨rfl, rfl⟩ := trodVars_none hV
  obtain ⟨a0, len0, cap0, rfl⟩ := okWide_slice Try.underlying22 (hval 0 22 v0 rfl rfl)
  obtain ⟨l0, rfl, hc0, _, hb0⟩ := open_bss h0
  obtain ⟨b1, rfl, rfl, rfl, w1⟩ := open_int Try.underlying3 (hval 1 3 v1 rfl rfl) h1
  clear hA0
  refine (filter_walk a0 cap0 b1 l0 W hb0).mono fun e W' ⟨he, ho⟩ => ?_
  subst he
  have bel := ho.below0
  exact ⟨_, rfl, _, _, _, [], _, [], hW', trodAll_mk1 (shut_bool Try.underlying4 _), Below.trodAll Try.laidOut bel (of_decide_eq_true (by kernel_rfl)) hback, rfl, bel.frame _, fun h => by cases h⟩
theorem over : Rows.fnFilterRow.holds Try.pinned (OpenSpec.ofChange Rows.fnFilterSpec) :=
  OpenClaim.holds_of_wide 3 Try.f3 rfl rfl rfl rfl rfl rfl rfl ⟨rfl, rfl, rfl, rfl, rfl⟩ rfl rfl rfl rfl rfl (by kernel_rfl) Try.func3 (by kernel_rfl)
    (of_decide_eq_true (by kernel_rfl)) (by unfold Func.isWrapper; first | (rw [if_pos (by decide +kernel)]; kernel_rfl) | (rw [if_neg (by decide +kernel)]; exact ⟨rfl, rfl⟩))
    (fun os started H enc _ => lifted os started H enc)
end Go.Proofs.Ytloflmcgbbbnjaa.fnFilter
namespace Go.Proofs.Ytloflmcgbbbnjaa
/-- FnFilter, for every input. -/
theorem fnFilter_holds : Rows.FnFilterSaid := fnFilter.over
#print axioms fnFilter_holds
end Go.Proofs.Ytloflmcgbbbnjaa
