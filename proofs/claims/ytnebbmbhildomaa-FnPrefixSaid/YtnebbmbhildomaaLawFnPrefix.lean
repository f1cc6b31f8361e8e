/-
  The range of a prefix has just the keys that begin with it: for every prefix and key, without a condition.
-/
import Derived.Test.YtnebbmbhildomaaRows
import Derived.Test.YtnebbmbhildomaaLawKit
import Derived.Test.YtnebbmbhildomaaFnPrefix
namespace Go.Proofs.Ytnebbmbhildomaa.fnPrefix
open Go.ChangeShapes Go.WideShapes Go.ChangeAt Go.RowKit
set_option maxRecDepth 100000 in
theorem lifted (os : Os) (started : os.Started) (H : Type) (enc : TypeId × Value → H) :
    ReturnsInHanded {} Try.checked os 3 .any (Rows.fnPrefixSpec.pre6 enc Try.prog Try.f3 Rows.fnPrefixRow.domain false) (Rows.fnPrefixSpec.post enc Try.prog Try.f3 false true false false) := by
  refine returnsInHanded_of_change_sized (C := Try.checked) Try.own started (by kernel_rfl) Try.func3
    (ChangeSpec.witness6 (enc := enc) (C := Try.checked) false ⟨#[], #[.slice none 0 0, .slice none 0 0, .bool false], []⟩ 8 (by kernel_rfl) (by kernel_rfl) (by kernel_rfl) (by kernel_rfl)) ?_
  intro W base args ds gs before hval0 hW _ _ _
  have hval : ∀ (j : Nat) t v, Try.f3.params[j]? = some t → args[j]? = some v → Value.okWide Try.prog W .any base t v := hval0
  have hW' := hW
  obtain ⟨p, q, hA0, hV, rfl, hfz, hnd⟩ := hW
  have hA : DataW.TrodAll enc Try.prog W 0 (fun _ => true) true Try.f3.params.toList args.toList ds p := hA0
  rw [Try.params3] at hA hval
  have hback := hA
  obtain ⟨v0, vs0, d0, ds0, p0, q0, hargs, rfl, rfl, h0, r0⟩ := trodAll_cons hA
  obtain ⟨v1, vs1, d1, ds1, p1, q1, rfl, rfl, rfl, h1, r1⟩ := trodAll_cons r0
  obtain ⟨v2, vs2, d2, ds2, p2, q2, rfl, rfl, rfl, h2, r2⟩ := trodAll_cons r1
  obtain ⟨rfl, rfl, rfl⟩ := trodAll_nil r2
  obtain rfl : args = #[v0, v1, v2] := by cases args; simp_all
  obtain ⟨rfl, rfl⟩ := trodVars_none hV
  obtain ⟨a0, len0, cap0, rfl⟩ := okWide_slice Try.underlying22 (hval 0 22 v0 rfl rfl)
  obtain ⟨a1, len1, cap1, rfl⟩ := okWide_slice Try.underlying22 (hval 1 22 v1 rfl rfl)
  obtain ⟨l0, rfl, hc0, _, hb0⟩ := open_bytes Try.underlying22 Try.underlying5 (by kernel_rfl) h0
  obtain ⟨l1, rfl, hc1, _, hb1⟩ := open_bytes Try.underlying22 Try.underlying5 (by kernel_rfl) h1
  obtain ⟨b2, rfl, rfl, rfl⟩ := open_bool Try.underlying4 (hval 2 4 v2 rfl rfl) h2
  clear hA0 hval0
  refine (fnPrefix_walk a0 a1 cap0 cap1 l0 l1 b2 W hb0 hb1 hc1).mono fun e W' ⟨he, ho⟩ => ?_
  subst he
  have bel := ho.below0
  exact ⟨_, rfl, _, _, _, [], _, [], hW', trodAll_mk1 (shut_bool Try.underlying4 _), Below.trodAll Try.laidOut bel (of_decide_eq_true (by kernel_rfl)) hback, rfl, bel.frame _, fun h => by cases h⟩
theorem over : Rows.fnPrefixRow.holds Try.pinned (OpenSpec.ofChange Rows.fnPrefixSpec) :=
  OpenClaim.holds_of_wide 3 Try.f3 rfl rfl rfl rfl rfl rfl rfl ⟨rfl, rfl, rfl, rfl, rfl⟩ rfl rfl rfl rfl rfl (by kernel_rfl) Try.func3 (by kernel_rfl)
    (of_decide_eq_true (by kernel_rfl)) (by unfold Func.isWrapper; first | (rw [if_pos (by decide +kernel)]; kernel_rfl) | (rw [if_neg (by decide +kernel)]; exact ⟨rfl, rfl⟩))
    (fun os started H enc _ => lifted os started H enc)
end Go.Proofs.Ytnebbmbhildomaa.fnPrefix
namespace Go.Proofs.Ytnebbmbhildomaa
/-- FnPrefix, for every input. -/
theorem fnPrefix_holds : Rows.FnPrefixSaid := fnPrefix.over
#print axioms fnPrefix_holds
end Go.Proofs.Ytnebbmbhildomaa
