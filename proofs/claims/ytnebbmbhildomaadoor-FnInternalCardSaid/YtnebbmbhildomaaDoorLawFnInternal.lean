/-
  A key inside is a key, a number of a write and a kind; it is parted again; such keys are ordered by the key, later writes first: for all inputs within the statement's guards; the package's comparer as the program's text lays it.
-/
import Derived.Test.YtnebbmbhildomaaDoorRows
import Derived.Test.YtnebbmbhildomaaDoorLawKit
import Derived.Test.YtnebbmbhildomaaDoorFnInternal
import Derived.Test.YtnebbmbhildomaaDoorCards
import Derived.Test.YtnebbmbhildomaaDoorTie
import Derived.SevenTiedAt
import Derived.JoinedCond
import Derived.Deep.DeepHandedRow
import Derived.Lib.LaidTab
namespace Go.Proofs.YtnebbmbhildomaaDoor.fnInternal
open Go.ChangeShapes Go.WideShapes Go.ChangeAt Go.RowKit Plain
theorem contract (H : Type) (enc : TypeId × Value → H) (W : World) (base : Nat) (args : Array Value) (ds gs : List (DataW H)) (before : List MemPlace)
    (hval : ∀ (j : Nat) t v, Tryd.f4.params[j]? = some t → args[j]? = some v → Value.okWide Tryd.prog W .any base t v)
    (hW : DataW.Whole enc Tryd.prog Tryd.f4.params.toList Rows.fnInternalSpec.vars false W args.toList ds gs before) :
    Calls Tryd.prog 4 args W fun e W' => ∃ v, e = .returned v ∧ Rows.fnInternalSpec.post enc Tryd.prog Tryd.f4 false true false false W args v W' := by
  have hW' := hW
  obtain ⟨p, q, hA0, hV, rfl, hfz, hnd⟩ := hW
  have hA : DataW.TrodAll enc Tryd.prog W 0 (fun _ => true) true Tryd.f4.params.toList args.toList ds p := hA0
  rw [Tryd.params4] at hA hval
  have hback := hA
  obtain ⟨v0, vs0, d0, ds0, p0, q0, hargs, rfl, rfl, h0, r0⟩ := trodAll_cons hA
  obtain ⟨v1, vs1, d1, ds1, p1, q1, rfl, rfl, rfl, h1, r1⟩ := trodAll_cons r0
  obtain ⟨v2, vs2, d2, ds2, p2, q2, rfl, rfl, rfl, h2, r2⟩ := trodAll_cons r1
  obtain ⟨v3, vs3, d3, ds3, p3, q3, rfl, rfl, rfl, h3, r3⟩ := trodAll_cons r2
  obtain ⟨v4, vs4, d4, ds4, p4, q4, rfl, rfl, rfl, h4, r4⟩ := trodAll_cons r3
  obtain ⟨v5, vs5, d5, ds5, p5, q5, rfl, rfl, rfl, h5, r5⟩ := trodAll_cons r4
  obtain ⟨rfl, rfl, rfl⟩ := trodAll_nil r5
  obtain rfl : args = #[v0, v1, v2, v3, v4, v5] := by cases args; simp_all
  obtain ⟨rfl, rfl⟩ := trodVars_none hV
  obtain ⟨a0, len0, cap0, rfl⟩ := okWide_slice Tryd.underlying22 (hval 0 22 v0 rfl rfl)
  obtain ⟨l0, rfl, hc0, _, hb0⟩ := open_bytes Tryd.underlying22 Tryd.underlying5 (by kernel_rfl) h0
  obtain ⟨a1, len1, cap1, rfl⟩ := okWide_slice Tryd.underlying22 (hval 1 22 v1 rfl rfl)
  obtain ⟨l1, rfl, hc1, _, hb1⟩ := open_bytes Tryd.underlying22 Tryd.underlying5 (by kernel_rfl) h1
  obtain ⟨b2, rfl, rfl, rfl, w2⟩ := open_int Tryd.underlying27 (hval 2 27 v2 rfl rfl) h2
  obtain ⟨b3, rfl, rfl, rfl, w3⟩ := open_int Tryd.underlying27 (hval 3 27 v3 rfl rfl) h3
  obtain ⟨b4, rfl, rfl, rfl, w4⟩ := open_int Tryd.underlying3 (hval 4 3 v4 rfl rfl) h4
  obtain ⟨b5, rfl, rfl, rfl, w5⟩ := open_int Tryd.underlying3 (hval 5 3 v5 rfl rfl) h5
  clear hA0
  refine (fnInternal_walk a0 a1 cap0 cap1 l0 l1 b2 b3 b4 b5 W hb0 hb1 w2 w3).mono fun e W' ⟨he, ho⟩ => ?_
  subst he
  have bel := ho.below0
  exact ⟨_, rfl, _, _, _, [], _, [], hW', trodAll_mk1 (shut_bool Tryd.underlying4 _), Below.trodAll Tryd.laidOut bel (of_decide_eq_true (by kernel_rfl)) hback, rfl, bel.frame _, fun h => by cases h⟩
noncomputable def laidWorld (os : Os) : World := World.holding Tryd.prog os ⟨#[], #[], []⟩
theorem laid_met (os : Os) : laidMet Tryd.prog Rows.fnInternalRow.laid ((laidWorld os).forCall (fun _ _ => 0) ⟨#[], #[.slice none 0 0, .slice none 0 0, .int .u64 0, .int .u64 0, .int .i64 0, .int .i64 0], []⟩).memory := laidMet_of_run' 8 (by kernel_rfl) (by kernel_rfl)
theorem reads (os : Os) {H : Type} (enc : TypeId × Value → H) : ∃ places, DataW.whole enc Tryd.prog ((laidWorld os).forCall (fun _ _ => 0) ⟨#[], #[.slice none 0 0, .slice none 0 0, .int .u64 0, .int .u64 0, .int .i64 0, .int .i64 0], []⟩).memory Tryd.f4.params.toList Rows.fnInternalSpec.vars false (#[.slice none 0 0, .slice none 0 0, .int .u64 0, .int .u64 0, .int .i64 0, .int .i64 0] : Array Value).toList 8 = some ([.nil, .nil, .lit (.int .u64 0), .lit (.int .u64 0), .lit (.int .i64 0), .lit (.int .i64 0)], [], places) :=
  ⟨[], by kernel_rfl⟩
set_option maxRecDepth 100000 in
theorem lifted (os : Os) (started : os.Started) (H : Type) (enc : TypeId × Value → H) (F : Stop.Interp) :
    ReturnsInHanded {} Tryd.checked os 4 .any ((OpenSpec.ofChange Rows.fnInternalSpec).preRow enc Tryd.prog Tryd.f4 Rows.fnInternalRow.domain false Rows.fnInternalRow.laid) (((OpenSpec.ofChange Rows.fnInternalSpec).at F).post enc Tryd.prog Tryd.f4 false true false false) := by
  obtain ⟨places, hx⟩ := reads os enc
  refine returnsInHanded_of_row (C := Tryd.checked) (s := OpenSpec.ofChange Rows.fnInternalSpec) Tryd.own started (by kernel_rfl) Tryd.func4
    (witness_row_at (enc := enc) (C := Tryd.checked) false (laidWorld os) #[.slice none 0 0, .slice none 0 0, .int .u64 0, .int .u64 0, .int .i64 0, .int .i64 0] rfl (by kernel_rfl) (by kernel_rfl) (by kernel_rfl)
      (OpenSpec.preRow_of_cond 8 hx (by kernel_rfl) (fun k hk => by cases hk) (by kernel_rfl) (laid_met os))) ?_
  intro W base args ds gs before hval hW _ hcond _ hL _ _
  exact contract H enc W base args ds gs before hval hW
theorem said : Rows.FnInternalSaid :=
  OpenClaim.holds_of_cond 4 Tryd.f4 rfl rfl rfl rfl rfl rfl rfl ⟨rfl, rfl, rfl, rfl, rfl⟩ rfl rfl rfl rfl rfl (by kernel_rfl) Tryd.func4 (by kernel_rfl)
    (of_decide_eq_true (by kernel_rfl)) (by unfold Func.isWrapper; first | (rw [if_pos (by decide +kernel)]; kernel_rfl) | (rw [if_neg (by decide +kernel)]; exact ⟨rfl, rfl⟩))
    (fun os started H enc _ F => by rw [OpenClaim.pre_eq_preRow]; exact lifted os started H enc F)
theorem plain (f : FuncId) (fn : Func) (hf : Tryd.pinned.checked.prog.funcNamed "logsandtables/laws.FnInternal" = some f) (hfn : Tryd.pinned.checked.prog.funcs[f]? = some fn) :
    false = Tryd.pinned.checked.prog.looks [] ∧ ∀ (j : Nat) t, fn.params[j]? = some t → Tryd.pinned.checked.prog.wantsStandIn t = false := by
  obtain rfl : f = 4 := Option.some.inj ((show Tryd.prog.funcNamed "logsandtables/laws.FnInternal" = some 4 by kernel_rfl).symm.trans hf) |>.symm
  obtain rfl : fn = Tryd.f4 := (Option.some.inj (Tryd.func4.symm.trans hfn)).symm
  refine ⟨by kernel_rfl, fun j t ht => ?_⟩
  rw [Tryd.params4] at ht
  have ht' := Array.mem_of_getElem? ht
  have key : ∀ t ∈ [22, 22, 27, 27, 3, 3], Tryd.prog.wantsStandIn t = false := of_decide_eq_true (by kernel_rfl)
  exact key t (by simpa using ht')
end Go.Proofs.YtnebbmbhildomaaDoor.fnInternal
namespace Go.Proofs.YtnebbmbhildomaaDoor
/-- FnInternal: the card. -/
theorem fnInternal_holds : Rows.FnInternalCardSaid :=
  Claim7.holds_tied_plain_at .later [] _ _ _ _ fnInternal.said (fun _ h => by cases h) (by kernel_rfl) (fun _ h => by cases h) fnInternal_row_tie rfl ⟨rfl, rfl⟩ (by kernel_rfl) rfl fnInternal.plain (by kernel_rfl)
#print axioms fnInternal_holds
end Go.Proofs.YtnebbmbhildomaaDoor
