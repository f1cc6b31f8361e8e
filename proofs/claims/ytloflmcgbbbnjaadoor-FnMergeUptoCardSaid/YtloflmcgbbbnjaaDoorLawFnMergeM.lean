/-
  FnMerge: the law and its card, up to the bulk.
-/
import Derived.Test.YtloflmcgbbbnjaaDoorRows
import Derived.Test.YtloflmcgbbbnjaaDoorMrgM2
import Derived.Test.YtloflmcgbbbnjaaDoorMrgM3
import Derived.Test.YtloflmcgbbbnjaaDoorMrgM14
import Derived.Test.YtloflmcgbbbnjaaDoorCards
import Derived.Test.YtloflmcgbbbnjaaDoorTie
import Derived.SevenTiedAt
import Derived.JoinedCond
import Derived.Deep.DeepHandedRow
import Derived.Lib.LaidTab
import Derived.Lay
import Derived.Deep.DeepWitnessRowRef
namespace Go.Proofs.YtloflmcgbbbnjaaDoor.fnMerge
open Go.ChangeShapes Go.WideShapes Go.ChangeAt Go.RowKit Plain
set_option maxRecDepth 100000 in
theorem contract (H : Type) (enc : TypeId × Value → H) (W : World) (base : Nat) (args : Array Value) (ds gs : List (DataW H)) (before : List MemPlace)
    (hval : ∀ (j : Nat) t v, Tryd.f6.params[j]? = some t → args[j]? = some v → Value.okWide Tryd.prog W .any base t v)
    (hW : DataW.Whole enc Tryd.prog Tryd.f6.params.toList Rows.fnMergeSpec.vars false W args.toList ds gs before) (hk : Rows.uptoSmall H (ds ++ gs) = true) :
    Calls Tryd.prog 6 args W fun e W' => ∃ v, e = .returned v ∧ Rows.fnMergeSpec.post enc Tryd.prog Tryd.f6 false true false false W args v W' := by
  have hW' := hW
  obtain ⟨p, q, hA0, hV, rfl, hfz, hnd⟩ := hW
  have hA : DataW.TrodAll enc Tryd.prog W 0 (fun _ => true) true Tryd.f6.params.toList args.toList ds p := hA0
  rw [Tryd.params6] at hA hval
  have hback := hA
  obtain ⟨v0, vs0, d0, ds0, p0, q0, hargs, rfl, rfl, h0, r0⟩ := trodAll_cons hA
  obtain ⟨v1, vs1, d1, ds1, p1, q1, rfl, rfl, rfl, h1, r1⟩ := trodAll_cons r0
  obtain ⟨v2, vs2, d2, ds2, p2, q2, rfl, rfl, rfl, h2, r2⟩ := trodAll_cons r1
  obtain ⟨rfl, rfl, rfl⟩ := trodAll_nil r2
  obtain rfl : args = #[v0, v1, v2] := by cases args; simp_all
  obtain ⟨rfl, rfl⟩ := trodVars_none hV
  obtain ⟨a0, len0, cap0, rfl⟩ := okWide_slice Tryd.underlying46 (hval 0 46 v0 rfl rfl)
  obtain ⟨l0, rfl, hc0, hm0, hb0⟩ := open_plsB h0
  obtain ⟨a1, len1, cap1, rfl⟩ := okWide_slice Tryd.underlying25 (hval 1 25 v1 rfl rfl)
  obtain ⟨l1, rfl, hc1, _, hb1⟩ := open_bytes Tryd.underlying25 Tryd.underlying5 (by kernel_rfl) h1
  obtain ⟨a2, len2, cap2, rfl⟩ := okWide_slice Tryd.underlying25 (hval 2 25 v2 rfl rfl)
  obtain ⟨l2, rfl, hc2, _, hb2⟩ := open_bytes Tryd.underlying25 Tryd.underlying5 (by kernel_rfl) h2
  have ht : (l0.flatMap PL.l).length ≤ 1048576 := by
    have hk' : Rows.uptoBulkAll ([d0, d1, d2] ++ []) ≤ 1048576 := of_decide_eq_true hk
    simp only [List.cons_append, List.nil_append, Rows.uptoBulkAll] at hk'
    have := hm0.2
    omega
  clear hA0
  refine (fnMerge_walk a0 a1 a2 cap0 cap1 cap2 l0 l1 l2 W hb0 hb1 hb2 hc2 ht).mono fun e W' ⟨he, ho⟩ => ?_
  subst he
  have bel := ho.below0
  exact ⟨_, rfl, _, _, _, [], _, [], hW', trodAll_mk1 (shut_bool Tryd.underlying4 _), Below.trodAll Tryd.laidOut bel (of_decide_eq_true (by kernel_rfl)) hback, rfl, bel.frame _, fun h => by cases h⟩
noncomputable def laidWorld (os : Os) : World := World.laidAll Tryd.prog os Rows.fnMergeUptoRow.laid
theorem laid_met (os : Os) : laidMet Tryd.prog Rows.fnMergeUptoRow.laid ((laidWorld os).forCall (fun _ _ => 0) ⟨#[], #[.slice none 0 0, .slice none 0 0, .slice none 0 0], []⟩).memory := laidMet_laidAll _ (by kernel_rfl) (by kernel_rfl)
theorem reads (os : Os) {H : Type} (enc : TypeId × Value → H) : ∃ places, DataW.whole enc Tryd.prog ((laidWorld os).forCall (fun _ _ => 0) ⟨#[], #[.slice none 0 0, .slice none 0 0, .slice none 0 0], []⟩).memory Tryd.f6.params.toList Rows.fnMergeSpec.vars false (#[.slice none 0 0, .slice none 0 0, .slice none 0 0] : Array Value).toList 8 = some ([.nil, .nil, .nil], [], places) :=
  ⟨[], by kernel_rfl⟩
set_option maxRecDepth 100000 in
theorem lifted (os : Os) (started : os.Started) (H : Type) (enc : TypeId × Value → H) (F : Stop.Interp) :
    ReturnsInHanded {} Tryd.checked os 6 .any ((Rows.OpenSpec.upto Rows.fnMergeSpec).preRow enc Tryd.prog Tryd.f6 Rows.fnMergeUptoRow.domain false Rows.fnMergeUptoRow.laid) (((Rows.OpenSpec.upto Rows.fnMergeSpec).at F).post enc Tryd.prog Tryd.f6 false true false false) := by
  obtain ⟨places, hx⟩ := reads os enc
  refine returnsInHanded_of_row (C := Tryd.checked) (s := Rows.OpenSpec.upto Rows.fnMergeSpec) Tryd.own started (by kernel_rfl) Tryd.func6
    (witness_row_atRef (enc := enc) (C := Tryd.checked) false (laidWorld os) #[.slice none 0 0, .slice none 0 0, .slice none 0 0] (World.laidAll_os _ _ _) (by kernel_rfl) (by kernel_rfl) (by kernel_rfl)
      (OpenSpec.preRow_of_cond 8 hx (by kernel_rfl) (fun k hk => by cases hk; kernel_rfl) (by kernel_rfl) (laid_met os))) ?_
  intro W base args ds gs before hval hW _ hcond _ hL _ _
  exact contract H enc W base args ds gs before hval hW (hcond _ rfl)
theorem said : Rows.FnMergeUptoSaid :=
  OpenClaim.holds_of_cond 6 Tryd.f6 rfl rfl rfl rfl rfl rfl rfl ⟨rfl, rfl, rfl, rfl, rfl⟩ rfl rfl rfl rfl rfl (by kernel_rfl) Tryd.func6 (by kernel_rfl)
    (of_decide_eq_true (by kernel_rfl)) (by unfold Func.isWrapper; first | (rw [if_pos (by decide +kernel)]; kernel_rfl) | (rw [if_neg (by decide +kernel)]; exact ⟨rfl, rfl⟩))
    (fun os started H enc _ F => by rw [OpenClaim.pre_eq_preRow]; exact lifted os started H enc F)
theorem plain (f : FuncId) (fn : Func) (hf : Tryd.pinned.checked.prog.funcNamed "logsandtables/laws.FnMerge" = some f) (hfn : Tryd.pinned.checked.prog.funcs[f]? = some fn) :
    true = Tryd.pinned.checked.prog.looks [] ∧ ∀ (j : Nat) t, fn.params[j]? = some t → Tryd.pinned.checked.prog.wantsStandIn t = false := by
  obtain rfl : f = 6 := Option.some.inj ((show Tryd.prog.funcNamed "logsandtables/laws.FnMerge" = some 6 by kernel_rfl).symm.trans hf) |>.symm
  obtain rfl : fn = Tryd.f6 := (Option.some.inj (Tryd.func6.symm.trans hfn)).symm
  refine ⟨by kernel_rfl, fun j t ht => ?_⟩
  rw [Tryd.params6] at ht
  have ht' := Array.mem_of_getElem? ht
  have key : ∀ t ∈ [46, 25, 25], Tryd.prog.wantsStandIn t = false := of_decide_eq_true (by kernel_rfl)
  exact key t (by simpa using ht')
end Go.Proofs.YtloflmcgbbbnjaaDoor.fnMerge
namespace Go.Proofs.YtloflmcgbbbnjaaDoor
/-- FnMerge: the card. -/
theorem fnMerge_holds : Rows.FnMergeUptoCardSaid :=
  Claim7.holds_tied_plain_at .later [] _ _ _ _ fnMerge.said (fun _ h => by cases h) (by kernel_rfl) (fun _ h => by cases h) fnMergeUpto_row_tie rfl ⟨rfl, rfl⟩ (by kernel_rfl) rfl fnMerge.plain (by kernel_rfl)
#print axioms fnMerge_holds
end Go.Proofs.YtloflmcgbbbnjaaDoor
