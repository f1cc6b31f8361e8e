/-
  FnMem: a database in memory is an ordered map through every script of calls; of every start that meets the row.
-/
import Derived.Test.YtloflmcgbbbnjaaDoorRows
import Derived.Test.YtloflmcgbbbnjaaDoorMemM3
import Derived.Test.YtloflmcgbbbnjaaDoorMemM22
import Derived.Test.YtloflmcgbbbnjaaDoorCards
import Derived.Test.YtloflmcgbbbnjaaDoorTie
import Derived.SevenTiedAt
import Derived.JoinedCond
import Derived.Deep.DeepHandedRow
import Derived.Lib.LaidTab
import Derived.Lay
import Derived.Deep.DeepWitnessRowRef
namespace Go.Proofs.YtloflmcgbbbnjaaDoor.fnMem
open Go.ChangeShapes Go.WideShapes Go.ChangeAt Go.RowKit Plain
set_option maxRecDepth 100000 in
theorem contract (H : Type) (enc : TypeId × Value → H) (W : World) (base : Nat) (args : Array Value) (ds gs : List (DataW H)) (before : List MemPlace)
    (hval : ∀ (j : Nat) t v, Tryd.f8.params[j]? = some t → args[j]? = some v → Value.okWide Tryd.prog W .any base t v)
    (hW : DataW.Whole enc Tryd.prog Tryd.f8.params.toList Rows.fnMemSpec.vars false W args.toList ds gs before) :
    Calls Tryd.prog 8 args W fun e W' => ∃ v, e = .returned v ∧ Rows.fnMemSpec.post enc Tryd.prog Tryd.f8 false true false false W args v W' := by
  have hW' := hW
  obtain ⟨p, q, hA0, hV, rfl, hfz, hnd⟩ := hW
  have hA : DataW.TrodAll enc Tryd.prog W 0 (fun _ => true) true Tryd.f8.params.toList args.toList ds p := hA0
  rw [Tryd.params8] at hA hval
  have hback := hA
  obtain ⟨v0, vs0, d0, ds0, p0, q0, hargs, rfl, rfl, h0, r0⟩ := trodAll_cons hA
  obtain ⟨rfl, rfl, rfl⟩ := trodAll_nil r0
  obtain rfl : args = #[v0] := by cases args; simp_all
  obtain ⟨rfl, rfl⟩ := trodVars_none hV
  obtain ⟨a0, len0, cap0, rfl⟩ := okWide_slice Tryd.underlying61 (hval 0 61 v0 rfl rfl)
  obtain ⟨l0, rfl, hc0, _, hb0⟩ := open_mos h0
  clear hA0
  refine (fnMem_walk a0 cap0 l0 W hb0).mono fun e W' ⟨he, ho⟩ => ?_
  subst he
  have bel := ho.below0
  exact ⟨_, rfl, _, _, _, [], _, [], hW', trodAll_mk1 (shut_bool Tryd.underlying4 _), Below.trodAll Tryd.laidOut bel (of_decide_eq_true (by kernel_rfl)) hback, rfl, bel.frame _, fun h => by cases h⟩
noncomputable def laidWorld (os : Os) : World := World.laidAll Tryd.prog os Rows.fnMemRow.laid
theorem laid_met (os : Os) : laidMet Tryd.prog Rows.fnMemRow.laid ((laidWorld os).forCall (fun _ _ => 0) ⟨#[], #[.slice none 0 0], []⟩).memory := laidMet_laidAll _ (by kernel_rfl) (by kernel_rfl)
theorem reads (os : Os) {H : Type} (enc : TypeId × Value → H) : ∃ places, DataW.whole enc Tryd.prog ((laidWorld os).forCall (fun _ _ => 0) ⟨#[], #[.slice none 0 0], []⟩).memory Tryd.f8.params.toList Rows.fnMemSpec.vars false (#[.slice none 0 0] : Array Value).toList 8 = some ([.nil], [], places) :=
  ⟨[], by kernel_rfl⟩
set_option maxRecDepth 100000 in
theorem lifted (os : Os) (started : os.Started) (H : Type) (enc : TypeId × Value → H) (F : Stop.Interp) :
    ReturnsInHanded {} Tryd.checked os 8 .any ((OpenSpec.ofChange Rows.fnMemSpec).preRow enc Tryd.prog Tryd.f8 Rows.fnMemRow.domain false Rows.fnMemRow.laid) (((OpenSpec.ofChange Rows.fnMemSpec).at F).post enc Tryd.prog Tryd.f8 false true false false) := by
  obtain ⟨places, hx⟩ := reads os enc
  refine returnsInHanded_of_row (C := Tryd.checked) (s := OpenSpec.ofChange Rows.fnMemSpec) Tryd.own started (by kernel_rfl) Tryd.func8
    (witness_row_atRef (enc := enc) (C := Tryd.checked) false (laidWorld os) #[.slice none 0 0] (World.laidAll_os _ _ _) (by kernel_rfl) (by kernel_rfl) (by kernel_rfl)
      (OpenSpec.preRow_of_cond 8 hx (by kernel_rfl) (fun k hk => by cases hk) (by kernel_rfl) (laid_met os))) ?_
  intro W base args ds gs before hval hW _ hcond _ hL _ _
  exact contract H enc W base args ds gs before hval hW
theorem said : Rows.FnMemSaid :=
  OpenClaim.holds_of_cond 8 Tryd.f8 rfl rfl rfl rfl rfl rfl rfl ⟨rfl, rfl, rfl, rfl, rfl⟩ rfl rfl rfl rfl rfl (by kernel_rfl) Tryd.func8 (by kernel_rfl)
    (of_decide_eq_true (by kernel_rfl)) (by unfold Func.isWrapper; first | (rw [if_pos (by decide +kernel)]; kernel_rfl) | (rw [if_neg (by decide +kernel)]; exact ⟨rfl, rfl⟩))
    (fun os started H enc _ F => by rw [OpenClaim.pre_eq_preRow]; exact lifted os started H enc F)
theorem plain (f : FuncId) (fn : Func) (hf : Tryd.pinned.checked.prog.funcNamed "logsandtables/laws.FnMem" = some f) (hfn : Tryd.pinned.checked.prog.funcs[f]? = some fn) :
    true = Tryd.pinned.checked.prog.looks [] ∧ ∀ (j : Nat) t, fn.params[j]? = some t → Tryd.pinned.checked.prog.wantsStandIn t = false := by
  obtain rfl : f = 8 := Option.some.inj ((show Tryd.prog.funcNamed "logsandtables/laws.FnMem" = some 8 by kernel_rfl).symm.trans hf) |>.symm
  obtain rfl : fn = Tryd.f8 := (Option.some.inj (Tryd.func8.symm.trans hfn)).symm
  refine ⟨by kernel_rfl, fun j t ht => ?_⟩
  rw [Tryd.params8] at ht
  have ht' := Array.mem_of_getElem? ht
  have key : ∀ t ∈ [61], Tryd.prog.wantsStandIn t = false := of_decide_eq_true (by kernel_rfl)
  exact key t (by simpa using ht')
end Go.Proofs.YtloflmcgbbbnjaaDoor.fnMem
namespace Go.Proofs.YtloflmcgbbbnjaaDoor
/-- FnMem: the card. -/
theorem fnMem_holds : Rows.FnMemCardSaid :=
  Claim7.holds_tied_plain_at .later [] _ _ _ _ fnMem.said (fun _ h => by cases h) (by kernel_rfl) (fun _ h => by cases h) fnMem_row_tie rfl ⟨rfl, rfl⟩ (by kernel_rfl) rfl fnMem.plain (by kernel_rfl)
#print axioms fnMem_holds
end Go.Proofs.YtloflmcgbbbnjaaDoor
