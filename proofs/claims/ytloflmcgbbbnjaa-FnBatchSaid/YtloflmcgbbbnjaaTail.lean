/-
  A REGION THAT DRAWS ITS ORDER, with late operations (T) behind which nothing of what is held need hold any more: each of them waits for whatever is taken first.
-/
import Derived.Deep.RegionHeld3
import Derived.Test.YtloflmcgbbbnjaaMem
namespace Go.Proofs.Ytloflmcgbbbnjaa
open Go Go.RowKit
set_option linter.all false

section
variable {P : Program} {md : Region.Mode} {ops : Array Oper} {Q : Exit → Act → World → Prop} {S : World → Prop} {T : List Nat}
def AnyT (P : Program) (md : Region.Mode) (ops : Array Oper) (Q : Exit → Act → World → Prop) (S : World → Prop) (T : List Nat) : Nat → Array Bool → Act → World → Prop
  | 0, listed, a, w => Region.ready md ops listed = [] ∧ Q .normal a w
  | n + 1, listed, a, w => (Region.ready md ops listed = [] → Q .normal a w) ∧
    ∀ i ∈ Region.ready md ops listed, wpOp P ops Q i (fun a' w' => (i ∉ T → S w') ∧ AnyT P md ops Q S T n (listed.setIfInBounds i true) a' w') a w
theorem AnyT.any : ∀ (n : Nat) (listed : Array Bool) (a : Act) (w : World), AnyT P md ops Q S T n listed a w → wpAny P md ops Q n listed a w
  | 0, _, _, _, h => h
  | n + 1, _, _, _, h => ⟨h.1, fun i hi => wpOp_mono (fun _ _ h' => AnyT.any n _ _ _ h'.2) (h.2 i hi)⟩
/-- Another S, a stronger one. -/
theorem AnyT.strong {S' : World → Prop} (h : ∀ w, S' w → S w) : ∀ (n : Nat) (listed : Array Bool) (a : Act) (w : World), AnyT P md ops Q S' T n listed a w → AnyT P md ops Q S T n listed a w
  | 0, _, _, _, H => H
  | n + 1, _, _, _, H => ⟨H.1, fun i hi => wpOp_mono (fun _ _ h' => ⟨fun hn => h _ (h'.1 hn), AnyT.strong h n _ _ _ h'.2⟩) (H.2 i hi)⟩
theorem AnyT.first {i : Nat} {oi : Oper} {v : Value} (hi : ops[i]? = some oi) (hsel : ∀ (j : Nat) (o : Oper) cs b, ops[j]? = some o → o.op ≠ .select cs b) (hQ : ∀ c a w, Q (.panic c) (a.put oi.dst v) w → Q (.panic c) a w)
    (hT : ∀ j ∈ T, ∀ oj, ops[j]? = some oj → ∃ e ∈ oj.after, Region.binds md e = true ∧ e.on = i) : ∀ (n : Nat) (listed : Array Bool) (a : Act) (w : World),
      (∀ j oj, ops[j]? = some oj → j ≠ i → listed.getD j true = false → (∀ e ∈ oj.after, Region.binds md e = true → e.on ≠ i) → oi.apart ops oj = true) →
      i ∈ Region.ready md ops listed → YieldsIf P ops S oi v a → S w → AnyT P md ops Q S T n (listed.setIfInBounds i true) (a.put oi.dst v) w → AnyT P md ops Q S T (n + 1) listed a w := by
  intro n
  induction n with
  | zero =>
    intro listed a w _ hr hy hS H
    refine ⟨fun h => (by rw [h] at hr; cases hr), fun j hj => ?_⟩
    by_cases e : j = i
    · subst e; exact hy.wpOp hi hS ⟨fun _ => hS, H⟩
    · have h := ready_mono hj e
      rw [H.1] at h
      cases h
  | succ n ih =>
    intro listed a w hfree hr hy hS H
    refine ⟨fun h => (by rw [h] at hr; cases hr), fun j hj => ?_⟩
    by_cases e : j = i
    · subst e; exact hy.wpOp hi hS ⟨fun _ => hS, H⟩
    · obtain ⟨hun, oj, hoj, hall⟩ := mem_ready.1 hj
      -- what may come up now does not wait for i
      have hwait : ∀ x ∈ oj.after, Region.binds md x = true → x.on ≠ i := fun x hx hb hon => by
        have a1 := hall x hx hb
        have a2 := (mem_ready.1 hr).1
        rw [hon] at a1
        rcases Nat.lt_or_ge i listed.size with hl | hl
        · simp [hl] at a1 a2; rw [a2] at a1; cases a1
        · simp [Array.getElem?_eq_none hl] at a1
      have hjT : j ∉ T := fun hm => by
        obtain ⟨x, hx, hb, hon⟩ := hT j hm oj hoj
        exact hwait x hx hb hon
      have hstep := wpOp_putIf hoj (hfree j oj hoj e hun hwait) (fun cs b => hsel i oi cs b hi) (fun cs b => hsel j oj cs b hoj) hQ hy (H.2 j (ready_mono hj e))
      refine wpOp_mono (fun a' w' h3 => ⟨h3.2.1, ih (listed.setIfInBounds j true) a' w' (fun k ok hk hki hun' hno => hfree k ok hk hki ?_ hno) (ready_mono hr (Ne.symm e)) h3.1 (h3.2.1 hjT) ?_⟩) hstep
      · by_cases hjk : j = k
        · subst hjk; exact hun
        · rw [getD_set_ne true hjk] at hun'; exact hun'
      · rw [Array.setIfInBounds_comm _ _ e]
        exact h3.2.2
/-- Each of T waits for number i. -/
def waits (md : Region.Mode) (ops : Array Oper) (T : List Nat) (i : Nat) : Bool := T.all fun j => match ops[j]? with | some o => o.after.any (fun e => Region.binds md e && e.on == i) | none => true
theorem waits_spec {i : Nat} (h : waits md ops T i = true) : ∀ j ∈ T, ∀ oj, ops[j]? = some oj → ∃ e ∈ oj.after, Region.binds md e = true ∧ e.on = i := fun j hj oj ho => by
  have h1 := List.all_eq_true.1 h j hj
  rw [ho] at h1
  obtain ⟨e, he, hb⟩ := Array.any_eq_true'.1 h1
  rw [Bool.and_eq_true, beq_iff_eq] at hb
  exact ⟨e, he, hb.1, hb.2⟩
theorem AnyT.take {i : Nat} {oi : Oper} {v : Value} {n : Nat} {listed : Array Bool} {a : Act} {w : World} (hi : ops[i]? = some oi) (hs : Region.noSelect ops = true) (hf : Region.free md ops listed i = true)
    (hr : (Region.ready md ops listed).contains i = true) (hT : waits md ops T i = true) (hQ : ∀ c a w, Q (.panic c) (a.put oi.dst v) w → Q (.panic c) a w) (hy : YieldsIf P ops S oi v a) (hS : S w)
    (h : AnyT P md ops Q S T n (listed.setIfInBounds i true) (a.put oi.dst v) w) : AnyT P md ops Q S T (n + 1) listed a w :=
  AnyT.first hi (Region.noSelect_spec hs) hQ (waits_spec hT) n listed a w (Region.free_spec hi hf) (by simpa using hr) hy hS h
def AllT (P : Program) (md : Region.Mode) (ops : Array Oper) (Q : Exit → Act → World → Prop) (S : World → Prop) (T : List Nat) (n : Nat) (listed : Array Bool) (a : Act) (w : World) (rs : List Nat) : Prop :=
  ∀ i ∈ rs, wpOp P ops Q i (fun a' w' => (i ∉ T → S w') ∧ AnyT P md ops Q S T n (listed.setIfInBounds i true) a' w') a w
theorem AllT.nil {n : Nat} {listed : Array Bool} {a : Act} {w : World} : AllT P md ops Q S T n listed a w [] := fun _ h => by cases h
theorem AllT.cons {n : Nat} {listed : Array Bool} {a : Act} {w : World} {i : Nat} {o : Oper} {rs : List Nat} (ho : ops[i]? = some o)
    (h : ∀ K' : Act → World → Prop, Shut (∀ a w, S w → (S w → AnyT P md ops Q S T n (listed.setIfInBounds i true) a w) → K' a w) → if Region.wanted o (yielded ops a.tmps) = true then Oper.wp P o a w K' Q else K' (a.put o.dst undef) w)
    (hs : AllT P md ops Q S T n listed a w rs) : AllT P md ops Q S T n listed a w (i :: rs) := fun j hj => by
  rcases List.mem_cons.1 hj with rfl | hj
  · exact wpOp_step ho fun K' hK => h K' fun a w hS hW => hK a w ⟨fun _ => hS, hW hS⟩
  · exact hs j hj
/-- A late one: nothing is held behind it. -/
theorem AllT.late {n : Nat} {listed : Array Bool} {a : Act} {w : World} {i : Nat} {o : Oper} (ho : ops[i]? = some o) (hi : T.contains i = true)
    (h : ∀ K' : Act → World → Prop, Shut (∀ a w, AnyT P md ops Q S T n (listed.setIfInBounds i true) a w → K' a w) → if Region.wanted o (yielded ops a.tmps) = true then Oper.wp P o a w K' Q else K' (a.put o.dst undef) w) : AllT P md ops Q S T n listed a w [i] := fun j hj => by
  obtain rfl := List.mem_singleton.1 hj
  exact wpOp_step ho fun K' hK => h K' fun a w hW => hK a w ⟨fun hn => absurd (by simpa using hi) hn, hW⟩
theorem AnyT.ready {rs : List Nat} {n : Nat} {listed : Array Bool} {a : Act} {w : World} (hr : Region.ready md ops listed = rs) (hne : rs ≠ []) (h : AllT P md ops Q S T n listed a w rs) : AnyT P md ops Q S T (n + 1) listed a w :=
  ⟨fun h0 => absurd (hr ▸ h0) hne, hr ▸ h⟩
theorem AnyT.done {listed : Array Bool} {a : Act} {w : World} (hr : Region.ready md ops listed = []) (h : Q .normal a w) : ∀ n, AnyT P md ops Q S T n listed a w
  | 0 => ⟨hr, h⟩
  | n + 1 => ⟨fun _ => h, by rw [hr]; intro i hi; cases hi⟩
theorem AnyT.start {id : Nat} {a : Act} {w : World} (hm : P.follows .mixedOrders = true) (hS : S w.drew) (h : S w.drew → AnyT P .any ops Q S T ops.size (Array.replicate ops.size false) a w.drew) : (Code.region id ops true).wp P Q a w :=
  wp_region_any hm (AnyT.any _ _ _ _ (h hS))
end
end Go.Proofs.Ytloflmcgbbbnjaa
