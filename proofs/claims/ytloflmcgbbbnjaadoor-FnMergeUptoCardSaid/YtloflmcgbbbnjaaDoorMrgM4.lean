/-
  spec.Map: At.
  More words on memory.
  A REGION THAT DRAWS ITS ORDER, with late operations (T) behind which nothing of what is held need hold any more: each of them waits for whatever is taken first.
  iterators over an array of pairs: their methods.
  iterators over an array of pairs: First, Last, Seek, Next, Prev, Valid, Key, Value.
  A region that draws its order: a call that leaves the world as it is may be taken first, too.
-/
import Derived.Test.YtloflmcgbbbnjaaDoorMrgM3
import Derived.Test.YtloflmcgbbbnjaaDoorMrgM1
import Derived.Test.YtloflmcgbbbnjaaDoorMrgM2
import Derived.Deep.RegionHeld3
import Derived.Deep.Quiet
namespace Go.Proofs.YtloflmcgbbbnjaaDoor
open Go.RowKit Plain
set_option linter.all false

theorem mAt_go {m : List Pr} {key : List UInt8} {k : Nat} {r : Pr} (hk : k ≤ mAt Pr.k m key) (hx : m[k]? = some r) (hc : cmpI r.k key < 0) : k + 1 ≤ mAt Pr.k m key := by
  rcases Nat.lt_or_ge k (mAt Pr.k m key) with h | h
  · exact h
  · obtain rfl : k = mAt Pr.k m key := by omega
    have := mAt_at Pr.k m key r hx; omega
theorem mAt_stop {m : List Pr} {key : List UInt8} {k : Nat} {r : Pr} (hk : k ≤ mAt Pr.k m key) (hx : m[k]? = some r) (hc : ¬ cmpI r.k key < 0) : mAt Pr.k m key = k ∧ mIs Pr.k m key = decide (cmpI r.k key = 0) := by
  have e : mAt Pr.k m key = k := by
    rcases Nat.lt_or_ge k (mAt Pr.k m key) with h | h
    · exact absurd (mAt_below Pr.k m key k r hx h) hc
    · omega
  exact ⟨e, by unfold mIs; rw [e, hx]⟩
theorem mAt_end {m : List Pr} {key : List UInt8} {k : Nat} (hk : k ≤ mAt Pr.k m key) (hl : m.length ≤ k) : mAt Pr.k m key = k ∧ mIs Pr.k m key = false := by
  have h := mAt_le Pr.k m key
  have e : mAt Pr.k m key = k := by omega
  exact ⟨e, by unfold mIs; rw [e, List.getElem?_eq_none hl]⟩
set_option maxHeartbeats 1600000 in
theorem mapAt (A kA : Option Addr) (c kc : Nat) (m : List Pr) (key : List UInt8) (w : World) (hp : Prs w A m) (hk : BsAt w kA key) (hkl : key.length ≤ 140737488351232) (hml : ∀ r ∈ m, r.k.length ≤ 140737488351232) (hl : m.length ≤ 1099511627776) :
    Calls Tryd.prog 25 #[.slice A m.length c, .slice kA key.length kc] w fun e w' => e = .returned (.tuple #[.int .i64 (mAt Pr.k m key), .bool (mIs Pr.k m key)]) ∧ Dr w w' := by
  have HP := hid hp
  have HK := hid hk
  have HM := hid hml
  clear hp hk hml
  go_enter Tryd.func25, Tryd.ntmps25
  go_wp2_with fail
  go_loopw [6] (fun i wr => ∃ k : Nat, i = .int .i64 k ∧ k ≤ m.length ∧ Hid (k ≤ mAt Pr.k m key) ∧ Dr w wr) (fun i _ => m.length - (intOf i).toNat)
  case atStart => exact ⟨0, rfl, Nat.zero_le _, hid (Nat.zero_le _), Dr.refl _⟩
  case round =>
    obtain ⟨k, rfl, hkl2, HKA, hdr⟩ := hrel
    by_cases h1 : k < m.length
    · have hx : m[k]? = some m[k] := List.getElem?_eq_getElem h1
      have hmem := List.getElem_mem h1
      generalize m[k] = r at hx hmem
      have t1 : decide ((k : Int) < (m.length : Int)) = true := decide_eq_true (by omega)
      have hp' := HP.out.keep0 hdr.only
      obtain ⟨g, o, rfl, p0, p1⟩ := hp'.at_ hx
      have hrk := (hp'.ok r hmem).hk
      have hkr := HK.out.dr hdr
      have hrl := HM.out r hmem
      have HD := hid hdr
      have HX := hid hx
      clear hdr hx hmem hp' p1
      by_cases hc : cmpI r.k key < 0
      · have HC := hid hc
        have t2 : decide (cmpI r.k key < 0) = true := decide_eq_true hc
        go_wp2_with fail
        refine (compare_any _ _ _ _ _ _ _ hrk hkr hrl hkl).mono ?_
        rintro e w2 ⟨rfl, hd2⟩
        have HD2 := hid (HD.out.trans hd2)
        clear hd2 hrk hkr p0
        go_wp2_with fail
        go_roundw
        case rel => exact ⟨k + 1, by go_num, by omega, hid (mAt_go HKA.out HX.out HC.out), HD2.out⟩
        case measure => simp [intOf]; omega
      · have hst := mAt_stop HKA.out HX.out hc
        have HST := hid hst
        have t2 : decide (cmpI r.k key < 0) = false := decide_eq_false hc
        clear hst
        go_wp2_with fail
        refine (compare_any _ _ _ _ _ _ _ hrk hkr hrl hkl).mono ?_
        rintro e w2 ⟨rfl, hd2⟩
        have p0' := (hd2.only.cell (p := ⟨g, o + k * 2, none⟩) (cell_lt p0) (by simp)).trans p0
        have hrk2 := hrk.dr hd2
        have hkr2 := hkr.dr hd2
        have HD2 := hid (HD.out.trans hd2)
        clear hd2 hrk hkr p0
        go_wp2_with fail
        refine (compare_any _ _ _ _ _ _ _ hrk2 hkr2 hrl hkl).mono ?_
        rintro e w3 ⟨rfl, hd3⟩
        have HD3 := hid (HD2.out.trans hd3)
        clear hd3 hrk2 hkr2 p0'
        go_wp2_with fail
        go_ret2
        refine ⟨?_, HD3.out⟩
        rw [HST.out.1, HST.out.2]
        simp
        rw [Bool.eq_iff_iff]; simp
    · have hst := mAt_end HKA.out (by omega)
      have HST := hid hst
      have t1 : decide ((k : Int) < (m.length : Int)) = false := decide_eq_false (by omega)
      have HD := hid hdr
      clear hst hdr
      go_wp2_with fail
      go_ret2
      refine ⟨?_, HD.out⟩
      rw [HST.out.1, HST.out.2]
      rfl
end Go.Proofs.YtloflmcgbbbnjaaDoor
namespace Go.Proofs.YtloflmcgbbbnjaaDoor
open Go.RowKit Plain
set_option linter.all false

theorem BsAt.get {w : World} {g o : Nat} {l : List UInt8} (h : BsAt w (some ⟨g, o, none⟩) l) {i : Nat} (hi : i < l.length) : w.cell? ⟨g, o + i, none⟩ = some (.int .u8 (bz l i)) := by
  obtain ⟨g', o', e, hc⟩ := h i hi
  injection e with e
  injection e with e1 e2
  subst e1; subst e2
  exact hc
theorem csAt_all (w : World) (cs : List Value) (t : TypeId) : CsAt (w.alloc (.cells cs.toArray t)) (some ⟨w.heap.size, 0, none⟩) cs := by
  have := CsAt.of_blk (Blk.new w t cs) 0 cs.length
  simpa using this
theorem csAt_all' {w : World} {g : Nat} (hg : w.heap.size = g) (cs : List Value) (t : TypeId) : CsAt (w.alloc (.cells cs.toArray t)) (some ⟨g, 0, none⟩) cs := hg ▸ csAt_all w cs t
theorem CsAt.drew {w : World} {A : Option Addr} {cs : List Value} (h : CsAt w A cs) : CsAt w.drew A cs := h
end Go.Proofs.YtloflmcgbbbnjaaDoor
namespace Go.Proofs.YtloflmcgbbbnjaaDoor
open Go Go.RowKit
set_option linter.all false

section
variable {P : Program} {md : Region.Mode} {ops : Array Oper} {Q : Exit → Act → World → Prop} {S : World → Prop} {T : List Nat}
def AnyT (P : Program) (md : Region.Mode) (ops : Array Oper) (Q : Exit → Act → World → Prop) (S : World → Prop) (T : List Nat) : Nat → Array Bool → Act → World → Prop
  | 0, listed, a, w => Region.ready md ops listed = [] ∧ Q .normal a w
  | n + 1, listed, a, w => (Region.ready md ops listed = [] → Q .normal a w) ∧
    ∀ i ∈ Region.ready md ops listed, wpOp P ops Q i (fun a' w' => (i ∉ T → S w') ∧ AnyT P md ops Q S T n (listed.setIfInBounds i true) a' w') a w
theorem AnyT.any : ∀ (n : Nat) (listed : Array Bool) (a : Act) (w : World), AnyT P md ops Q S T n listed a w → wpAny P md ops Q n listed a w
  | 0, _, _, _, h => h
  | n + 1, _, _, _, h => ⟨h.1, fun i hi => wpOp_mono (fun _ _ h' => AnyT.any n _ _ _ h'.2) (h.2 i hi)⟩
/-- Another S, a stronger one. -/
theorem AnyT.strong {S' : World → Prop} (h : ∀ w, S' w → S w) : ∀ (n : Nat) (listed : Array Bool) (a : Act) (w : World), AnyT P md ops Q S' T n listed a w → AnyT P md ops Q S T n listed a w
  | 0, _, _, _, H => H
  | n + 1, _, _, _, H => ⟨H.1, fun i hi => wpOp_mono (fun _ _ h' => ⟨fun hn => h _ (h'.1 hn), AnyT.strong h n _ _ _ h'.2⟩) (H.2 i hi)⟩
theorem AnyT.first {i : Nat} {oi : Oper} {v : Value} (hi : ops[i]? = some oi) (hsel : ∀ (j : Nat) (o : Oper) cs b, ops[j]? = some o → o.op ≠ .select cs b) (hQ : ∀ c a w, Q (.panic c) (a.put oi.dst v) w → Q (.panic c) a w)
    (hT : ∀ j ∈ T, ∀ oj, ops[j]? = some oj → ∃ e ∈ oj.after, Region.binds md e = true ∧ e.on = i) : ∀ (n : Nat) (listed : Array Bool) (a : Act) (w : World),
      (∀ j oj, ops[j]? = some oj → j ≠ i → listed.getD j true = false → (∀ e ∈ oj.after, Region.binds md e = true → e.on ≠ i) → oi.apart ops oj = true) →
      i ∈ Region.ready md ops listed → YieldsIf P ops S oi v a → S w → AnyT P md ops Q S T n (listed.setIfInBounds i true) (a.put oi.dst v) w → AnyT P md ops Q S T (n + 1) listed a w := by
  intro n
  induction n with
  | zero =>
    intro listed a w _ hr hy hS H
    refine ⟨fun h => (by rw [h] at hr; cases hr), fun j hj => ?_⟩
    by_cases e : j = i
    · subst e; exact hy.wpOp hi hS ⟨fun _ => hS, H⟩
    · have h := ready_mono hj e
      rw [H.1] at h
      cases h
  | succ n ih =>
    intro listed a w hfree hr hy hS H
    refine ⟨fun h => (by rw [h] at hr; cases hr), fun j hj => ?_⟩
    by_cases e : j = i
    · subst e; exact hy.wpOp hi hS ⟨fun _ => hS, H⟩
    · obtain ⟨hun, oj, hoj, hall⟩ := mem_ready.1 hj
      -- what may come up now does not wait for i
      have hwait : ∀ x ∈ oj.after, Region.binds md x = true → x.on ≠ i := fun x hx hb hon => by
        have a1 := hall x hx hb
        have a2 := (mem_ready.1 hr).1
        rw [hon] at a1
        rcases Nat.lt_or_ge i listed.size with hl | hl
        · simp [hl] at a1 a2; rw [a2] at a1; cases a1
        · simp [Array.getElem?_eq_none hl] at a1
      have hjT : j ∉ T := fun hm => by
        obtain ⟨x, hx, hb, hon⟩ := hT j hm oj hoj
        exact hwait x hx hb hon
      have hstep := wpOp_putIf hoj (hfree j oj hoj e hun hwait) (fun cs b => hsel i oi cs b hi) (fun cs b => hsel j oj cs b hoj) hQ hy (H.2 j (ready_mono hj e))
      refine wpOp_mono (fun a' w' h3 => ⟨h3.2.1, ih (listed.setIfInBounds j true) a' w' (fun k ok hk hki hun' hno => hfree k ok hk hki ?_ hno) (ready_mono hr (Ne.symm e)) h3.1 (h3.2.1 hjT) ?_⟩) hstep
      · by_cases hjk : j = k
        · subst hjk; exact hun
        · rw [getD_set_ne true hjk] at hun'; exact hun'
      · rw [Array.setIfInBounds_comm _ _ e]
        exact h3.2.2
/-- Each of T waits for number i. -/
def waits (md : Region.Mode) (ops : Array Oper) (T : List Nat) (i : Nat) : Bool := T.all fun j => match ops[j]? with | some o => o.after.any (fun e => Region.binds md e && e.on == i) | none => true
theorem waits_spec {i : Nat} (h : waits md ops T i = true) : ∀ j ∈ T, ∀ oj, ops[j]? = some oj → ∃ e ∈ oj.after, Region.binds md e = true ∧ e.on = i := fun j hj oj ho => by
  have h1 := List.all_eq_true.1 h j hj
  rw [ho] at h1
  obtain ⟨e, he, hb⟩ := Array.any_eq_true'.1 h1
  rw [Bool.and_eq_true, beq_iff_eq] at hb
  exact ⟨e, he, hb.1, hb.2⟩
theorem AnyT.take {i : Nat} {oi : Oper} {v : Value} {n : Nat} {listed : Array Bool} {a : Act} {w : World} (hi : ops[i]? = some oi) (hs : Region.noSelect ops = true) (hf : Region.free md ops listed i = true)
    (hr : (Region.ready md ops listed).contains i = true) (hT : waits md ops T i = true) (hQ : ∀ c a w, Q (.panic c) (a.put oi.dst v) w → Q (.panic c) a w) (hy : YieldsIf P ops S oi v a) (hS : S w)
    (h : AnyT P md ops Q S T n (listed.setIfInBounds i true) (a.put oi.dst v) w) : AnyT P md ops Q S T (n + 1) listed a w :=
  AnyT.first hi (Region.noSelect_spec hs) hQ (waits_spec hT) n listed a w (Region.free_spec hi hf) (by simpa using hr) hy hS h
def AllT (P : Program) (md : Region.Mode) (ops : Array Oper) (Q : Exit → Act → World → Prop) (S : World → Prop) (T : List Nat) (n : Nat) (listed : Array Bool) (a : Act) (w : World) (rs : List Nat) : Prop :=
  ∀ i ∈ rs, wpOp P ops Q i (fun a' w' => (i ∉ T → S w') ∧ AnyT P md ops Q S T n (listed.setIfInBounds i true) a' w') a w
theorem AllT.nil {n : Nat} {listed : Array Bool} {a : Act} {w : World} : AllT P md ops Q S T n listed a w [] := fun _ h => by cases h
theorem AllT.cons {n : Nat} {listed : Array Bool} {a : Act} {w : World} {i : Nat} {o : Oper} {rs : List Nat} (ho : ops[i]? = some o)
    (h : ∀ K' : Act → World → Prop, Shut (∀ a w, S w → (S w → AnyT P md ops Q S T n (listed.setIfInBounds i true) a w) → K' a w) → if Region.wanted o (yielded ops a.tmps) = true then Oper.wp P o a w K' Q else K' (a.put o.dst undef) w)
    (hs : AllT P md ops Q S T n listed a w rs) : AllT P md ops Q S T n listed a w (i :: rs) := fun j hj => by
  rcases List.mem_cons.1 hj with rfl | hj
  · exact wpOp_step ho fun K' hK => h K' fun a w hS hW => hK a w ⟨fun _ => hS, hW hS⟩
  · exact hs j hj
/-- A late one: nothing is held behind it. -/
theorem AllT.late {n : Nat} {listed : Array Bool} {a : Act} {w : World} {i : Nat} {o : Oper} (ho : ops[i]? = some o) (hi : T.contains i = true)
    (h : ∀ K' : Act → World → Prop, Shut (∀ a w, AnyT P md ops Q S T n (listed.setIfInBounds i true) a w → K' a w) → if Region.wanted o (yielded ops a.tmps) = true then Oper.wp P o a w K' Q else K' (a.put o.dst undef) w) : AllT P md ops Q S T n listed a w [i] := fun j hj => by
  obtain rfl := List.mem_singleton.1 hj
  exact wpOp_step ho fun K' hK => h K' fun a w hW => hK a w ⟨fun hn => absurd (by simpa using hi) hn, hW⟩
theorem AnyT.ready {rs : List Nat} {n : Nat} {listed : Array Bool} {a : Act} {w : World} (hr : Region.ready md ops listed = rs) (hne : rs ≠ []) (h : AllT P md ops Q S T n listed a w rs) : AnyT P md ops Q S T (n + 1) listed a w :=
  ⟨fun h0 => absurd (hr ▸ h0) hne, hr ▸ h⟩
theorem AnyT.done {listed : Array Bool} {a : Act} {w : World} (hr : Region.ready md ops listed = []) (h : Q .normal a w) : ∀ n, AnyT P md ops Q S T n listed a w
  | 0 => ⟨hr, h⟩
  | n + 1 => ⟨fun _ => h, by rw [hr]; intro i hi; cases hi⟩
theorem AnyT.start {id : Nat} {a : Act} {w : World} (hm : P.follows .mixedOrders = true) (hS : S w.drew) (h : S w.drew → AnyT P .any ops Q S T ops.size (Array.replicate ops.size false) a w.drew) : (Code.region id ops true).wp P Q a w :=
  wp_region_any hm (AnyT.any _ _ _ _ (h hS))
end
end Go.Proofs.YtloflmcgbbbnjaaDoor
namespace Go.Proofs.YtloflmcgbbbnjaaDoor
open Go.RowKit Plain
set_option linter.all false

def arrV (A : Option Addr) (n c : Nat) : Value := .iface 108 (.slice A n c)
theorem method_aLen (d : Nat) (v : Value) (w : World) : (method (d + 1) 108 v "Len").run Tryd.prog w = .ok (169, v) w := by kernel_rfl
theorem method_aSearch (d : Nat) (v : Value) (w : World) : (method (d + 1) 108 v "Search").run Tryd.prog w = .ok (255, v) w := by kernel_rfl
theorem method_aIndex (d : Nat) (v : Value) (w : World) : (method (d + 1) 108 v "Index").run Tryd.prog w = .ok (254, v) w := by kernel_rfl
theorem aLen (A : Option Addr) (n c : Nat) (w : World) : Calls Tryd.prog 169 #[.slice A n c] w fun e w' => e = .returned (.int .i64 n) ∧ w = w' := by
  go_enter Tryd.func169, Tryd.ntmps169
  go_wp2_with fail
  go_ret
  exact ⟨rfl, rfl⟩
set_option maxHeartbeats 1600000 in
set_option maxRecDepth 100000 in
theorem aIndex (A : Option Addr) (n c k : Nat) (l : List Pr) (r : Pr) (w : World) (hp : Prs w A l) (hn : n = l.length) (hr : l[k]? = some r) :
    Calls Tryd.prog 254 #[.slice A n c, .int .i64 k] w fun e w' => e = .returned (.tuple #[.slice r.ka r.k.length r.kc, .slice r.va r.v.length r.vc]) ∧ Dr w w' := by
  obtain ⟨g, o, rfl, p0, p1⟩ := hp.at_ hr
  have hk : (k : Int) < (n : Int) := by have := (List.getElem?_eq_some_iff.1 hr).1; omega
  have HN := hid hn
  clear hp hn hr
  go_enter Tryd.func254, Tryd.ntmps254
  go_wp2_with fail
  refine AnyT.start (S := fun w' => w'.cell? ⟨g, o + k * 2, none⟩ = some (.slice r.ka r.k.length r.kc) ∧ w'.cell? ⟨g, o + k * 2 + 1, none⟩ = some (.slice r.va r.v.length r.vc)) (T := []) (by kernel_rfl) (⟨p0, p1⟩) (fun hHeld => ?_)
  refine AnyT.take (i := 0) (v := ?_) (by simp only [List.getElem?_toArray, List.getElem?_cons_succ, List.getElem?_cons_zero]; rfl) (by kernel_rfl) (by kernel_rfl) (by kernel_rfl) (by kernel_rfl) (by intro _ _ _ h; exact h) (Or.inl ⟨by rfl, fun w hSw => ?_⟩) hHeld ?_
  rotate_left
  · ((try dsimp only at hSw); go_simp; first | done | with_reducible rfl | rfl)
  try simp only [Act.put, List.setIfInBounds_toArray, List.set_cons_zero, List.set_cons_succ]
  refine AnyT.take (i := 1) (v := ?_) (by simp only [List.getElem?_toArray, List.getElem?_cons_succ, List.getElem?_cons_zero]; rfl) (by kernel_rfl) (by kernel_rfl) (by kernel_rfl) (by kernel_rfl) (by intro _ _ _ h; exact h) (Or.inl ⟨by rfl, fun w hSw => ?_⟩) hHeld ?_
  rotate_left
  · ((try dsimp only at hSw); go_simp; first | done | with_reducible rfl | rfl)
  try simp only [Act.put, List.setIfInBounds_toArray, List.set_cons_zero, List.set_cons_succ]
  refine AnyT.take (i := 2) (v := ?_) (by simp only [List.getElem?_toArray, List.getElem?_cons_succ, List.getElem?_cons_zero]; rfl) (by kernel_rfl) (by kernel_rfl) (by kernel_rfl) (by kernel_rfl) (by intro _ _ _ h; exact h) (Or.inl ⟨by rfl, fun w hSw => ?_⟩) hHeld ?_
  rotate_left
  · ((try dsimp only at hSw); go_simp; first | done | with_reducible rfl | rfl)
  try simp only [Act.put, List.setIfInBounds_toArray, List.set_cons_zero, List.set_cons_succ]
  refine AnyT.take (i := 3) (v := ?_) (by simp only [List.getElem?_toArray, List.getElem?_cons_succ, List.getElem?_cons_zero]; rfl) (by kernel_rfl) (by kernel_rfl) (by kernel_rfl) (by kernel_rfl) (by intro _ _ _ h; exact h) (Or.inl ⟨by rfl, fun w hSw => ?_⟩) hHeld ?_
  rotate_left
  · ((try dsimp only at hSw); go_simp; first | done | with_reducible rfl | rfl)
  try simp only [Act.put, List.setIfInBounds_toArray, List.set_cons_zero, List.set_cons_succ]
  refine AnyT.take (i := 4) (v := ?_) (by simp only [List.getElem?_toArray, List.getElem?_cons_succ, List.getElem?_cons_zero]; rfl) (by kernel_rfl) (by kernel_rfl) (by kernel_rfl) (by kernel_rfl) (by intro _ _ _ h; exact h) (Or.inl ⟨by rfl, fun w hSw => ?_⟩) hHeld ?_
  rotate_left
  · ((try dsimp only at hSw); go_simp; first | done | with_reducible rfl | rfl)
  try simp only [Act.put, List.setIfInBounds_toArray, List.set_cons_zero, List.set_cons_succ]
  refine AnyT.take (i := 5) (v := ?_) (by simp only [List.getElem?_toArray, List.getElem?_cons_succ, List.getElem?_cons_zero]; rfl) (by kernel_rfl) (by kernel_rfl) (by kernel_rfl) (by kernel_rfl) (by intro _ _ _ h; exact h) (Or.inl ⟨by rfl, fun w hSw => ?_⟩) hHeld ?_
  rotate_left
  · ((try dsimp only at hSw); go_simp; first | done | with_reducible rfl | rfl)
  try simp only [Act.put, List.setIfInBounds_toArray, List.set_cons_zero, List.set_cons_succ]
  refine AnyT.take (i := 6) (v := ?_) (by simp only [List.getElem?_toArray, List.getElem?_cons_succ, List.getElem?_cons_zero]; rfl) (by kernel_rfl) (by kernel_rfl) (by kernel_rfl) (by kernel_rfl) (by intro _ _ _ h; exact h) (Or.inl ⟨by rfl, fun w hSw => ?_⟩) hHeld ?_
  rotate_left
  · ((try dsimp only at hSw); go_simp; first | done | with_reducible rfl | rfl)
  try simp only [Act.put, List.setIfInBounds_toArray, List.set_cons_zero, List.set_cons_succ]
  refine AnyT.take (i := 7) (v := ?_) (by simp only [List.getElem?_toArray, List.getElem?_cons_succ, List.getElem?_cons_zero]; rfl) (by kernel_rfl) (by kernel_rfl) (by kernel_rfl) (by kernel_rfl) (by intro _ _ _ h; exact h) (Or.inl ⟨by rfl, fun w hSw => ?_⟩) hHeld ?_
  rotate_left
  · ((try dsimp only at hSw); go_simp; first | done | with_reducible rfl | rfl)
  try simp only [Act.put, List.setIfInBounds_toArray, List.set_cons_zero, List.set_cons_succ]
  refine AnyT.take (i := 8) (v := ?_) (by simp only [List.getElem?_toArray, List.getElem?_cons_succ, List.getElem?_cons_zero]; rfl) (by kernel_rfl) (by kernel_rfl) (by kernel_rfl) (by kernel_rfl) (by intro _ _ _ h; exact h) (Or.inl ⟨by rfl, fun w hSw => ?_⟩) hHeld ?_
  rotate_left
  · ((try dsimp only at hSw); go_simp; first | done | with_reducible rfl | rfl)
  try simp only [Act.put, List.setIfInBounds_toArray, List.set_cons_zero, List.set_cons_succ]
  refine AnyT.take (i := 9) (v := ?_) (by simp only [List.getElem?_toArray, List.getElem?_cons_succ, List.getElem?_cons_zero]; rfl) (by kernel_rfl) (by kernel_rfl) (by kernel_rfl) (by kernel_rfl) (by intro _ _ _ h; exact h) (Or.inl ⟨by rfl, fun w hSw => ?_⟩) hHeld ?_
  rotate_left
  · ((try dsimp only at hSw); go_simp; first | done | with_reducible rfl | rfl)
  try simp only [Act.put, List.setIfInBounds_toArray, List.set_cons_zero, List.set_cons_succ]
  refine AnyT.take (i := 10) (v := ?_) (by simp only [List.getElem?_toArray, List.getElem?_cons_succ, List.getElem?_cons_zero]; rfl) (by kernel_rfl) (by kernel_rfl) (by kernel_rfl) (by kernel_rfl) (by intro _ _ _ h; exact h) (Or.inl ⟨by rfl, fun w hSw => ?_⟩) hHeld ?_
  rotate_left
  · ((try dsimp only at hSw); go_simp; first | done | with_reducible rfl | rfl)
  try simp only [Act.put, List.setIfInBounds_toArray, List.set_cons_zero, List.set_cons_succ]
  refine AnyT.take (i := 11) (v := ?_) (by simp only [List.getElem?_toArray, List.getElem?_cons_succ, List.getElem?_cons_zero]; rfl) (by kernel_rfl) (by kernel_rfl) (by kernel_rfl) (by kernel_rfl) (by intro _ _ _ h; exact h) (Or.inl ⟨by rfl, fun w hSw => ?_⟩) hHeld ?_
  rotate_left
  · ((try dsimp only at hSw); go_simp; first | done | with_reducible rfl | rfl)
  try simp only [Act.put, List.setIfInBounds_toArray, List.set_cons_zero, List.set_cons_succ]
  refine AnyT.done (by kernel_rfl) ?_ _
  go_wp2_with fail
  go_ret2
  exact ⟨rfl, (Dr.refl w).drew⟩
set_option maxHeartbeats 1600000 in
set_option maxRecDepth 100000 in
theorem aSearch (A kA : Option Addr) (n c kn kc : Nat) (l : List Pr) (key : List UInt8) (w : World) (hp : Prs w A l) (hk : BsAt w kA key) (hn : n = l.length) (hkn : kn = key.length) (hl : l.length ≤ 1099511627776) :
    Calls Tryd.prog 255 #[.slice A n c, .slice kA kn kc] w fun e w' => e = .returned (.int .i64 (mAt Pr.k l key)) ∧ Only [] w w' := by
  have HP := hid hp
  have HK := hid hk
  have HN := hid hn
  have HKN := hid hkn
  have hnl : n ≤ 1099511627776 := by omega
  clear hp hk hn hkn hl
  go_enter Tryd.func255, Tryd.ntmps255
  go_wp2_with fail
  go_loopw [9] (fun i wr => ∃ k : Nat, i = .int .i64 k ∧ k ≤ n ∧ Hid (k ≤ mAt Pr.k l key) ∧ Hid (Only [] w wr)) (fun i _ => n - (intOf i).toNat)
  case atStart => exact ⟨0, rfl, Nat.zero_le _, hid (Nat.zero_le _), hid (Only.refl _ _)⟩
  case round =>
    obtain ⟨k, rfl, hk, HA, HO⟩ := hrel
    obtain ⟨w2, rfl⟩ : ∃ w2, w2 = wr := ⟨_, rfl⟩
    by_cases h4 : k < n
    · have h4' : (k : Int) < (n : Int) := by omega
      have hkl : k < l.length := by rw [← HN.out]; exact h4
      have hx : l[k]? = some l[k] := List.getElem?_eq_getElem hkl
      have hmx : l[k] ∈ l := List.getElem_mem hkl
      generalize l[k] = x at hx hmx
      have hp2 := HP.out.keep0 HO.out
      obtain ⟨g, o, rfl, p0, p1⟩ := hp2.at_ hx
      obtain ⟨pb, hpb⟩ : ∃ pb, w2.heap.size = pb := ⟨_, rfl⟩
      have hO6 := (Own.start w2).alloc' hpb 36 x.cells
      have q0 : (w2.alloc (.cells #[.slice x.ka x.k.length x.kc, .slice x.va x.v.length x.vc] 36)).cell? ⟨pb, 0, none⟩ = some (.slice x.ka x.k.length x.kc) := hO6.cell 0 rfl (k := 0) 0 rfl (by simp [Pr.cells])
      have ho6 : Only [] w2 (w2.alloc (.cells #[.slice x.ka x.k.length x.kc, .slice x.va x.v.length x.vc] 36)) := (Only.refl _ _).alloc _
      have HXK := hid ((hp2.ok x hmx).hk.keep0 ho6)
      have HK2 := hid ((HK.out.keep0 HO.out).keep0 ho6)
      have HO2 := hid (HO.out.new ho6)
      have HPB := hid hpb
      have HX := hid hx
      clear hx hmx hp2 hpb hO6 ho6
      by_cases hc : 0 ≤ bcmp x.k key
      · have HC := hid hc
        have t1 : decide (0 ≤ bcmp x.k key) = true := decide_eq_true hc
        go_wp2_with fail
        rw [HPB.out]
        refine (bytesCompare_any _ _ _ _ _ _ x.k key _ HXK.out HK2.out rfl HKN.out).mono ?_
        rintro e w3 ⟨rfl, rfl⟩
        clear q0
        go_wp2_with fail
        go_ret
        refine ⟨?_, HO2.out⟩
        have h1 := (mAt_stop HA.out HX.out (by have := bcmp_ge.1 HC.out; omega)).1
        rw [h1]; rfl
      · have HC := hid hc
        have t1 : decide (0 ≤ bcmp x.k key) = false := decide_eq_false hc
        go_wp2_with fail
        rw [HPB.out]
        refine (bytesCompare_any _ _ _ _ _ _ x.k key _ HXK.out HK2.out rfl HKN.out).mono ?_
        rintro e w3 ⟨rfl, rfl⟩
        clear q0
        go_wp2_with fail
        go_roundw
        case rel => exact ⟨k + 1, by go_num, by omega, hid (mAt_go HA.out HX.out (by have h := HC.out; have h2 := bcmp_spec x.k key; omega)), HO2⟩
        case measure => simp [intOf]; omega
    · have h4' : ¬ (k : Int) < (n : Int) := by omega
      have hkn : k = n := by omega
      have HKE := hid hkn
      clear h4 hkn
      go_wp2_with fail
      go_ret
      refine ⟨?_, HO.out⟩
      have h1 := (mAt_end HA.out (by rw [HKE.out, HN.out]; exact Nat.le_refl _)).1
      rw [h1, HKE.out]; rfl
end Go.Proofs.YtloflmcgbbbnjaaDoor
namespace Go.Proofs.YtloflmcgbbbnjaaDoor
open Go.RowKit Plain
set_option linter.all false

def aKey (l : List Pr) (p : Int) : Value := if wval l.length p = true then (match l[p.toNat]? with | some r => .slice r.ka r.k.length r.kc | none => .slice none 0 0) else .slice none 0 0
def aVal (l : List Pr) (p : Int) : Value := if wval l.length p = true then (match l[p.toNat]? with | some r => .slice r.va r.v.length r.vc | none => .slice none 0 0) else .slice none 0 0
/-- The block of an iterator over an array. -/
def aFr (q : Nat) (arr : Value) (pos apos : Int) (kv vv : Value) : Fr := fw q 197 [.nilIface, .bool false, arr, .int .i64 pos, .nilIface, arr, .int .i64 apos, kv, vv]
structure ACells (q : Nat) (arr : Value) (pos : Int) (w : World) : Prop where
  c1 : w.cell? ⟨q, 1, none⟩ = some (.bool false)
  c2 : w.cell? ⟨q, 2, none⟩ = some arr
  c3 : w.cell? ⟨q, 3, none⟩ = some (.int .i64 pos)
  c4 : w.cell? ⟨q, 4, none⟩ = some .nilIface
  f3 : w.frozen? ⟨q, 3, none⟩ = false
theorem aFr_cells {q : Nat} {arr kv vv : Value} {pos apos : Int} {R : List Fr} {w0 w : World} (h : Own (aFr q arr pos apos kv vv :: R) w0 w) : ACells q arr pos w :=
  ⟨h.cell 0 rfl (k := 1) 1 rfl (by simp [aFr]), h.cell 0 rfl (k := 2) 2 rfl (by simp [aFr]), h.cell 0 rfl (k := 3) 3 rfl (by simp [aFr]), h.cell 0 rfl (k := 4) 4 rfl (by simp [aFr]), h.frozen 0 rfl 3⟩
theorem aFr_pos {q : Nat} {arr kv vv : Value} {pos apos : Int} {R : List Fr} {w0 w : World} (h : Own (aFr q arr pos apos kv vv :: R) w0 w) (p : Int) : Own (aFr q arr p apos kv vv :: R) w0 (w.setCell ⟨q, 3, none⟩ (.int .i64 p)) :=
  h.set (k := 3) 3 rfl (by simp [aFr]) (.int .i64 p)
theorem released (q : Nat) (w : World) (h : w.cell? ⟨q, 1, none⟩ = some (.bool false)) : Calls Tryd.prog 194 #[.pointer (some ⟨q, 0, none⟩)] w fun e w' => e = .returned (.bool false) ∧ w = w' := by
  go_enter Tryd.func194, Tryd.ntmps194
  go_wp2_with fail
  go_ret
  exact ⟨rfl, rfl⟩
def AOut (q : Nat) (arr : Value) (p apos : Int) (kv vv : Value) (b : Bool) (R : List Fr) (w0 : World) (e : Ending) (w' : World) : Prop :=
  e = .returned (.bool b) ∧ Own (aFr q arr p apos kv vv :: R) w0 w'
set_option maxHeartbeats 1600000 in
set_option maxRecDepth 100000 in
theorem aFirst (q : Nat) (A : Option Addr) (n c : Nat) (pos apos : Int) (kv vv : Value) (R : List Fr) (w0 w : World) (hO : Own (aFr q (arrV A n c) pos apos kv vv :: R) w0 w) :
    Calls Tryd.prog 184 #[.pointer (some ⟨q, 0, none⟩)] w (AOut q (arrV A n c) (if n = 0 then -1 else 0) apos kv vv (decide (0 < n)) R w0) := by
  obtain ⟨c1, c2, c3, c4, f3⟩ := aFr_cells hO
  obtain ⟨p', hp'⟩ : ∃ p', (if n = 0 then (-1 : Int) else 0) = p' := ⟨_, rfl⟩
  rw [hp']
  have HP' := hid hp'
  have HO := hid hO
  clear hp'
  have hm := method_aLen
  clear hO
  unfold arrV at c2
  go_enter Tryd.func184, Tryd.ntmps184
  go_wp2_with fail
  refine (released q w c1).mono ?_
  rintro e w1 ⟨rfl, rfl⟩
  go_wp2_with fail
  refine (aLen A n c _).mono ?_
  rintro e w1 ⟨rfl, rfl⟩
  by_cases h0 : n = 0
  · have t0 : ((n : Int) == 0) = true := by rw [h0]; rfl
    have H0 := hid h0
    clear h0
    go_wp2_with fail
    go_ret
    rw [← HP'.out, if_pos H0.out]
    refine ⟨?_, aFr_pos HO.out (-1)⟩
    rw [H0.out]; rfl
  · have t0 : ((n : Int) == 0) = false := by rw [beq_eq_false_iff_ne]; omega
    have H0 := hid h0
    clear h0
    go_wp2_with fail
    go_ret
    rw [← HP'.out, if_neg H0.out]
    refine ⟨?_, aFr_pos HO.out 0⟩
    rw [decide_eq_true (by have := H0.out; omega)]
    rfl
set_option maxHeartbeats 1600000 in
set_option maxRecDepth 100000 in
theorem aLast (q : Nat) (A : Option Addr) (n c : Nat) (pos apos : Int) (kv vv : Value) (R : List Fr) (w0 w : World) (hO : Own (aFr q (arrV A n c) pos apos kv vv :: R) w0 w) (hn : n ≤ 1099511627776) :
    Calls Tryd.prog 186 #[.pointer (some ⟨q, 0, none⟩)] w (AOut q (arrV A n c) (if n = 0 then 0 else (n : Int) - 1) apos kv vv (decide (0 < n)) R w0) := by
  obtain ⟨c1, c2, c3, c4, f3⟩ := aFr_cells hO
  obtain ⟨p', hp'⟩ : ∃ p', (if n = 0 then (0 : Int) else (n : Int) - 1) = p' := ⟨_, rfl⟩
  rw [hp']
  have HP' := hid hp'
  have HO := hid hO
  clear hp'
  have hm := method_aLen
  have i1 : IntKind.i64.wrap ((n : Int) - 1) = (n : Int) - 1 := i64_id (by omega) (by omega)
  clear hO
  unfold arrV at c2
  go_enter Tryd.func186, Tryd.ntmps186
  go_wp2_with fail
  refine (released q w c1).mono ?_
  rintro e w1 ⟨rfl, rfl⟩
  go_wp2_with fail
  refine (aLen A n c _).mono ?_
  rintro e w1 ⟨rfl, rfl⟩
  by_cases h0 : n = 0
  · have t0 : ((n : Int) == 0) = true := by rw [h0]; rfl
    have H0 := hid h0
    clear h0
    go_wp2_with fail
    go_ret
    rw [← HP'.out, if_pos H0.out]
    refine ⟨?_, aFr_pos HO.out 0⟩
    rw [H0.out]; rfl
  · have t0 : ((n : Int) == 0) = false := by rw [beq_eq_false_iff_ne]; omega
    have H0 := hid h0
    clear h0
    go_wp2_with fail
    go_ret
    rw [← HP'.out, if_neg H0.out]
    refine ⟨?_, aFr_pos HO.out ((n : Int) - 1)⟩
    rw [decide_eq_true (by have := H0.out; omega)]
    rfl
set_option maxHeartbeats 1600000 in
set_option maxRecDepth 100000 in
theorem aNext (q : Nat) (A : Option Addr) (n c : Nat) (pos apos : Int) (kv vv : Value) (R : List Fr) (w0 w : World) (hO : Own (aFr q (arrV A n c) pos apos kv vv :: R) w0 w) (hn : n ≤ 1099511627776) (hp : Plc n pos) :
    Calls Tryd.prog 187 #[.pointer (some ⟨q, 0, none⟩)] w (AOut q (arrV A n c) (min (pos + 1) n) apos kv vv (wval n (pos + 1)) R w0) := by
  obtain ⟨c1, c2, c3, c4, f3⟩ := aFr_cells hO
  obtain ⟨p1, p2⟩ := hp
  have hO2 := aFr_pos hO (pos + 1)
  obtain ⟨d1, d2, d3, d4, g3⟩ := aFr_cells hO2
  have HO := hid hO2
  have hm := method_aLen
  have i1 : IntKind.i64.wrap (pos + 1) = pos + 1 := i64_id (by omega) (by omega)
  clear hO hO2
  unfold arrV at c2 d2
  go_enter Tryd.func187, Tryd.ntmps187
  go_wp2_with fail
  refine (released q w c1).mono ?_
  rintro e w1 ⟨rfl, rfl⟩
  go_wp2_with fail
  refine (aLen A n c _).mono ?_
  rintro e w1 ⟨rfl, rfl⟩
  by_cases h0 : (n : Int) ≤ pos + 1
  · have t0 : decide ((n : Int) ≤ pos + 1) = true := decide_eq_true h0
    have H0 := hid h0
    go_wp2_with fail
    go_ret
    have h1 : min (pos + 1) (n : Int) = n := by have := H0.out; omega
    rw [h1]
    refine ⟨?_, ?_⟩
    · rw [wval_not.2 (.inr H0.out)]; rfl
    · have := aFr_pos HO.out (n : Int)
      simpa using this
  · have t0 : decide ((n : Int) ≤ pos + 1) = false := decide_eq_false h0
    have H0 := hid h0
    go_wp2_with fail
    go_ret
    have h1 : min (pos + 1) (n : Int) = pos + 1 := by have := H0.out; omega
    rw [h1]
    refine ⟨?_, HO.out⟩
    rw [wval_iff.2 ⟨by omega, by have := H0.out; omega⟩]; rfl
set_option maxHeartbeats 1600000 in
set_option maxRecDepth 100000 in
theorem aPrev (q : Nat) (A : Option Addr) (n c : Nat) (pos apos : Int) (kv vv : Value) (R : List Fr) (w0 w : World) (hO : Own (aFr q (arrV A n c) pos apos kv vv :: R) w0 w) (hn : n ≤ 1099511627776) (hp : Plc n pos) :
    Calls Tryd.prog 188 #[.pointer (some ⟨q, 0, none⟩)] w (AOut q (arrV A n c) (max (pos - 1) (-1)) apos kv vv (decide (0 ≤ pos - 1)) R w0) := by
  obtain ⟨c1, c2, c3, c4, f3⟩ := aFr_cells hO
  obtain ⟨p1, p2⟩ := hp
  have hO2 := aFr_pos hO (pos - 1)
  obtain ⟨d1, d2, d3, d4, g3⟩ := aFr_cells hO2
  have HO := hid hO2
  have i1 : IntKind.i64.wrap (pos - 1) = pos - 1 := i64_id (by omega) (by omega)
  clear hO hO2
  go_enter Tryd.func188, Tryd.ntmps188
  go_wp2_with fail
  refine (released q w c1).mono ?_
  rintro e w1 ⟨rfl, rfl⟩
  by_cases h0 : pos - 1 < 0
  · have t0 : decide (pos - 1 < 0) = true := decide_eq_true h0
    have H0 := hid h0
    go_wp2_with fail
    go_ret
    have h1 : max (pos - 1) (-1) = -1 := by have := H0.out; omega
    rw [h1]
    refine ⟨?_, ?_⟩
    · rw [decide_eq_false (by have := H0.out; omega)]; rfl
    · have := aFr_pos HO.out (-1)
      simpa using this
  · have t0 : decide (pos - 1 < 0) = false := decide_eq_false h0
    have H0 := hid h0
    go_wp2_with fail
    go_ret
    have h1 : max (pos - 1) (-1) = pos - 1 := by have := H0.out; omega
    rw [h1]
    refine ⟨?_, HO.out⟩
    rw [decide_eq_true (by have := H0.out; omega)]; rfl
end Go.Proofs.YtloflmcgbbbnjaaDoor
namespace Go.Proofs.YtloflmcgbbbnjaaDoor
open Go Go.RowKit
set_option linter.all false

section
variable {P : Program} {md : Region.Mode} {ops : Array Oper} {Q : Exit → Act → World → Prop} {S : World → Prop} {T : List Nat}
/-- In state 'a', in every world that meets S, operation 'o' leaves 'v' in its temporary and the world as it is. -/
def YieldsC (P : Program) (ops : Array Oper) (S : World → Prop) (o : Oper) (v : Value) (a : Act) : Prop :=
  (Region.wanted o (yielded ops a.tmps) = true ∧ ∀ w, S w → o.quietAt P a (fun w' => w = w') w v) ∨ (Region.wanted o (yielded ops a.tmps) = false ∧ v = undef)
theorem YieldsC.wpOp {i : Nat} {o : Oper} {v : Value} {a : Act} (hi : ops[i]? = some o) (hy : YieldsC P ops S o v a)
    {K : Act → World → Prop} {w : World} (hS : S w) (h : K (a.put o.dst v) w) : wpOp P ops Q i K a w := by
  unfold Go.wpOp
  simp only [hi]
  rcases hy with ⟨hw, hv⟩ | ⟨hw, rfl⟩
  · simp only [hw, if_true]
    have h3 := hv w hS
    unfold Oper.quietAt at h3
    refine .inl ?_
    unfold Oper.wp
    generalize (execOp a.eval o).run P w = r at *
    cases r with
    | ok n w' =>
      cases n <;> simp only [Oper.quietUpon] at h3 <;> simp only [Oper.upon]
      case value u => obtain ⟨e1, e2⟩ := h3; rw [e1, e2]; exact h
      case skip => obtain ⟨e1, e2⟩ := h3; rw [e1, ← e2]; exact h
      case enter f args =>
        obtain ⟨e1, hc⟩ := h3
        rw [e1]
        exact hc.mono fun e w'' ⟨he, hw''⟩ => by subst he; subst hw''; exact h
    | halt x w' => simp only [Oper.quietUpon] at h3
  · simp only [hw, Bool.false_eq_true, if_false]; exact h
theorem YieldsC.of_same {o : Oper} {v : Value} {a a' : Act} (hy : YieldsC P ops S o v a) (he : execOp a'.eval o = execOp a.eval o)
    (hw : Region.wanted o (yielded ops a'.tmps) = Region.wanted o (yielded ops a.tmps)) : YieldsC P ops S o v a' := by
  unfold YieldsC Oper.quietAt at *
  rw [he, hw]
  exact hy
theorem wpOp_putC {j : Nat} {oi oj : Oper} {v : Value} (hj : ops[j]? = some oj) (hap : oi.apart ops oj = true)
    (hsi : ∀ cs b, oi.op ≠ .select cs b) (hsj : ∀ cs b, oj.op ≠ .select cs b)
    (hQ : ∀ c a w, Q (.panic c) (a.put oi.dst v) w → Q (.panic c) a w) {K : Act → World → Prop} {a : Act} {w : World}
    (hy : YieldsC P ops S oi v a) (h : wpOp P ops Q j K (a.put oi.dst v) w) :
    wpOp P ops Q j (fun a' w' => YieldsC P ops S oi v a' ∧ K (a'.put oi.dst v) w') a w := by
  obtain ⟨h1, h2, h3⟩ := Oper.apart_spec hap
  have keep : ∀ (a : Act), YieldsC P ops S oi v a → ∀ u, YieldsC P ops S oi v (a.put oj.dst u) := fun a hy u =>
    hy.of_same (execOp_put oi hsi a oj.dst u h3) (wanted_put oi a oj.dst u h3)
  have keepD : ∀ d, YieldsC P ops S oi v { a with defers := d :: a.defers } := fun d => hy.of_same rfl rfl
  unfold wpOp at *
  simp only [hj] at *
  rw [wanted_put oj a oi.dst v h1] at h
  split
  · rename_i hw
    simp only [hw, if_true] at h
    rcases h with h | ⟨hasks, hlets⟩
    case inr => exact .inr ⟨by unfold Oper.asks at *; rw [execOp_put oj hsj a oi.dst v h1] at hasks; exact hasks, hlets⟩
    refine .inl ?_
    unfold Oper.wp at *
    rw [execOp_put oj hsj a oi.dst v h1] at h
    generalize (execOp a.eval oj).run P w = r at *
    cases r with
    | ok n w' =>
      cases n <;> simp only [Oper.upon] at h ⊢
      case value u => exact ⟨keep a hy u, by rw [← Act.put_comm a v u h2]; exact h⟩
      case skip => exact ⟨keep a hy _, by rw [← Act.put_comm a v undef h2]; exact h⟩
      case defer d =>
        refine ⟨keep _ (keepD d) _, ?_⟩
        rw [← Act.put_comm _ v undef h2, ← Act.put_defers]
        exact h
      case enter f args =>
        refine Calls.mono h fun e w'' he => ?_
        cases e with
        | returned u => exact ⟨keep a hy u, by rw [← Act.put_comm a v u h2]; exact he⟩
        | panicked c => exact hQ _ _ _ he
        | outgrown => exact he
      case row row args => exact Rows.mono h fun u w'' he => ⟨keep a hy u, by rw [← Act.put_comm a v u h2]; exact he⟩
    | halt x w' =>
      cases x <;> simp only [Oper.upon] at h ⊢
      case panic u => exact hQ _ _ _ h
  · rename_i hw
    simp only [hw] at h
    exact ⟨keep a hy _, by rw [← Act.put_comm a v undef h2]; exact h⟩
theorem AnyT.firstC {i : Nat} {oi : Oper} {v : Value} (hi : ops[i]? = some oi) (hsel : ∀ (j : Nat) (o : Oper) cs b, ops[j]? = some o → o.op ≠ .select cs b) (hQ : ∀ c a w, Q (.panic c) (a.put oi.dst v) w → Q (.panic c) a w)
    (hT : ∀ j ∈ T, ∀ oj, ops[j]? = some oj → ∃ e ∈ oj.after, Region.binds md e = true ∧ e.on = i) : ∀ (n : Nat) (listed : Array Bool) (a : Act) (w : World),
      (∀ j oj, ops[j]? = some oj → j ≠ i → listed.getD j true = false → (∀ e ∈ oj.after, Region.binds md e = true → e.on ≠ i) → oi.apart ops oj = true) →
      i ∈ Region.ready md ops listed → YieldsC P ops S oi v a → S w → AnyT P md ops Q S T n (listed.setIfInBounds i true) (a.put oi.dst v) w → AnyT P md ops Q S T (n + 1) listed a w := by
  intro n
  induction n with
  | zero =>
    intro listed a w _ hr hy hS H
    refine ⟨fun h => (by rw [h] at hr; cases hr), fun j hj => ?_⟩
    by_cases e : j = i
    · subst e; exact hy.wpOp hi hS ⟨fun _ => hS, H⟩
    · have h := ready_mono hj e
      rw [H.1] at h
      cases h
  | succ n ih =>
    intro listed a w hfree hr hy hS H
    refine ⟨fun h => (by rw [h] at hr; cases hr), fun j hj => ?_⟩
    by_cases e : j = i
    · subst e; exact hy.wpOp hi hS ⟨fun _ => hS, H⟩
    · obtain ⟨hun, oj, hoj, hall⟩ := mem_ready.1 hj
      have hwait : ∀ x ∈ oj.after, Region.binds md x = true → x.on ≠ i := fun x hx hb hon => by
        have a1 := hall x hx hb
        have a2 := (mem_ready.1 hr).1
        rw [hon] at a1
        rcases Nat.lt_or_ge i listed.size with hl | hl
        · simp [hl] at a1 a2; rw [a2] at a1; cases a1
        · simp [Array.getElem?_eq_none hl] at a1
      have hjT : j ∉ T := fun hm => by
        obtain ⟨x, hx, hb, hon⟩ := hT j hm oj hoj
        exact hwait x hx hb hon
      have hstep := wpOp_putC hoj (hfree j oj hoj e hun hwait) (fun cs b => hsel i oi cs b hi) (fun cs b => hsel j oj cs b hoj) hQ hy (H.2 j (ready_mono hj e))
      refine wpOp_mono (fun a' w' h3 => ⟨h3.2.1, ih (listed.setIfInBounds j true) a' w' (fun k ok hk hki hun' hno => hfree k ok hk hki ?_ hno) (ready_mono hr (Ne.symm e)) h3.1 (h3.2.1 hjT) ?_⟩) hstep
      · by_cases hjk : j = k
        · subst hjk; exact hun
        · rw [getD_set_ne true hjk] at hun'; exact hun'
      · rw [Array.setIfInBounds_comm _ _ e]
        exact h3.2.2
theorem run_make_own (t e : TypeId) (z : Value) (bytes : Nat) (ht : P.underlying t = some (.slice e)) (hinfo : (P.info? e).map (fun i => (i.zero, i.size, i.bytes)) = some (some z, 1, bytes)) (hz1 : z.cells = #[z]) (kl kc : IntKind)
    (x y : Int) (n m : Nat) (hx : x = (n : Int)) (hy : y = (m : Int)) (hnm : n ≤ m) (hb : bytes * m ≤ 281474976710656) (h63 : m ≤ 9223372036854775807) (w : World) :
    (Instr.makeSlice t (.int kl x) (.int kc y)).run P w = .ok (.slice (some ⟨w.heap.size, 0, none⟩) n m) (w.alloc (.cells (List.replicate m z).toArray e)) := by
  obtain ⟨i, hi, hzz⟩ := Option.map_eq_some_iff.1 hinfo
  simp only [Prod.mk.injEq] at hzz
  obtain ⟨hz, hs, hbt⟩ := hzz
  subst hx; subst hy
  have hbb : (i.bytes : Int) * (m : Int) ≤ 281474976710656 := by
    have h' : ((i.bytes * m : Nat) : Int) ≤ 281474976710656 := by rw [hbt]; omega
    rwa [Int.natCast_mul] at h'
  have hrun := run_make (P := P) w t e i z ht hi hz kl kc n m (by omega) (by omega) hbb (by omega)
  simp only [Int.toNat_natCast, hs, Nat.mul_one, hz1] at hrun
  have hmk : madeCells #[z] m = (List.replicate m z).toArray := Array.ext' (by rw [toList_madeCells_one])
  rw [hrun, hmk]
theorem AnyT.takeC {i : Nat} {oi : Oper} {v : Value} {n : Nat} {listed : Array Bool} {a : Act} {w : World} (hi : ops[i]? = some oi) (hs : Region.noSelect ops = true) (hf : Region.free md ops listed i = true)
    (hr : (Region.ready md ops listed).contains i = true) (hT : waits md ops T i = true) (hQ : ∀ c a w, Q (.panic c) (a.put oi.dst v) w → Q (.panic c) a w) (hy : YieldsC P ops S oi v a) (hS : S w)
    (h : AnyT P md ops Q S T n (listed.setIfInBounds i true) (a.put oi.dst v) w) : AnyT P md ops Q S T (n + 1) listed a w :=
  AnyT.firstC hi (Region.noSelect_spec hs) hQ (waits_spec hT) n listed a w (Region.free_spec hi hf) (by simpa using hr) hy hS h
end
end Go.Proofs.YtloflmcgbbbnjaaDoor
