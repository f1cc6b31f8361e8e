/-
  impl.replay: calls that are taken; keys and values cut out of a batch's data.
-/
import Derived.Test.YtloflmcgbbbnjaaLoad
import Derived.Test.YtloflmcgbbbnjaaCopied
import Derived.Test.YtloflmcgbbbnjaaTail
namespace Go.Proofs.Ytloflmcgbbbnjaa
open Go.RowKit Plain
set_option linter.all false

theorem Try.info_p2 : (Try.prog.info? 35).map (fun i => (i.zero, i.size, i.bytes)) = some (some (.agg #[.bool false, .slice none 0 0, .slice none 0 0]), 3, 56) := by kernel_rfl
/-- The same call. -/
def Alike (r r' : P2) : Prop := r.del = r'.del ∧ r.k = r'.k ∧ (r'.del = false → r.v = r'.v)
def AllAlike (a b : List P2) : Prop := a.length = b.length ∧ ∀ (i : Nat) (r r' : P2), a[i]? = some r → b[i]? = some r' → Alike r r'
theorem AllAlike.nil : AllAlike [] [] := ⟨rfl, fun i r r' h => by simp at h⟩
theorem AllAlike.snoc {a b : List P2} {x y : P2} (h : AllAlike a b) (hx : Alike x y) : AllAlike (a ++ [x]) (b ++ [y]) := by
  obtain ⟨h1, h2⟩ := h
  refine ⟨by simp [h1], fun i r r' hr hr' => ?_⟩
  rcases Nat.lt_or_ge i a.length with hi | hi
  · rw [List.getElem?_append_left hi] at hr
    rw [List.getElem?_append_left (by omega)] at hr'
    exact h2 i r r' hr hr'
  · rw [List.getElem?_append_right hi] at hr
    rw [List.getElem?_append_right (by omega)] at hr'
    have h0 : i - a.length = 0 := by
      have := (List.getElem?_eq_some_iff.1 hr).1
      simp at this; omega
    rw [h0] at hr
    rw [← h1, h0] at hr'
    simp at hr hr'
    subst hr; subst hr'
    exact hx
/-- What has been taken: the rows of its keys and values lie in Fx. -/
def RepF (rp : Nat) (ops : List P2) (w0 : World) (Fx F : List Fr) : Prop :=
  ∃ oA oc Fo, Row 35 3 oA ops.length oc (ops.flatMap P2.cells) Fo ∧ F = fw rp 60 [.slice oA ops.length oc] :: (Fo ++ Fx) ∧ ∀ r ∈ ops, Rd Fx w0 r.ka r.k ∧ Rd Fx w0 r.va r.v ∧ r.k.length ≤ r.kc ∧ r.v.length ≤ r.vc
def RepOut (rp : Nat) (ops : List P2) (w0 : World) (R : List Fr) (e : Ending) (w' : World) : Prop :=
  e = .returned (.tuple #[]) ∧ ∃ Fx F, RepF rp ops w0 Fx F ∧ Own (F ++ R) w0 w'
theorem rep_hdr {rp : Nat} {v : Value} {R : List Fr} {w0 w : World} (hO : Own (fw rp 60 [v] :: R) w0 w) : w.cell? ⟨rp, 0, none⟩ = some v ∧ (∀ j, w.frozen? ⟨rp, j, none⟩ = false) ∧ rp < w.heap.size :=
  ⟨hO.cell 0 rfl 0 rfl (by simp), fun j => hO.frozen 0 rfl j, hO.head.lt⟩
def RepTook (rp : Nat) (ops : List P2) (x : P2) (w0 : World) (R : List Fr) (e : Ending) (w' : World) : Prop := ∃ y, Alike y x ∧ RepOut rp (ops ++ [y]) w0 R e w'

set_option maxHeartbeats 3200000 in
set_option maxRecDepth 100000 in
theorem rep_put (rp kc vc kn vn : Nat) (kA vA : Option Addr) (ops : List P2) (x : P2) (Fx F R : List Fr) (w0 w : World) (h : RepF rp ops w0 Fx F) (hO : Own (F ++ R) w0 w) (hk : Rd R w0 kA x.k) (hv : Rd R w0 vA x.v) (hkn : kn = x.k.length) (hvn : vn = x.v.length)
    (hx : x.del = false) (hkl : x.k.length ≤ 140737488355328) (hvl : x.v.length ≤ 140737488355328) (hn : ops.length ≤ 1073741824) :
    Calls Try.prog 52 #[.pointer (some ⟨rp, 0, none⟩), .slice kA kn kc, .slice vA vn vc] w (RepTook rp ops x w0 R) := by
  obtain ⟨oA, oc, Fo, hR, rfl, hr⟩ := h
  subst hkn; subst hvn
  have HR := hid hR
  have HX := hid hx
  have HRR := hid hr
  obtain ⟨q0, qf, ql⟩ := rep_hdr hO
  have hk1 := hO.drew.st hk (fun x hx => by simp [hx])
  have HK1 := hid hk1
  have HV := hid hv
  have HO := hid hO
  clear hO hR hk hv hx hr hk1
  go_enter Try.func52, Try.ntmps52
  go_wp2_with fail
  refine AnyT.start (S := fun w' => w'.cell? ⟨rp, 0, none⟩ = some (.slice oA ops.length oc)) (T := [14]) (by kernel_rfl) (q0) (fun hHeld => ?_)
  refine AnyT.take (i := 0) (v := ?_) (by simp only [List.getElem?_toArray, List.getElem?_cons_succ, List.getElem?_cons_zero]; rfl) (by kernel_rfl) (by kernel_rfl) (by kernel_rfl) (by kernel_rfl) (by intro _ _ _ h; exact h) (Or.inl ⟨by rfl, fun w hSw => ?_⟩) hHeld ?_
  rotate_left
  · ((try dsimp only at hSw); go_simp; first | done | with_reducible rfl | rfl)
  try simp only [Act.put, List.setIfInBounds_toArray, List.set_cons_zero, List.set_cons_succ]
  refine AnyT.take (i := 1) (v := ?_) (by simp only [List.getElem?_toArray, List.getElem?_cons_succ, List.getElem?_cons_zero]; rfl) (by kernel_rfl) (by kernel_rfl) (by kernel_rfl) (by kernel_rfl) (by intro _ _ _ h; exact h) (Or.inl ⟨by rfl, fun w hSw => ?_⟩) hHeld ?_
  rotate_left
  · ((try dsimp only at hSw); go_simp; first | done | with_reducible rfl | rfl)
  try simp only [Act.put, List.setIfInBounds_toArray, List.set_cons_zero, List.set_cons_succ]
  refine AnyT.take (i := 2) (v := ?_) (by simp only [List.getElem?_toArray, List.getElem?_cons_succ, List.getElem?_cons_zero]; rfl) (by kernel_rfl) (by kernel_rfl) (by kernel_rfl) (by kernel_rfl) (by intro _ _ _ h; exact h) (Or.inl ⟨by rfl, fun w hSw => ?_⟩) hHeld ?_
  rotate_left
  · ((try dsimp only at hSw); go_simp; first | done | with_reducible rfl | rfl)
  try simp only [Act.put, List.setIfInBounds_toArray, List.set_cons_zero, List.set_cons_succ]
  refine AnyT.take (i := 3) (v := ?_) (by simp only [List.getElem?_toArray, List.getElem?_cons_succ, List.getElem?_cons_zero]; rfl) (by kernel_rfl) (by kernel_rfl) (by kernel_rfl) (by kernel_rfl) (by intro _ _ _ h; exact h) (Or.inl ⟨by rfl, fun w hSw => ?_⟩) hHeld ?_
  rotate_left
  · ((try dsimp only at hSw); go_simp; first | done | with_reducible rfl | rfl)
  try simp only [Act.put, List.setIfInBounds_toArray, List.set_cons_zero, List.set_cons_succ]
  refine AnyT.take (i := 4) (v := ?_) (by simp only [List.getElem?_toArray, List.getElem?_cons_succ, List.getElem?_cons_zero]; rfl) (by kernel_rfl) (by kernel_rfl) (by kernel_rfl) (by kernel_rfl) (by intro _ _ _ h; exact h) (Or.inl ⟨by rfl, fun w hSw => ?_⟩) hHeld ?_
  rotate_left
  · ((try dsimp only at hSw); go_simp; first | done | with_reducible rfl | rfl)
  try simp only [Act.put, List.setIfInBounds_toArray, List.set_cons_zero, List.set_cons_succ]
  refine AnyT.take (i := 5) (v := ?_) (by simp only [List.getElem?_toArray, List.getElem?_cons_succ, List.getElem?_cons_zero]; rfl) (by kernel_rfl) (by kernel_rfl) (by kernel_rfl) (by kernel_rfl) (by intro _ _ _ h; exact h) (Or.inl ⟨by rfl, fun w hSw => ?_⟩) hHeld ?_
  rotate_left
  · ((try dsimp only at hSw); go_simp; first | done | with_reducible rfl | rfl)
  try simp only [Act.put, List.setIfInBounds_toArray, List.set_cons_zero, List.set_cons_succ]
  refine AnyT.take (i := 7) (v := ?_) (by simp only [List.getElem?_toArray, List.getElem?_cons_succ, List.getElem?_cons_zero]; rfl) (by kernel_rfl) (by kernel_rfl) (by kernel_rfl) (by kernel_rfl) (by intro _ _ _ h; exact h) (Or.inl ⟨by rfl, fun w hSw => ?_⟩) hHeld ?_
  rotate_left
  · ((try dsimp only at hSw); go_simp; first | done | with_reducible rfl | rfl)
  try simp only [Act.put, List.setIfInBounds_toArray, List.set_cons_zero, List.set_cons_succ]
  refine AnyT.ready (rs := [6]) (by kernel_rfl) (by simp) ?_
  refine AllT.cons (by simp only [List.getElem?_toArray, List.getElem?_cons_succ, List.getElem?_cons_zero]; rfl) (fun K hK => ?_) AllT.nil
  go_simp
  refine (copied_own kA x.k.length kc x.k (fw rp 60 [.slice oA ops.length oc] :: (Fo ++ Fx ++ R)) w0 _ HK1.out HO.out.drew rfl hkl).mono ?_
  intro e w1 hret
  obtain ⟨A1, c1, F1, n1, hn1, rfl, hr1, hO1⟩ := hret
  clear q0 qf ql
  obtain ⟨q0, qf, ql⟩ := rep_hdr (rp := rp) (v := .slice oA ops.length oc) (R := Fo ++ Fx ++ R ++ F1) (hO1.out.perm (perm_of fun _ _ z => by simp only [List.count_append, List.count_cons, List.cons_append, List.count_nil, List.nil_append, List.append_nil]; omega))
  try go_wp2_with fail
  refine hK.out _ _ ?_ (fun hHeld => ?_)
  · exact q0
  clear hK
  try simp only [Act.put, List.setIfInBounds_toArray, List.set_cons_zero, List.set_cons_succ]
  have hv1 := hO1.out.st HV.out (fun x hx => by simp [hx])
  have HV1 := hid hv1
  clear hv1
  refine AnyT.ready (rs := [8]) (by kernel_rfl) (by simp) ?_
  refine AllT.cons (by simp only [List.getElem?_toArray, List.getElem?_cons_succ, List.getElem?_cons_zero]; rfl) (fun K hK => ?_) AllT.nil
  go_simp
  refine (copied_own vA x.v.length vc x.v (F1 ++ (fw rp 60 [.slice oA ops.length oc] :: (Fo ++ Fx ++ R))) w0 _ HV1.out hO1.out rfl hvl).mono ?_
  intro e w2 hret
  obtain ⟨A2, c2, F2, n2, hn2, rfl, hr2, hO2⟩ := hret
  clear q0 qf ql
  obtain ⟨q0, qf, ql⟩ := rep_hdr (rp := rp) (v := .slice oA ops.length oc) (R := Fo ++ Fx ++ R ++ F1 ++ F2) (hO2.out.perm (perm_of fun _ _ z => by simp only [List.count_append, List.count_cons, List.cons_append, List.count_nil, List.nil_append, List.append_nil]; omega))
  try go_wp2_with fail
  refine hK.out _ _ ?_ (fun hHeld => ?_)
  · exact q0
  clear hK
  try simp only [Act.put, List.setIfInBounds_toArray, List.set_cons_zero, List.set_cons_succ]
  refine AnyT.take (i := 9) (v := ?_) (by simp only [List.getElem?_toArray, List.getElem?_cons_succ, List.getElem?_cons_zero]; rfl) (by kernel_rfl) (by kernel_rfl) (by kernel_rfl) (by kernel_rfl) (by intro _ _ _ h; exact h) (Or.inl ⟨by rfl, fun w hSw => ?_⟩) hHeld ?_
  rotate_left
  · ((try dsimp only at hSw); go_simp; first | done | with_reducible rfl | rfl)
  try simp only [Act.put, List.setIfInBounds_toArray, List.set_cons_zero, List.set_cons_succ]
  refine AnyT.ready (rs := [10]) (by kernel_rfl) (by simp) ?_
  refine AllT.cons (by simp only [List.getElem?_toArray, List.getElem?_cons_succ, List.getElem?_cons_zero]; rfl) (fun K hK => ?_) AllT.nil
  go_simp
  refine hK.out _ _ ?_ (fun hHeld => ?_)
  · go_simp
  clear hK
  try simp only [Act.put, List.setIfInBounds_toArray, List.set_cons_zero, List.set_cons_succ]
  refine AnyT.ready (rs := [11]) (by kernel_rfl) (by simp) ?_
  refine AllT.cons (by simp only [List.getElem?_toArray, List.getElem?_cons_succ, List.getElem?_cons_zero]; rfl) (fun K hK => ?_) AllT.nil
  refine own_step_append rfl (.tmp 10) (.tmp 16) 28 rfl 35 (.agg #[.bool false, .slice none 0 0, .slice none 0 0]) 3 56 Try.underlying28 Try.info_p2 rfl (by decide) oA ops.length oc (ops.flatMap P2.cells) Fo rfl HR.out (R := fw rp 60 [.slice oA ops.length oc] :: (F2 ++ F1 ++ Fx ++ R)) ((hO2.out.skip _).perm (perm_of fun _ _ z => by simp only [List.count_append, List.count_cons, List.cons_append, List.count_nil, List.nil_append, List.append_nil]; omega)) (some ⟨w2.heap.size, 0, none⟩) 1 1 [.bool false, .slice A1 n1 c1, .slice A2 n2 c2] rfl rfl (csAt_all _ _ _) (by simp [Value.oneCell']) (by simp [maxLen]; omega) (by omega) ?_
  intro oA3 oc3 Fo3 w3 hR3 hO3 _
  clear q0 qf ql
  obtain ⟨q0, qf, ql⟩ := rep_hdr hO3.right
  have HR3 := hid hR3
  have HO3 := hid hO3
  clear hR3 hO3
  refine hK.out _ _ ?_ (fun hHeld => ?_)
  · exact q0
  clear hK
  try simp only [Act.put, List.setIfInBounds_toArray, List.set_cons_zero, List.set_cons_succ]
  refine AnyT.ready (rs := [12]) (by kernel_rfl) (by simp) ?_
  refine AllT.cons (by simp only [List.getElem?_toArray, List.getElem?_cons_succ, List.getElem?_cons_zero]; rfl) (fun K hK => ?_) AllT.nil
  go_simp
  refine hK.out _ _ ?_ (fun hHeld => ?_)
  · exact q0
  clear hK
  try simp only [Act.put, List.setIfInBounds_toArray, List.set_cons_zero, List.set_cons_succ]
  refine AnyT.take (i := 13) (v := ?_) (by simp only [List.getElem?_toArray, List.getElem?_cons_succ, List.getElem?_cons_zero]; rfl) (by kernel_rfl) (by kernel_rfl) (by kernel_rfl) (by kernel_rfl) (by intro _ _ _ h; exact h) (Or.inl ⟨by rfl, fun w hSw => ?_⟩) hHeld ?_
  rotate_left
  · ((try dsimp only at hSw); go_simp; first | done | with_reducible rfl | rfl)
  try simp only [Act.put, List.setIfInBounds_toArray, List.set_cons_zero, List.set_cons_succ]
  refine AnyT.ready (rs := [14]) (by kernel_rfl) (by simp) ?_
  refine AllT.late (by simp only [List.getElem?_toArray, List.getElem?_cons_succ, List.getElem?_cons_zero]; rfl) (by kernel_rfl) (fun K hK => ?_)
  go_simp
  refine hK.out _ _ ?_
  clear hK
  try simp only [Act.put, List.setIfInBounds_toArray, List.set_cons_zero, List.set_cons_succ]
  refine AnyT.done (by kernel_rfl) ?_ _
  go_end0
  refine ⟨⟨false, A1, c1, x.k, A2, c2, x.v⟩, ⟨HX.out.symm, rfl, fun _ => rfl⟩, rfl, F2 ++ (F1 ++ Fx), fw rp 60 [.slice oA3 (ops.length + 1) oc3] :: (Fo3 ++ (F2 ++ (F1 ++ Fx))), ⟨oA3, oc3, Fo3, ?_, ?_, fun r hr => ?_⟩, ?_⟩
  · rw [List.length_append, List.length_singleton, List.flatMap_append]
    have := HR3.out
    rw [hn1.out, hn2.out] at this
    simpa [P2.cells] using this
  · rw [List.length_append, List.length_singleton]
  · rcases List.mem_append.1 hr with hr | hr
    · obtain ⟨r1, r2, r3, r4⟩ := HRR.out r hr
      exact ⟨(r1.right F1).right F2, (r2.right F1).right F2, r3, r4⟩
    · simp at hr
      subst hr
      have l1 := hr1.out.le
      have l2 := hr2.out.le
      rw [hn1.out] at l1
      rw [hn2.out] at l2
      exact ⟨((hr1.out.rd w0).left Fx).right F2, (hr2.out.rd w0).left (F1 ++ Fx), l1, l2⟩
  · have h8 : Own (fw rp 60 [.slice oA3 (ops.length + 1) oc3] :: (Fo3 ++ (F2 ++ F1 ++ Fx ++ R))) w0 (w3.setCell ⟨rp, 0, none⟩ (.slice oA3 (ops.length + 1) oc3)) := (HO3.out.perm (L' := fw rp 60 [.slice oA ops.length oc] :: (Fo3 ++ (F2 ++ F1 ++ Fx ++ R))) (perm_of fun _ _ z => by simp only [List.count_append, List.count_cons, List.cons_append, List.count_nil, List.nil_append, List.append_nil]; omega)).set (k := 0) 0 rfl (by simp) (.slice oA3 (ops.length + 1) oc3)
    exact h8.perm (perm_of fun _ _ z => by simp only [List.count_append, List.count_cons, List.cons_append, List.count_nil, List.nil_append, List.append_nil]; omega)
set_option maxHeartbeats 3200000 in
set_option maxRecDepth 100000 in
theorem rep_del (rp kc kn : Nat) (kA : Option Addr) (ops : List P2) (x : P2) (Fx F R : List Fr) (w0 w : World) (h : RepF rp ops w0 Fx F) (hO : Own (F ++ R) w0 w) (hk : Rd R w0 kA x.k) (hkn : kn = x.k.length)
    (hx : x.del = true) (hkl : x.k.length ≤ 140737488355328) (hn : ops.length ≤ 1073741824) :
    Calls Try.prog 51 #[.pointer (some ⟨rp, 0, none⟩), .slice kA kn kc] w (RepTook rp ops x w0 R) := by
  obtain ⟨oA, oc, Fo, hR, rfl, hr⟩ := h
  subst hkn
  have HR := hid hR
  have HX := hid hx
  have HRR := hid hr
  obtain ⟨q0, qf, ql⟩ := rep_hdr hO
  have hk1 := hO.drew.st hk (fun x hx => by simp [hx])
  have HK1 := hid hk1
  have HO := hid hO
  clear hO hR hk hx hr hk1
  go_enter Try.func51, Try.ntmps51
  go_wp2_with fail
  refine AnyT.start (S := fun w' => w'.cell? ⟨rp, 0, none⟩ = some (.slice oA ops.length oc)) (T := [12]) (by kernel_rfl) (q0) (fun hHeld => ?_)
  refine AnyT.take (i := 0) (v := ?_) (by simp only [List.getElem?_toArray, List.getElem?_cons_succ, List.getElem?_cons_zero]; rfl) (by kernel_rfl) (by kernel_rfl) (by kernel_rfl) (by kernel_rfl) (by intro _ _ _ h; exact h) (Or.inl ⟨by rfl, fun w hSw => ?_⟩) hHeld ?_
  rotate_left
  · ((try dsimp only at hSw); go_simp; first | done | with_reducible rfl | rfl)
  try simp only [Act.put, List.setIfInBounds_toArray, List.set_cons_zero, List.set_cons_succ]
  refine AnyT.take (i := 1) (v := ?_) (by simp only [List.getElem?_toArray, List.getElem?_cons_succ, List.getElem?_cons_zero]; rfl) (by kernel_rfl) (by kernel_rfl) (by kernel_rfl) (by kernel_rfl) (by intro _ _ _ h; exact h) (Or.inl ⟨by rfl, fun w hSw => ?_⟩) hHeld ?_
  rotate_left
  · ((try dsimp only at hSw); go_simp; first | done | with_reducible rfl | rfl)
  try simp only [Act.put, List.setIfInBounds_toArray, List.set_cons_zero, List.set_cons_succ]
  refine AnyT.take (i := 2) (v := ?_) (by simp only [List.getElem?_toArray, List.getElem?_cons_succ, List.getElem?_cons_zero]; rfl) (by kernel_rfl) (by kernel_rfl) (by kernel_rfl) (by kernel_rfl) (by intro _ _ _ h; exact h) (Or.inl ⟨by rfl, fun w hSw => ?_⟩) hHeld ?_
  rotate_left
  · ((try dsimp only at hSw); go_simp; first | done | with_reducible rfl | rfl)
  try simp only [Act.put, List.setIfInBounds_toArray, List.set_cons_zero, List.set_cons_succ]
  refine AnyT.take (i := 3) (v := ?_) (by simp only [List.getElem?_toArray, List.getElem?_cons_succ, List.getElem?_cons_zero]; rfl) (by kernel_rfl) (by kernel_rfl) (by kernel_rfl) (by kernel_rfl) (by intro _ _ _ h; exact h) (Or.inl ⟨by rfl, fun w hSw => ?_⟩) hHeld ?_
  rotate_left
  · ((try dsimp only at hSw); go_simp; first | done | with_reducible rfl | rfl)
  try simp only [Act.put, List.setIfInBounds_toArray, List.set_cons_zero, List.set_cons_succ]
  refine AnyT.take (i := 4) (v := ?_) (by simp only [List.getElem?_toArray, List.getElem?_cons_succ, List.getElem?_cons_zero]; rfl) (by kernel_rfl) (by kernel_rfl) (by kernel_rfl) (by kernel_rfl) (by intro _ _ _ h; exact h) (Or.inl ⟨by rfl, fun w hSw => ?_⟩) hHeld ?_
  rotate_left
  · ((try dsimp only at hSw); go_simp; first | done | with_reducible rfl | rfl)
  try simp only [Act.put, List.setIfInBounds_toArray, List.set_cons_zero, List.set_cons_succ]
  refine AnyT.take (i := 5) (v := ?_) (by simp only [List.getElem?_toArray, List.getElem?_cons_succ, List.getElem?_cons_zero]; rfl) (by kernel_rfl) (by kernel_rfl) (by kernel_rfl) (by kernel_rfl) (by intro _ _ _ h; exact h) (Or.inl ⟨by rfl, fun w hSw => ?_⟩) hHeld ?_
  rotate_left
  · ((try dsimp only at hSw); go_simp; first | done | with_reducible rfl | rfl)
  try simp only [Act.put, List.setIfInBounds_toArray, List.set_cons_zero, List.set_cons_succ]
  refine AnyT.ready (rs := [6]) (by kernel_rfl) (by simp) ?_
  refine AllT.cons (by simp only [List.getElem?_toArray, List.getElem?_cons_succ, List.getElem?_cons_zero]; rfl) (fun K hK => ?_) AllT.nil
  go_simp
  refine (copied_own kA x.k.length kc x.k (fw rp 60 [.slice oA ops.length oc] :: (Fo ++ Fx ++ R)) w0 _ HK1.out HO.out.drew rfl hkl).mono ?_
  intro e w1 hret
  obtain ⟨A1, c1, F1, n1, hn1, rfl, hr1, hO1⟩ := hret
  clear q0 qf ql
  obtain ⟨q0, qf, ql⟩ := rep_hdr (rp := rp) (v := .slice oA ops.length oc) (R := Fo ++ Fx ++ R ++ F1) (hO1.out.perm (perm_of fun _ _ z => by simp only [List.count_append, List.count_cons, List.cons_append, List.count_nil, List.nil_append, List.append_nil]; omega))
  try go_wp2_with fail
  refine hK.out _ _ ?_ (fun hHeld => ?_)
  · exact q0
  clear hK
  try simp only [Act.put, List.setIfInBounds_toArray, List.set_cons_zero, List.set_cons_succ]
  refine AnyT.take (i := 7) (v := ?_) (by simp only [List.getElem?_toArray, List.getElem?_cons_succ, List.getElem?_cons_zero]; rfl) (by kernel_rfl) (by kernel_rfl) (by kernel_rfl) (by kernel_rfl) (by intro _ _ _ h; exact h) (Or.inl ⟨by rfl, fun w hSw => ?_⟩) hHeld ?_
  rotate_left
  · ((try dsimp only at hSw); go_simp; first | done | with_reducible rfl | rfl)
  try simp only [Act.put, List.setIfInBounds_toArray, List.set_cons_zero, List.set_cons_succ]
  refine AnyT.ready (rs := [8]) (by kernel_rfl) (by simp) ?_
  refine AllT.cons (by simp only [List.getElem?_toArray, List.getElem?_cons_succ, List.getElem?_cons_zero]; rfl) (fun K hK => ?_) AllT.nil
  go_simp
  refine hK.out _ _ ?_ (fun hHeld => ?_)
  · go_simp
  clear hK
  try simp only [Act.put, List.setIfInBounds_toArray, List.set_cons_zero, List.set_cons_succ]
  refine AnyT.ready (rs := [9]) (by kernel_rfl) (by simp) ?_
  refine AllT.cons (by simp only [List.getElem?_toArray, List.getElem?_cons_succ, List.getElem?_cons_zero]; rfl) (fun K hK => ?_) AllT.nil
  refine own_step_append rfl (.tmp 8) (.tmp 12) 28 rfl 35 (.agg #[.bool false, .slice none 0 0, .slice none 0 0]) 3 56 Try.underlying28 Try.info_p2 rfl (by decide) oA ops.length oc (ops.flatMap P2.cells) Fo rfl HR.out (R := fw rp 60 [.slice oA ops.length oc] :: (F1 ++ Fx ++ R)) ((hO1.out.skip _).perm (perm_of fun _ _ z => by simp only [List.count_append, List.count_cons, List.cons_append, List.count_nil, List.nil_append, List.append_nil]; omega)) (some ⟨w1.heap.size, 0, none⟩) 1 1 [.bool true, .slice A1 n1 c1, .slice none 0 0] rfl rfl (csAt_all _ _ _) (by simp [Value.oneCell']) (by simp [maxLen]; omega) (by omega) ?_
  intro oA3 oc3 Fo3 w3 hR3 hO3 _
  clear q0 qf ql
  obtain ⟨q0, qf, ql⟩ := rep_hdr hO3.right
  have HR3 := hid hR3
  have HO3 := hid hO3
  clear hR3 hO3
  refine hK.out _ _ ?_ (fun hHeld => ?_)
  · exact q0
  clear hK
  try simp only [Act.put, List.setIfInBounds_toArray, List.set_cons_zero, List.set_cons_succ]
  refine AnyT.ready (rs := [10]) (by kernel_rfl) (by simp) ?_
  refine AllT.cons (by simp only [List.getElem?_toArray, List.getElem?_cons_succ, List.getElem?_cons_zero]; rfl) (fun K hK => ?_) AllT.nil
  go_simp
  refine hK.out _ _ ?_ (fun hHeld => ?_)
  · exact q0
  clear hK
  try simp only [Act.put, List.setIfInBounds_toArray, List.set_cons_zero, List.set_cons_succ]
  refine AnyT.take (i := 11) (v := ?_) (by simp only [List.getElem?_toArray, List.getElem?_cons_succ, List.getElem?_cons_zero]; rfl) (by kernel_rfl) (by kernel_rfl) (by kernel_rfl) (by kernel_rfl) (by intro _ _ _ h; exact h) (Or.inl ⟨by rfl, fun w hSw => ?_⟩) hHeld ?_
  rotate_left
  · ((try dsimp only at hSw); go_simp; first | done | with_reducible rfl | rfl)
  try simp only [Act.put, List.setIfInBounds_toArray, List.set_cons_zero, List.set_cons_succ]
  refine AnyT.ready (rs := [12]) (by kernel_rfl) (by simp) ?_
  refine AllT.late (by simp only [List.getElem?_toArray, List.getElem?_cons_succ, List.getElem?_cons_zero]; rfl) (by kernel_rfl) (fun K hK => ?_)
  go_simp
  refine hK.out _ _ ?_
  clear hK
  try simp only [Act.put, List.setIfInBounds_toArray, List.set_cons_zero, List.set_cons_succ]
  refine AnyT.done (by kernel_rfl) ?_ _
  go_end0
  refine ⟨⟨true, A1, c1, x.k, none, 0, []⟩, ⟨HX.out.symm, rfl, fun h => (by rw [HX.out] at h; cases h)⟩, rfl, F1 ++ Fx, fw rp 60 [.slice oA3 (ops.length + 1) oc3] :: (Fo3 ++ (F1 ++ Fx)), ⟨oA3, oc3, Fo3, ?_, ?_, fun r hr => ?_⟩, ?_⟩
  · rw [List.length_append, List.length_singleton, List.flatMap_append]
    have := HR3.out
    rw [hn1.out] at this
    simpa [P2.cells] using this
  · rw [List.length_append, List.length_singleton]
  · rcases List.mem_append.1 hr with hr | hr
    · obtain ⟨r1, r2, r3, r4⟩ := HRR.out r hr
      exact ⟨r1.right F1, r2.right F1, r3, r4⟩
    · simp at hr
      subst hr
      have l1 := hr1.out.le
      rw [hn1.out] at l1
      exact ⟨(hr1.out.rd w0).left Fx, Rd.nil _ _ _, l1, Nat.le_refl _⟩
  · have h8 : Own (fw rp 60 [.slice oA3 (ops.length + 1) oc3] :: (Fo3 ++ (F1 ++ Fx ++ R))) w0 (w3.setCell ⟨rp, 0, none⟩ (.slice oA3 (ops.length + 1) oc3)) := (HO3.out.perm (L' := fw rp 60 [.slice oA ops.length oc] :: (Fo3 ++ (F1 ++ Fx ++ R))) (perm_of fun _ _ z => by simp only [List.count_append, List.count_cons, List.cons_append, List.count_nil, List.nil_append, List.append_nil]; omega)).set (k := 0) 0 rfl (by simp) (.slice oA3 (ops.length + 1) oc3)
    exact h8.perm (perm_of fun _ _ z => by simp only [List.count_append, List.count_cons, List.cons_append, List.count_nil, List.nil_append, List.append_nil]; omega)
end Go.Proofs.Ytloflmcgbbbnjaa
