/-
  laws.read, kind by kind.
-/
import Derived.Test.YtloflmcgbbbnjaaDoorMemM13
import Derived.Test.YtloflmcgbbbnjaaDoorMemM12
namespace Go.Proofs.YtloflmcgbbbnjaaDoor
open Go.RowKit Plain
set_option linter.all false
set_option maxHeartbeats 6400000 in
set_option maxRecDepth 100000 in
theorem read_2 (a : MAn) (m : List Pr) (r : MO) (mA : Option Addr) (n mc ln vl kn vn : Nat) (w : World) (h : RdIn a m r mA n mc ln vl kn vn w) (hkd : r.kind = 2) :
    Calls Tryd.prog 31 #[.agg #[.slice a.pA ln a.pc, .slice a.vA vl a.vc, .int .i64 a.n, .bool a.ok], .slice mA n mc, .agg #[.int .i64 r.kind, .slice r.ka kn r.kc, .slice r.va vn r.vc, .int .i64 r.n]] w fun e w' => e = .returned (.bool true) ∧ Only [] w w' := by
  obtain ⟨q, hq⟩ : ∃ q, w.heap.size = q := ⟨_, rfl⟩
  have hO := ((Own.start w).alloc' hq 58 [.slice a.pA ln a.pc, .slice a.vA vl a.vc, .int .i64 a.n, .bool a.ok]).alloc' (g := q + 1) (by simp [hq]) 67 [.int .i64 r.kind, .slice r.ka kn r.kc, .slice r.va vn r.vc, .int .i64 r.n]
  have HO := hid hO
  have HQ := hid hq
  have HH := hid h
  have b1 := h.b1
  have b2 := h.b2
  have b3 := h.b3
  have ht := h.t.c2 hkd
  rw [mIs_kvs', mAt_kvs'] at ht
  have HT := hid ht
  obtain ⟨i, hi⟩ : ∃ i, mAt Pr.k m r.k = i := ⟨_, rfl⟩
  obtain ⟨z, hz⟩ : ∃ z, mIs Pr.k m r.k = z := ⟨_, rfl⟩
  have HI := hid (And.intro hi hz)
  have e2 : (r.kind == 2) = true := by rw [hkd]; rfl
  clear h hO hq hkd ht hi hz
  go_enter Tryd.func31, Tryd.ntmps31
  go_upto_region 1 with fail
  rw [HQ.out]
  generalize (World.alloc _ _) = W at HO ⊢
  obtain ⟨q2, hq2⟩ : ∃ q2, q + 1 = q2 := ⟨_, rfl⟩
  rw [hq2] at HO ⊢
  clear hq2
  have o1 : W.cell? ⟨q2, 1, none⟩ = some (.slice r.ka kn r.kc) := HO.out.cell 0 rfl (k := 1) 1 rfl (by simp)
  have hw := HO.out.only
  have hat := mapAt mA r.ka mc r.kc m r.k W (HH.out.hm.keep0 hw) (HH.out.hr.hk.keep0 hw) (by have := HH.out.b2; have := HH.out.n4; omega) (fun x hx => by have := HH.out.b4 x hx; omega) (by have := HH.out.n1; omega)
  rw [← HH.out.n1, ← HH.out.n4, HI.out.1, HI.out.2] at hat
  have HAT := hid hat
  clear hw hat
  go_wp2_with fail
  refine HAT.out.mono ?_
  rintro e w2 ⟨rfl, hd2⟩
  have HO2 := hid (HO.out.dr hd2)
  clear hd2 o1 HAT
  have o0 : w2.cell? ⟨q2, 0, none⟩ = some (.int .i64 r.kind) := HO2.out.cell 0 rfl (k := 0) 0 rfl (by simp)
  have o1 : w2.cell? ⟨q2, 1, none⟩ = some (.slice r.ka kn r.kc) := HO2.out.cell 0 rfl (k := 1) 1 rfl (by simp)
  have o2 : w2.cell? ⟨q2, 2, none⟩ = some (.slice r.va vn r.vc) := HO2.out.cell 0 rfl (k := 2) 2 rfl (by simp)
  have o3 : w2.cell? ⟨q2, 3, none⟩ = some (.int .i64 r.n) := HO2.out.cell 0 rfl (k := 3) 3 rfl (by simp)
  have a0 : w2.cell? ⟨q, 0, none⟩ = some (.slice a.pA ln a.pc) := HO2.out.cell 1 rfl (k := 0) 0 rfl (by simp)
  have a1 : w2.cell? ⟨q, 1, none⟩ = some (.slice a.vA vl a.vc) := HO2.out.cell 1 rfl (k := 1) 1 rfl (by simp)
  have a2 : w2.cell? ⟨q, 2, none⟩ = some (.int .i64 a.n) := HO2.out.cell 1 rfl (k := 2) 2 rfl (by simp)
  have a3 : w2.cell? ⟨q, 3, none⟩ = some (.bool a.ok) := HO2.out.cell 1 rfl (k := 3) 3 rfl (by simp)
  clear o1 o2 o3
  go_wp2_with fail
  clear o0
  refine AnyT.start (S := fun w' => w'.cell? ⟨q, 0, none⟩ = some (.slice a.pA ln a.pc) ∧ w'.cell? ⟨q, 1, none⟩ = some (.slice a.vA vl a.vc) ∧ w'.cell? ⟨q, 2, none⟩ = some (.int .i64 a.n) ∧ w'.cell? ⟨q, 3, none⟩ = some (.bool a.ok)) (T := []) (by kernel_rfl) (⟨a0, a1, a2, a3⟩) (fun hHeld => ?_)
  refine AnyT.take (i := 0) (v := ?_) (by simp only [List.getElem?_toArray, List.getElem?_cons_succ, List.getElem?_cons_zero]; rfl) (by kernel_rfl) (by kernel_rfl) (by kernel_rfl) (by kernel_rfl) (by intro _ _ _ h; exact h) (Or.inl ⟨by rfl, fun w hSw => ?_⟩) hHeld ?_
  rotate_left
  · ((try dsimp only at hSw); go_simp; first | done | with_reducible rfl | rfl)
  try simp only [Act.put, List.setIfInBounds_toArray, List.set_cons_zero, List.set_cons_succ]
  refine AnyT.take (i := 1) (v := ?_) (by simp only [List.getElem?_toArray, List.getElem?_cons_succ, List.getElem?_cons_zero]; rfl) (by kernel_rfl) (by kernel_rfl) (by kernel_rfl) (by kernel_rfl) (by intro _ _ _ h; exact h) (Or.inl ⟨by rfl, fun w hSw => ?_⟩) hHeld ?_
  rotate_left
  · ((try dsimp only at hSw); go_simp; first | done | with_reducible rfl | rfl)
  try simp only [Act.put, List.setIfInBounds_toArray, List.set_cons_zero, List.set_cons_succ]
  refine AnyT.take (i := 2) (v := ?_) (by simp only [List.getElem?_toArray, List.getElem?_cons_succ, List.getElem?_cons_zero]; rfl) (by kernel_rfl) (by kernel_rfl) (by kernel_rfl) (by kernel_rfl) (by intro _ _ _ h; exact h) (Or.inl ⟨by rfl, fun w hSw => ?_⟩) hHeld ?_
  rotate_left
  · ((try dsimp only at hSw); go_simp; first | done | with_reducible rfl | rfl)
  try simp only [Act.put, List.setIfInBounds_toArray, List.set_cons_zero, List.set_cons_succ]
  refine AnyT.take (i := 3) (v := ?_) (by simp only [List.getElem?_toArray, List.getElem?_cons_succ, List.getElem?_cons_zero]; rfl) (by kernel_rfl) (by kernel_rfl) (by kernel_rfl) (by kernel_rfl) (by intro _ _ _ h; exact h) (Or.inl ⟨by rfl, fun w hSw => ?_⟩) hHeld ?_
  rotate_left
  · ((try dsimp only at hSw); go_simp; first | done | with_reducible rfl | rfl)
  try simp only [Act.put, List.setIfInBounds_toArray, List.set_cons_zero, List.set_cons_succ]
  refine AnyT.ready (rs := [4]) (by kernel_rfl) (by simp) ?_
  refine AllT.cons (by simp only [List.getElem?_toArray, List.getElem?_cons_succ, List.getElem?_cons_zero]; rfl) (fun K hK => ?_) AllT.nil
  go_simp
  refine (at_any mA mc n i m _ (HH.out.hm.keep0 HO2.out.only.drew) HH.out.n1).mono ?_
  rintro e w3 ⟨p0, p1, rfl, hs0, hs1, hx, ho3⟩
  have HX := hid (show _ ∧ _ ∧ _ from ⟨hs0, hs1, hx⟩)
  have b0 := keepc ((Only.refl [] _).drew.trans ho3) a0
  have c1 := keepc ((Only.refl [] _).drew.trans ho3) a1
  have c2 := keepc ((Only.refl [] _).drew.trans ho3) a2
  have c3 := keepc ((Only.refl [] _).drew.trans ho3) a3
  have HO3 := hid (HO2.out.only.drew.trans ho3)
  clear hs0 hs1 hx ho3 a0 a1 a2 a3
  try go_wp2_with fail
  refine hK.out _ _ ?_ (fun hHeld => ?_)
  · exact ⟨b0, c1, c2, c3⟩
  clear hK
  try simp only [Act.put, List.setIfInBounds_toArray, List.set_cons_zero, List.set_cons_succ]
  refine AnyT.ready (rs := [5]) (by kernel_rfl) (by simp) ?_
  refine AllT.cons (by simp only [List.getElem?_toArray, List.getElem?_cons_succ, List.getElem?_cons_zero]; rfl) (fun K hK => ?_) AllT.nil
  go_simp
  cases z with
  | false =>
    have hok : a.ok = false := HT.out.1.trans HI.out.2
    rw [hok] at *
    obtain ⟨A0, B0, C0, h0⟩ := HX.out.1
    obtain ⟨A1, B1, C1, h1⟩ := HX.out.2.1
    refine (found_no a.pA a.vA ln a.pc vl a.vc a.n p0 p1 _ ⟨_, _, _, h0⟩ ⟨_, _, _, h1⟩).mono ?_
    rintro e w4 ⟨rfl, ho4⟩
    have u0 := keepc ho4 b0
    have u1 := keepc ho4 c1
    have u2 := keepc ho4 c2
    have u3 := keepc ho4 c3
    have HO4 := hid (HO3.out.trans ho4)
    clear ho4 b0 c1 c2 c3
    try go_wp2_with fail
    refine hK.out _ _ ?_ (fun hHeld => ?_)
    · exact ⟨u0, u1, u2, u3⟩
    clear hK
    try simp only [Act.put, List.setIfInBounds_toArray, List.set_cons_zero, List.set_cons_succ]
    refine AnyT.take (i := 6) (v := ?_) (by simp only [List.getElem?_toArray, List.getElem?_cons_succ, List.getElem?_cons_zero]; rfl) (by kernel_rfl) (by kernel_rfl) (by kernel_rfl) (by kernel_rfl) (by intro _ _ _ h; exact h) (Or.inl ⟨by rfl, fun w hSw => ?_⟩) hHeld ?_
    rotate_left
    · ((try dsimp only at hSw); go_simp; first | done | with_reducible rfl | rfl)
    try simp only [Act.put, List.setIfInBounds_toArray, List.set_cons_zero, List.set_cons_succ]
    refine AnyT.done (by kernel_rfl) ?_ _
    clear hHeld u0 u1 u2 u3
    go_wp2_with fail
    go_ret
    exact ⟨rfl, HO4.out⟩
  | true =>
    have hok : a.ok = true := HT.out.1.trans HI.out.2
    obtain ⟨pp, hpp, hps⟩ := HT.out.2 HI.out.2
    rw [HI.out.1] at hpp
    obtain ⟨y, hyl, hyk, hyv⟩ := kvs_one (l := a.l) hps
    have hxx : ∃ x, m[i]? = some x ∧ (x.k, x.v) = pp := by
      unfold kvs at hpp
      rw [List.getElem?_map, Option.map_eq_some_iff] at hpp
      exact hpp
    obtain ⟨x, hxm, hxe⟩ := hxx
    rw [← hxe] at hyk hyv
    rw [hok] at *
    obtain ⟨e0, e1⟩ := HX.out.2.2 x hxm
    subst e0; subst e1
    have hxr := (HH.out.hm.ok x (List.mem_of_getElem? hxm)).keep0 HO3.out
    have hln : ln = 1 := by rw [HH.out.n2, hyl]; rfl
    subst hln
    have hpy : Prs w3 a.pA [y] := by have := HH.out.ha.hp.keep0 HO3.out; rwa [hyl] at this
    refine (found_yes a.pA a.vA a.pc vl a.vc a.n y x _ hpy hxr hyk hyv).mono ?_
    rintro e w4 ⟨rfl, ho4⟩
    have u0 := keepc ho4 b0
    have u1 := keepc ho4 c1
    have u2 := keepc ho4 c2
    have u3 := keepc ho4 c3
    have HO4 := hid (HO3.out.trans ho4)
    clear ho4 b0 c1 c2 c3 hxr hpy
    try go_wp2_with fail
    refine hK.out _ _ ?_ (fun hHeld => ?_)
    · exact ⟨u0, u1, u2, u3⟩
    clear hK
    try simp only [Act.put, List.setIfInBounds_toArray, List.set_cons_zero, List.set_cons_succ]
    refine AnyT.take (i := 6) (v := ?_) (by simp only [List.getElem?_toArray, List.getElem?_cons_succ, List.getElem?_cons_zero]; rfl) (by kernel_rfl) (by kernel_rfl) (by kernel_rfl) (by kernel_rfl) (by intro _ _ _ h; exact h) (Or.inl ⟨by rfl, fun w hSw => ?_⟩) hHeld ?_
    rotate_left
    · ((try dsimp only at hSw); go_simp; first | done | with_reducible rfl | rfl)
    try simp only [Act.put, List.setIfInBounds_toArray, List.set_cons_zero, List.set_cons_succ]
    refine AnyT.done (by kernel_rfl) ?_ _
    clear hHeld u0 u1 u2 u3
    go_wp2_with fail
    go_ret
    exact ⟨rfl, HO4.out⟩
set_option maxHeartbeats 6400000 in
set_option maxRecDepth 100000 in
theorem read_3 (a : MAn) (m : List Pr) (r : MO) (mA : Option Addr) (n mc ln vl kn vn : Nat) (w : World) (h : RdIn a m r mA n mc ln vl kn vn w) (hkd : r.kind = 3) :
    Calls Tryd.prog 31 #[.agg #[.slice a.pA ln a.pc, .slice a.vA vl a.vc, .int .i64 a.n, .bool a.ok], .slice mA n mc, .agg #[.int .i64 r.kind, .slice r.ka kn r.kc, .slice r.va vn r.vc, .int .i64 r.n]] w fun e w' => e = .returned (.bool true) ∧ Only [] w w' := by
  obtain ⟨q, hq⟩ : ∃ q, w.heap.size = q := ⟨_, rfl⟩
  have hO := ((Own.start w).alloc' hq 58 [.slice a.pA ln a.pc, .slice a.vA vl a.vc, .int .i64 a.n, .bool a.ok]).alloc' (g := q + 1) (by simp [hq]) 67 [.int .i64 r.kind, .slice r.ka kn r.kc, .slice r.va vn r.vc, .int .i64 r.n]
  have HO := hid hO
  have HQ := hid hq
  have HH := hid h
  have b1 := h.b1
  have b2 := h.b2
  have b3 := h.b3
  have ht := h.t.c3 hkd
  rw [mAt_kvs'] at ht
  have HT := hid ht
  obtain ⟨i, hi⟩ : ∃ i, mAt Pr.k m r.k = i := ⟨_, rfl⟩
  obtain ⟨z, hz⟩ : ∃ z, mIs Pr.k m r.k = z := ⟨_, rfl⟩
  have HI := hid (And.intro hi hz)
  have e2 : (r.kind == 2) = false := by rw [hkd]; rfl
  have e3 : (r.kind == 3) = true := by rw [hkd]; rfl
  clear h hO hq hkd ht hi hz
  go_enter Tryd.func31, Tryd.ntmps31
  go_upto_region 1 with fail
  rw [HQ.out]
  generalize (World.alloc _ _) = W at HO ⊢
  obtain ⟨q2, hq2⟩ : ∃ q2, q + 1 = q2 := ⟨_, rfl⟩
  rw [hq2] at HO ⊢
  clear hq2
  have o1 : W.cell? ⟨q2, 1, none⟩ = some (.slice r.ka kn r.kc) := HO.out.cell 0 rfl (k := 1) 1 rfl (by simp)
  have hw := HO.out.only
  have hat := mapAt mA r.ka mc r.kc m r.k W (HH.out.hm.keep0 hw) (HH.out.hr.hk.keep0 hw) (by have := HH.out.b2; have := HH.out.n4; omega) (fun x hx => by have := HH.out.b4 x hx; omega) (by have := HH.out.n1; omega)
  rw [← HH.out.n1, ← HH.out.n4, HI.out.1, HI.out.2] at hat
  have HAT := hid hat
  clear hw hat
  go_wp2_with fail
  refine HAT.out.mono ?_
  rintro e w2 ⟨rfl, hd2⟩
  have HO2 := hid (HO.out.dr hd2)
  clear hd2 o1 HAT
  have o0 : w2.cell? ⟨q2, 0, none⟩ = some (.int .i64 r.kind) := HO2.out.cell 0 rfl (k := 0) 0 rfl (by simp)
  have o1 : w2.cell? ⟨q2, 1, none⟩ = some (.slice r.ka kn r.kc) := HO2.out.cell 0 rfl (k := 1) 1 rfl (by simp)
  have o2 : w2.cell? ⟨q2, 2, none⟩ = some (.slice r.va vn r.vc) := HO2.out.cell 0 rfl (k := 2) 2 rfl (by simp)
  have o3 : w2.cell? ⟨q2, 3, none⟩ = some (.int .i64 r.n) := HO2.out.cell 0 rfl (k := 3) 3 rfl (by simp)
  have a0 : w2.cell? ⟨q, 0, none⟩ = some (.slice a.pA ln a.pc) := HO2.out.cell 1 rfl (k := 0) 0 rfl (by simp)
  have a1 : w2.cell? ⟨q, 1, none⟩ = some (.slice a.vA vl a.vc) := HO2.out.cell 1 rfl (k := 1) 1 rfl (by simp)
  have a2 : w2.cell? ⟨q, 2, none⟩ = some (.int .i64 a.n) := HO2.out.cell 1 rfl (k := 2) 2 rfl (by simp)
  have a3 : w2.cell? ⟨q, 3, none⟩ = some (.bool a.ok) := HO2.out.cell 1 rfl (k := 3) 3 rfl (by simp)
  obtain ⟨zz, hzz⟩ : ∃ zz, decide (mAt Pr.k m r.k < (kvs m).length) = zz := ⟨_, rfl⟩
  have HZ := hid hzz
  have hlt3 : decide ((i : Int) < (n : Int)) = zz := by
    rw [← hzz, HI.out.1, kvs_length, ← HH.out.n1]
    by_cases h : i < n
    · rw [decide_eq_true h, decide_eq_true (by omega)]
    · rw [decide_eq_false h, decide_eq_false (by omega)]
  have hlt3' : decide (i < n) = zz := by rw [← hzz, HI.out.1, kvs_length, ← HH.out.n1]
  obtain ⟨nb, hnb⟩ : ∃ nb, (r.n == 1) = nb := ⟨_, rfl⟩
  have hok : a.ok = zz := HT.out.1.trans hzz
  have HOKZ := hid hok
  rw [hok] at a3 ⊢
  clear o1 o2 hzz hok
  cases zz with
  | false =>
    cases nb with
    | false =>
      cases z with
      | false =>
        go_wp2_with fail
        clear o0 o3
        refine AnyT.start (S := fun w' => w'.cell? ⟨q, 0, none⟩ = some (.slice a.pA ln a.pc) ∧ w'.cell? ⟨q, 1, none⟩ = some (.slice a.vA vl a.vc) ∧ w'.cell? ⟨q, 2, none⟩ = some (.int .i64 a.n) ∧ w'.cell? ⟨q, 3, none⟩ = some (.bool false)) (T := []) (by kernel_rfl) (⟨a0, a1, a2, a3⟩) (fun hHeld => ?_)
        refine AnyT.take (i := 0) (v := ?_) (by simp only [List.getElem?_toArray, List.getElem?_cons_succ, List.getElem?_cons_zero]; rfl) (by kernel_rfl) (by kernel_rfl) (by kernel_rfl) (by kernel_rfl) (by intro _ _ _ h; exact h) (Or.inl ⟨by rfl, fun w hSw => ?_⟩) hHeld ?_
        rotate_left
        · ((try dsimp only at hSw); go_simp; first | done | with_reducible rfl | rfl)
        try simp only [Act.put, List.setIfInBounds_toArray, List.set_cons_zero, List.set_cons_succ]
        refine AnyT.take (i := 1) (v := ?_) (by simp only [List.getElem?_toArray, List.getElem?_cons_succ, List.getElem?_cons_zero]; rfl) (by kernel_rfl) (by kernel_rfl) (by kernel_rfl) (by kernel_rfl) (by intro _ _ _ h; exact h) (Or.inl ⟨by rfl, fun w hSw => ?_⟩) hHeld ?_
        rotate_left
        · ((try dsimp only at hSw); go_simp; first | done | with_reducible rfl | rfl)
        try simp only [Act.put, List.setIfInBounds_toArray, List.set_cons_zero, List.set_cons_succ]
        refine AnyT.take (i := 2) (v := ?_) (by simp only [List.getElem?_toArray, List.getElem?_cons_succ, List.getElem?_cons_zero]; rfl) (by kernel_rfl) (by kernel_rfl) (by kernel_rfl) (by kernel_rfl) (by intro _ _ _ h; exact h) (Or.inl ⟨by rfl, fun w hSw => ?_⟩) hHeld ?_
        rotate_left
        · ((try dsimp only at hSw); go_simp; first | done | with_reducible rfl | rfl)
        try simp only [Act.put, List.setIfInBounds_toArray, List.set_cons_zero, List.set_cons_succ]
        refine AnyT.take (i := 3) (v := ?_) (by simp only [List.getElem?_toArray, List.getElem?_cons_succ, List.getElem?_cons_zero]; rfl) (by kernel_rfl) (by kernel_rfl) (by kernel_rfl) (by kernel_rfl) (by intro _ _ _ h; exact h) (Or.inl ⟨by rfl, fun w hSw => ?_⟩) hHeld ?_
        rotate_left
        · ((try dsimp only at hSw); go_simp; first | done | with_reducible rfl | rfl)
        try simp only [Act.put, List.setIfInBounds_toArray, List.set_cons_zero, List.set_cons_succ]
        refine AnyT.take (i := 4) (v := ?_) (by simp only [List.getElem?_toArray, List.getElem?_cons_succ, List.getElem?_cons_zero]; rfl) (by kernel_rfl) (by kernel_rfl) (by kernel_rfl) (by kernel_rfl) (by intro _ _ _ h; exact h) (Or.inl ⟨by rfl, fun w hSw => ?_⟩) hHeld ?_
        rotate_left
        · ((try dsimp only at hSw); go_simp; first | done | with_reducible rfl | rfl)
        try simp only [Act.put, List.setIfInBounds_toArray, List.set_cons_zero, List.set_cons_succ]
        refine AnyT.take (i := 5) (v := ?_) (by simp only [List.getElem?_toArray, List.getElem?_cons_succ, List.getElem?_cons_zero]; rfl) (by kernel_rfl) (by kernel_rfl) (by kernel_rfl) (by kernel_rfl) (by intro _ _ _ h; exact h) (Or.inl ⟨by rfl, fun w hSw => ?_⟩) hHeld ?_
        rotate_left
        · ((try dsimp only at hSw); go_simp; first | done | with_reducible rfl | rfl)
        try simp only [Act.put, List.setIfInBounds_toArray, List.set_cons_zero, List.set_cons_succ]
        refine AnyT.take (i := 6) (v := ?_) (by simp only [List.getElem?_toArray, List.getElem?_cons_succ, List.getElem?_cons_zero]; rfl) (by kernel_rfl) (by kernel_rfl) (by kernel_rfl) (by kernel_rfl) (by intro _ _ _ h; exact h) (Or.inl ⟨by rfl, fun w hSw => ?_⟩) hHeld ?_
        rotate_left
        · ((try dsimp only at hSw); go_simp; first | done | with_reducible rfl | rfl)
        try simp only [Act.put, List.setIfInBounds_toArray, List.set_cons_zero, List.set_cons_succ]
        refine AnyT.ready (rs := [7]) (by kernel_rfl) (by simp) ?_
        refine AllT.cons (by simp only [List.getElem?_toArray, List.getElem?_cons_succ, List.getElem?_cons_zero]; rfl) (fun K hK => ?_) AllT.nil
        go_simp
        refine (at_any mA mc n i m _ (HH.out.hm.keep0 HO2.out.only.drew) HH.out.n1).mono ?_
        rintro e w3 ⟨p0, p1, rfl, hs0, hs1, hx, ho3⟩
        have HX := hid (show _ ∧ _ ∧ _ from ⟨hs0, hs1, hx⟩)
        have b0 := keepc ((Only.refl [] _).drew.trans ho3) a0
        have c1 := keepc ((Only.refl [] _).drew.trans ho3) a1
        have c2 := keepc ((Only.refl [] _).drew.trans ho3) a2
        have c3 := keepc ((Only.refl [] _).drew.trans ho3) a3
        have HO3 := hid (HO2.out.only.drew.trans ho3)
        clear hs0 hs1 hx ho3 a0 a1 a2 a3
        try go_wp2_with fail
        refine hK.out _ _ ?_ (fun hHeld => ?_)
        · exact ⟨b0, c1, c2, c3⟩
        clear hK
        try simp only [Act.put, List.setIfInBounds_toArray, List.set_cons_zero, List.set_cons_succ]
        refine AnyT.ready (rs := [8]) (by kernel_rfl) (by simp) ?_
        refine AllT.cons (by simp only [List.getElem?_toArray, List.getElem?_cons_succ, List.getElem?_cons_zero]; rfl) (fun K hK => ?_) AllT.nil
        go_simp
        obtain ⟨A0, B0, C0, h0⟩ := HX.out.1
        obtain ⟨A1, B1, C1, h1⟩ := HX.out.2.1
        refine (found_no a.pA a.vA ln a.pc vl a.vc a.n p0 p1 _ ⟨_, _, _, h0⟩ ⟨_, _, _, h1⟩).mono ?_
        rintro e w4 ⟨rfl, ho4⟩
        have u0 := keepc ho4 b0
        have u1 := keepc ho4 c1
        have u2 := keepc ho4 c2
        have u3 := keepc ho4 c3
        have HO4 := hid (HO3.out.trans ho4)
        clear ho4 b0 c1 c2 c3
        try go_wp2_with fail
        refine hK.out _ _ ?_ (fun hHeld => ?_)
        · exact ⟨u0, u1, u2, u3⟩
        clear hK
        try simp only [Act.put, List.setIfInBounds_toArray, List.set_cons_zero, List.set_cons_succ]
        refine AnyT.take (i := 9) (v := ?_) (by simp only [List.getElem?_toArray, List.getElem?_cons_succ, List.getElem?_cons_zero]; rfl) (by kernel_rfl) (by kernel_rfl) (by kernel_rfl) (by kernel_rfl) (by intro _ _ _ h; exact h) (Or.inl ⟨by rfl, fun w hSw => ?_⟩) hHeld ?_
        rotate_left
        · ((try dsimp only at hSw); go_simp; first | done | with_reducible rfl | rfl)
        try simp only [Act.put, List.setIfInBounds_toArray, List.set_cons_zero, List.set_cons_succ]
        refine AnyT.done (by kernel_rfl) ?_ _
        clear hHeld u0 u1 u2 u3
        go_wp2_with fail
        go_ret
        exact ⟨rfl, HO4.out⟩
      | true =>
        go_wp2_with fail
        clear o0 o3
        refine AnyT.start (S := fun w' => w'.cell? ⟨q, 0, none⟩ = some (.slice a.pA ln a.pc) ∧ w'.cell? ⟨q, 1, none⟩ = some (.slice a.vA vl a.vc) ∧ w'.cell? ⟨q, 2, none⟩ = some (.int .i64 a.n) ∧ w'.cell? ⟨q, 3, none⟩ = some (.bool false)) (T := []) (by kernel_rfl) (⟨a0, a1, a2, a3⟩) (fun hHeld => ?_)
        refine AnyT.take (i := 0) (v := ?_) (by simp only [List.getElem?_toArray, List.getElem?_cons_succ, List.getElem?_cons_zero]; rfl) (by kernel_rfl) (by kernel_rfl) (by kernel_rfl) (by kernel_rfl) (by intro _ _ _ h; exact h) (Or.inl ⟨by rfl, fun w hSw => ?_⟩) hHeld ?_
        rotate_left
        · ((try dsimp only at hSw); go_simp; first | done | with_reducible rfl | rfl)
        try simp only [Act.put, List.setIfInBounds_toArray, List.set_cons_zero, List.set_cons_succ]
        refine AnyT.take (i := 1) (v := ?_) (by simp only [List.getElem?_toArray, List.getElem?_cons_succ, List.getElem?_cons_zero]; rfl) (by kernel_rfl) (by kernel_rfl) (by kernel_rfl) (by kernel_rfl) (by intro _ _ _ h; exact h) (Or.inl ⟨by rfl, fun w hSw => ?_⟩) hHeld ?_
        rotate_left
        · ((try dsimp only at hSw); go_simp; first | done | with_reducible rfl | rfl)
        try simp only [Act.put, List.setIfInBounds_toArray, List.set_cons_zero, List.set_cons_succ]
        refine AnyT.take (i := 2) (v := ?_) (by simp only [List.getElem?_toArray, List.getElem?_cons_succ, List.getElem?_cons_zero]; rfl) (by kernel_rfl) (by kernel_rfl) (by kernel_rfl) (by kernel_rfl) (by intro _ _ _ h; exact h) (Or.inl ⟨by rfl, fun w hSw => ?_⟩) hHeld ?_
        rotate_left
        · ((try dsimp only at hSw); go_simp; first | done | with_reducible rfl | rfl)
        try simp only [Act.put, List.setIfInBounds_toArray, List.set_cons_zero, List.set_cons_succ]
        refine AnyT.take (i := 3) (v := ?_) (by simp only [List.getElem?_toArray, List.getElem?_cons_succ, List.getElem?_cons_zero]; rfl) (by kernel_rfl) (by kernel_rfl) (by kernel_rfl) (by kernel_rfl) (by intro _ _ _ h; exact h) (Or.inl ⟨by rfl, fun w hSw => ?_⟩) hHeld ?_
        rotate_left
        · ((try dsimp only at hSw); go_simp; first | done | with_reducible rfl | rfl)
        try simp only [Act.put, List.setIfInBounds_toArray, List.set_cons_zero, List.set_cons_succ]
        refine AnyT.take (i := 4) (v := ?_) (by simp only [List.getElem?_toArray, List.getElem?_cons_succ, List.getElem?_cons_zero]; rfl) (by kernel_rfl) (by kernel_rfl) (by kernel_rfl) (by kernel_rfl) (by intro _ _ _ h; exact h) (Or.inl ⟨by rfl, fun w hSw => ?_⟩) hHeld ?_
        rotate_left
        · ((try dsimp only at hSw); go_simp; first | done | with_reducible rfl | rfl)
        try simp only [Act.put, List.setIfInBounds_toArray, List.set_cons_zero, List.set_cons_succ]
        refine AnyT.take (i := 5) (v := ?_) (by simp only [List.getElem?_toArray, List.getElem?_cons_succ, List.getElem?_cons_zero]; rfl) (by kernel_rfl) (by kernel_rfl) (by kernel_rfl) (by kernel_rfl) (by intro _ _ _ h; exact h) (Or.inl ⟨by rfl, fun w hSw => ?_⟩) hHeld ?_
        rotate_left
        · ((try dsimp only at hSw); go_simp; first | done | with_reducible rfl | rfl)
        try simp only [Act.put, List.setIfInBounds_toArray, List.set_cons_zero, List.set_cons_succ]
        refine AnyT.take (i := 6) (v := ?_) (by simp only [List.getElem?_toArray, List.getElem?_cons_succ, List.getElem?_cons_zero]; rfl) (by kernel_rfl) (by kernel_rfl) (by kernel_rfl) (by kernel_rfl) (by intro _ _ _ h; exact h) (Or.inl ⟨by rfl, fun w hSw => ?_⟩) hHeld ?_
        rotate_left
        · ((try dsimp only at hSw); go_simp; first | done | with_reducible rfl | rfl)
        try simp only [Act.put, List.setIfInBounds_toArray, List.set_cons_zero, List.set_cons_succ]
        refine AnyT.ready (rs := [7]) (by kernel_rfl) (by simp) ?_
        refine AllT.cons (by simp only [List.getElem?_toArray, List.getElem?_cons_succ, List.getElem?_cons_zero]; rfl) (fun K hK => ?_) AllT.nil
        go_simp
        refine (at_any mA mc n i m _ (HH.out.hm.keep0 HO2.out.only.drew) HH.out.n1).mono ?_
        rintro e w3 ⟨p0, p1, rfl, hs0, hs1, hx, ho3⟩
        have HX := hid (show _ ∧ _ ∧ _ from ⟨hs0, hs1, hx⟩)
        have b0 := keepc ((Only.refl [] _).drew.trans ho3) a0
        have c1 := keepc ((Only.refl [] _).drew.trans ho3) a1
        have c2 := keepc ((Only.refl [] _).drew.trans ho3) a2
        have c3 := keepc ((Only.refl [] _).drew.trans ho3) a3
        have HO3 := hid (HO2.out.only.drew.trans ho3)
        clear hs0 hs1 hx ho3 a0 a1 a2 a3
        try go_wp2_with fail
        refine hK.out _ _ ?_ (fun hHeld => ?_)
        · exact ⟨b0, c1, c2, c3⟩
        clear hK
        try simp only [Act.put, List.setIfInBounds_toArray, List.set_cons_zero, List.set_cons_succ]
        refine AnyT.ready (rs := [8]) (by kernel_rfl) (by simp) ?_
        refine AllT.cons (by simp only [List.getElem?_toArray, List.getElem?_cons_succ, List.getElem?_cons_zero]; rfl) (fun K hK => ?_) AllT.nil
        go_simp
        obtain ⟨A0, B0, C0, h0⟩ := HX.out.1
        obtain ⟨A1, B1, C1, h1⟩ := HX.out.2.1
        refine (found_no a.pA a.vA ln a.pc vl a.vc a.n p0 p1 _ ⟨_, _, _, h0⟩ ⟨_, _, _, h1⟩).mono ?_
        rintro e w4 ⟨rfl, ho4⟩
        have u0 := keepc ho4 b0
        have u1 := keepc ho4 c1
        have u2 := keepc ho4 c2
        have u3 := keepc ho4 c3
        have HO4 := hid (HO3.out.trans ho4)
        clear ho4 b0 c1 c2 c3
        try go_wp2_with fail
        refine hK.out _ _ ?_ (fun hHeld => ?_)
        · exact ⟨u0, u1, u2, u3⟩
        clear hK
        try simp only [Act.put, List.setIfInBounds_toArray, List.set_cons_zero, List.set_cons_succ]
        refine AnyT.take (i := 9) (v := ?_) (by simp only [List.getElem?_toArray, List.getElem?_cons_succ, List.getElem?_cons_zero]; rfl) (by kernel_rfl) (by kernel_rfl) (by kernel_rfl) (by kernel_rfl) (by intro _ _ _ h; exact h) (Or.inl ⟨by rfl, fun w hSw => ?_⟩) hHeld ?_
        rotate_left
        · ((try dsimp only at hSw); go_simp; first | done | with_reducible rfl | rfl)
        try simp only [Act.put, List.setIfInBounds_toArray, List.set_cons_zero, List.set_cons_succ]
        refine AnyT.done (by kernel_rfl) ?_ _
        clear hHeld u0 u1 u2 u3
        go_wp2_with fail
        go_ret
        exact ⟨rfl, HO4.out⟩
    | true =>
      cases z with
      | false =>
        go_wp2_with fail
        go_ret
        exact ⟨rfl, HO2.out.only⟩
      | true =>
        go_wp2_with fail
        clear o0 o3
        refine AnyT.start (S := fun w' => w'.cell? ⟨q, 0, none⟩ = some (.slice a.pA ln a.pc) ∧ w'.cell? ⟨q, 1, none⟩ = some (.slice a.vA vl a.vc) ∧ w'.cell? ⟨q, 2, none⟩ = some (.int .i64 a.n) ∧ w'.cell? ⟨q, 3, none⟩ = some (.bool false)) (T := []) (by kernel_rfl) (⟨a0, a1, a2, a3⟩) (fun hHeld => ?_)
        refine AnyT.take (i := 0) (v := ?_) (by simp only [List.getElem?_toArray, List.getElem?_cons_succ, List.getElem?_cons_zero]; rfl) (by kernel_rfl) (by kernel_rfl) (by kernel_rfl) (by kernel_rfl) (by intro _ _ _ h; exact h) (Or.inl ⟨by rfl, fun w hSw => ?_⟩) hHeld ?_
        rotate_left
        · ((try dsimp only at hSw); go_simp; first | done | with_reducible rfl | rfl)
        try simp only [Act.put, List.setIfInBounds_toArray, List.set_cons_zero, List.set_cons_succ]
        refine AnyT.take (i := 1) (v := ?_) (by simp only [List.getElem?_toArray, List.getElem?_cons_succ, List.getElem?_cons_zero]; rfl) (by kernel_rfl) (by kernel_rfl) (by kernel_rfl) (by kernel_rfl) (by intro _ _ _ h; exact h) (Or.inl ⟨by rfl, fun w hSw => ?_⟩) hHeld ?_
        rotate_left
        · ((try dsimp only at hSw); go_simp; first | done | with_reducible rfl | rfl)
        try simp only [Act.put, List.setIfInBounds_toArray, List.set_cons_zero, List.set_cons_succ]
        refine AnyT.take (i := 2) (v := ?_) (by simp only [List.getElem?_toArray, List.getElem?_cons_succ, List.getElem?_cons_zero]; rfl) (by kernel_rfl) (by kernel_rfl) (by kernel_rfl) (by kernel_rfl) (by intro _ _ _ h; exact h) (Or.inl ⟨by rfl, fun w hSw => ?_⟩) hHeld ?_
        rotate_left
        · ((try dsimp only at hSw); go_simp; first | done | with_reducible rfl | rfl)
        try simp only [Act.put, List.setIfInBounds_toArray, List.set_cons_zero, List.set_cons_succ]
        refine AnyT.take (i := 3) (v := ?_) (by simp only [List.getElem?_toArray, List.getElem?_cons_succ, List.getElem?_cons_zero]; rfl) (by kernel_rfl) (by kernel_rfl) (by kernel_rfl) (by kernel_rfl) (by intro _ _ _ h; exact h) (Or.inl ⟨by rfl, fun w hSw => ?_⟩) hHeld ?_
        rotate_left
        · ((try dsimp only at hSw); go_simp; first | done | with_reducible rfl | rfl)
        try simp only [Act.put, List.setIfInBounds_toArray, List.set_cons_zero, List.set_cons_succ]
        refine AnyT.take (i := 4) (v := ?_) (by simp only [List.getElem?_toArray, List.getElem?_cons_succ, List.getElem?_cons_zero]; rfl) (by kernel_rfl) (by kernel_rfl) (by kernel_rfl) (by kernel_rfl) (by intro _ _ _ h; exact h) (Or.inl ⟨by rfl, fun w hSw => ?_⟩) hHeld ?_
        rotate_left
        · ((try dsimp only at hSw); go_simp; first | done | with_reducible rfl | rfl)
        try simp only [Act.put, List.setIfInBounds_toArray, List.set_cons_zero, List.set_cons_succ]
        refine AnyT.take (i := 5) (v := ?_) (by simp only [List.getElem?_toArray, List.getElem?_cons_succ, List.getElem?_cons_zero]; rfl) (by kernel_rfl) (by kernel_rfl) (by kernel_rfl) (by kernel_rfl) (by intro _ _ _ h; exact h) (Or.inl ⟨by rfl, fun w hSw => ?_⟩) hHeld ?_
        rotate_left
        · ((try dsimp only at hSw); go_simp; first | done | with_reducible rfl | rfl)
        try simp only [Act.put, List.setIfInBounds_toArray, List.set_cons_zero, List.set_cons_succ]
        refine AnyT.take (i := 6) (v := ?_) (by simp only [List.getElem?_toArray, List.getElem?_cons_succ, List.getElem?_cons_zero]; rfl) (by kernel_rfl) (by kernel_rfl) (by kernel_rfl) (by kernel_rfl) (by intro _ _ _ h; exact h) (Or.inl ⟨by rfl, fun w hSw => ?_⟩) hHeld ?_
        rotate_left
        · ((try dsimp only at hSw); go_simp; first | done | with_reducible rfl | rfl)
        try simp only [Act.put, List.setIfInBounds_toArray, List.set_cons_zero, List.set_cons_succ]
        refine AnyT.ready (rs := [7]) (by kernel_rfl) (by simp) ?_
        refine AllT.cons (by simp only [List.getElem?_toArray, List.getElem?_cons_succ, List.getElem?_cons_zero]; rfl) (fun K hK => ?_) AllT.nil
        go_simp
        refine (at_any mA mc n i m _ (HH.out.hm.keep0 HO2.out.only.drew) HH.out.n1).mono ?_
        rintro e w3 ⟨p0, p1, rfl, hs0, hs1, hx, ho3⟩
        have HX := hid (show _ ∧ _ ∧ _ from ⟨hs0, hs1, hx⟩)
        have b0 := keepc ((Only.refl [] _).drew.trans ho3) a0
        have c1 := keepc ((Only.refl [] _).drew.trans ho3) a1
        have c2 := keepc ((Only.refl [] _).drew.trans ho3) a2
        have c3 := keepc ((Only.refl [] _).drew.trans ho3) a3
        have HO3 := hid (HO2.out.only.drew.trans ho3)
        clear hs0 hs1 hx ho3 a0 a1 a2 a3
        try go_wp2_with fail
        refine hK.out _ _ ?_ (fun hHeld => ?_)
        · exact ⟨b0, c1, c2, c3⟩
        clear hK
        try simp only [Act.put, List.setIfInBounds_toArray, List.set_cons_zero, List.set_cons_succ]
        refine AnyT.ready (rs := [8]) (by kernel_rfl) (by simp) ?_
        refine AllT.cons (by simp only [List.getElem?_toArray, List.getElem?_cons_succ, List.getElem?_cons_zero]; rfl) (fun K hK => ?_) AllT.nil
        go_simp
        obtain ⟨A0, B0, C0, h0⟩ := HX.out.1
        obtain ⟨A1, B1, C1, h1⟩ := HX.out.2.1
        refine (found_no a.pA a.vA ln a.pc vl a.vc a.n p0 p1 _ ⟨_, _, _, h0⟩ ⟨_, _, _, h1⟩).mono ?_
        rintro e w4 ⟨rfl, ho4⟩
        have u0 := keepc ho4 b0
        have u1 := keepc ho4 c1
        have u2 := keepc ho4 c2
        have u3 := keepc ho4 c3
        have HO4 := hid (HO3.out.trans ho4)
        clear ho4 b0 c1 c2 c3
        try go_wp2_with fail
        refine hK.out _ _ ?_ (fun hHeld => ?_)
        · exact ⟨u0, u1, u2, u3⟩
        clear hK
        try simp only [Act.put, List.setIfInBounds_toArray, List.set_cons_zero, List.set_cons_succ]
        refine AnyT.take (i := 9) (v := ?_) (by simp only [List.getElem?_toArray, List.getElem?_cons_succ, List.getElem?_cons_zero]; rfl) (by kernel_rfl) (by kernel_rfl) (by kernel_rfl) (by kernel_rfl) (by intro _ _ _ h; exact h) (Or.inl ⟨by rfl, fun w hSw => ?_⟩) hHeld ?_
        rotate_left
        · ((try dsimp only at hSw); go_simp; first | done | with_reducible rfl | rfl)
        try simp only [Act.put, List.setIfInBounds_toArray, List.set_cons_zero, List.set_cons_succ]
        refine AnyT.done (by kernel_rfl) ?_ _
        clear hHeld u0 u1 u2 u3
        go_wp2_with fail
        go_ret
        exact ⟨rfl, HO4.out⟩
  | true =>
    cases nb with
    | false =>
      cases z with
      | false =>
        go_wp2_with fail
        clear o0 o3
        refine AnyT.start (S := fun w' => w'.cell? ⟨q, 0, none⟩ = some (.slice a.pA ln a.pc) ∧ w'.cell? ⟨q, 1, none⟩ = some (.slice a.vA vl a.vc) ∧ w'.cell? ⟨q, 2, none⟩ = some (.int .i64 a.n) ∧ w'.cell? ⟨q, 3, none⟩ = some (.bool true)) (T := []) (by kernel_rfl) (⟨a0, a1, a2, a3⟩) (fun hHeld => ?_)
        refine AnyT.take (i := 0) (v := ?_) (by simp only [List.getElem?_toArray, List.getElem?_cons_succ, List.getElem?_cons_zero]; rfl) (by kernel_rfl) (by kernel_rfl) (by kernel_rfl) (by kernel_rfl) (by intro _ _ _ h; exact h) (Or.inl ⟨by rfl, fun w hSw => ?_⟩) hHeld ?_
        rotate_left
        · ((try dsimp only at hSw); go_simp; first | done | with_reducible rfl | rfl)
        try simp only [Act.put, List.setIfInBounds_toArray, List.set_cons_zero, List.set_cons_succ]
        refine AnyT.take (i := 1) (v := ?_) (by simp only [List.getElem?_toArray, List.getElem?_cons_succ, List.getElem?_cons_zero]; rfl) (by kernel_rfl) (by kernel_rfl) (by kernel_rfl) (by kernel_rfl) (by intro _ _ _ h; exact h) (Or.inl ⟨by rfl, fun w hSw => ?_⟩) hHeld ?_
        rotate_left
        · ((try dsimp only at hSw); go_simp; first | done | with_reducible rfl | rfl)
        try simp only [Act.put, List.setIfInBounds_toArray, List.set_cons_zero, List.set_cons_succ]
        refine AnyT.take (i := 2) (v := ?_) (by simp only [List.getElem?_toArray, List.getElem?_cons_succ, List.getElem?_cons_zero]; rfl) (by kernel_rfl) (by kernel_rfl) (by kernel_rfl) (by kernel_rfl) (by intro _ _ _ h; exact h) (Or.inl ⟨by rfl, fun w hSw => ?_⟩) hHeld ?_
        rotate_left
        · ((try dsimp only at hSw); go_simp; first | done | with_reducible rfl | rfl)
        try simp only [Act.put, List.setIfInBounds_toArray, List.set_cons_zero, List.set_cons_succ]
        refine AnyT.take (i := 3) (v := ?_) (by simp only [List.getElem?_toArray, List.getElem?_cons_succ, List.getElem?_cons_zero]; rfl) (by kernel_rfl) (by kernel_rfl) (by kernel_rfl) (by kernel_rfl) (by intro _ _ _ h; exact h) (Or.inl ⟨by rfl, fun w hSw => ?_⟩) hHeld ?_
        rotate_left
        · ((try dsimp only at hSw); go_simp; first | done | with_reducible rfl | rfl)
        try simp only [Act.put, List.setIfInBounds_toArray, List.set_cons_zero, List.set_cons_succ]
        refine AnyT.take (i := 4) (v := ?_) (by simp only [List.getElem?_toArray, List.getElem?_cons_succ, List.getElem?_cons_zero]; rfl) (by kernel_rfl) (by kernel_rfl) (by kernel_rfl) (by kernel_rfl) (by intro _ _ _ h; exact h) (Or.inl ⟨by rfl, fun w hSw => ?_⟩) hHeld ?_
        rotate_left
        · ((try dsimp only at hSw); go_simp; first | done | with_reducible rfl | rfl)
        try simp only [Act.put, List.setIfInBounds_toArray, List.set_cons_zero, List.set_cons_succ]
        refine AnyT.take (i := 5) (v := ?_) (by simp only [List.getElem?_toArray, List.getElem?_cons_succ, List.getElem?_cons_zero]; rfl) (by kernel_rfl) (by kernel_rfl) (by kernel_rfl) (by kernel_rfl) (by intro _ _ _ h; exact h) (Or.inl ⟨by rfl, fun w hSw => ?_⟩) hHeld ?_
        rotate_left
        · ((try dsimp only at hSw); go_simp; first | done | with_reducible rfl | rfl)
        try simp only [Act.put, List.setIfInBounds_toArray, List.set_cons_zero, List.set_cons_succ]
        refine AnyT.take (i := 6) (v := ?_) (by simp only [List.getElem?_toArray, List.getElem?_cons_succ, List.getElem?_cons_zero]; rfl) (by kernel_rfl) (by kernel_rfl) (by kernel_rfl) (by kernel_rfl) (by intro _ _ _ h; exact h) (Or.inl ⟨by rfl, fun w hSw => ?_⟩) hHeld ?_
        rotate_left
        · ((try dsimp only at hSw); go_simp; first | done | with_reducible rfl | rfl)
        try simp only [Act.put, List.setIfInBounds_toArray, List.set_cons_zero, List.set_cons_succ]
        refine AnyT.ready (rs := [7]) (by kernel_rfl) (by simp) ?_
        refine AllT.cons (by simp only [List.getElem?_toArray, List.getElem?_cons_succ, List.getElem?_cons_zero]; rfl) (fun K hK => ?_) AllT.nil
        go_simp
        refine (at_any mA mc n i m _ (HH.out.hm.keep0 HO2.out.only.drew) HH.out.n1).mono ?_
        rintro e w3 ⟨p0, p1, rfl, hs0, hs1, hx, ho3⟩
        have HX := hid (show _ ∧ _ ∧ _ from ⟨hs0, hs1, hx⟩)
        have b0 := keepc ((Only.refl [] _).drew.trans ho3) a0
        have c1 := keepc ((Only.refl [] _).drew.trans ho3) a1
        have c2 := keepc ((Only.refl [] _).drew.trans ho3) a2
        have c3 := keepc ((Only.refl [] _).drew.trans ho3) a3
        have HO3 := hid (HO2.out.only.drew.trans ho3)
        clear hs0 hs1 hx ho3 a0 a1 a2 a3
        try go_wp2_with fail
        refine hK.out _ _ ?_ (fun hHeld => ?_)
        · exact ⟨b0, c1, c2, c3⟩
        clear hK
        try simp only [Act.put, List.setIfInBounds_toArray, List.set_cons_zero, List.set_cons_succ]
        refine AnyT.ready (rs := [8]) (by kernel_rfl) (by simp) ?_
        refine AllT.cons (by simp only [List.getElem?_toArray, List.getElem?_cons_succ, List.getElem?_cons_zero]; rfl) (fun K hK => ?_) AllT.nil
        go_simp
        have hlt := of_decide_eq_true HZ.out
        rw [kvs_length, HI.out.1] at hlt
        have hxm : m[i]? = some m[i] := List.getElem?_eq_getElem hlt
        generalize m[i] = x at hxm
        have hps := HT.out.2 (x.k, x.v) (by rw [HI.out.1]; exact kvs_get hxm)
        obtain ⟨y, hyl, hyk, hyv⟩ := kvs_one (l := a.l) hps
        obtain ⟨e0, e1⟩ := HX.out.2.2 x hxm
        subst e0; subst e1
        have hxr := (HH.out.hm.ok x (List.mem_of_getElem? hxm)).keep0 HO3.out
        have hln : ln = 1 := by rw [HH.out.n2, hyl]; rfl
        subst hln
        have hpy : Prs w3 a.pA [y] := by have := HH.out.ha.hp.keep0 HO3.out; rwa [hyl] at this
        refine (found_yes a.pA a.vA a.pc vl a.vc a.n y x _ hpy hxr hyk hyv).mono ?_
        clear hxr hpy
        rintro e w4 ⟨rfl, ho4⟩
        have u0 := keepc ho4 b0
        have u1 := keepc ho4 c1
        have u2 := keepc ho4 c2
        have u3 := keepc ho4 c3
        have HO4 := hid (HO3.out.trans ho4)
        clear ho4 b0 c1 c2 c3
        try go_wp2_with fail
        refine hK.out _ _ ?_ (fun hHeld => ?_)
        · exact ⟨u0, u1, u2, u3⟩
        clear hK
        try simp only [Act.put, List.setIfInBounds_toArray, List.set_cons_zero, List.set_cons_succ]
        refine AnyT.take (i := 9) (v := ?_) (by simp only [List.getElem?_toArray, List.getElem?_cons_succ, List.getElem?_cons_zero]; rfl) (by kernel_rfl) (by kernel_rfl) (by kernel_rfl) (by kernel_rfl) (by intro _ _ _ h; exact h) (Or.inl ⟨by rfl, fun w hSw => ?_⟩) hHeld ?_
        rotate_left
        · ((try dsimp only at hSw); go_simp; first | done | with_reducible rfl | rfl)
        try simp only [Act.put, List.setIfInBounds_toArray, List.set_cons_zero, List.set_cons_succ]
        refine AnyT.done (by kernel_rfl) ?_ _
        clear hHeld u0 u1 u2 u3
        go_wp2_with fail
        go_ret
        exact ⟨rfl, HO4.out⟩
      | true =>
        go_wp2_with fail
        clear o0 o3
        refine AnyT.start (S := fun w' => w'.cell? ⟨q, 0, none⟩ = some (.slice a.pA ln a.pc) ∧ w'.cell? ⟨q, 1, none⟩ = some (.slice a.vA vl a.vc) ∧ w'.cell? ⟨q, 2, none⟩ = some (.int .i64 a.n) ∧ w'.cell? ⟨q, 3, none⟩ = some (.bool true)) (T := []) (by kernel_rfl) (⟨a0, a1, a2, a3⟩) (fun hHeld => ?_)
        refine AnyT.take (i := 0) (v := ?_) (by simp only [List.getElem?_toArray, List.getElem?_cons_succ, List.getElem?_cons_zero]; rfl) (by kernel_rfl) (by kernel_rfl) (by kernel_rfl) (by kernel_rfl) (by intro _ _ _ h; exact h) (Or.inl ⟨by rfl, fun w hSw => ?_⟩) hHeld ?_
        rotate_left
        · ((try dsimp only at hSw); go_simp; first | done | with_reducible rfl | rfl)
        try simp only [Act.put, List.setIfInBounds_toArray, List.set_cons_zero, List.set_cons_succ]
        refine AnyT.take (i := 1) (v := ?_) (by simp only [List.getElem?_toArray, List.getElem?_cons_succ, List.getElem?_cons_zero]; rfl) (by kernel_rfl) (by kernel_rfl) (by kernel_rfl) (by kernel_rfl) (by intro _ _ _ h; exact h) (Or.inl ⟨by rfl, fun w hSw => ?_⟩) hHeld ?_
        rotate_left
        · ((try dsimp only at hSw); go_simp; first | done | with_reducible rfl | rfl)
        try simp only [Act.put, List.setIfInBounds_toArray, List.set_cons_zero, List.set_cons_succ]
        refine AnyT.take (i := 2) (v := ?_) (by simp only [List.getElem?_toArray, List.getElem?_cons_succ, List.getElem?_cons_zero]; rfl) (by kernel_rfl) (by kernel_rfl) (by kernel_rfl) (by kernel_rfl) (by intro _ _ _ h; exact h) (Or.inl ⟨by rfl, fun w hSw => ?_⟩) hHeld ?_
        rotate_left
        · ((try dsimp only at hSw); go_simp; first | done | with_reducible rfl | rfl)
        try simp only [Act.put, List.setIfInBounds_toArray, List.set_cons_zero, List.set_cons_succ]
        refine AnyT.take (i := 3) (v := ?_) (by simp only [List.getElem?_toArray, List.getElem?_cons_succ, List.getElem?_cons_zero]; rfl) (by kernel_rfl) (by kernel_rfl) (by kernel_rfl) (by kernel_rfl) (by intro _ _ _ h; exact h) (Or.inl ⟨by rfl, fun w hSw => ?_⟩) hHeld ?_
        rotate_left
        · ((try dsimp only at hSw); go_simp; first | done | with_reducible rfl | rfl)
        try simp only [Act.put, List.setIfInBounds_toArray, List.set_cons_zero, List.set_cons_succ]
        refine AnyT.take (i := 4) (v := ?_) (by simp only [List.getElem?_toArray, List.getElem?_cons_succ, List.getElem?_cons_zero]; rfl) (by kernel_rfl) (by kernel_rfl) (by kernel_rfl) (by kernel_rfl) (by intro _ _ _ h; exact h) (Or.inl ⟨by rfl, fun w hSw => ?_⟩) hHeld ?_
        rotate_left
        · ((try dsimp only at hSw); go_simp; first | done | with_reducible rfl | rfl)
        try simp only [Act.put, List.setIfInBounds_toArray, List.set_cons_zero, List.set_cons_succ]
        refine AnyT.take (i := 5) (v := ?_) (by simp only [List.getElem?_toArray, List.getElem?_cons_succ, List.getElem?_cons_zero]; rfl) (by kernel_rfl) (by kernel_rfl) (by kernel_rfl) (by kernel_rfl) (by intro _ _ _ h; exact h) (Or.inl ⟨by rfl, fun w hSw => ?_⟩) hHeld ?_
        rotate_left
        · ((try dsimp only at hSw); go_simp; first | done | with_reducible rfl | rfl)
        try simp only [Act.put, List.setIfInBounds_toArray, List.set_cons_zero, List.set_cons_succ]
        refine AnyT.take (i := 6) (v := ?_) (by simp only [List.getElem?_toArray, List.getElem?_cons_succ, List.getElem?_cons_zero]; rfl) (by kernel_rfl) (by kernel_rfl) (by kernel_rfl) (by kernel_rfl) (by intro _ _ _ h; exact h) (Or.inl ⟨by rfl, fun w hSw => ?_⟩) hHeld ?_
        rotate_left
        · ((try dsimp only at hSw); go_simp; first | done | with_reducible rfl | rfl)
        try simp only [Act.put, List.setIfInBounds_toArray, List.set_cons_zero, List.set_cons_succ]
        refine AnyT.ready (rs := [7]) (by kernel_rfl) (by simp) ?_
        refine AllT.cons (by simp only [List.getElem?_toArray, List.getElem?_cons_succ, List.getElem?_cons_zero]; rfl) (fun K hK => ?_) AllT.nil
        go_simp
        refine (at_any mA mc n i m _ (HH.out.hm.keep0 HO2.out.only.drew) HH.out.n1).mono ?_
        rintro e w3 ⟨p0, p1, rfl, hs0, hs1, hx, ho3⟩
        have HX := hid (show _ ∧ _ ∧ _ from ⟨hs0, hs1, hx⟩)
        have b0 := keepc ((Only.refl [] _).drew.trans ho3) a0
        have c1 := keepc ((Only.refl [] _).drew.trans ho3) a1
        have c2 := keepc ((Only.refl [] _).drew.trans ho3) a2
        have c3 := keepc ((Only.refl [] _).drew.trans ho3) a3
        have HO3 := hid (HO2.out.only.drew.trans ho3)
        clear hs0 hs1 hx ho3 a0 a1 a2 a3
        try go_wp2_with fail
        refine hK.out _ _ ?_ (fun hHeld => ?_)
        · exact ⟨b0, c1, c2, c3⟩
        clear hK
        try simp only [Act.put, List.setIfInBounds_toArray, List.set_cons_zero, List.set_cons_succ]
        refine AnyT.ready (rs := [8]) (by kernel_rfl) (by simp) ?_
        refine AllT.cons (by simp only [List.getElem?_toArray, List.getElem?_cons_succ, List.getElem?_cons_zero]; rfl) (fun K hK => ?_) AllT.nil
        go_simp
        have hlt := of_decide_eq_true HZ.out
        rw [kvs_length, HI.out.1] at hlt
        have hxm : m[i]? = some m[i] := List.getElem?_eq_getElem hlt
        generalize m[i] = x at hxm
        have hps := HT.out.2 (x.k, x.v) (by rw [HI.out.1]; exact kvs_get hxm)
        obtain ⟨y, hyl, hyk, hyv⟩ := kvs_one (l := a.l) hps
        obtain ⟨e0, e1⟩ := HX.out.2.2 x hxm
        subst e0; subst e1
        have hxr := (HH.out.hm.ok x (List.mem_of_getElem? hxm)).keep0 HO3.out
        have hln : ln = 1 := by rw [HH.out.n2, hyl]; rfl
        subst hln
        have hpy : Prs w3 a.pA [y] := by have := HH.out.ha.hp.keep0 HO3.out; rwa [hyl] at this
        refine (found_yes a.pA a.vA a.pc vl a.vc a.n y x _ hpy hxr hyk hyv).mono ?_
        clear hxr hpy
        rintro e w4 ⟨rfl, ho4⟩
        have u0 := keepc ho4 b0
        have u1 := keepc ho4 c1
        have u2 := keepc ho4 c2
        have u3 := keepc ho4 c3
        have HO4 := hid (HO3.out.trans ho4)
        clear ho4 b0 c1 c2 c3
        try go_wp2_with fail
        refine hK.out _ _ ?_ (fun hHeld => ?_)
        · exact ⟨u0, u1, u2, u3⟩
        clear hK
        try simp only [Act.put, List.setIfInBounds_toArray, List.set_cons_zero, List.set_cons_succ]
        refine AnyT.take (i := 9) (v := ?_) (by simp only [List.getElem?_toArray, List.getElem?_cons_succ, List.getElem?_cons_zero]; rfl) (by kernel_rfl) (by kernel_rfl) (by kernel_rfl) (by kernel_rfl) (by intro _ _ _ h; exact h) (Or.inl ⟨by rfl, fun w hSw => ?_⟩) hHeld ?_
        rotate_left
        · ((try dsimp only at hSw); go_simp; first | done | with_reducible rfl | rfl)
        try simp only [Act.put, List.setIfInBounds_toArray, List.set_cons_zero, List.set_cons_succ]
        refine AnyT.done (by kernel_rfl) ?_ _
        clear hHeld u0 u1 u2 u3
        go_wp2_with fail
        go_ret
        exact ⟨rfl, HO4.out⟩
    | true =>
      cases z with
      | false =>
        go_wp2_with fail
        clear o0 o3
        refine AnyT.start (S := fun w' => w'.cell? ⟨q, 0, none⟩ = some (.slice a.pA ln a.pc) ∧ w'.cell? ⟨q, 1, none⟩ = some (.slice a.vA vl a.vc) ∧ w'.cell? ⟨q, 2, none⟩ = some (.int .i64 a.n) ∧ w'.cell? ⟨q, 3, none⟩ = some (.bool true)) (T := []) (by kernel_rfl) (⟨a0, a1, a2, a3⟩) (fun hHeld => ?_)
        refine AnyT.take (i := 0) (v := ?_) (by simp only [List.getElem?_toArray, List.getElem?_cons_succ, List.getElem?_cons_zero]; rfl) (by kernel_rfl) (by kernel_rfl) (by kernel_rfl) (by kernel_rfl) (by intro _ _ _ h; exact h) (Or.inl ⟨by rfl, fun w hSw => ?_⟩) hHeld ?_
        rotate_left
        · ((try dsimp only at hSw); go_simp; first | done | with_reducible rfl | rfl)
        try simp only [Act.put, List.setIfInBounds_toArray, List.set_cons_zero, List.set_cons_succ]
        refine AnyT.take (i := 1) (v := ?_) (by simp only [List.getElem?_toArray, List.getElem?_cons_succ, List.getElem?_cons_zero]; rfl) (by kernel_rfl) (by kernel_rfl) (by kernel_rfl) (by kernel_rfl) (by intro _ _ _ h; exact h) (Or.inl ⟨by rfl, fun w hSw => ?_⟩) hHeld ?_
        rotate_left
        · ((try dsimp only at hSw); go_simp; first | done | with_reducible rfl | rfl)
        try simp only [Act.put, List.setIfInBounds_toArray, List.set_cons_zero, List.set_cons_succ]
        refine AnyT.take (i := 2) (v := ?_) (by simp only [List.getElem?_toArray, List.getElem?_cons_succ, List.getElem?_cons_zero]; rfl) (by kernel_rfl) (by kernel_rfl) (by kernel_rfl) (by kernel_rfl) (by intro _ _ _ h; exact h) (Or.inl ⟨by rfl, fun w hSw => ?_⟩) hHeld ?_
        rotate_left
        · ((try dsimp only at hSw); go_simp; first | done | with_reducible rfl | rfl)
        try simp only [Act.put, List.setIfInBounds_toArray, List.set_cons_zero, List.set_cons_succ]
        refine AnyT.take (i := 3) (v := ?_) (by simp only [List.getElem?_toArray, List.getElem?_cons_succ, List.getElem?_cons_zero]; rfl) (by kernel_rfl) (by kernel_rfl) (by kernel_rfl) (by kernel_rfl) (by intro _ _ _ h; exact h) (Or.inl ⟨by rfl, fun w hSw => ?_⟩) hHeld ?_
        rotate_left
        · ((try dsimp only at hSw); go_simp; first | done | with_reducible rfl | rfl)
        try simp only [Act.put, List.setIfInBounds_toArray, List.set_cons_zero, List.set_cons_succ]
        refine AnyT.take (i := 4) (v := ?_) (by simp only [List.getElem?_toArray, List.getElem?_cons_succ, List.getElem?_cons_zero]; rfl) (by kernel_rfl) (by kernel_rfl) (by kernel_rfl) (by kernel_rfl) (by intro _ _ _ h; exact h) (Or.inl ⟨by rfl, fun w hSw => ?_⟩) hHeld ?_
        rotate_left
        · ((try dsimp only at hSw); go_simp; first | done | with_reducible rfl | rfl)
        try simp only [Act.put, List.setIfInBounds_toArray, List.set_cons_zero, List.set_cons_succ]
        refine AnyT.take (i := 5) (v := ?_) (by simp only [List.getElem?_toArray, List.getElem?_cons_succ, List.getElem?_cons_zero]; rfl) (by kernel_rfl) (by kernel_rfl) (by kernel_rfl) (by kernel_rfl) (by intro _ _ _ h; exact h) (Or.inl ⟨by rfl, fun w hSw => ?_⟩) hHeld ?_
        rotate_left
        · ((try dsimp only at hSw); go_simp; first | done | with_reducible rfl | rfl)
        try simp only [Act.put, List.setIfInBounds_toArray, List.set_cons_zero, List.set_cons_succ]
        refine AnyT.take (i := 6) (v := ?_) (by simp only [List.getElem?_toArray, List.getElem?_cons_succ, List.getElem?_cons_zero]; rfl) (by kernel_rfl) (by kernel_rfl) (by kernel_rfl) (by kernel_rfl) (by intro _ _ _ h; exact h) (Or.inl ⟨by rfl, fun w hSw => ?_⟩) hHeld ?_
        rotate_left
        · ((try dsimp only at hSw); go_simp; first | done | with_reducible rfl | rfl)
        try simp only [Act.put, List.setIfInBounds_toArray, List.set_cons_zero, List.set_cons_succ]
        refine AnyT.ready (rs := [7]) (by kernel_rfl) (by simp) ?_
        refine AllT.cons (by simp only [List.getElem?_toArray, List.getElem?_cons_succ, List.getElem?_cons_zero]; rfl) (fun K hK => ?_) AllT.nil
        go_simp
        refine (at_any mA mc n i m _ (HH.out.hm.keep0 HO2.out.only.drew) HH.out.n1).mono ?_
        rintro e w3 ⟨p0, p1, rfl, hs0, hs1, hx, ho3⟩
        have HX := hid (show _ ∧ _ ∧ _ from ⟨hs0, hs1, hx⟩)
        have b0 := keepc ((Only.refl [] _).drew.trans ho3) a0
        have c1 := keepc ((Only.refl [] _).drew.trans ho3) a1
        have c2 := keepc ((Only.refl [] _).drew.trans ho3) a2
        have c3 := keepc ((Only.refl [] _).drew.trans ho3) a3
        have HO3 := hid (HO2.out.only.drew.trans ho3)
        clear hs0 hs1 hx ho3 a0 a1 a2 a3
        try go_wp2_with fail
        refine hK.out _ _ ?_ (fun hHeld => ?_)
        · exact ⟨b0, c1, c2, c3⟩
        clear hK
        try simp only [Act.put, List.setIfInBounds_toArray, List.set_cons_zero, List.set_cons_succ]
        refine AnyT.ready (rs := [8]) (by kernel_rfl) (by simp) ?_
        refine AllT.cons (by simp only [List.getElem?_toArray, List.getElem?_cons_succ, List.getElem?_cons_zero]; rfl) (fun K hK => ?_) AllT.nil
        go_simp
        have hlt := of_decide_eq_true HZ.out
        rw [kvs_length, HI.out.1] at hlt
        have hxm : m[i]? = some m[i] := List.getElem?_eq_getElem hlt
        generalize m[i] = x at hxm
        have hps := HT.out.2 (x.k, x.v) (by rw [HI.out.1]; exact kvs_get hxm)
        obtain ⟨y, hyl, hyk, hyv⟩ := kvs_one (l := a.l) hps
        obtain ⟨e0, e1⟩ := HX.out.2.2 x hxm
        subst e0; subst e1
        have hxr := (HH.out.hm.ok x (List.mem_of_getElem? hxm)).keep0 HO3.out
        have hln : ln = 1 := by rw [HH.out.n2, hyl]; rfl
        subst hln
        have hpy : Prs w3 a.pA [y] := by have := HH.out.ha.hp.keep0 HO3.out; rwa [hyl] at this
        refine (found_yes a.pA a.vA a.pc vl a.vc a.n y x _ hpy hxr hyk hyv).mono ?_
        clear hxr hpy
        rintro e w4 ⟨rfl, ho4⟩
        have u0 := keepc ho4 b0
        have u1 := keepc ho4 c1
        have u2 := keepc ho4 c2
        have u3 := keepc ho4 c3
        have HO4 := hid (HO3.out.trans ho4)
        clear ho4 b0 c1 c2 c3
        try go_wp2_with fail
        refine hK.out _ _ ?_ (fun hHeld => ?_)
        · exact ⟨u0, u1, u2, u3⟩
        clear hK
        try simp only [Act.put, List.setIfInBounds_toArray, List.set_cons_zero, List.set_cons_succ]
        refine AnyT.take (i := 9) (v := ?_) (by simp only [List.getElem?_toArray, List.getElem?_cons_succ, List.getElem?_cons_zero]; rfl) (by kernel_rfl) (by kernel_rfl) (by kernel_rfl) (by kernel_rfl) (by intro _ _ _ h; exact h) (Or.inl ⟨by rfl, fun w hSw => ?_⟩) hHeld ?_
        rotate_left
        · ((try dsimp only at hSw); go_simp; first | done | with_reducible rfl | rfl)
        try simp only [Act.put, List.setIfInBounds_toArray, List.set_cons_zero, List.set_cons_succ]
        refine AnyT.done (by kernel_rfl) ?_ _
        clear hHeld u0 u1 u2 u3
        go_wp2_with fail
        go_ret
        exact ⟨rfl, HO4.out⟩
      | true =>
        go_wp2_with fail
        clear o0 o3
        refine AnyT.start (S := fun w' => w'.cell? ⟨q, 0, none⟩ = some (.slice a.pA ln a.pc) ∧ w'.cell? ⟨q, 1, none⟩ = some (.slice a.vA vl a.vc) ∧ w'.cell? ⟨q, 2, none⟩ = some (.int .i64 a.n) ∧ w'.cell? ⟨q, 3, none⟩ = some (.bool true)) (T := []) (by kernel_rfl) (⟨a0, a1, a2, a3⟩) (fun hHeld => ?_)
        refine AnyT.take (i := 0) (v := ?_) (by simp only [List.getElem?_toArray, List.getElem?_cons_succ, List.getElem?_cons_zero]; rfl) (by kernel_rfl) (by kernel_rfl) (by kernel_rfl) (by kernel_rfl) (by intro _ _ _ h; exact h) (Or.inl ⟨by rfl, fun w hSw => ?_⟩) hHeld ?_
        rotate_left
        · ((try dsimp only at hSw); go_simp; first | done | with_reducible rfl | rfl)
        try simp only [Act.put, List.setIfInBounds_toArray, List.set_cons_zero, List.set_cons_succ]
        refine AnyT.take (i := 1) (v := ?_) (by simp only [List.getElem?_toArray, List.getElem?_cons_succ, List.getElem?_cons_zero]; rfl) (by kernel_rfl) (by kernel_rfl) (by kernel_rfl) (by kernel_rfl) (by intro _ _ _ h; exact h) (Or.inl ⟨by rfl, fun w hSw => ?_⟩) hHeld ?_
        rotate_left
        · ((try dsimp only at hSw); go_simp; first | done | with_reducible rfl | rfl)
        try simp only [Act.put, List.setIfInBounds_toArray, List.set_cons_zero, List.set_cons_succ]
        refine AnyT.take (i := 2) (v := ?_) (by simp only [List.getElem?_toArray, List.getElem?_cons_succ, List.getElem?_cons_zero]; rfl) (by kernel_rfl) (by kernel_rfl) (by kernel_rfl) (by kernel_rfl) (by intro _ _ _ h; exact h) (Or.inl ⟨by rfl, fun w hSw => ?_⟩) hHeld ?_
        rotate_left
        · ((try dsimp only at hSw); go_simp; first | done | with_reducible rfl | rfl)
        try simp only [Act.put, List.setIfInBounds_toArray, List.set_cons_zero, List.set_cons_succ]
        refine AnyT.take (i := 3) (v := ?_) (by simp only [List.getElem?_toArray, List.getElem?_cons_succ, List.getElem?_cons_zero]; rfl) (by kernel_rfl) (by kernel_rfl) (by kernel_rfl) (by kernel_rfl) (by intro _ _ _ h; exact h) (Or.inl ⟨by rfl, fun w hSw => ?_⟩) hHeld ?_
        rotate_left
        · ((try dsimp only at hSw); go_simp; first | done | with_reducible rfl | rfl)
        try simp only [Act.put, List.setIfInBounds_toArray, List.set_cons_zero, List.set_cons_succ]
        refine AnyT.take (i := 4) (v := ?_) (by simp only [List.getElem?_toArray, List.getElem?_cons_succ, List.getElem?_cons_zero]; rfl) (by kernel_rfl) (by kernel_rfl) (by kernel_rfl) (by kernel_rfl) (by intro _ _ _ h; exact h) (Or.inl ⟨by rfl, fun w hSw => ?_⟩) hHeld ?_
        rotate_left
        · ((try dsimp only at hSw); go_simp; first | done | with_reducible rfl | rfl)
        try simp only [Act.put, List.setIfInBounds_toArray, List.set_cons_zero, List.set_cons_succ]
        refine AnyT.take (i := 5) (v := ?_) (by simp only [List.getElem?_toArray, List.getElem?_cons_succ, List.getElem?_cons_zero]; rfl) (by kernel_rfl) (by kernel_rfl) (by kernel_rfl) (by kernel_rfl) (by intro _ _ _ h; exact h) (Or.inl ⟨by rfl, fun w hSw => ?_⟩) hHeld ?_
        rotate_left
        · ((try dsimp only at hSw); go_simp; first | done | with_reducible rfl | rfl)
        try simp only [Act.put, List.setIfInBounds_toArray, List.set_cons_zero, List.set_cons_succ]
        refine AnyT.take (i := 6) (v := ?_) (by simp only [List.getElem?_toArray, List.getElem?_cons_succ, List.getElem?_cons_zero]; rfl) (by kernel_rfl) (by kernel_rfl) (by kernel_rfl) (by kernel_rfl) (by intro _ _ _ h; exact h) (Or.inl ⟨by rfl, fun w hSw => ?_⟩) hHeld ?_
        rotate_left
        · ((try dsimp only at hSw); go_simp; first | done | with_reducible rfl | rfl)
        try simp only [Act.put, List.setIfInBounds_toArray, List.set_cons_zero, List.set_cons_succ]
        refine AnyT.ready (rs := [7]) (by kernel_rfl) (by simp) ?_
        refine AllT.cons (by simp only [List.getElem?_toArray, List.getElem?_cons_succ, List.getElem?_cons_zero]; rfl) (fun K hK => ?_) AllT.nil
        go_simp
        refine (at_any mA mc n i m _ (HH.out.hm.keep0 HO2.out.only.drew) HH.out.n1).mono ?_
        rintro e w3 ⟨p0, p1, rfl, hs0, hs1, hx, ho3⟩
        have HX := hid (show _ ∧ _ ∧ _ from ⟨hs0, hs1, hx⟩)
        have b0 := keepc ((Only.refl [] _).drew.trans ho3) a0
        have c1 := keepc ((Only.refl [] _).drew.trans ho3) a1
        have c2 := keepc ((Only.refl [] _).drew.trans ho3) a2
        have c3 := keepc ((Only.refl [] _).drew.trans ho3) a3
        have HO3 := hid (HO2.out.only.drew.trans ho3)
        clear hs0 hs1 hx ho3 a0 a1 a2 a3
        try go_wp2_with fail
        refine hK.out _ _ ?_ (fun hHeld => ?_)
        · exact ⟨b0, c1, c2, c3⟩
        clear hK
        try simp only [Act.put, List.setIfInBounds_toArray, List.set_cons_zero, List.set_cons_succ]
        refine AnyT.ready (rs := [8]) (by kernel_rfl) (by simp) ?_
        refine AllT.cons (by simp only [List.getElem?_toArray, List.getElem?_cons_succ, List.getElem?_cons_zero]; rfl) (fun K hK => ?_) AllT.nil
        go_simp
        have hlt := of_decide_eq_true HZ.out
        rw [kvs_length, HI.out.1] at hlt
        have hxm : m[i]? = some m[i] := List.getElem?_eq_getElem hlt
        generalize m[i] = x at hxm
        have hps := HT.out.2 (x.k, x.v) (by rw [HI.out.1]; exact kvs_get hxm)
        obtain ⟨y, hyl, hyk, hyv⟩ := kvs_one (l := a.l) hps
        obtain ⟨e0, e1⟩ := HX.out.2.2 x hxm
        subst e0; subst e1
        have hxr := (HH.out.hm.ok x (List.mem_of_getElem? hxm)).keep0 HO3.out
        have hln : ln = 1 := by rw [HH.out.n2, hyl]; rfl
        subst hln
        have hpy : Prs w3 a.pA [y] := by have := HH.out.ha.hp.keep0 HO3.out; rwa [hyl] at this
        refine (found_yes a.pA a.vA a.pc vl a.vc a.n y x _ hpy hxr hyk hyv).mono ?_
        clear hxr hpy
        rintro e w4 ⟨rfl, ho4⟩
        have u0 := keepc ho4 b0
        have u1 := keepc ho4 c1
        have u2 := keepc ho4 c2
        have u3 := keepc ho4 c3
        have HO4 := hid (HO3.out.trans ho4)
        clear ho4 b0 c1 c2 c3
        try go_wp2_with fail
        refine hK.out _ _ ?_ (fun hHeld => ?_)
        · exact ⟨u0, u1, u2, u3⟩
        clear hK
        try simp only [Act.put, List.setIfInBounds_toArray, List.set_cons_zero, List.set_cons_succ]
        refine AnyT.take (i := 9) (v := ?_) (by simp only [List.getElem?_toArray, List.getElem?_cons_succ, List.getElem?_cons_zero]; rfl) (by kernel_rfl) (by kernel_rfl) (by kernel_rfl) (by kernel_rfl) (by intro _ _ _ h; exact h) (Or.inl ⟨by rfl, fun w hSw => ?_⟩) hHeld ?_
        rotate_left
        · ((try dsimp only at hSw); go_simp; first | done | with_reducible rfl | rfl)
        try simp only [Act.put, List.setIfInBounds_toArray, List.set_cons_zero, List.set_cons_succ]
        refine AnyT.done (by kernel_rfl) ?_ _
        clear hHeld u0 u1 u2 u3
        go_wp2_with fail
        go_ret
        exact ⟨rfl, HO4.out⟩
set_option maxHeartbeats 6400000 in
set_option maxRecDepth 100000 in
theorem read_4 (a : MAn) (m : List Pr) (r : MO) (mA : Option Addr) (n mc ln vl kn vn : Nat) (w : World) (h : RdIn a m r mA n mc ln vl kn vn w) (hkd : r.kind = 4) :
    Calls Tryd.prog 31 #[.agg #[.slice a.pA ln a.pc, .slice a.vA vl a.vc, .int .i64 a.n, .bool a.ok], .slice mA n mc, .agg #[.int .i64 r.kind, .slice r.ka kn r.kc, .slice r.va vn r.vc, .int .i64 r.n]] w fun e w' => e = .returned (.bool true) ∧ Only [] w w' := by
  obtain ⟨q, hq⟩ : ∃ q, w.heap.size = q := ⟨_, rfl⟩
  have hO := ((Own.start w).alloc' hq 58 [.slice a.pA ln a.pc, .slice a.vA vl a.vc, .int .i64 a.n, .bool a.ok]).alloc' (g := q + 1) (by simp [hq]) 67 [.int .i64 r.kind, .slice r.ka kn r.kc, .slice r.va vn r.vc, .int .i64 r.n]
  have HO := hid hO
  have HQ := hid hq
  have HH := hid h
  have b1 := h.b1
  have b2 := h.b2
  have b3 := h.b3
  have ht := h.t.c4 hkd
  rw [mIs_kvs'] at ht
  have HT := hid ht
  obtain ⟨i, hi⟩ : ∃ i, mAt Pr.k m r.k = i := ⟨_, rfl⟩
  obtain ⟨z, hz⟩ : ∃ z, mIs Pr.k m r.k = z := ⟨_, rfl⟩
  have HI := hid (And.intro hi hz)
  have e2 : (r.kind == 2) = false := by rw [hkd]; rfl
  have e3 : (r.kind == 3) = false := by rw [hkd]; rfl
  have e4 : (r.kind == 4) = true := by rw [hkd]; rfl
  clear h hO hq hkd ht hi hz
  go_enter Tryd.func31, Tryd.ntmps31
  go_upto_region 1 with fail
  rw [HQ.out]
  generalize (World.alloc _ _) = W at HO ⊢
  obtain ⟨q2, hq2⟩ : ∃ q2, q + 1 = q2 := ⟨_, rfl⟩
  rw [hq2] at HO ⊢
  clear hq2
  have o1 : W.cell? ⟨q2, 1, none⟩ = some (.slice r.ka kn r.kc) := HO.out.cell 0 rfl (k := 1) 1 rfl (by simp)
  have hw := HO.out.only
  have hat := mapAt mA r.ka mc r.kc m r.k W (HH.out.hm.keep0 hw) (HH.out.hr.hk.keep0 hw) (by have := HH.out.b2; have := HH.out.n4; omega) (fun x hx => by have := HH.out.b4 x hx; omega) (by have := HH.out.n1; omega)
  rw [← HH.out.n1, ← HH.out.n4, HI.out.1, HI.out.2] at hat
  have HAT := hid hat
  clear hw hat
  go_wp2_with fail
  refine HAT.out.mono ?_
  rintro e w2 ⟨rfl, hd2⟩
  have HO2 := hid (HO.out.dr hd2)
  clear hd2 o1 HAT
  have o0 : w2.cell? ⟨q2, 0, none⟩ = some (.int .i64 r.kind) := HO2.out.cell 0 rfl (k := 0) 0 rfl (by simp)
  have o1 : w2.cell? ⟨q2, 1, none⟩ = some (.slice r.ka kn r.kc) := HO2.out.cell 0 rfl (k := 1) 1 rfl (by simp)
  have o2 : w2.cell? ⟨q2, 2, none⟩ = some (.slice r.va vn r.vc) := HO2.out.cell 0 rfl (k := 2) 2 rfl (by simp)
  have o3 : w2.cell? ⟨q2, 3, none⟩ = some (.int .i64 r.n) := HO2.out.cell 0 rfl (k := 3) 3 rfl (by simp)
  have a0 : w2.cell? ⟨q, 0, none⟩ = some (.slice a.pA ln a.pc) := HO2.out.cell 1 rfl (k := 0) 0 rfl (by simp)
  have a1 : w2.cell? ⟨q, 1, none⟩ = some (.slice a.vA vl a.vc) := HO2.out.cell 1 rfl (k := 1) 1 rfl (by simp)
  have a2 : w2.cell? ⟨q, 2, none⟩ = some (.int .i64 a.n) := HO2.out.cell 1 rfl (k := 2) 2 rfl (by simp)
  have a3 : w2.cell? ⟨q, 3, none⟩ = some (.bool a.ok) := HO2.out.cell 1 rfl (k := 3) 3 rfl (by simp)
  have hok : a.ok = z := HT.out.trans HI.out.2
  rw [hok] at a3
  have heq : (z == z) = true := by cases z <;> rfl
  clear o1 o2 o3 a0 a1 a2 hok
  cases z with
  | true =>
    go_wp2_with fail
    go_ret
    exact ⟨rfl, HO2.out.only⟩
  | false =>
    go_wp2_with fail
    go_ret
    exact ⟨rfl, HO2.out.only⟩
set_option maxHeartbeats 6400000 in
set_option maxRecDepth 100000 in
theorem read_5 (a : MAn) (m : List Pr) (r : MO) (mA : Option Addr) (n mc ln vl kn vn : Nat) (w : World) (h : RdIn a m r mA n mc ln vl kn vn w) (hkd : r.kind = 5) :
    Calls Tryd.prog 31 #[.agg #[.slice a.pA ln a.pc, .slice a.vA vl a.vc, .int .i64 a.n, .bool a.ok], .slice mA n mc, .agg #[.int .i64 r.kind, .slice r.ka kn r.kc, .slice r.va vn r.vc, .int .i64 r.n]] w fun e w' => e = .returned (.bool true) ∧ Only [] w w' := by
  obtain ⟨q, hq⟩ : ∃ q, w.heap.size = q := ⟨_, rfl⟩
  have hO := ((Own.start w).alloc' hq 58 [.slice a.pA ln a.pc, .slice a.vA vl a.vc, .int .i64 a.n, .bool a.ok]).alloc' (g := q + 1) (by simp [hq]) 67 [.int .i64 r.kind, .slice r.ka kn r.kc, .slice r.va vn r.vc, .int .i64 r.n]
  have HO := hid hO
  have HQ := hid hq
  have HH := hid h
  have b1 := h.b1
  have b2 := h.b2
  have b3 := h.b3
  have ht := h.t.c5 hkd
  rw [kvs_length] at ht
  have HT := hid ht
  obtain ⟨i, hi⟩ : ∃ i, mAt Pr.k m r.k = i := ⟨_, rfl⟩
  obtain ⟨z, hz⟩ : ∃ z, mIs Pr.k m r.k = z := ⟨_, rfl⟩
  have HI := hid (And.intro hi hz)
  have e2 : (r.kind == 2) = false := by rw [hkd]; rfl
  have e3 : (r.kind == 3) = false := by rw [hkd]; rfl
  have e4 : (r.kind == 4) = false := by rw [hkd]; rfl
  have e5 : (r.kind == 5) = true := by rw [hkd]; rfl
  clear h hO hq hkd ht hi hz
  go_enter Tryd.func31, Tryd.ntmps31
  go_upto_region 1 with fail
  rw [HQ.out]
  generalize (World.alloc _ _) = W at HO ⊢
  obtain ⟨q2, hq2⟩ : ∃ q2, q + 1 = q2 := ⟨_, rfl⟩
  rw [hq2] at HO ⊢
  clear hq2
  have o1 : W.cell? ⟨q2, 1, none⟩ = some (.slice r.ka kn r.kc) := HO.out.cell 0 rfl (k := 1) 1 rfl (by simp)
  have hw := HO.out.only
  have hat := mapAt mA r.ka mc r.kc m r.k W (HH.out.hm.keep0 hw) (HH.out.hr.hk.keep0 hw) (by have := HH.out.b2; have := HH.out.n4; omega) (fun x hx => by have := HH.out.b4 x hx; omega) (by have := HH.out.n1; omega)
  rw [← HH.out.n1, ← HH.out.n4, HI.out.1, HI.out.2] at hat
  have HAT := hid hat
  clear hw hat
  go_wp2_with fail
  refine HAT.out.mono ?_
  rintro e w2 ⟨rfl, hd2⟩
  have HO2 := hid (HO.out.dr hd2)
  clear hd2 o1 HAT
  have o0 : w2.cell? ⟨q2, 0, none⟩ = some (.int .i64 r.kind) := HO2.out.cell 0 rfl (k := 0) 0 rfl (by simp)
  have o1 : w2.cell? ⟨q2, 1, none⟩ = some (.slice r.ka kn r.kc) := HO2.out.cell 0 rfl (k := 1) 1 rfl (by simp)
  have o2 : w2.cell? ⟨q2, 2, none⟩ = some (.slice r.va vn r.vc) := HO2.out.cell 0 rfl (k := 2) 2 rfl (by simp)
  have o3 : w2.cell? ⟨q2, 3, none⟩ = some (.int .i64 r.n) := HO2.out.cell 0 rfl (k := 3) 3 rfl (by simp)
  have a0 : w2.cell? ⟨q, 0, none⟩ = some (.slice a.pA ln a.pc) := HO2.out.cell 1 rfl (k := 0) 0 rfl (by simp)
  have a1 : w2.cell? ⟨q, 1, none⟩ = some (.slice a.vA vl a.vc) := HO2.out.cell 1 rfl (k := 1) 1 rfl (by simp)
  have a2 : w2.cell? ⟨q, 2, none⟩ = some (.int .i64 a.n) := HO2.out.cell 1 rfl (k := 2) 2 rfl (by simp)
  have a3 : w2.cell? ⟨q, 3, none⟩ = some (.bool a.ok) := HO2.out.cell 1 rfl (k := 3) 3 rfl (by simp)
  have hn : a.n = (n : Int) := by rw [HH.out.n1]; exact HT.out
  rw [hn] at a2
  have heq : ((n : Int) == (n : Int)) = true := by simp
  clear o1 o2 o3 a0 a1 a3 hn
  go_wp2_with fail
  go_ret
  exact ⟨by first | rfl | simp, HO2.out.only⟩
set_option maxHeartbeats 6400000 in
set_option maxRecDepth 100000 in
theorem read_7 (a : MAn) (m : List Pr) (r : MO) (mA : Option Addr) (n mc ln vl kn vn : Nat) (w : World) (h : RdIn a m r mA n mc ln vl kn vn w) (hkd : r.kind = 7) :
    Calls Tryd.prog 31 #[.agg #[.slice a.pA ln a.pc, .slice a.vA vl a.vc, .int .i64 a.n, .bool a.ok], .slice mA n mc, .agg #[.int .i64 r.kind, .slice r.ka kn r.kc, .slice r.va vn r.vc, .int .i64 r.n]] w fun e w' => e = .returned (.bool true) ∧ Only [] w w' := by
  obtain ⟨q, hq⟩ : ∃ q, w.heap.size = q := ⟨_, rfl⟩
  have hO := ((Own.start w).alloc' hq 58 [.slice a.pA ln a.pc, .slice a.vA vl a.vc, .int .i64 a.n, .bool a.ok]).alloc' (g := q + 1) (by simp [hq]) 67 [.int .i64 r.kind, .slice r.ka kn r.kc, .slice r.va vn r.vc, .int .i64 r.n]
  have HO := hid hO
  have HQ := hid hq
  have HH := hid h
  have b1 := h.b1
  have b2 := h.b2
  have b3 := h.b3
  have ht := h.t.c7 hkd
  skip
  have HT := hid ht
  obtain ⟨i, hi⟩ : ∃ i, mAt Pr.k m r.k = i := ⟨_, rfl⟩
  obtain ⟨z, hz⟩ : ∃ z, mIs Pr.k m r.k = z := ⟨_, rfl⟩
  have HI := hid (And.intro hi hz)
  have e2 : (r.kind == 2) = false := by rw [hkd]; rfl
  have e3 : (r.kind == 3) = false := by rw [hkd]; rfl
  have e4 : (r.kind == 4) = false := by rw [hkd]; rfl
  have e5 : (r.kind == 5) = false := by rw [hkd]; rfl
  have e7 : (r.kind == 7) = true := by rw [hkd]; rfl
  clear h hO hq hkd ht hi hz
  go_enter Tryd.func31, Tryd.ntmps31
  go_upto_region 1 with fail
  rw [HQ.out]
  generalize (World.alloc _ _) = W at HO ⊢
  obtain ⟨q2, hq2⟩ : ∃ q2, q + 1 = q2 := ⟨_, rfl⟩
  rw [hq2] at HO ⊢
  clear hq2
  have o1 : W.cell? ⟨q2, 1, none⟩ = some (.slice r.ka kn r.kc) := HO.out.cell 0 rfl (k := 1) 1 rfl (by simp)
  have hw := HO.out.only
  have hat := mapAt mA r.ka mc r.kc m r.k W (HH.out.hm.keep0 hw) (HH.out.hr.hk.keep0 hw) (by have := HH.out.b2; have := HH.out.n4; omega) (fun x hx => by have := HH.out.b4 x hx; omega) (by have := HH.out.n1; omega)
  rw [← HH.out.n1, ← HH.out.n4, HI.out.1, HI.out.2] at hat
  have HAT := hid hat
  clear hw hat
  go_wp2_with fail
  refine HAT.out.mono ?_
  rintro e w2 ⟨rfl, hd2⟩
  have HO2 := hid (HO.out.dr hd2)
  clear hd2 o1 HAT
  have o0 : w2.cell? ⟨q2, 0, none⟩ = some (.int .i64 r.kind) := HO2.out.cell 0 rfl (k := 0) 0 rfl (by simp)
  have o1 : w2.cell? ⟨q2, 1, none⟩ = some (.slice r.ka kn r.kc) := HO2.out.cell 0 rfl (k := 1) 1 rfl (by simp)
  have o2 : w2.cell? ⟨q2, 2, none⟩ = some (.slice r.va vn r.vc) := HO2.out.cell 0 rfl (k := 2) 2 rfl (by simp)
  have o3 : w2.cell? ⟨q2, 3, none⟩ = some (.int .i64 r.n) := HO2.out.cell 0 rfl (k := 3) 3 rfl (by simp)
  have a0 : w2.cell? ⟨q, 0, none⟩ = some (.slice a.pA ln a.pc) := HO2.out.cell 1 rfl (k := 0) 0 rfl (by simp)
  have a1 : w2.cell? ⟨q, 1, none⟩ = some (.slice a.vA vl a.vc) := HO2.out.cell 1 rfl (k := 1) 1 rfl (by simp)
  have a2 : w2.cell? ⟨q, 2, none⟩ = some (.int .i64 a.n) := HO2.out.cell 1 rfl (k := 2) 2 rfl (by simp)
  have a3 : w2.cell? ⟨q, 3, none⟩ = some (.bool a.ok) := HO2.out.cell 1 rfl (k := 3) 3 rfl (by simp)
  have hl7 : a.l.length = m.length := by
    have h9 : kvs a.l = kvs m := HT.out
    have := congrArg List.length h9
    rwa [kvs_length, kvs_length] at this
  have HL := hid (show a.l.length ≤ m.length by omega)
  clear hl7 o1 o2 o3 a1 a2 a3
  have hp2 : St [] w2 fun w => Prs w a.pA a.l := fun w' ho _ => (HH.out.ha.hp.keep0 HO2.out.only).keep0 ho
  have hal : a.l.length ≤ 1000 := by have := HL.out; have := HH.out.n1; omega
  have hps := pairs_own a.pA a.pc a.l [] w2 w2 hp2 (Own.start w2) (by omega)
  rw [← HH.out.n2] at hps
  have HPS := hid hps
  have HAL := hid hal
  clear hps hp2 hal
  go_wp2_with fail
  refine HPS.out.mono ?_
  rintro e w3 ⟨A3, c3, F3, rfl, hr3, hO3⟩
  have HO3 := hid (HO2.out.only.new hO3.out.only)
  have hp3 : Prs w3 A3 a.l := ⟨hr3.out.csO hO3.out, fun x hx => (HH.out.ha.hp.ok x hx).keep0 HO3.out⟩
  have HP3 := hid hp3
  clear hp3 hr3 hO3 o0 a0
  go_wp2_with fail
  refine (equal_true A3 mA c3 mc a.l.length n a.l m _ HP3.out (HH.out.hm.keep0 HO3.out) rfl HH.out.n1 HT.out (by have := HAL.out; omega)).mono ?_
  rintro e w5 ⟨rfl, hd5⟩
  have HO5 := hid (HO3.out.dr hd5)
  clear hd5
  go_wp2_with fail
  go_ret
  exact ⟨rfl, HO5.out⟩
set_option maxHeartbeats 6400000 in
set_option maxRecDepth 100000 in
theorem read_8 (a : MAn) (m : List Pr) (r : MO) (mA : Option Addr) (n mc ln vl kn vn : Nat) (w : World) (h : RdIn a m r mA n mc ln vl kn vn w) (hkd : r.kind = 8) :
    Calls Tryd.prog 31 #[.agg #[.slice a.pA ln a.pc, .slice a.vA vl a.vc, .int .i64 a.n, .bool a.ok], .slice mA n mc, .agg #[.int .i64 r.kind, .slice r.ka kn r.kc, .slice r.va vn r.vc, .int .i64 r.n]] w fun e w' => e = .returned (.bool true) ∧ Only [] w w' := by
  obtain ⟨q, hq⟩ : ∃ q, w.heap.size = q := ⟨_, rfl⟩
  have hO := ((Own.start w).alloc' hq 58 [.slice a.pA ln a.pc, .slice a.vA vl a.vc, .int .i64 a.n, .bool a.ok]).alloc' (g := q + 1) (by simp [hq]) 67 [.int .i64 r.kind, .slice r.ka kn r.kc, .slice r.va vn r.vc, .int .i64 r.n]
  have HO := hid hO
  have HQ := hid hq
  have HH := hid h
  have b1 := h.b1
  have b2 := h.b2
  have b3 := h.b3
  have ht := h.t.c8 hkd
  skip
  have HT := hid ht
  obtain ⟨i, hi⟩ : ∃ i, mAt Pr.k m r.k = i := ⟨_, rfl⟩
  obtain ⟨z, hz⟩ : ∃ z, mIs Pr.k m r.k = z := ⟨_, rfl⟩
  have HI := hid (And.intro hi hz)
  have e2 : (r.kind == 2) = false := by rw [hkd]; rfl
  have e3 : (r.kind == 3) = false := by rw [hkd]; rfl
  have e4 : (r.kind == 4) = false := by rw [hkd]; rfl
  have e5 : (r.kind == 5) = false := by rw [hkd]; rfl
  have e7 : (r.kind == 7) = false := by rw [hkd]; rfl
  have e8 : (r.kind == 8) = true := by rw [hkd]; rfl
  clear h hO hq hkd ht hi hz
  go_enter Tryd.func31, Tryd.ntmps31
  go_upto_region 1 with fail
  rw [HQ.out]
  generalize (World.alloc _ _) = W at HO ⊢
  obtain ⟨q2, hq2⟩ : ∃ q2, q + 1 = q2 := ⟨_, rfl⟩
  rw [hq2] at HO ⊢
  clear hq2
  have o1 : W.cell? ⟨q2, 1, none⟩ = some (.slice r.ka kn r.kc) := HO.out.cell 0 rfl (k := 1) 1 rfl (by simp)
  have hw := HO.out.only
  have hat := mapAt mA r.ka mc r.kc m r.k W (HH.out.hm.keep0 hw) (HH.out.hr.hk.keep0 hw) (by have := HH.out.b2; have := HH.out.n4; omega) (fun x hx => by have := HH.out.b4 x hx; omega) (by have := HH.out.n1; omega)
  rw [← HH.out.n1, ← HH.out.n4, HI.out.1, HI.out.2] at hat
  have HAT := hid hat
  clear hw hat
  go_wp2_with fail
  refine HAT.out.mono ?_
  rintro e w2 ⟨rfl, hd2⟩
  have HO2 := hid (HO.out.dr hd2)
  clear hd2 o1 HAT
  have o0 : w2.cell? ⟨q2, 0, none⟩ = some (.int .i64 r.kind) := HO2.out.cell 0 rfl (k := 0) 0 rfl (by simp)
  have o1 : w2.cell? ⟨q2, 1, none⟩ = some (.slice r.ka kn r.kc) := HO2.out.cell 0 rfl (k := 1) 1 rfl (by simp)
  have o2 : w2.cell? ⟨q2, 2, none⟩ = some (.slice r.va vn r.vc) := HO2.out.cell 0 rfl (k := 2) 2 rfl (by simp)
  have o3 : w2.cell? ⟨q2, 3, none⟩ = some (.int .i64 r.n) := HO2.out.cell 0 rfl (k := 3) 3 rfl (by simp)
  have a0 : w2.cell? ⟨q, 0, none⟩ = some (.slice a.pA ln a.pc) := HO2.out.cell 1 rfl (k := 0) 0 rfl (by simp)
  have a1 : w2.cell? ⟨q, 1, none⟩ = some (.slice a.vA vl a.vc) := HO2.out.cell 1 rfl (k := 1) 1 rfl (by simp)
  have a2 : w2.cell? ⟨q, 2, none⟩ = some (.int .i64 a.n) := HO2.out.cell 1 rfl (k := 2) 2 rfl (by simp)
  have a3 : w2.cell? ⟨q, 3, none⟩ = some (.bool a.ok) := HO2.out.cell 1 rfl (k := 3) 3 rfl (by simp)
  have hl7 : a.l.length = m.length := by
    have h9 : kvs a.l = (kvs m).reverse := HT.out
    have := congrArg List.length h9
    rwa [kvs_length, List.length_reverse, kvs_length] at this
  have HL := hid (show a.l.length ≤ m.length by omega)
  clear hl7 o1 o2 o3 a1 a2 a3
  have hp2 : St [] w2 fun w => Prs w a.pA a.l := fun w' ho _ => (HH.out.ha.hp.keep0 HO2.out.only).keep0 ho
  have hal : a.l.length ≤ 1000 := by have := HL.out; have := HH.out.n1; omega
  have hps := pairs_own a.pA a.pc a.l [] w2 w2 hp2 (Own.start w2) (by omega)
  rw [← HH.out.n2] at hps
  have HPS := hid hps
  have HAL := hid hal
  clear hps hp2 hal
  go_wp2_with fail
  refine HPS.out.mono ?_
  rintro e w3 ⟨A3, c3, F3, rfl, hr3, hO3⟩
  have HO3 := hid (HO2.out.only.new hO3.out.only)
  have hp3 : Prs w3 A3 a.l := ⟨hr3.out.csO hO3.out, fun x hx => (HH.out.ha.hp.ok x hx).keep0 HO3.out⟩
  have HP3 := hid hp3
  clear hp3 hr3 hO3 o0 a0
  go_wp2_with fail
  refine (backward_own mA mc n m _ (HH.out.hm.keep0 HO3.out) HH.out.n1 (by omega)).mono ?_
  rintro e w4 ⟨A4, c4, F4, rfl, hr4, hO4⟩
  have HO4 := hid (HO3.out.new hO4.out.only)
  have hp4 : Prs w4 A4 m.reverse := ⟨hr4.out.csO hO4.out, fun x hx => (HH.out.hm.ok x (List.mem_reverse.1 hx)).keep0 HO4.out⟩
  have HP4 := hid hp4
  have HP5 := hid (HP3.out.keep0 hO4.out.only)
  obtain ⟨rl, hrl⟩ : ∃ rl, m.reverse.length = rl := ⟨_, rfl⟩
  rw [hrl]
  have HRL := hid hrl
  clear hp4 hr4 hO4 hrl
  go_wp2_with fail
  refine (equal_true A3 A4 c3 c4 a.l.length rl a.l m.reverse _ HP5.out HP4.out rfl HRL.out.symm (by have h9 : kvs a.l = (kvs m).reverse := HT.out; rw [h9]; simp [kvs]) (by have := HAL.out; omega)).mono ?_
  rintro e w5 ⟨rfl, hd5⟩
  have HO5 := hid (HO4.out.dr hd5)
  clear hd5
  go_wp2_with fail
  go_ret
  exact ⟨rfl, HO5.out⟩
set_option maxHeartbeats 6400000 in
set_option maxRecDepth 100000 in
theorem read_9 (a : MAn) (m : List Pr) (r : MO) (mA : Option Addr) (n mc ln vl kn vn : Nat) (w : World) (h : RdIn a m r mA n mc ln vl kn vn w) (hkd : r.kind = 9) :
    Calls Tryd.prog 31 #[.agg #[.slice a.pA ln a.pc, .slice a.vA vl a.vc, .int .i64 a.n, .bool a.ok], .slice mA n mc, .agg #[.int .i64 r.kind, .slice r.ka kn r.kc, .slice r.va vn r.vc, .int .i64 r.n]] w fun e w' => e = .returned (.bool true) ∧ Only [] w w' := by
  obtain ⟨q, hq⟩ : ∃ q, w.heap.size = q := ⟨_, rfl⟩
  have hO := ((Own.start w).alloc' hq 58 [.slice a.pA ln a.pc, .slice a.vA vl a.vc, .int .i64 a.n, .bool a.ok]).alloc' (g := q + 1) (by simp [hq]) 67 [.int .i64 r.kind, .slice r.ka kn r.kc, .slice r.va vn r.vc, .int .i64 r.n]
  have HO := hid hO
  have HQ := hid hq
  have HH := hid h
  have b1 := h.b1
  have b2 := h.b2
  have b3 := h.b3
  have ht := h.t.c9 hkd
  skip
  have HT := hid ht
  obtain ⟨i, hi⟩ : ∃ i, mAt Pr.k m r.k = i := ⟨_, rfl⟩
  obtain ⟨z, hz⟩ : ∃ z, mIs Pr.k m r.k = z := ⟨_, rfl⟩
  have HI := hid (And.intro hi hz)
  have e2 : (r.kind == 2) = false := by rw [hkd]; rfl
  have e3 : (r.kind == 3) = false := by rw [hkd]; rfl
  have e4 : (r.kind == 4) = false := by rw [hkd]; rfl
  have e5 : (r.kind == 5) = false := by rw [hkd]; rfl
  have e7 : (r.kind == 7) = false := by rw [hkd]; rfl
  have e8 : (r.kind == 8) = false := by rw [hkd]; rfl
  have e9 : (r.kind == 9) = true := by rw [hkd]; rfl
  clear h hO hq hkd ht hi hz
  go_enter Tryd.func31, Tryd.ntmps31
  go_upto_region 1 with fail
  rw [HQ.out]
  generalize (World.alloc _ _) = W at HO ⊢
  obtain ⟨q2, hq2⟩ : ∃ q2, q + 1 = q2 := ⟨_, rfl⟩
  rw [hq2] at HO ⊢
  clear hq2
  have o1 : W.cell? ⟨q2, 1, none⟩ = some (.slice r.ka kn r.kc) := HO.out.cell 0 rfl (k := 1) 1 rfl (by simp)
  have hw := HO.out.only
  have hat := mapAt mA r.ka mc r.kc m r.k W (HH.out.hm.keep0 hw) (HH.out.hr.hk.keep0 hw) (by have := HH.out.b2; have := HH.out.n4; omega) (fun x hx => by have := HH.out.b4 x hx; omega) (by have := HH.out.n1; omega)
  rw [← HH.out.n1, ← HH.out.n4, HI.out.1, HI.out.2] at hat
  have HAT := hid hat
  clear hw hat
  go_wp2_with fail
  refine HAT.out.mono ?_
  rintro e w2 ⟨rfl, hd2⟩
  have HO2 := hid (HO.out.dr hd2)
  clear hd2 o1 HAT
  have o0 : w2.cell? ⟨q2, 0, none⟩ = some (.int .i64 r.kind) := HO2.out.cell 0 rfl (k := 0) 0 rfl (by simp)
  have o1 : w2.cell? ⟨q2, 1, none⟩ = some (.slice r.ka kn r.kc) := HO2.out.cell 0 rfl (k := 1) 1 rfl (by simp)
  have o2 : w2.cell? ⟨q2, 2, none⟩ = some (.slice r.va vn r.vc) := HO2.out.cell 0 rfl (k := 2) 2 rfl (by simp)
  have o3 : w2.cell? ⟨q2, 3, none⟩ = some (.int .i64 r.n) := HO2.out.cell 0 rfl (k := 3) 3 rfl (by simp)
  have a0 : w2.cell? ⟨q, 0, none⟩ = some (.slice a.pA ln a.pc) := HO2.out.cell 1 rfl (k := 0) 0 rfl (by simp)
  have a1 : w2.cell? ⟨q, 1, none⟩ = some (.slice a.vA vl a.vc) := HO2.out.cell 1 rfl (k := 1) 1 rfl (by simp)
  have a2 : w2.cell? ⟨q, 2, none⟩ = some (.int .i64 a.n) := HO2.out.cell 1 rfl (k := 2) 2 rfl (by simp)
  have a3 : w2.cell? ⟨q, 3, none⟩ = some (.bool a.ok) := HO2.out.cell 1 rfl (k := 3) 3 rfl (by simp)
  have hl7 : a.l.length ≤ m.length := by
    have h9 : kvs a.l = mRange Prod.fst (kvs m) r.k (bnd r.v) := HT.out
    have := congrArg List.length h9
    rw [kvs_length] at this
    have h2 : (mRange Prod.fst (kvs m) r.k (bnd r.v)).length ≤ (kvs m).length := List.length_filter_le _ _
    rw [kvs_length] at h2
    omega
  have HL := hid hl7
  clear hl7 o3 a1 a2 a3
  have hp2 : St [] w2 fun w => Prs w a.pA a.l := fun w' ho _ => (HH.out.ha.hp.keep0 HO2.out.only).keep0 ho
  have hal : a.l.length ≤ 1000 := by have := HL.out; have := HH.out.n1; omega
  have hps := pairs_own a.pA a.pc a.l [] w2 w2.drew (by exact hp2) ((Own.start w2).drew) (by omega)
  rw [← HH.out.n2] at hps
  have HPS := hid hps
  have HAL := hid hal
  clear hps hp2 hal
  go_wp2_with fail
  refine AnyT.start (S := fun w' => w'.cell? ⟨q, 0, none⟩ = some (.slice a.pA ln a.pc) ∧ w'.cell? ⟨q2, 1, none⟩ = some (.slice r.ka kn r.kc) ∧ w'.cell? ⟨q2, 2, none⟩ = some (.slice r.va vn r.vc)) (T := []) (by kernel_rfl) (⟨a0, o1, o2⟩) (fun hHeld => ?_)
  refine AnyT.take (i := 0) (v := ?_) (by simp only [List.getElem?_toArray, List.getElem?_cons_succ, List.getElem?_cons_zero]; rfl) (by kernel_rfl) (by kernel_rfl) (by kernel_rfl) (by kernel_rfl) (by intro _ _ _ h; exact h) (Or.inl ⟨by rfl, fun w hSw => ?_⟩) hHeld ?_
  rotate_left
  · ((try dsimp only at hSw); go_simp; first | done | with_reducible rfl | rfl)
  try simp only [Act.put, List.setIfInBounds_toArray, List.set_cons_zero, List.set_cons_succ]
  refine AnyT.take (i := 1) (v := ?_) (by simp only [List.getElem?_toArray, List.getElem?_cons_succ, List.getElem?_cons_zero]; rfl) (by kernel_rfl) (by kernel_rfl) (by kernel_rfl) (by kernel_rfl) (by intro _ _ _ h; exact h) (Or.inl ⟨by rfl, fun w hSw => ?_⟩) hHeld ?_
  rotate_left
  · ((try dsimp only at hSw); go_simp; first | done | with_reducible rfl | rfl)
  try simp only [Act.put, List.setIfInBounds_toArray, List.set_cons_zero, List.set_cons_succ]
  refine AnyT.take (i := 3) (v := ?_) (by simp only [List.getElem?_toArray, List.getElem?_cons_succ, List.getElem?_cons_zero]; rfl) (by kernel_rfl) (by kernel_rfl) (by kernel_rfl) (by kernel_rfl) (by intro _ _ _ h; exact h) (Or.inl ⟨by rfl, fun w hSw => ?_⟩) hHeld ?_
  rotate_left
  · ((try dsimp only at hSw); go_simp; first | done | with_reducible rfl | rfl)
  try simp only [Act.put, List.setIfInBounds_toArray, List.set_cons_zero, List.set_cons_succ]
  refine AnyT.take (i := 4) (v := ?_) (by simp only [List.getElem?_toArray, List.getElem?_cons_succ, List.getElem?_cons_zero]; rfl) (by kernel_rfl) (by kernel_rfl) (by kernel_rfl) (by kernel_rfl) (by intro _ _ _ h; exact h) (Or.inl ⟨by rfl, fun w hSw => ?_⟩) hHeld ?_
  rotate_left
  · ((try dsimp only at hSw); go_simp; first | done | with_reducible rfl | rfl)
  try simp only [Act.put, List.setIfInBounds_toArray, List.set_cons_zero, List.set_cons_succ]
  refine AnyT.take (i := 5) (v := ?_) (by simp only [List.getElem?_toArray, List.getElem?_cons_succ, List.getElem?_cons_zero]; rfl) (by kernel_rfl) (by kernel_rfl) (by kernel_rfl) (by kernel_rfl) (by intro _ _ _ h; exact h) (Or.inl ⟨by rfl, fun w hSw => ?_⟩) hHeld ?_
  rotate_left
  · ((try dsimp only at hSw); go_simp; first | done | with_reducible rfl | rfl)
  try simp only [Act.put, List.setIfInBounds_toArray, List.set_cons_zero, List.set_cons_succ]
  refine AnyT.take (i := 6) (v := ?_) (by simp only [List.getElem?_toArray, List.getElem?_cons_succ, List.getElem?_cons_zero]; rfl) (by kernel_rfl) (by kernel_rfl) (by kernel_rfl) (by kernel_rfl) (by intro _ _ _ h; exact h) (Or.inl ⟨by rfl, fun w hSw => ?_⟩) hHeld ?_
  rotate_left
  · ((try dsimp only at hSw); go_simp; first | done | with_reducible rfl | rfl)
  try simp only [Act.put, List.setIfInBounds_toArray, List.set_cons_zero, List.set_cons_succ]
  refine AnyT.take (i := 7) (v := ?_) (by simp only [List.getElem?_toArray, List.getElem?_cons_succ, List.getElem?_cons_zero]; rfl) (by kernel_rfl) (by kernel_rfl) (by kernel_rfl) (by kernel_rfl) (by intro _ _ _ h; exact h) (Or.inl ⟨by rfl, fun w hSw => ?_⟩) hHeld ?_
  rotate_left
  · ((try dsimp only at hSw); go_simp; first | done | with_reducible rfl | rfl)
  try simp only [Act.put, List.setIfInBounds_toArray, List.set_cons_zero, List.set_cons_succ]
  refine AnyT.ready (rs := [2]) (by kernel_rfl) (by simp) ?_
  refine AllT.cons (by simp only [List.getElem?_toArray, List.getElem?_cons_succ, List.getElem?_cons_zero]; rfl) (fun K hK => ?_) AllT.nil
  go_simp
  refine HPS.out.mono ?_
  rintro e w3 ⟨A3, c3, F3, rfl, hr3, hO3⟩
  have ho3 := hO3.out.only
  have HO3 := hid (HO2.out.only.new ho3)
  have hp3 : Prs w3 A3 a.l := ⟨hr3.out.csO hO3.out, fun x hx => (HH.out.ha.hp.ok x hx).keep0 HO3.out⟩
  have HP3 := hid hp3
  have b0 := keepc ho3 a0
  have b1x := keepc ho3 o1
  have b2x := keepc ho3 o2
  obtain ⟨al, hal⟩ : ∃ al, a.l.length = al := ⟨_, rfl⟩
  rw [hal]
  have HALL := hid hal
  clear hp3 hr3 hO3 o0 a0 o1 o2 ho3 hal
  try go_wp2_with fail
  refine hK.out _ _ ?_ (fun hHeld => ?_)
  · exact ⟨b0, b1x, b2x⟩
  clear hK
  try simp only [Act.put, List.setIfInBounds_toArray, List.set_cons_zero, List.set_cons_succ]
  refine AnyT.ready (rs := [8]) (by kernel_rfl) (by simp) ?_
  refine AllT.cons (by simp only [List.getElem?_toArray, List.getElem?_cons_succ, List.getElem?_cons_zero]; rfl) (fun K hK => ?_) AllT.nil
  go_simp
  refine (bound_any r.va r.vc vn r.v w3 (HH.out.hr.hv.keep0 HO3.out) HH.out.n5).mono ?_
  rintro e w4 ⟨⟨lv, rfl, hlv⟩, rfl⟩
  have HLV := hid hlv
  have hlim : LimV w3 lv (bnd r.v) := by
    rcases HLV.out with ⟨h1, h2⟩ | ⟨h1, g, o, h2, h3⟩
    · exact .inl ⟨by unfold bnd; rw [if_pos h1], h2⟩
    · have hvb : BsAt w3 r.va r.v := HH.out.hr.hv.keep0 HO3.out
      rw [h2] at hvb
      exact .inr ⟨r.v, g, o, vn, r.vc, by unfold bnd; rw [if_neg h1], by rw [h3, h2], HH.out.n5, hvb, by have := HH.out.n5; omega⟩
  have HLIM := hid hlim
  clear hlv hlim
  try go_wp2_with fail
  refine hK.out _ _ ?_ (fun hHeld => ?_)
  · exact ⟨b0, b1x, b2x⟩
  clear hK
  try simp only [Act.put, List.setIfInBounds_toArray, List.set_cons_zero, List.set_cons_succ]
  refine AnyT.ready (rs := [9]) (by kernel_rfl) (by simp) ?_
  refine AllT.cons (by simp only [List.getElem?_toArray, List.getElem?_cons_succ, List.getElem?_cons_zero]; rfl) (fun K hK => ?_) AllT.nil
  go_simp
  refine (specRange mA r.ka mc n kn r.kc lv m r.k (bnd r.v) _ (HH.out.hm.keep0 HO3.out) (HH.out.hr.hk.keep0 HO3.out) HLIM.out HH.out.n1 HH.out.n4 (by omega) HH.out.b4 (by omega)).mono ?_
  rintro e w5 ⟨A5, c5, F5, rfl, hr5, hO5⟩
  have ho5 := hO5.out.only
  have HO5 := hid (HO3.out.new ho5)
  have hp5 : Prs w5 A5 (mRange Pr.k m r.k (bnd r.v)) := ⟨hr5.out.csO hO5.out, fun x hx => (HH.out.hm.ok x (by unfold mRange at hx; exact (List.mem_filter.1 hx).1)).keep0 HO5.out⟩
  have HP5 := hid hp5
  have HP6 := hid (HP3.out.keep0 ho5)
  have d0 := keepc ho5 b0
  have d1 := keepc ho5 b1x
  have d2 := keepc ho5 b2x
  obtain ⟨rl, hrl⟩ : ∃ rl, (mRange Pr.k m r.k (bnd r.v)).length = rl := ⟨_, rfl⟩
  rw [hrl]
  have HRL := hid hrl
  clear hp5 hr5 hO5 ho5 b0 b1x b2x hrl
  try go_wp2_with fail
  refine hK.out _ _ ?_ (fun hHeld => ?_)
  · exact ⟨d0, d1, d2⟩
  clear hK
  try simp only [Act.put, List.setIfInBounds_toArray, List.set_cons_zero, List.set_cons_succ]
  refine AnyT.ready (rs := [10]) (by kernel_rfl) (by simp) ?_
  refine AllT.cons (by simp only [List.getElem?_toArray, List.getElem?_cons_succ, List.getElem?_cons_zero]; rfl) (fun K hK => ?_) AllT.nil
  go_simp
  refine (equal_true A3 A5 c3 c5 al rl a.l (mRange Pr.k m r.k (bnd r.v)) _ HP6.out HP5.out HALL.out.symm HRL.out.symm (by have h9 : kvs a.l = mRange Prod.fst (kvs m) r.k (bnd r.v) := HT.out; rw [h9]; unfold mRange kvs; rw [List.filter_map]; rfl) (by have := HAL.out; omega)).mono ?_
  rintro e w6 ⟨rfl, hd6⟩
  have HO6 := hid (HO5.out.dr hd6)
  have f0 := keepc hd6.only d0
  have f1 := keepc hd6.only d1
  have f2 := keepc hd6.only d2
  clear hd6 d0 d1 d2
  try go_wp2_with fail
  refine hK.out _ _ ?_ (fun hHeld => ?_)
  · exact ⟨f0, f1, f2⟩
  clear hK
  try simp only [Act.put, List.setIfInBounds_toArray, List.set_cons_zero, List.set_cons_succ]
  refine AnyT.take (i := 11) (v := ?_) (by simp only [List.getElem?_toArray, List.getElem?_cons_succ, List.getElem?_cons_zero]; rfl) (by kernel_rfl) (by kernel_rfl) (by kernel_rfl) (by kernel_rfl) (by intro _ _ _ h; exact h) (Or.inl ⟨by rfl, fun w hSw => ?_⟩) hHeld ?_
  rotate_left
  · ((try dsimp only at hSw); go_simp; first | done | with_reducible rfl | rfl)
  try simp only [Act.put, List.setIfInBounds_toArray, List.set_cons_zero, List.set_cons_succ]
  refine AnyT.done (by kernel_rfl) ?_ _
  clear hHeld f0 f1 f2
  go_wp2_with fail
  go_ret
  exact ⟨rfl, HO6.out⟩
set_option maxHeartbeats 6400000 in
set_option maxRecDepth 100000 in
theorem read_10 (a : MAn) (m : List Pr) (r : MO) (mA : Option Addr) (n mc ln vl kn vn : Nat) (w : World) (h : RdIn a m r mA n mc ln vl kn vn w) (hkd : r.kind = 10) :
    Calls Tryd.prog 31 #[.agg #[.slice a.pA ln a.pc, .slice a.vA vl a.vc, .int .i64 a.n, .bool a.ok], .slice mA n mc, .agg #[.int .i64 r.kind, .slice r.ka kn r.kc, .slice r.va vn r.vc, .int .i64 r.n]] w fun e w' => e = .returned (.bool true) ∧ Only [] w w' := by
  obtain ⟨q, hq⟩ : ∃ q, w.heap.size = q := ⟨_, rfl⟩
  have hO := ((Own.start w).alloc' hq 58 [.slice a.pA ln a.pc, .slice a.vA vl a.vc, .int .i64 a.n, .bool a.ok]).alloc' (g := q + 1) (by simp [hq]) 67 [.int .i64 r.kind, .slice r.ka kn r.kc, .slice r.va vn r.vc, .int .i64 r.n]
  have HO := hid hO
  have HQ := hid hq
  have HH := hid h
  have b1 := h.b1
  have b2 := h.b2
  have b3 := h.b3
  have ht := h.t.c10 hkd
  rw [kvs_length, mAt_kvs'] at ht
  have HT := hid ht
  obtain ⟨i, hi⟩ : ∃ i, mAt Pr.k m r.k = i := ⟨_, rfl⟩
  obtain ⟨z, hz⟩ : ∃ z, mIs Pr.k m r.k = z := ⟨_, rfl⟩
  have HI := hid (And.intro hi hz)
  have e2 : (r.kind == 2) = false := by rw [hkd]; rfl
  have e3 : (r.kind == 3) = false := by rw [hkd]; rfl
  have e4 : (r.kind == 4) = false := by rw [hkd]; rfl
  have e5 : (r.kind == 5) = false := by rw [hkd]; rfl
  have e7 : (r.kind == 7) = false := by rw [hkd]; rfl
  have e8 : (r.kind == 8) = false := by rw [hkd]; rfl
  have e9 : (r.kind == 9) = false := by rw [hkd]; rfl
  have e10 : (r.kind == 10) = true := by rw [hkd]; rfl
  clear h hO hq hkd ht hi hz
  go_enter Tryd.func31, Tryd.ntmps31
  go_upto_region 1 with fail
  rw [HQ.out]
  generalize (World.alloc _ _) = W at HO ⊢
  obtain ⟨q2, hq2⟩ : ∃ q2, q + 1 = q2 := ⟨_, rfl⟩
  rw [hq2] at HO ⊢
  clear hq2
  have o1 : W.cell? ⟨q2, 1, none⟩ = some (.slice r.ka kn r.kc) := HO.out.cell 0 rfl (k := 1) 1 rfl (by simp)
  have hw := HO.out.only
  have hat := mapAt mA r.ka mc r.kc m r.k W (HH.out.hm.keep0 hw) (HH.out.hr.hk.keep0 hw) (by have := HH.out.b2; have := HH.out.n4; omega) (fun x hx => by have := HH.out.b4 x hx; omega) (by have := HH.out.n1; omega)
  rw [← HH.out.n1, ← HH.out.n4, HI.out.1, HI.out.2] at hat
  have HAT := hid hat
  clear hw hat
  go_wp2_with fail
  refine HAT.out.mono ?_
  rintro e w2 ⟨rfl, hd2⟩
  have HO2 := hid (HO.out.dr hd2)
  clear hd2 o1 HAT
  have o0 : w2.cell? ⟨q2, 0, none⟩ = some (.int .i64 r.kind) := HO2.out.cell 0 rfl (k := 0) 0 rfl (by simp)
  have o1 : w2.cell? ⟨q2, 1, none⟩ = some (.slice r.ka kn r.kc) := HO2.out.cell 0 rfl (k := 1) 1 rfl (by simp)
  have o2 : w2.cell? ⟨q2, 2, none⟩ = some (.slice r.va vn r.vc) := HO2.out.cell 0 rfl (k := 2) 2 rfl (by simp)
  have o3 : w2.cell? ⟨q2, 3, none⟩ = some (.int .i64 r.n) := HO2.out.cell 0 rfl (k := 3) 3 rfl (by simp)
  have a0 : w2.cell? ⟨q, 0, none⟩ = some (.slice a.pA ln a.pc) := HO2.out.cell 1 rfl (k := 0) 0 rfl (by simp)
  have a1 : w2.cell? ⟨q, 1, none⟩ = some (.slice a.vA vl a.vc) := HO2.out.cell 1 rfl (k := 1) 1 rfl (by simp)
  have a2 : w2.cell? ⟨q, 2, none⟩ = some (.int .i64 a.n) := HO2.out.cell 1 rfl (k := 2) 2 rfl (by simp)
  have a3 : w2.cell? ⟨q, 3, none⟩ = some (.bool a.ok) := HO2.out.cell 1 rfl (k := 3) 3 rfl (by simp)
  have hvl : vl = r.v.length := by rw [HH.out.n3, show a.vs = _ from HT.out.2, List.length_map, wpl_length]
  have hll : a.l.length = r.v.length := by
    have h9 : kvs a.l = _ := HT.out.1
    have := congrArg List.length h9
    rwa [kvs_length, List.length_map, wpl_length] at this
  have hln : ln = r.v.length := by rw [HH.out.n2, hll]
  have h5 := HH.out.n5
  have hb3 := HH.out.b3
  rw [hvl, ← h5] at a1
  rw [hln, ← h5] at a0
  have hwt := walked_true a.pA a.vA mA r.va r.ka a.pc a.vc mc r.vc r.kc vn n a.n a.ok a.l m r.v r.k w2 (HH.out.ha.hp.keep0 HO2.out.only) (by have := HH.out.ha.hv.keep0 HO2.out.only; rwa [show a.vs = _ from HT.out.2] at this) (HH.out.hm.keep0 HO2.out.only) (HH.out.hr.hv.keep0 HO2.out.only) (HH.out.hr.hk.keep0 HO2.out.only) (by have := HH.out.n4; omega) (fun x hx => by have := HH.out.b4 x hx; omega) (by have := HH.out.n1; omega) (by omega) h5 hll HH.out.n1 HT.out.1 vn kn h5 HH.out.n4
  have HWT := hid hwt
  clear hvl hll hln h5 hb3 hwt o3
  go_wp2_with fail
  refine HWT.out.mono ?_
  rintro e w3 ⟨rfl, ho3⟩
  have HO3 := hid (HO2.out.only.new ho3)
  clear ho3
  go_wp2_with fail
  go_ret
  exact ⟨rfl, HO3.out⟩
set_option maxHeartbeats 6400000 in
set_option maxRecDepth 100000 in
theorem read_x (a : MAn) (m : List Pr) (r : MO) (mA : Option Addr) (n mc ln vl kn vn : Nat) (w : World) (h : RdIn a m r mA n mc ln vl kn vn w) (hkd : r.kind ≠ 2 ∧ r.kind ≠ 3 ∧ r.kind ≠ 4 ∧ r.kind ≠ 5 ∧ r.kind ≠ 7 ∧ r.kind ≠ 8 ∧ r.kind ≠ 9 ∧ r.kind ≠ 10) :
    Calls Tryd.prog 31 #[.agg #[.slice a.pA ln a.pc, .slice a.vA vl a.vc, .int .i64 a.n, .bool a.ok], .slice mA n mc, .agg #[.int .i64 r.kind, .slice r.ka kn r.kc, .slice r.va vn r.vc, .int .i64 r.n]] w fun e w' => e = .returned (.bool true) ∧ Only [] w w' := by
  obtain ⟨q, hq⟩ : ∃ q, w.heap.size = q := ⟨_, rfl⟩
  have hO := ((Own.start w).alloc' hq 58 [.slice a.pA ln a.pc, .slice a.vA vl a.vc, .int .i64 a.n, .bool a.ok]).alloc' (g := q + 1) (by simp [hq]) 67 [.int .i64 r.kind, .slice r.ka kn r.kc, .slice r.va vn r.vc, .int .i64 r.n]
  have HO := hid hO
  have HQ := hid hq
  have HH := hid h
  have b1 := h.b1
  have b2 := h.b2
  have b3 := h.b3
  obtain ⟨n2, n3, n4, n5, n7, n8, n9, n10⟩ := hkd
  obtain ⟨i, hi⟩ : ∃ i, mAt Pr.k m r.k = i := ⟨_, rfl⟩
  obtain ⟨z, hz⟩ : ∃ z, mIs Pr.k m r.k = z := ⟨_, rfl⟩
  have HI := hid (And.intro hi hz)
  have e2 : (r.kind == 2) = false := by simpa using n2
  have e3 : (r.kind == 3) = false := by simpa using n3
  have e4 : (r.kind == 4) = false := by simpa using n4
  have e5 : (r.kind == 5) = false := by simpa using n5
  have e7 : (r.kind == 7) = false := by simpa using n7
  have e8 : (r.kind == 8) = false := by simpa using n8
  have e9 : (r.kind == 9) = false := by simpa using n9
  have e10 : (r.kind == 10) = false := by simpa using n10
  clear h hO hq hi hz n2 n3 n4 n5 n7 n8 n9 n10
  go_enter Tryd.func31, Tryd.ntmps31
  go_upto_region 1 with fail
  rw [HQ.out]
  generalize (World.alloc _ _) = W at HO ⊢
  obtain ⟨q2, hq2⟩ : ∃ q2, q + 1 = q2 := ⟨_, rfl⟩
  rw [hq2] at HO ⊢
  clear hq2
  have o1 : W.cell? ⟨q2, 1, none⟩ = some (.slice r.ka kn r.kc) := HO.out.cell 0 rfl (k := 1) 1 rfl (by simp)
  have hw := HO.out.only
  have hat := mapAt mA r.ka mc r.kc m r.k W (HH.out.hm.keep0 hw) (HH.out.hr.hk.keep0 hw) (by have := HH.out.b2; have := HH.out.n4; omega) (fun x hx => by have := HH.out.b4 x hx; omega) (by have := HH.out.n1; omega)
  rw [← HH.out.n1, ← HH.out.n4, HI.out.1, HI.out.2] at hat
  have HAT := hid hat
  clear hw hat
  go_wp2_with fail
  refine HAT.out.mono ?_
  rintro e w2 ⟨rfl, hd2⟩
  have HO2 := hid (HO.out.dr hd2)
  clear hd2 o1 HAT
  have o0 : w2.cell? ⟨q2, 0, none⟩ = some (.int .i64 r.kind) := HO2.out.cell 0 rfl (k := 0) 0 rfl (by simp)
  have o1 : w2.cell? ⟨q2, 1, none⟩ = some (.slice r.ka kn r.kc) := HO2.out.cell 0 rfl (k := 1) 1 rfl (by simp)
  have o2 : w2.cell? ⟨q2, 2, none⟩ = some (.slice r.va vn r.vc) := HO2.out.cell 0 rfl (k := 2) 2 rfl (by simp)
  have o3 : w2.cell? ⟨q2, 3, none⟩ = some (.int .i64 r.n) := HO2.out.cell 0 rfl (k := 3) 3 rfl (by simp)
  have a0 : w2.cell? ⟨q, 0, none⟩ = some (.slice a.pA ln a.pc) := HO2.out.cell 1 rfl (k := 0) 0 rfl (by simp)
  have a1 : w2.cell? ⟨q, 1, none⟩ = some (.slice a.vA vl a.vc) := HO2.out.cell 1 rfl (k := 1) 1 rfl (by simp)
  have a2 : w2.cell? ⟨q, 2, none⟩ = some (.int .i64 a.n) := HO2.out.cell 1 rfl (k := 2) 2 rfl (by simp)
  have a3 : w2.cell? ⟨q, 3, none⟩ = some (.bool a.ok) := HO2.out.cell 1 rfl (k := 3) 3 rfl (by simp)
  clear o1 o2 o3 a0 a1 a2 a3
  go_wp2_with fail
  go_ret
  exact ⟨rfl, HO2.out.only⟩
/-- A reading call is held to what it must tell. -/
theorem read_true (a : MAn) (m : List Pr) (r : MO) (mA : Option Addr) (n mc ln vl kn vn : Nat) (w : World) (h : RdIn a m r mA n mc ln vl kn vn w) :
    Calls Tryd.prog 31 #[.agg #[.slice a.pA ln a.pc, .slice a.vA vl a.vc, .int .i64 a.n, .bool a.ok], .slice mA n mc, .agg #[.int .i64 r.kind, .slice r.ka kn r.kc, .slice r.va vn r.vc, .int .i64 r.n]] w fun e w' => e = .returned (.bool true) ∧ Only [] w w' := by
  by_cases k2 : r.kind = 2
  · exact read_2 a m r mA n mc ln vl kn vn w h k2
  by_cases k3 : r.kind = 3
  · exact read_3 a m r mA n mc ln vl kn vn w h k3
  by_cases k4 : r.kind = 4
  · exact read_4 a m r mA n mc ln vl kn vn w h k4
  by_cases k5 : r.kind = 5
  · exact read_5 a m r mA n mc ln vl kn vn w h k5
  by_cases k7 : r.kind = 7
  · exact read_7 a m r mA n mc ln vl kn vn w h k7
  by_cases k8 : r.kind = 8
  · exact read_8 a m r mA n mc ln vl kn vn w h k8
  by_cases k9 : r.kind = 9
  · exact read_9 a m r mA n mc ln vl kn vn w h k9
  by_cases k10 : r.kind = 10
  · exact read_10 a m r mA n mc ln vl kn vn w h k10
  exact read_x a m r mA n mc ln vl kn vn w h ⟨k2, k3, k4, k5, k7, k8, k9, k10⟩
end Go.Proofs.YtloflmcgbbbnjaaDoor
