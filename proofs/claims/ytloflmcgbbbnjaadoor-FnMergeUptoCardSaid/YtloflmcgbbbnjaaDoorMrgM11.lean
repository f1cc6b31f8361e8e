/-
  laws.walked: an iterator that stood where it should.
  mergedIterator is an iterator over all pairs of its lists.
  mergedIterator: Next, Prev, Valid, Key, Value by place; it is an iterator.
-/
import Derived.Test.YtloflmcgbbbnjaaDoorMrgM10
import Derived.Test.YtloflmcgbbbnjaaDoorMrgM4
import Derived.Test.YtloflmcgbbbnjaaDoorMrgM9
namespace Go.Proofs.YtloflmcgbbbnjaaDoor
open Go.RowKit Plain
set_option linter.all false

theorem mAt_kvs : ∀ (m : List Pr) (k : List UInt8), mAt Prod.fst (kvs m) k = mAt Pr.k m k
  | [], _ => rfl
  | x :: m, k => by
    have := mAt_kvs m k
    simp only [kvs, List.map_cons, mAt] at this ⊢
    rw [this]
theorem wkv_get {m : List Pr} {p : Int} (h : wval m.length p = true) : ∃ r, m[p.toNat]? = some r ∧ r ∈ m ∧ wkv (kvs m) p = (r.k, r.v) := by
  obtain ⟨h1, h2⟩ := wval_iff.1 h
  have hl : p.toNat < m.length := by omega
  refine ⟨m[p.toNat], List.getElem?_eq_getElem hl, List.getElem_mem hl, ?_⟩
  unfold wkv
  rw [kvs_length, if_pos h, key_kvs (List.getElem?_eq_getElem hl), val_kvs (List.getElem?_eq_getElem hl)]
set_option maxHeartbeats 6400000 in
set_option maxRecDepth 100000 in
theorem walked_true (A B mA cA kA : Option Addr) (c d mc cc kc n m : Nat) (x3 : Int) (x4 : Bool) (l mm : List Pr) (calls key : List UInt8) (w : World) (hp : Prs w A l) (hv : CsAt w B (cbl ((wpl mm.length (mAt Pr.k mm key) calls (-1)).map (wval mm.length))))
    (hm : Prs w mA mm) (hcs : BsAt w cA calls) (hk : BsAt w kA key) (hkl : key.length ≤ 2147483647) (hml : ∀ r ∈ mm, r.k.length ≤ 140737488351232) (hl : mm.length ≤ 1099511627776) (hcl : calls.length ≤ 1099511627776)
    (hn : n = calls.length) (hll : l.length = calls.length) (hmn : m = mm.length) (hkv : kvs l = (wpl mm.length (mAt Pr.k mm key) calls (-1)).map (wkv (kvs mm))) (cn kn : Nat) (hcn : cn = calls.length) (hkn : kn = key.length) :
    Calls Tryd.prog 27 #[.agg #[.slice A n c, .slice B n d, .int .i64 x3, .bool x4], .slice mA m mc, .slice cA cn cc, .slice kA kn kc] w fun e w' => e = .returned (.bool true) ∧ Only [] w w' := by
  subst hmn
  have hpl := wpl_plc (n := mm.length) (s := (mAt Pr.k mm key : Nat)) (by have := mAt_le Pr.k mm key; omega) calls (p := -1) ⟨by omega, by omega⟩
  obtain ⟨q, hq⟩ : ∃ q, w.heap.size = q := ⟨_, rfl⟩
  have hO := (Own.start w).alloc' hq 58 [.slice A n c, .slice B n d, .int .i64 x3, .bool x4]
  have ho := hO.only
  have hwk := specWalk mA cA kA mc cc kc mm calls key _ (hm.keep0 ho) (hcs.keep0 ho) (hk.keep0 ho) (by omega) hml hl hcl
  obtain ⟨ps, hps⟩ : ∃ ps, wpl mm.length (mAt Pr.k mm key) calls (-1) = ps := ⟨_, rfl⟩
  have hpsl : ps.length = calls.length := by rw [← hps, wpl_length]
  rw [hps] at hv hkv hpl hwk
  rw [← hcn, ← hkn] at hwk
  rw [← hcn] at hn hll hpsl hcl
  obtain ⟨N, hN⟩ : ∃ N, mm.length = N := ⟨_, rfl⟩
  rw [hN] at hpl hwk hv ⊢
  subst hn
  have HWK := hid hwk
  have HP := hid (hp.keep0 ho)
  have HV := hid (hv.keep0 ho)
  have HM := hid (hm.keep0 ho)
  have HO := hid hO
  have HPL := hid hpl
  have HKV := hid hkv
  have HLL := hid hll
  have HPSL := hid hpsl
  have HN := hid hN
  have HQ := hid hq
  clear hwk hp hv hm hO ho hpl hkv hll hpsl hN hcs hk hq hps hkl hkn hcn
  go_enter Tryd.func27, Tryd.ntmps27
  go_wp2_with fail
  rw [HQ.out]
  refine HWK.out.mono ?_
  rintro e w1 ⟨A1, c1, F1, rfl, hr1, hO1⟩
  have ho1 := hO1.out.only
  have HO1 := hid (HO.out.only0 ho1)
  have qa : w1.cell? ⟨q, 0, none⟩ = some (.slice A n c) := HO1.out.cell 0 rfl (k := 0) 0 rfl (by simp)
  have qb : w1.cell? ⟨q, 1, none⟩ = some (.slice B n d) := HO1.out.cell 0 rfl (k := 1) 1 rfl (by simp)
  have HP1 := hid (HP.out.keep0 ho1)
  have HV1 := hid (HV.out.keep0 ho1)
  have HM1 := hid (HM.out.keep0 ho1)
  have HR1 := hid (show CsAt w1 A1 (ci (ps.map (wat N))) from hr1.out.csO (by have := hO1.out; rwa [← List.append_nil F1] at this))
  clear ho1 hr1 hO1 HWK HP HV HM HO
  go_wp2_with fail
  go_loopw [32] (fun i wr => ∃ k : Nat, i = .int .i64 k ∧ k ≤ n ∧ Hid (Dr w1 wr)) (fun i _ => n - (intOf i).toNat)
  case atStart => exact ⟨0, rfl, Nat.zero_le _, hid (Dr.refl _)⟩
  case round =>
    obtain ⟨k, rfl, hk, HD⟩ := hrel
    obtain ⟨w2, rfl⟩ : ∃ w2, w2 = wr := ⟨_, rfl⟩
    by_cases h4 : k < n
    · have h4' : (k : Int) < (n : Int) := by omega
      have hkp : k < ps.length := by rw [HPSL.out]; exact h4
      have hkl : k < l.length := by rw [HLL.out]; exact h4
      obtain ⟨p, hp⟩ : ∃ p, ps[k] = p := ⟨_, rfl⟩
      have hpx : ps[k]? = some p := by rw [← hp]; exact List.getElem?_eq_getElem hkp
      have hplc := HPL.out p (List.mem_of_getElem? hpx)
      have hx : l[k]? = some l[k] := List.getElem?_eq_getElem hkl
      have hmx : l[k] ∈ l := List.getElem_mem hkl
      generalize l[k] = x at hx hmx
      have hxk : (x.k, x.v) = wkv (kvs mm) p := by
        have h1 : (kvs l)[k]? = some (x.k, x.v) := by simp [kvs, hx]
        rw [HKV.out, List.getElem?_map, hpx] at h1
        exact (Option.some.inj h1).symm
      have hP2 := HP1.out.keep0 HD.out.only
      have hM2 := HM1.out.keep0 HD.out.only
      obtain ⟨g, o, rfl, p0, p1⟩ := hP2.at_ hx
      have hok := hP2.ok x hmx
      obtain ⟨vg, vo, rfl, v0⟩ := (HV1.out.keep0 HD.out.only) k (by rw [cbl_length, List.length_map]; exact hkp)
      obtain ⟨rg, ro, rfl, r0⟩ := (HR1.out.keep0 HD.out.only) k (by rw [ci_length, List.length_map]; exact hkp)
      have ev : (cbl (ps.map (wval N)))[k]? = some (.bool (wval N p)) := by simp [cbl, hpx]
      have er : (ci (ps.map (wat N)))[k]? = some (.int .i64 (wat N p)) := by simp [ci, hpx]
      rw [ev] at v0
      rw [er] at r0
      have hdd : Only [] w2 w2.drew := (Only.refl [] w2).drew
      cases hv : wval N p with
      | true =>
        obtain ⟨r, hr, hrm, hrk⟩ := wkv_get (m := mm) (p := p) (by rw [HN.out]; exact hv)
        rw [hrk] at hxk
        injection hxk with ek ev2
        obtain ⟨mg, mo, rfl, m0, m1⟩ := hM2.at_ hr
        have hrok := hM2.ok r hrm
        obtain ⟨j, rfl⟩ : ∃ j : Nat, p = (j : Int) := ⟨p.toNat, by have := (wval_iff.1 hv).1; omega⟩
        have hjN : (j : Int) < (N : Int) := (wval_iff.1 hv).2
        rw [show ((j : Int)).toNat = j from by omega] at m0 m1
        rw [show wat N (j : Int) = (j : Int) from by unfold wat; rw [if_pos hv]] at r0
        rw [hv] at v0
        rw [ek] at p0
        rw [ev2] at p1
        have f1 := runStr ((ek ▸ hok.hk : BsAt w2 x.ka r.k).keep0 hdd) x.kc r.k.length rfl
        have f2 := runStr (hrok.hk.keep0 hdd) r.kc r.k.length rfl
        have f3 := runStr ((ev2 ▸ hok.hv : BsAt w2 x.va r.v).keep0 hdd) x.vc r.v.length rfl
        have f4 := runStr (hrok.hv.keep0 hdd) r.vc r.v.length rfl
        have qa2 := (HD.out.only.cell (p := ⟨q, 0, none⟩) (cell_lt qa) (by simp)).trans qa
        have qb2 := (HD.out.only.cell (p := ⟨q, 1, none⟩) (cell_lt qb) (by simp)).trans qb
        have d0 : decide ((0 : Int) ≤ (j : Int)) = true := decide_eq_true (by omega)
        clear hp hpx hplc hx hmx hP2 hM2 hok hrok ek ev2 ev er hr hrm hrk hv hkp hkl hdd
        go_wp2_with fail
        refine AnyT.start (S := fun w' => w'.cell? ⟨q, 0, none⟩ = some (.slice (some ⟨g, o, none⟩) n c) ∧ w'.cell? ⟨q, 1, none⟩ = some (.slice (some ⟨vg, vo, none⟩) n d) ∧ w'.cell? ⟨vg, vo + k, none⟩ = some (.bool true) ∧ w'.cell? ⟨g, o + k * 2, none⟩ = some (.slice x.ka r.k.length x.kc) ∧ w'.cell? ⟨g, o + k * 2 + 1, none⟩ = some (.slice x.va r.v.length x.vc) ∧ w'.cell? ⟨mg, mo + j * 2, none⟩ = some (.slice r.ka r.k.length r.kc) ∧ w'.cell? ⟨mg, mo + j * 2 + 1, none⟩ = some (.slice r.va r.v.length r.vc) ∧ Sem.run Tryd.prog (convert 25 9 (Value.slice x.ka r.k.length x.kc)) w' = Result.ok (Value.string (bstr r.k)) w' ∧ Sem.run Tryd.prog (convert 25 9 (Value.slice r.ka r.k.length r.kc)) w' = Result.ok (Value.string (bstr r.k)) w' ∧ Sem.run Tryd.prog (convert 25 9 (Value.slice x.va r.v.length x.vc)) w' = Result.ok (Value.string (bstr r.v)) w' ∧ Sem.run Tryd.prog (convert 25 9 (Value.slice r.va r.v.length r.vc)) w' = Result.ok (Value.string (bstr r.v)) w') (T := []) (by kernel_rfl) (⟨qa2, qb2, v0, p0, p1, m0, m1, f1, f2, f3, f4⟩) (fun hHeld => ?_)
        refine AnyT.take (i := 0) (v := ?_) (by simp only [List.getElem?_toArray, List.getElem?_cons_succ, List.getElem?_cons_zero]; rfl) (by kernel_rfl) (by kernel_rfl) (by kernel_rfl) (by kernel_rfl) (by intro _ _ _ h; exact h) (Or.inl ⟨by rfl, fun w hSw => ?_⟩) hHeld ?_
        rotate_left
        · ((try dsimp only at hSw); go_simp; first | done | with_reducible rfl | rfl)
        try simp only [Act.put, List.setIfInBounds_toArray, List.set_cons_zero, List.set_cons_succ]
        refine AnyT.take (i := 1) (v := ?_) (by simp only [List.getElem?_toArray, List.getElem?_cons_succ, List.getElem?_cons_zero]; rfl) (by kernel_rfl) (by kernel_rfl) (by kernel_rfl) (by kernel_rfl) (by intro _ _ _ h; exact h) (Or.inl ⟨by rfl, fun w hSw => ?_⟩) hHeld ?_
        rotate_left
        · ((try dsimp only at hSw); go_simp; first | done | with_reducible rfl | rfl)
        try simp only [Act.put, List.setIfInBounds_toArray, List.set_cons_zero, List.set_cons_succ]
        refine AnyT.take (i := 2) (v := ?_) (by simp only [List.getElem?_toArray, List.getElem?_cons_succ, List.getElem?_cons_zero]; rfl) (by kernel_rfl) (by kernel_rfl) (by kernel_rfl) (by kernel_rfl) (by intro _ _ _ h; exact h) (Or.inl ⟨by rfl, fun w hSw => ?_⟩) hHeld ?_
        rotate_left
        · ((try dsimp only at hSw); go_simp; first | done | with_reducible rfl | rfl)
        try simp only [Act.put, List.setIfInBounds_toArray, List.set_cons_zero, List.set_cons_succ]
        refine AnyT.take (i := 3) (v := ?_) (by simp only [List.getElem?_toArray, List.getElem?_cons_succ, List.getElem?_cons_zero]; rfl) (by kernel_rfl) (by kernel_rfl) (by kernel_rfl) (by kernel_rfl) (by intro _ _ _ h; exact h) (Or.inl ⟨by rfl, fun w hSw => ?_⟩) hHeld ?_
        rotate_left
        · ((try dsimp only at hSw); go_simp; first | done | with_reducible rfl | rfl)
        try simp only [Act.put, List.setIfInBounds_toArray, List.set_cons_zero, List.set_cons_succ]
        refine AnyT.take (i := 4) (v := ?_) (by simp only [List.getElem?_toArray, List.getElem?_cons_succ, List.getElem?_cons_zero]; rfl) (by kernel_rfl) (by kernel_rfl) (by kernel_rfl) (by kernel_rfl) (by intro _ _ _ h; exact h) (Or.inl ⟨by rfl, fun w hSw => ?_⟩) hHeld ?_
        rotate_left
        · ((try dsimp only at hSw); go_simp; first | done | with_reducible rfl | rfl)
        try simp only [Act.put, List.setIfInBounds_toArray, List.set_cons_zero, List.set_cons_succ]
        refine AnyT.take (i := 5) (v := ?_) (by simp only [List.getElem?_toArray, List.getElem?_cons_succ, List.getElem?_cons_zero]; rfl) (by kernel_rfl) (by kernel_rfl) (by kernel_rfl) (by kernel_rfl) (by intro _ _ _ h; exact h) (Or.inl ⟨by rfl, fun w hSw => ?_⟩) hHeld ?_
        rotate_left
        · ((try dsimp only at hSw); go_simp; first | done | with_reducible rfl | rfl)
        try simp only [Act.put, List.setIfInBounds_toArray, List.set_cons_zero, List.set_cons_succ]
        refine AnyT.take (i := 6) (v := ?_) (by simp only [List.getElem?_toArray, List.getElem?_cons_succ, List.getElem?_cons_zero]; rfl) (by kernel_rfl) (by kernel_rfl) (by kernel_rfl) (by kernel_rfl) (by intro _ _ _ h; exact h) (Or.inl ⟨by rfl, fun w hSw => ?_⟩) hHeld ?_
        rotate_left
        · ((try dsimp only at hSw); go_simp; first | done | with_reducible rfl | rfl)
        try simp only [Act.put, List.setIfInBounds_toArray, List.set_cons_zero, List.set_cons_succ]
        refine AnyT.take (i := 7) (v := ?_) (by simp only [List.getElem?_toArray, List.getElem?_cons_succ, List.getElem?_cons_zero]; rfl) (by kernel_rfl) (by kernel_rfl) (by kernel_rfl) (by kernel_rfl) (by intro _ _ _ h; exact h) (Or.inl ⟨by rfl, fun w hSw => ?_⟩) hHeld ?_
        rotate_left
        · ((try dsimp only at hSw); go_simp; first | done | with_reducible rfl | rfl)
        try simp only [Act.put, List.setIfInBounds_toArray, List.set_cons_zero, List.set_cons_succ]
        refine AnyT.take (i := 8) (v := ?_) (by simp only [List.getElem?_toArray, List.getElem?_cons_succ, List.getElem?_cons_zero]; rfl) (by kernel_rfl) (by kernel_rfl) (by kernel_rfl) (by kernel_rfl) (by intro _ _ _ h; exact h) (Or.inl ⟨by rfl, fun w hSw => ?_⟩) hHeld ?_
        rotate_left
        · ((try dsimp only at hSw); go_simp; first | done | with_reducible rfl | rfl)
        try simp only [Act.put, List.setIfInBounds_toArray, List.set_cons_zero, List.set_cons_succ]
        refine AnyT.take (i := 9) (v := ?_) (by simp only [List.getElem?_toArray, List.getElem?_cons_succ, List.getElem?_cons_zero]; rfl) (by kernel_rfl) (by kernel_rfl) (by kernel_rfl) (by kernel_rfl) (by intro _ _ _ h; exact h) (Or.inl ⟨by rfl, fun w hSw => ?_⟩) hHeld ?_
        rotate_left
        · ((try dsimp only at hSw); go_simp; first | done | with_reducible rfl | rfl)
        try simp only [Act.put, List.setIfInBounds_toArray, List.set_cons_zero, List.set_cons_succ]
        refine AnyT.take (i := 10) (v := ?_) (by simp only [List.getElem?_toArray, List.getElem?_cons_succ, List.getElem?_cons_zero]; rfl) (by kernel_rfl) (by kernel_rfl) (by kernel_rfl) (by kernel_rfl) (by intro _ _ _ h; exact h) (Or.inl ⟨by rfl, fun w hSw => ?_⟩) hHeld ?_
        rotate_left
        · ((try dsimp only at hSw); go_simp; first | done | with_reducible rfl | rfl)
        try simp only [Act.put, List.setIfInBounds_toArray, List.set_cons_zero, List.set_cons_succ]
        refine AnyT.take (i := 11) (v := ?_) (by simp only [List.getElem?_toArray, List.getElem?_cons_succ, List.getElem?_cons_zero]; rfl) (by kernel_rfl) (by kernel_rfl) (by kernel_rfl) (by kernel_rfl) (by intro _ _ _ h; exact h) (Or.inl ⟨by rfl, fun w hSw => ?_⟩) hHeld ?_
        rotate_left
        · ((try dsimp only at hSw); go_simp; first | done | with_reducible rfl | rfl)
        try simp only [Act.put, List.setIfInBounds_toArray, List.set_cons_zero, List.set_cons_succ]
        refine AnyT.take (i := 12) (v := ?_) (by simp only [List.getElem?_toArray, List.getElem?_cons_succ, List.getElem?_cons_zero]; rfl) (by kernel_rfl) (by kernel_rfl) (by kernel_rfl) (by kernel_rfl) (by intro _ _ _ h; exact h) (Or.inl ⟨by rfl, fun w hSw => ?_⟩) hHeld ?_
        rotate_left
        · ((try dsimp only at hSw); go_simp; first | done | with_reducible rfl | rfl)
        try simp only [Act.put, List.setIfInBounds_toArray, List.set_cons_zero, List.set_cons_succ]
        refine AnyT.take (i := 13) (v := ?_) (by simp only [List.getElem?_toArray, List.getElem?_cons_succ, List.getElem?_cons_zero]; rfl) (by kernel_rfl) (by kernel_rfl) (by kernel_rfl) (by kernel_rfl) (by intro _ _ _ h; exact h) (Or.inl ⟨by rfl, fun w hSw => ?_⟩) hHeld ?_
        rotate_left
        · ((try dsimp only at hSw); go_simp; first | done | with_reducible rfl | rfl)
        try simp only [Act.put, List.setIfInBounds_toArray, List.set_cons_zero, List.set_cons_succ]
        refine AnyT.take (i := 14) (v := ?_) (by simp only [List.getElem?_toArray, List.getElem?_cons_succ, List.getElem?_cons_zero]; rfl) (by kernel_rfl) (by kernel_rfl) (by kernel_rfl) (by kernel_rfl) (by intro _ _ _ h; exact h) (Or.inl ⟨by rfl, fun w hSw => ?_⟩) hHeld ?_
        rotate_left
        · ((try dsimp only at hSw); go_simp; first | done | with_reducible rfl | rfl)
        try simp only [Act.put, List.setIfInBounds_toArray, List.set_cons_zero, List.set_cons_succ]
        refine AnyT.take (i := 15) (v := ?_) (by simp only [List.getElem?_toArray, List.getElem?_cons_succ, List.getElem?_cons_zero]; rfl) (by kernel_rfl) (by kernel_rfl) (by kernel_rfl) (by kernel_rfl) (by intro _ _ _ h; exact h) (Or.inl ⟨by rfl, fun w hSw => ?_⟩) hHeld ?_
        rotate_left
        · ((try dsimp only at hSw); go_simp; first | done | with_reducible rfl | rfl)
        try simp only [Act.put, List.setIfInBounds_toArray, List.set_cons_zero, List.set_cons_succ]
        refine AnyT.take (i := 16) (v := ?_) (by simp only [List.getElem?_toArray, List.getElem?_cons_succ, List.getElem?_cons_zero]; rfl) (by kernel_rfl) (by kernel_rfl) (by kernel_rfl) (by kernel_rfl) (by intro _ _ _ h; exact h) (Or.inl ⟨by rfl, fun w hSw => ?_⟩) hHeld ?_
        rotate_left
        · ((try dsimp only at hSw); go_simp; first | done | with_reducible rfl | rfl)
        try simp only [Act.put, List.setIfInBounds_toArray, List.set_cons_zero, List.set_cons_succ]
        refine AnyT.take (i := 17) (v := ?_) (by simp only [List.getElem?_toArray, List.getElem?_cons_succ, List.getElem?_cons_zero]; rfl) (by kernel_rfl) (by kernel_rfl) (by kernel_rfl) (by kernel_rfl) (by intro _ _ _ h; exact h) (Or.inl ⟨by rfl, fun w hSw => ?_⟩) hHeld ?_
        rotate_left
        · ((try dsimp only at hSw); go_simp; first | done | with_reducible rfl | rfl)
        try simp only [Act.put, List.setIfInBounds_toArray, List.set_cons_zero, List.set_cons_succ]
        refine AnyT.take (i := 18) (v := ?_) (by simp only [List.getElem?_toArray, List.getElem?_cons_succ, List.getElem?_cons_zero]; rfl) (by kernel_rfl) (by kernel_rfl) (by kernel_rfl) (by kernel_rfl) (by intro _ _ _ h; exact h) (Or.inl ⟨by rfl, fun w hSw => ?_⟩) hHeld ?_
        rotate_left
        · ((try dsimp only at hSw); go_simp; first | done | with_reducible rfl | rfl)
        try simp only [Act.put, List.setIfInBounds_toArray, List.set_cons_zero, List.set_cons_succ]
        refine AnyT.take (i := 19) (v := ?_) (by simp only [List.getElem?_toArray, List.getElem?_cons_succ, List.getElem?_cons_zero]; rfl) (by kernel_rfl) (by kernel_rfl) (by kernel_rfl) (by kernel_rfl) (by intro _ _ _ h; exact h) (Or.inl ⟨by rfl, fun w hSw => ?_⟩) hHeld ?_
        rotate_left
        · ((try dsimp only at hSw); go_simp; first | done | with_reducible rfl | rfl)
        try simp only [Act.put, List.setIfInBounds_toArray, List.set_cons_zero, List.set_cons_succ]
        refine AnyT.take (i := 20) (v := ?_) (by simp only [List.getElem?_toArray, List.getElem?_cons_succ, List.getElem?_cons_zero]; rfl) (by kernel_rfl) (by kernel_rfl) (by kernel_rfl) (by kernel_rfl) (by intro _ _ _ h; exact h) (Or.inl ⟨by rfl, fun w hSw => ?_⟩) hHeld ?_
        rotate_left
        · ((try dsimp only at hSw); go_simp; first | done | with_reducible rfl | rfl)
        try simp only [Act.put, List.setIfInBounds_toArray, List.set_cons_zero, List.set_cons_succ]
        refine AnyT.take (i := 21) (v := ?_) (by simp only [List.getElem?_toArray, List.getElem?_cons_succ, List.getElem?_cons_zero]; rfl) (by kernel_rfl) (by kernel_rfl) (by kernel_rfl) (by kernel_rfl) (by intro _ _ _ h; exact h) (Or.inl ⟨by rfl, fun w hSw => ?_⟩) hHeld ?_
        rotate_left
        · ((try dsimp only at hSw); go_simp; first | done | with_reducible rfl | rfl)
        try simp only [Act.put, List.setIfInBounds_toArray, List.set_cons_zero, List.set_cons_succ]
        refine AnyT.take (i := 22) (v := ?_) (by simp only [List.getElem?_toArray, List.getElem?_cons_succ, List.getElem?_cons_zero]; rfl) (by kernel_rfl) (by kernel_rfl) (by kernel_rfl) (by kernel_rfl) (by intro _ _ _ h; exact h) (Or.inl ⟨by rfl, fun w hSw => ?_⟩) hHeld ?_
        rotate_left
        · ((try dsimp only at hSw); go_simp; first | done | with_reducible rfl | rfl)
        try simp only [Act.put, List.setIfInBounds_toArray, List.set_cons_zero, List.set_cons_succ]
        refine AnyT.take (i := 23) (v := ?_) (by simp only [List.getElem?_toArray, List.getElem?_cons_succ, List.getElem?_cons_zero]; rfl) (by kernel_rfl) (by kernel_rfl) (by kernel_rfl) (by kernel_rfl) (by intro _ _ _ h; exact h) (Or.inl ⟨by rfl, fun w hSw => ?_⟩) hHeld ?_
        rotate_left
        · ((try dsimp only at hSw); go_simp; first | done | with_reducible rfl | rfl)
        try simp only [Act.put, List.setIfInBounds_toArray, List.set_cons_zero, List.set_cons_succ]
        refine AnyT.take (i := 24) (v := ?_) (by simp only [List.getElem?_toArray, List.getElem?_cons_succ, List.getElem?_cons_zero]; rfl) (by kernel_rfl) (by kernel_rfl) (by kernel_rfl) (by kernel_rfl) (by intro _ _ _ h; exact h) (Or.inl ⟨by rfl, fun w hSw => ?_⟩) hHeld ?_
        rotate_left
        · ((try dsimp only at hSw); go_simp; first | done | with_reducible rfl | rfl)
        try simp only [Act.put, List.setIfInBounds_toArray, List.set_cons_zero, List.set_cons_succ]
        refine AnyT.take (i := 25) (v := ?_) (by simp only [List.getElem?_toArray, List.getElem?_cons_succ, List.getElem?_cons_zero]; rfl) (by kernel_rfl) (by kernel_rfl) (by kernel_rfl) (by kernel_rfl) (by intro _ _ _ h; exact h) (Or.inl ⟨by rfl, fun w hSw => ?_⟩) hHeld ?_
        rotate_left
        · ((try dsimp only at hSw); go_simp; first | done | with_reducible rfl | rfl)
        try simp only [Act.put, List.setIfInBounds_toArray, List.set_cons_zero, List.set_cons_succ]
        refine AnyT.take (i := 26) (v := ?_) (by simp only [List.getElem?_toArray, List.getElem?_cons_succ, List.getElem?_cons_zero]; rfl) (by kernel_rfl) (by kernel_rfl) (by kernel_rfl) (by kernel_rfl) (by intro _ _ _ h; exact h) (Or.inl ⟨by rfl, fun w hSw => ?_⟩) hHeld ?_
        rotate_left
        · ((try dsimp only at hSw); go_simp; first | done | with_reducible rfl | rfl)
        try simp only [Act.put, List.setIfInBounds_toArray, List.set_cons_zero, List.set_cons_succ]
        refine AnyT.take (i := 27) (v := ?_) (by simp only [List.getElem?_toArray, List.getElem?_cons_succ, List.getElem?_cons_zero]; rfl) (by kernel_rfl) (by kernel_rfl) (by kernel_rfl) (by kernel_rfl) (by intro _ _ _ h; exact h) (Or.inl ⟨by rfl, fun w hSw => ?_⟩) hHeld ?_
        rotate_left
        · ((try dsimp only at hSw); go_simp; first | done | with_reducible rfl | rfl)
        try simp only [Act.put, List.setIfInBounds_toArray, List.set_cons_zero, List.set_cons_succ]
        refine AnyT.take (i := 28) (v := ?_) (by simp only [List.getElem?_toArray, List.getElem?_cons_succ, List.getElem?_cons_zero]; rfl) (by kernel_rfl) (by kernel_rfl) (by kernel_rfl) (by kernel_rfl) (by intro _ _ _ h; exact h) (Or.inl ⟨by rfl, fun w hSw => ?_⟩) hHeld ?_
        rotate_left
        · ((try dsimp only at hSw); go_simp; first | done | with_reducible rfl | rfl)
        try simp only [Act.put, List.setIfInBounds_toArray, List.set_cons_zero, List.set_cons_succ]
        refine AnyT.take (i := 29) (v := ?_) (by simp only [List.getElem?_toArray, List.getElem?_cons_succ, List.getElem?_cons_zero]; rfl) (by kernel_rfl) (by kernel_rfl) (by kernel_rfl) (by kernel_rfl) (by intro _ _ _ h; exact h) (Or.inl ⟨by rfl, fun w hSw => ?_⟩) hHeld ?_
        rotate_left
        · ((try dsimp only at hSw); go_simp; first | done | with_reducible rfl | rfl)
        try simp only [Act.put, List.setIfInBounds_toArray, List.set_cons_zero, List.set_cons_succ]
        refine AnyT.take (i := 30) (v := ?_) (by simp only [List.getElem?_toArray, List.getElem?_cons_succ, List.getElem?_cons_zero]; rfl) (by kernel_rfl) (by kernel_rfl) (by kernel_rfl) (by kernel_rfl) (by intro _ _ _ h; exact h) (Or.inl ⟨by rfl, fun w hSw => ?_⟩) hHeld ?_
        rotate_left
        · ((try dsimp only at hSw); go_simp; first | done | with_reducible rfl | rfl)
        try simp only [Act.put, List.setIfInBounds_toArray, List.set_cons_zero, List.set_cons_succ]
        refine AnyT.take (i := 31) (v := ?_) (by simp only [List.getElem?_toArray, List.getElem?_cons_succ, List.getElem?_cons_zero]; rfl) (by kernel_rfl) (by kernel_rfl) (by kernel_rfl) (by kernel_rfl) (by intro _ _ _ h; exact h) (Or.inl ⟨by rfl, fun w hSw => ?_⟩) hHeld ?_
        rotate_left
        · ((try dsimp only at hSw); go_simp; first | done | with_reducible rfl | rfl)
        try simp only [Act.put, List.setIfInBounds_toArray, List.set_cons_zero, List.set_cons_succ]
        refine AnyT.take (i := 32) (v := ?_) (by simp only [List.getElem?_toArray, List.getElem?_cons_succ, List.getElem?_cons_zero]; rfl) (by kernel_rfl) (by kernel_rfl) (by kernel_rfl) (by kernel_rfl) (by intro _ _ _ h; exact h) (Or.inl ⟨by rfl, fun w hSw => ?_⟩) hHeld ?_
        rotate_left
        · ((try dsimp only at hSw); go_simp; first | done | with_reducible rfl | rfl)
        try simp only [Act.put, List.setIfInBounds_toArray, List.set_cons_zero, List.set_cons_succ]
        refine AnyT.take (i := 33) (v := ?_) (by simp only [List.getElem?_toArray, List.getElem?_cons_succ, List.getElem?_cons_zero]; rfl) (by kernel_rfl) (by kernel_rfl) (by kernel_rfl) (by kernel_rfl) (by intro _ _ _ h; exact h) (Or.inl ⟨by rfl, fun w hSw => ?_⟩) hHeld ?_
        rotate_left
        · ((try dsimp only at hSw); go_simp; first | done | with_reducible rfl | rfl)
        try simp only [Act.put, List.setIfInBounds_toArray, List.set_cons_zero, List.set_cons_succ]
        refine AnyT.take (i := 34) (v := ?_) (by simp only [List.getElem?_toArray, List.getElem?_cons_succ, List.getElem?_cons_zero]; rfl) (by kernel_rfl) (by kernel_rfl) (by kernel_rfl) (by kernel_rfl) (by intro _ _ _ h; exact h) (Or.inl ⟨by rfl, fun w hSw => ?_⟩) hHeld ?_
        rotate_left
        · ((try dsimp only at hSw); go_simp; first | done | with_reducible rfl | rfl)
        try simp only [Act.put, List.setIfInBounds_toArray, List.set_cons_zero, List.set_cons_succ]
        refine AnyT.take (i := 35) (v := ?_) (by simp only [List.getElem?_toArray, List.getElem?_cons_succ, List.getElem?_cons_zero]; rfl) (by kernel_rfl) (by kernel_rfl) (by kernel_rfl) (by kernel_rfl) (by intro _ _ _ h; exact h) (Or.inl ⟨by rfl, fun w hSw => ?_⟩) hHeld ?_
        rotate_left
        · ((try dsimp only at hSw); go_simp; first | done | with_reducible rfl | rfl)
        try simp only [Act.put, List.setIfInBounds_toArray, List.set_cons_zero, List.set_cons_succ]
        refine AnyT.take (i := 36) (v := ?_) (by simp only [List.getElem?_toArray, List.getElem?_cons_succ, List.getElem?_cons_zero]; rfl) (by kernel_rfl) (by kernel_rfl) (by kernel_rfl) (by kernel_rfl) (by intro _ _ _ h; exact h) (Or.inl ⟨by rfl, fun w hSw => ?_⟩) hHeld ?_
        rotate_left
        · ((try dsimp only at hSw); go_simp; first | done | with_reducible rfl | rfl)
        try simp only [Act.put, List.setIfInBounds_toArray, List.set_cons_zero, List.set_cons_succ]
        refine AnyT.take (i := 37) (v := ?_) (by simp only [List.getElem?_toArray, List.getElem?_cons_succ, List.getElem?_cons_zero]; rfl) (by kernel_rfl) (by kernel_rfl) (by kernel_rfl) (by kernel_rfl) (by intro _ _ _ h; exact h) (Or.inl ⟨by rfl, fun w hSw => ?_⟩) hHeld ?_
        rotate_left
        · ((try dsimp only at hSw); go_simp; first | done | with_reducible rfl | rfl)
        try simp only [Act.put, List.setIfInBounds_toArray, List.set_cons_zero, List.set_cons_succ]
        refine AnyT.take (i := 38) (v := ?_) (by simp only [List.getElem?_toArray, List.getElem?_cons_succ, List.getElem?_cons_zero]; rfl) (by kernel_rfl) (by kernel_rfl) (by kernel_rfl) (by kernel_rfl) (by intro _ _ _ h; exact h) (Or.inl ⟨by rfl, fun w hSw => ?_⟩) hHeld ?_
        rotate_left
        · ((try dsimp only at hSw); go_simp; first | done | with_reducible rfl | rfl)
        try simp only [Act.put, List.setIfInBounds_toArray, List.set_cons_zero, List.set_cons_succ]
        refine AnyT.take (i := 39) (v := ?_) (by simp only [List.getElem?_toArray, List.getElem?_cons_succ, List.getElem?_cons_zero]; rfl) (by kernel_rfl) (by kernel_rfl) (by kernel_rfl) (by kernel_rfl) (by intro _ _ _ h; exact h) (Or.inl ⟨by rfl, fun w hSw => ?_⟩) hHeld ?_
        rotate_left
        · ((try dsimp only at hSw); go_simp; first | done | with_reducible rfl | rfl)
        try simp only [Act.put, List.setIfInBounds_toArray, List.set_cons_zero, List.set_cons_succ]
        refine AnyT.take (i := 40) (v := ?_) (by simp only [List.getElem?_toArray, List.getElem?_cons_succ, List.getElem?_cons_zero]; rfl) (by kernel_rfl) (by kernel_rfl) (by kernel_rfl) (by kernel_rfl) (by intro _ _ _ h; exact h) (Or.inl ⟨by rfl, fun w hSw => ?_⟩) hHeld ?_
        rotate_left
        · ((try dsimp only at hSw); go_simp; first | done | with_reducible rfl | rfl)
        try simp only [Act.put, List.setIfInBounds_toArray, List.set_cons_zero, List.set_cons_succ]
        refine AnyT.take (i := 41) (v := ?_) (by simp only [List.getElem?_toArray, List.getElem?_cons_succ, List.getElem?_cons_zero]; rfl) (by kernel_rfl) (by kernel_rfl) (by kernel_rfl) (by kernel_rfl) (by intro _ _ _ h; exact h) (Or.inl ⟨by rfl, fun w hSw => ?_⟩) hHeld ?_
        rotate_left
        · ((try dsimp only at hSw); go_simp; first | done | with_reducible rfl | rfl)
        try simp only [Act.put, List.setIfInBounds_toArray, List.set_cons_zero, List.set_cons_succ]
        refine AnyT.take (i := 42) (v := ?_) (by simp only [List.getElem?_toArray, List.getElem?_cons_succ, List.getElem?_cons_zero]; rfl) (by kernel_rfl) (by kernel_rfl) (by kernel_rfl) (by kernel_rfl) (by intro _ _ _ h; exact h) (Or.inl ⟨by rfl, fun w hSw => ?_⟩) hHeld ?_
        rotate_left
        · ((try dsimp only at hSw); go_simp; first | done | with_reducible rfl | rfl)
        try simp only [Act.put, List.setIfInBounds_toArray, List.set_cons_zero, List.set_cons_succ]
        refine AnyT.take (i := 43) (v := ?_) (by simp only [List.getElem?_toArray, List.getElem?_cons_succ, List.getElem?_cons_zero]; rfl) (by kernel_rfl) (by kernel_rfl) (by kernel_rfl) (by kernel_rfl) (by intro _ _ _ h; exact h) (Or.inl ⟨by rfl, fun w hSw => ?_⟩) hHeld ?_
        rotate_left
        · ((try dsimp only at hSw); go_simp; first | done | with_reducible rfl | rfl)
        try simp only [Act.put, List.setIfInBounds_toArray, List.set_cons_zero, List.set_cons_succ]
        refine AnyT.done (by kernel_rfl) ?_ _
        clear hHeld p0 p1 m0 m1 f1 f2 f3 f4 v0 r0 qa2 qb2
        go_wp2_with fail
        go_roundw
        case rel => exact ⟨k + 1, by go_num, by omega, hid HD.out.drew⟩
        case measure => simp [intOf]; omega
      | false =>
        rw [show wat N p = -1 from by unfold wat; rw [hv]; rfl] at r0
        rw [hv] at v0
        have qa2 := (HD.out.only.cell (p := ⟨q, 0, none⟩) (cell_lt qa) (by simp)).trans qa
        have qb2 := (HD.out.only.cell (p := ⟨q, 1, none⟩) (cell_lt qb) (by simp)).trans qb
        clear hp hpx hplc hx hmx hP2 hM2 hok ev er hv hkp hkl hdd hxk p0 p1
        go_wp2_with fail
        refine AnyT.start (S := fun w' => w'.cell? ⟨q, 0, none⟩ = some (.slice (some ⟨g, o, none⟩) n c) ∧ w'.cell? ⟨q, 1, none⟩ = some (.slice (some ⟨vg, vo, none⟩) n d) ∧ w'.cell? ⟨vg, vo + k, none⟩ = some (.bool false)) (T := []) (by kernel_rfl) (⟨qa2, qb2, v0⟩) (fun hHeld => ?_)
        refine AnyT.take (i := 0) (v := ?_) (by simp only [List.getElem?_toArray, List.getElem?_cons_succ, List.getElem?_cons_zero]; rfl) (by kernel_rfl) (by kernel_rfl) (by kernel_rfl) (by kernel_rfl) (by intro _ _ _ h; exact h) (Or.inl ⟨by rfl, fun w hSw => ?_⟩) hHeld ?_
        rotate_left
        · ((try dsimp only at hSw); go_simp; first | done | with_reducible rfl | rfl)
        try simp only [Act.put, List.setIfInBounds_toArray, List.set_cons_zero, List.set_cons_succ]
        refine AnyT.take (i := 1) (v := ?_) (by simp only [List.getElem?_toArray, List.getElem?_cons_succ, List.getElem?_cons_zero]; rfl) (by kernel_rfl) (by kernel_rfl) (by kernel_rfl) (by kernel_rfl) (by intro _ _ _ h; exact h) (Or.inl ⟨by rfl, fun w hSw => ?_⟩) hHeld ?_
        rotate_left
        · ((try dsimp only at hSw); go_simp; first | done | with_reducible rfl | rfl)
        try simp only [Act.put, List.setIfInBounds_toArray, List.set_cons_zero, List.set_cons_succ]
        refine AnyT.take (i := 2) (v := ?_) (by simp only [List.getElem?_toArray, List.getElem?_cons_succ, List.getElem?_cons_zero]; rfl) (by kernel_rfl) (by kernel_rfl) (by kernel_rfl) (by kernel_rfl) (by intro _ _ _ h; exact h) (Or.inl ⟨by rfl, fun w hSw => ?_⟩) hHeld ?_
        rotate_left
        · ((try dsimp only at hSw); go_simp; first | done | with_reducible rfl | rfl)
        try simp only [Act.put, List.setIfInBounds_toArray, List.set_cons_zero, List.set_cons_succ]
        refine AnyT.take (i := 3) (v := ?_) (by simp only [List.getElem?_toArray, List.getElem?_cons_succ, List.getElem?_cons_zero]; rfl) (by kernel_rfl) (by kernel_rfl) (by kernel_rfl) (by kernel_rfl) (by intro _ _ _ h; exact h) (Or.inl ⟨by rfl, fun w hSw => ?_⟩) hHeld ?_
        rotate_left
        · ((try dsimp only at hSw); go_simp; first | done | with_reducible rfl | rfl)
        try simp only [Act.put, List.setIfInBounds_toArray, List.set_cons_zero, List.set_cons_succ]
        refine AnyT.take (i := 4) (v := ?_) (by simp only [List.getElem?_toArray, List.getElem?_cons_succ, List.getElem?_cons_zero]; rfl) (by kernel_rfl) (by kernel_rfl) (by kernel_rfl) (by kernel_rfl) (by intro _ _ _ h; exact h) (Or.inl ⟨by rfl, fun w hSw => ?_⟩) hHeld ?_
        rotate_left
        · ((try dsimp only at hSw); go_simp; first | done | with_reducible rfl | rfl)
        try simp only [Act.put, List.setIfInBounds_toArray, List.set_cons_zero, List.set_cons_succ]
        refine AnyT.take (i := 5) (v := ?_) (by simp only [List.getElem?_toArray, List.getElem?_cons_succ, List.getElem?_cons_zero]; rfl) (by kernel_rfl) (by kernel_rfl) (by kernel_rfl) (by kernel_rfl) (by intro _ _ _ h; exact h) (Or.inl ⟨by rfl, fun w hSw => ?_⟩) hHeld ?_
        rotate_left
        · ((try dsimp only at hSw); go_simp; first | done | with_reducible rfl | rfl)
        try simp only [Act.put, List.setIfInBounds_toArray, List.set_cons_zero, List.set_cons_succ]
        refine AnyT.take (i := 6) (v := ?_) (by simp only [List.getElem?_toArray, List.getElem?_cons_succ, List.getElem?_cons_zero]; rfl) (by kernel_rfl) (by kernel_rfl) (by kernel_rfl) (by kernel_rfl) (by intro _ _ _ h; exact h) (Or.inl ⟨by rfl, fun w hSw => ?_⟩) hHeld ?_
        rotate_left
        · ((try dsimp only at hSw); go_simp; first | done | with_reducible rfl | rfl)
        try simp only [Act.put, List.setIfInBounds_toArray, List.set_cons_zero, List.set_cons_succ]
        refine AnyT.take (i := 7) (v := ?_) (by simp only [List.getElem?_toArray, List.getElem?_cons_succ, List.getElem?_cons_zero]; rfl) (by kernel_rfl) (by kernel_rfl) (by kernel_rfl) (by kernel_rfl) (by intro _ _ _ h; exact h) (Or.inl ⟨by rfl, fun w hSw => ?_⟩) hHeld ?_
        rotate_left
        · ((try dsimp only at hSw); go_simp; first | done | with_reducible rfl | rfl)
        try simp only [Act.put, List.setIfInBounds_toArray, List.set_cons_zero, List.set_cons_succ]
        refine AnyT.take (i := 8) (v := ?_) (by simp only [List.getElem?_toArray, List.getElem?_cons_succ, List.getElem?_cons_zero]; rfl) (by kernel_rfl) (by kernel_rfl) (by kernel_rfl) (by kernel_rfl) (by intro _ _ _ h; exact h) (Or.inl ⟨by rfl, fun w hSw => ?_⟩) hHeld ?_
        rotate_left
        · ((try dsimp only at hSw); go_simp; first | done | with_reducible rfl | rfl)
        try simp only [Act.put, List.setIfInBounds_toArray, List.set_cons_zero, List.set_cons_succ]
        refine AnyT.take (i := 9) (v := ?_) (by simp only [List.getElem?_toArray, List.getElem?_cons_succ, List.getElem?_cons_zero]; rfl) (by kernel_rfl) (by kernel_rfl) (by kernel_rfl) (by kernel_rfl) (by intro _ _ _ h; exact h) (Or.inl ⟨by rfl, fun w hSw => ?_⟩) hHeld ?_
        rotate_left
        · ((try dsimp only at hSw); go_simp; first | done | with_reducible rfl | rfl)
        try simp only [Act.put, List.setIfInBounds_toArray, List.set_cons_zero, List.set_cons_succ]
        refine AnyT.take (i := 10) (v := ?_) (by simp only [List.getElem?_toArray, List.getElem?_cons_succ, List.getElem?_cons_zero]; rfl) (by kernel_rfl) (by kernel_rfl) (by kernel_rfl) (by kernel_rfl) (by intro _ _ _ h; exact h) (Or.inl ⟨by rfl, fun w hSw => ?_⟩) hHeld ?_
        rotate_left
        · ((try dsimp only at hSw); go_simp; first | done | with_reducible rfl | rfl)
        try simp only [Act.put, List.setIfInBounds_toArray, List.set_cons_zero, List.set_cons_succ]
        refine AnyT.take (i := 11) (v := ?_) (by simp only [List.getElem?_toArray, List.getElem?_cons_succ, List.getElem?_cons_zero]; rfl) (by kernel_rfl) (by kernel_rfl) (by kernel_rfl) (by kernel_rfl) (by intro _ _ _ h; exact h) (Or.inl ⟨by rfl, fun w hSw => ?_⟩) hHeld ?_
        rotate_left
        · ((try dsimp only at hSw); go_simp; first | done | with_reducible rfl | rfl)
        try simp only [Act.put, List.setIfInBounds_toArray, List.set_cons_zero, List.set_cons_succ]
        refine AnyT.take (i := 12) (v := undef) (by simp only [List.getElem?_toArray, List.getElem?_cons_succ, List.getElem?_cons_zero]; rfl) (by kernel_rfl) (by kernel_rfl) (by kernel_rfl) (by kernel_rfl) (by intro _ _ _ h; exact h) (Or.inr ⟨by rfl, rfl⟩) hHeld ?_
        try simp only [Act.put, List.setIfInBounds_toArray, List.set_cons_zero, List.set_cons_succ]
        refine AnyT.take (i := 13) (v := undef) (by simp only [List.getElem?_toArray, List.getElem?_cons_succ, List.getElem?_cons_zero]; rfl) (by kernel_rfl) (by kernel_rfl) (by kernel_rfl) (by kernel_rfl) (by intro _ _ _ h; exact h) (Or.inr ⟨by rfl, rfl⟩) hHeld ?_
        try simp only [Act.put, List.setIfInBounds_toArray, List.set_cons_zero, List.set_cons_succ]
        refine AnyT.take (i := 14) (v := undef) (by simp only [List.getElem?_toArray, List.getElem?_cons_succ, List.getElem?_cons_zero]; rfl) (by kernel_rfl) (by kernel_rfl) (by kernel_rfl) (by kernel_rfl) (by intro _ _ _ h; exact h) (Or.inr ⟨by rfl, rfl⟩) hHeld ?_
        try simp only [Act.put, List.setIfInBounds_toArray, List.set_cons_zero, List.set_cons_succ]
        refine AnyT.take (i := 15) (v := undef) (by simp only [List.getElem?_toArray, List.getElem?_cons_succ, List.getElem?_cons_zero]; rfl) (by kernel_rfl) (by kernel_rfl) (by kernel_rfl) (by kernel_rfl) (by intro _ _ _ h; exact h) (Or.inr ⟨by rfl, rfl⟩) hHeld ?_
        try simp only [Act.put, List.setIfInBounds_toArray, List.set_cons_zero, List.set_cons_succ]
        refine AnyT.take (i := 16) (v := undef) (by simp only [List.getElem?_toArray, List.getElem?_cons_succ, List.getElem?_cons_zero]; rfl) (by kernel_rfl) (by kernel_rfl) (by kernel_rfl) (by kernel_rfl) (by intro _ _ _ h; exact h) (Or.inr ⟨by rfl, rfl⟩) hHeld ?_
        try simp only [Act.put, List.setIfInBounds_toArray, List.set_cons_zero, List.set_cons_succ]
        refine AnyT.take (i := 17) (v := undef) (by simp only [List.getElem?_toArray, List.getElem?_cons_succ, List.getElem?_cons_zero]; rfl) (by kernel_rfl) (by kernel_rfl) (by kernel_rfl) (by kernel_rfl) (by intro _ _ _ h; exact h) (Or.inr ⟨by rfl, rfl⟩) hHeld ?_
        try simp only [Act.put, List.setIfInBounds_toArray, List.set_cons_zero, List.set_cons_succ]
        refine AnyT.take (i := 18) (v := undef) (by simp only [List.getElem?_toArray, List.getElem?_cons_succ, List.getElem?_cons_zero]; rfl) (by kernel_rfl) (by kernel_rfl) (by kernel_rfl) (by kernel_rfl) (by intro _ _ _ h; exact h) (Or.inr ⟨by rfl, rfl⟩) hHeld ?_
        try simp only [Act.put, List.setIfInBounds_toArray, List.set_cons_zero, List.set_cons_succ]
        refine AnyT.take (i := 19) (v := undef) (by simp only [List.getElem?_toArray, List.getElem?_cons_succ, List.getElem?_cons_zero]; rfl) (by kernel_rfl) (by kernel_rfl) (by kernel_rfl) (by kernel_rfl) (by intro _ _ _ h; exact h) (Or.inr ⟨by rfl, rfl⟩) hHeld ?_
        try simp only [Act.put, List.setIfInBounds_toArray, List.set_cons_zero, List.set_cons_succ]
        refine AnyT.take (i := 20) (v := undef) (by simp only [List.getElem?_toArray, List.getElem?_cons_succ, List.getElem?_cons_zero]; rfl) (by kernel_rfl) (by kernel_rfl) (by kernel_rfl) (by kernel_rfl) (by intro _ _ _ h; exact h) (Or.inr ⟨by rfl, rfl⟩) hHeld ?_
        try simp only [Act.put, List.setIfInBounds_toArray, List.set_cons_zero, List.set_cons_succ]
        refine AnyT.take (i := 21) (v := undef) (by simp only [List.getElem?_toArray, List.getElem?_cons_succ, List.getElem?_cons_zero]; rfl) (by kernel_rfl) (by kernel_rfl) (by kernel_rfl) (by kernel_rfl) (by intro _ _ _ h; exact h) (Or.inr ⟨by rfl, rfl⟩) hHeld ?_
        try simp only [Act.put, List.setIfInBounds_toArray, List.set_cons_zero, List.set_cons_succ]
        refine AnyT.take (i := 22) (v := undef) (by simp only [List.getElem?_toArray, List.getElem?_cons_succ, List.getElem?_cons_zero]; rfl) (by kernel_rfl) (by kernel_rfl) (by kernel_rfl) (by kernel_rfl) (by intro _ _ _ h; exact h) (Or.inr ⟨by rfl, rfl⟩) hHeld ?_
        try simp only [Act.put, List.setIfInBounds_toArray, List.set_cons_zero, List.set_cons_succ]
        refine AnyT.take (i := 23) (v := undef) (by simp only [List.getElem?_toArray, List.getElem?_cons_succ, List.getElem?_cons_zero]; rfl) (by kernel_rfl) (by kernel_rfl) (by kernel_rfl) (by kernel_rfl) (by intro _ _ _ h; exact h) (Or.inr ⟨by rfl, rfl⟩) hHeld ?_
        try simp only [Act.put, List.setIfInBounds_toArray, List.set_cons_zero, List.set_cons_succ]
        refine AnyT.take (i := 24) (v := undef) (by simp only [List.getElem?_toArray, List.getElem?_cons_succ, List.getElem?_cons_zero]; rfl) (by kernel_rfl) (by kernel_rfl) (by kernel_rfl) (by kernel_rfl) (by intro _ _ _ h; exact h) (Or.inr ⟨by rfl, rfl⟩) hHeld ?_
        try simp only [Act.put, List.setIfInBounds_toArray, List.set_cons_zero, List.set_cons_succ]
        refine AnyT.take (i := 25) (v := undef) (by simp only [List.getElem?_toArray, List.getElem?_cons_succ, List.getElem?_cons_zero]; rfl) (by kernel_rfl) (by kernel_rfl) (by kernel_rfl) (by kernel_rfl) (by intro _ _ _ h; exact h) (Or.inr ⟨by rfl, rfl⟩) hHeld ?_
        try simp only [Act.put, List.setIfInBounds_toArray, List.set_cons_zero, List.set_cons_succ]
        refine AnyT.take (i := 26) (v := undef) (by simp only [List.getElem?_toArray, List.getElem?_cons_succ, List.getElem?_cons_zero]; rfl) (by kernel_rfl) (by kernel_rfl) (by kernel_rfl) (by kernel_rfl) (by intro _ _ _ h; exact h) (Or.inr ⟨by rfl, rfl⟩) hHeld ?_
        try simp only [Act.put, List.setIfInBounds_toArray, List.set_cons_zero, List.set_cons_succ]
        refine AnyT.take (i := 27) (v := undef) (by simp only [List.getElem?_toArray, List.getElem?_cons_succ, List.getElem?_cons_zero]; rfl) (by kernel_rfl) (by kernel_rfl) (by kernel_rfl) (by kernel_rfl) (by intro _ _ _ h; exact h) (Or.inr ⟨by rfl, rfl⟩) hHeld ?_
        try simp only [Act.put, List.setIfInBounds_toArray, List.set_cons_zero, List.set_cons_succ]
        refine AnyT.take (i := 28) (v := undef) (by simp only [List.getElem?_toArray, List.getElem?_cons_succ, List.getElem?_cons_zero]; rfl) (by kernel_rfl) (by kernel_rfl) (by kernel_rfl) (by kernel_rfl) (by intro _ _ _ h; exact h) (Or.inr ⟨by rfl, rfl⟩) hHeld ?_
        try simp only [Act.put, List.setIfInBounds_toArray, List.set_cons_zero, List.set_cons_succ]
        refine AnyT.take (i := 29) (v := undef) (by simp only [List.getElem?_toArray, List.getElem?_cons_succ, List.getElem?_cons_zero]; rfl) (by kernel_rfl) (by kernel_rfl) (by kernel_rfl) (by kernel_rfl) (by intro _ _ _ h; exact h) (Or.inr ⟨by rfl, rfl⟩) hHeld ?_
        try simp only [Act.put, List.setIfInBounds_toArray, List.set_cons_zero, List.set_cons_succ]
        refine AnyT.take (i := 30) (v := undef) (by simp only [List.getElem?_toArray, List.getElem?_cons_succ, List.getElem?_cons_zero]; rfl) (by kernel_rfl) (by kernel_rfl) (by kernel_rfl) (by kernel_rfl) (by intro _ _ _ h; exact h) (Or.inr ⟨by rfl, rfl⟩) hHeld ?_
        try simp only [Act.put, List.setIfInBounds_toArray, List.set_cons_zero, List.set_cons_succ]
        refine AnyT.take (i := 31) (v := undef) (by simp only [List.getElem?_toArray, List.getElem?_cons_succ, List.getElem?_cons_zero]; rfl) (by kernel_rfl) (by kernel_rfl) (by kernel_rfl) (by kernel_rfl) (by intro _ _ _ h; exact h) (Or.inr ⟨by rfl, rfl⟩) hHeld ?_
        try simp only [Act.put, List.setIfInBounds_toArray, List.set_cons_zero, List.set_cons_succ]
        refine AnyT.take (i := 32) (v := undef) (by simp only [List.getElem?_toArray, List.getElem?_cons_succ, List.getElem?_cons_zero]; rfl) (by kernel_rfl) (by kernel_rfl) (by kernel_rfl) (by kernel_rfl) (by intro _ _ _ h; exact h) (Or.inr ⟨by rfl, rfl⟩) hHeld ?_
        try simp only [Act.put, List.setIfInBounds_toArray, List.set_cons_zero, List.set_cons_succ]
        refine AnyT.take (i := 33) (v := undef) (by simp only [List.getElem?_toArray, List.getElem?_cons_succ, List.getElem?_cons_zero]; rfl) (by kernel_rfl) (by kernel_rfl) (by kernel_rfl) (by kernel_rfl) (by intro _ _ _ h; exact h) (Or.inr ⟨by rfl, rfl⟩) hHeld ?_
        try simp only [Act.put, List.setIfInBounds_toArray, List.set_cons_zero, List.set_cons_succ]
        refine AnyT.take (i := 34) (v := undef) (by simp only [List.getElem?_toArray, List.getElem?_cons_succ, List.getElem?_cons_zero]; rfl) (by kernel_rfl) (by kernel_rfl) (by kernel_rfl) (by kernel_rfl) (by intro _ _ _ h; exact h) (Or.inr ⟨by rfl, rfl⟩) hHeld ?_
        try simp only [Act.put, List.setIfInBounds_toArray, List.set_cons_zero, List.set_cons_succ]
        refine AnyT.take (i := 35) (v := undef) (by simp only [List.getElem?_toArray, List.getElem?_cons_succ, List.getElem?_cons_zero]; rfl) (by kernel_rfl) (by kernel_rfl) (by kernel_rfl) (by kernel_rfl) (by intro _ _ _ h; exact h) (Or.inr ⟨by rfl, rfl⟩) hHeld ?_
        try simp only [Act.put, List.setIfInBounds_toArray, List.set_cons_zero, List.set_cons_succ]
        refine AnyT.take (i := 36) (v := undef) (by simp only [List.getElem?_toArray, List.getElem?_cons_succ, List.getElem?_cons_zero]; rfl) (by kernel_rfl) (by kernel_rfl) (by kernel_rfl) (by kernel_rfl) (by intro _ _ _ h; exact h) (Or.inr ⟨by rfl, rfl⟩) hHeld ?_
        try simp only [Act.put, List.setIfInBounds_toArray, List.set_cons_zero, List.set_cons_succ]
        refine AnyT.take (i := 37) (v := undef) (by simp only [List.getElem?_toArray, List.getElem?_cons_succ, List.getElem?_cons_zero]; rfl) (by kernel_rfl) (by kernel_rfl) (by kernel_rfl) (by kernel_rfl) (by intro _ _ _ h; exact h) (Or.inr ⟨by rfl, rfl⟩) hHeld ?_
        try simp only [Act.put, List.setIfInBounds_toArray, List.set_cons_zero, List.set_cons_succ]
        refine AnyT.take (i := 38) (v := undef) (by simp only [List.getElem?_toArray, List.getElem?_cons_succ, List.getElem?_cons_zero]; rfl) (by kernel_rfl) (by kernel_rfl) (by kernel_rfl) (by kernel_rfl) (by intro _ _ _ h; exact h) (Or.inr ⟨by rfl, rfl⟩) hHeld ?_
        try simp only [Act.put, List.setIfInBounds_toArray, List.set_cons_zero, List.set_cons_succ]
        refine AnyT.take (i := 39) (v := undef) (by simp only [List.getElem?_toArray, List.getElem?_cons_succ, List.getElem?_cons_zero]; rfl) (by kernel_rfl) (by kernel_rfl) (by kernel_rfl) (by kernel_rfl) (by intro _ _ _ h; exact h) (Or.inr ⟨by rfl, rfl⟩) hHeld ?_
        try simp only [Act.put, List.setIfInBounds_toArray, List.set_cons_zero, List.set_cons_succ]
        refine AnyT.take (i := 40) (v := undef) (by simp only [List.getElem?_toArray, List.getElem?_cons_succ, List.getElem?_cons_zero]; rfl) (by kernel_rfl) (by kernel_rfl) (by kernel_rfl) (by kernel_rfl) (by intro _ _ _ h; exact h) (Or.inr ⟨by rfl, rfl⟩) hHeld ?_
        try simp only [Act.put, List.setIfInBounds_toArray, List.set_cons_zero, List.set_cons_succ]
        refine AnyT.take (i := 41) (v := undef) (by simp only [List.getElem?_toArray, List.getElem?_cons_succ, List.getElem?_cons_zero]; rfl) (by kernel_rfl) (by kernel_rfl) (by kernel_rfl) (by kernel_rfl) (by intro _ _ _ h; exact h) (Or.inr ⟨by rfl, rfl⟩) hHeld ?_
        try simp only [Act.put, List.setIfInBounds_toArray, List.set_cons_zero, List.set_cons_succ]
        refine AnyT.take (i := 42) (v := ?_) (by simp only [List.getElem?_toArray, List.getElem?_cons_succ, List.getElem?_cons_zero]; rfl) (by kernel_rfl) (by kernel_rfl) (by kernel_rfl) (by kernel_rfl) (by intro _ _ _ h; exact h) (Or.inl ⟨by rfl, fun w hSw => ?_⟩) hHeld ?_
        rotate_left
        · ((try dsimp only at hSw); go_simp; first | done | with_reducible rfl | rfl)
        try simp only [Act.put, List.setIfInBounds_toArray, List.set_cons_zero, List.set_cons_succ]
        refine AnyT.take (i := 43) (v := ?_) (by simp only [List.getElem?_toArray, List.getElem?_cons_succ, List.getElem?_cons_zero]; rfl) (by kernel_rfl) (by kernel_rfl) (by kernel_rfl) (by kernel_rfl) (by intro _ _ _ h; exact h) (Or.inl ⟨by rfl, fun w hSw => ?_⟩) hHeld ?_
        rotate_left
        · ((try dsimp only at hSw); go_simp; first | done | with_reducible rfl | rfl)
        try simp only [Act.put, List.setIfInBounds_toArray, List.set_cons_zero, List.set_cons_succ]
        refine AnyT.done (by kernel_rfl) ?_ _
        clear hHeld v0 r0 qa2 qb2
        go_wp2_with fail
        go_roundw
        case rel => exact ⟨k + 1, by go_num, by omega, hid HD.out.drew⟩
        case measure => simp [intOf]; omega
    · have h4' : ¬ (k : Int) < (n : Int) := by omega
      go_wp2_with fail
      go_ret
      exact ⟨rfl, HO1.out.only.dr HD.out⟩
end Go.Proofs.YtloflmcgbbbnjaaDoor
namespace Go.Proofs.YtloflmcgbbbnjaaDoor
open Go.RowKit Plain
set_option linter.all false

def It.core (it : It) : Nat × Option Addr × Nat × List Pr := (it.q, it.A, it.c, it.l)
theorem core_data {its its0 : List It} (h : its.map It.core = its0.map It.core) {w : World} (hd : MData its0 w) : MData its w := by
  intro it hit
  have h1 : it.core ∈ its0.map It.core := by rw [← h]; exact List.mem_map.2 ⟨it, hit, rfl⟩
  obtain ⟨it0, h0, e⟩ := List.mem_map.1 h1
  have h2 := hd it0 h0
  simp only [It.core, Prod.mk.injEq] at e
  obtain ⟨_, e2, _, e4⟩ := e
  rw [← e2, ← e4]; exact h2
theorem core_map (its : List It) (u : It → Int) : (its.map fun it => it.to (u it)).map It.core = its.map It.core := by rw [List.map_map]; rfl
theorem core_set {its : List It} {x : Nat} {it : It} (hi : its[x]? = some it) (p : Int) : (its.set x (it.to p)).map It.core = its.map It.core := by
  have hxl := (List.getElem?_eq_some_iff.1 hi).1
  apply List.ext_getElem?
  intro i
  rw [List.getElem?_map, List.getElem?_map]
  by_cases hix : i = x
  · subst hix
    rw [List.getElem?_set_self hxl, hi]; rfl
  · rw [List.getElem?_set_ne (by omega)]
theorem set_iv {its : List It} {x : Nat} {it : It} (hi : its[x]? = some it) (p : Int) : (its.set x (it.to p)).map It.iv = its.map It.iv := by
  have hxl := (List.getElem?_eq_some_iff.1 hi).1
  apply List.ext_getElem?
  intro i
  rw [List.getElem?_map, List.getElem?_map]
  by_cases hix : i = x
  · subst hix
    rw [List.getElem?_set_self hxl, hi]; rfl
  · rw [List.getElem?_set_ne (by omega)]
theorem core_l {its its0 : List It} (h : its.map It.core = its0.map It.core) : its.map It.l = its0.map It.l := by
  have := congrArg (List.map fun x : Nat × Option Addr × Nat × List Pr => x.2.2.2) h
  rw [List.map_map, List.map_map] at this
  exact this
structure MI (mp : Nat) (its0 : List It) (m : List Pr) (p : Int) (F : List Fr) (iA : Option Addr) (K ic kg : Nat) (idx dir : Int) (its : List It) (Fi : List Fr) : Prop where
  eq : F = mFr mp iA K ic kg idx dir :: fw kg 25 (its.map It.kv) :: (Fi ++ its.map It.fr)
  row : Row 106 1 iA K ic (its.map It.iv) Fi
  len : K = its.length
  le : K ≤ 2147483647
  core : its.map It.core = its0.map It.core
  st : MSt (its0.map It.l) m its idx dir p
def MIx (mp : Nat) (its0 : List It) (m : List Pr) (p : Int) (F : List Fr) : Prop := ∃ iA K ic kg idx dir its Fi, MI mp its0 m p F iA K ic kg idx dir its Fi
theorem fromN {mp K ic kg : Nat} {iA : Option Addr} {its0 its : List It} {m : List Pr} {Fi R : List Fr} {w0 w : World} {e : Ending} (hM : Mgd Pr.k (its0.map It.l) m) (h : MOutN mp iA K ic kg its (Fi ++ (its.map It.fr ++ R)) w0 e w)
    (hrow : Row 106 1 iA K ic (its.map It.iv) Fi) (hlen : K = its.length) (hle : K ≤ 2147483647) (hcore : its.map It.core = its0.map It.core) (hplc : ∀ it ∈ its, Plc it.l.length it.pos) {Q : Nat} (hQ : Q ≤ m.length) (hF : PosF m its Q) (n : Nat) (hn : n = m.length) :
    ItBool n (MIx mp its0 m) (Q : Int) R w0 e w := by
  subst hn
  have hls := core_l hcore
  obtain ⟨n1, n2, n3⟩ := next_done hM hls hQ hF
  rcases h with ⟨j, it, r, a1, a2, a3, rfl, hO⟩ | ⟨a1, rfl, ix, hO⟩
  · have hx := n1 j it r a1 a2 a3
    have hl := n3 j it r a1 a2
    refine ⟨by rw [wval_iff.2 ⟨by omega, by omega⟩], _, ⟨iA, K, ic, kg, (j : Int), 3, its, Fi, rfl, hrow, hlen, hle, hcore, hls, hplc, .inr (.inr (.inl ⟨rfl, Q, j, it, r, rfl, hx, rfl, a1, a2, hF⟩))⟩, ?_⟩
    simpa using hO
  · have hl := n2 a1
    refine ⟨by rw [wval_not.2 (.inr (by omega))], _, ⟨iA, K, ic, kg, ix, 1, its, Fi, rfl, hrow, hlen, hle, hcore, hls, hplc, .inr (.inl ⟨rfl, by omega⟩)⟩, ?_⟩
    simpa using hO
theorem fromP {mp K ic kg : Nat} {iA : Option Addr} {its0 its : List It} {m : List Pr} {Fi R : List Fr} {w0 w : World} {e : Ending} (hM : Mgd Pr.k (its0.map It.l) m) (h : MOutP mp iA K ic kg its (Fi ++ (its.map It.fr ++ R)) w0 e w)
    (hrow : Row 106 1 iA K ic (its.map It.iv) Fi) (hlen : K = its.length) (hle : K ≤ 2147483647) (hcore : its.map It.core = its0.map It.core) (hplc : ∀ it ∈ its, Plc it.l.length it.pos) {Q : Nat} (hQ : Q ≤ m.length) (hB : PosB m its Q) (n : Nat) (hn : n = m.length) (p : Int) (hp : p = (Q : Int) - 1) :
    ItBool n (MIx mp its0 m) p R w0 e w := by
  subst hn; subst hp
  have hls := core_l hcore
  obtain ⟨n1, n2, n3⟩ := prev_done hM hls hQ hB
  rcases h with ⟨j, it, r, a1, a2, a3, rfl, hO⟩ | ⟨a1, rfl, ix, hO⟩
  · obtain ⟨P, rfl, hx⟩ := n1 j it r a1 a2 a3
    refine ⟨by rw [wval_iff.2 ⟨by omega, by omega⟩], _, ⟨iA, K, ic, kg, (j : Int), 2, its, Fi, rfl, hrow, hlen, hle, hcore, hls, hplc, .inr (.inr (.inr ⟨rfl, P, j, it, r, by omega, hx, rfl, a1, a2, hB⟩))⟩, ?_⟩
    simpa using hO
  · have hl := n2 a1
    refine ⟨by rw [wval_not.2 (.inl (by omega))], _, ⟨iA, K, ic, kg, ix, 0, its, Fi, rfl, hrow, hlen, hle, hcore, hls, hplc, .inl ⟨rfl, by omega⟩⟩, ?_⟩
    simpa using hO
/-- What the lists are bound by. -/
structure MBd (its0 : List It) (m : List Pr) : Prop where
  mgd : Mgd Pr.k (its0.map It.l) m
  ll : ∀ it ∈ its0, it.l.length ≤ 1099511627776
  kl : ∀ r ∈ m, r.k.length ≤ 2147483647 ∧ r.v.length ≤ 2147483647
theorem core_ll {its its0 : List It} (h : its.map It.core = its0.map It.core) (hl : ∀ it ∈ its0, it.l.length ≤ 1099511627776) : ∀ it ∈ its, it.l.length ≤ 1099511627776 := by
  intro it hit
  have h1 : it.l ∈ its0.map It.l := by rw [← core_l h]; exact List.mem_map.2 ⟨it, hit, rfl⟩
  obtain ⟨it0, h0, e⟩ := List.mem_map.1 h1
  rw [← e]; exact hl it0 h0
theorem plc_map {its : List It} {u : It → Int} (h : ∀ it ∈ its, Plc it.l.length (u it)) : ∀ it ∈ (its.map fun it => it.to (u it)), Plc it.l.length it.pos := by
  intro y hy
  obtain ⟨it, hit, rfl⟩ := List.mem_map.1 hy
  exact h it hit
theorem plc_set {its : List It} {x : Nat} {it : It} {p : Int} (h : ∀ it ∈ its, Plc it.l.length it.pos) (hp : Plc it.l.length p) : ∀ it' ∈ its.set x (it.to p), Plc it'.l.length it'.pos := by
  intro y hy
  rcases List.mem_or_eq_of_mem_set hy with hy | rfl
  · exact h y hy
  · exact hp
theorem posF_map {its : List It} {u : It → Int} {m : List Pr} {Q : Nat} (h : ∀ it ∈ its, it.l = [] ∨ u it = (cut Pr.k m Q it.l : Nat)) : PosF m (its.map fun it => it.to (u it)) Q := by
  intro i y hy
  obtain ⟨it, hi, rfl⟩ := map_get hy
  exact h it (List.mem_of_getElem? hi)
theorem posB_map {its : List It} {u : It → Int} {m : List Pr} {Q : Nat} (h : ∀ it ∈ its, it.l = [] ∨ u it = (cut Pr.k m Q it.l : Nat) - 1) : PosB m (its.map fun it => it.to (u it)) Q := by
  intro i y hy
  obtain ⟨it, hi, rfl⟩ := map_get hy
  exact h it (List.mem_of_getElem? hi)
theorem len_pos {it : It} (h : it.l ≠ []) : it.l.length ≠ 0 := fun e => h (List.eq_nil_of_length_eq_zero e)
section
variable {mp : Nat} {its0 : List It} {m : List Pr} (hB : MBd its0 m)
include hB
theorem mi_first (p : Int) (F R : List Fr) (w0 w : World) (hI : MIx mp its0 m p F) (hD : St R w0 (MData its0)) (hO : Own (F ++ R) w0 w) :
    Calls Tryd.prog 197 #[.pointer (some ⟨mp, 0, none⟩)] w (ItBool m.length (MIx mp its0 m) 0 R w0) := by
  obtain ⟨iA, K, ic, kg, idx, dir, its, Fi, h⟩ := hI
  have hd : dir ≠ -1 := by rcases h.st.at_ with h1 | h1 | h1 | h1 <;> have := h1.1 <;> omega
  refine (mFirst mp iA K ic kg idx dir its Fi R w0 w (by rw [h.eq] at hO; simpa using hO) h.row (hD.imp fun w hm => core_data h.core hm) h.len h.le hd (core_ll h.core hB.ll)).mono fun e w' ho => ?_
  refine fromN hB.mgd ho (by rw [map_iv]; exact h.row) (by rw [List.length_map]; exact h.len) h.le (by rw [core_map]; exact h.core) (plc_map fun it hit => ?_) (Nat.zero_le _) (posF_map fun it hit => ?_) _ rfl
  · unfold posFirst; split <;> exact ⟨by omega, by omega⟩
  · by_cases he : it.l = []
    · exact .inl he
    · right
      rw [hB.mgd.cut0 (by rw [← core_l h.core]; exact List.mem_map.2 ⟨it, hit, rfl⟩)]
      unfold posFirst; rw [if_neg (len_pos he)]; rfl
theorem mi_last (p : Int) (F R : List Fr) (w0 w : World) (hI : MIx mp its0 m p F) (hD : St R w0 (MData its0)) (hO : Own (F ++ R) w0 w) :
    Calls Tryd.prog 199 #[.pointer (some ⟨mp, 0, none⟩)] w (ItBool m.length (MIx mp its0 m) ((m.length : Int) - 1) R w0) := by
  obtain ⟨iA, K, ic, kg, idx, dir, its, Fi, h⟩ := hI
  have hd : dir ≠ -1 := by rcases h.st.at_ with h1 | h1 | h1 | h1 <;> have := h1.1 <;> omega
  refine (mLast mp iA K ic kg idx dir its Fi R w0 w (by rw [h.eq] at hO; simpa using hO) h.row (hD.imp fun w hm => core_data h.core hm) h.len h.le hd (core_ll h.core hB.ll)).mono fun e w' ho => ?_
  refine fromP hB.mgd ho (by rw [map_iv]; exact h.row) (by rw [List.length_map]; exact h.len) h.le (by rw [core_map]; exact h.core) (plc_map fun it hit => ?_) (Nat.le_refl _) (posB_map fun it hit => ?_) _ rfl _ rfl
  · unfold posLast; split <;> exact ⟨by omega, by omega⟩
  · by_cases he : it.l = []
    · exact .inl he
    · right
      rw [cut_end (Nat.le_refl _)]
      unfold posLast; rw [if_neg (len_pos he)]
theorem mi_seek (p : Int) (F R : List Fr) (w0 w : World) (A : Option Addr) (n c : Nat) (key : List UInt8) (hI : MIx mp its0 m p F) (hD : St R w0 (MData its0)) (hO : Own (F ++ R) w0 w) (hk : Rd R w0 A key) (hn : n = key.length) :
    Calls Tryd.prog 203 #[.pointer (some ⟨mp, 0, none⟩), .slice A n c] w (ItBool m.length (MIx mp its0 m) (mAt Pr.k m key : Nat) R w0) := by
  obtain ⟨iA, K, ic, kg, idx, dir, its, Fi, h⟩ := hI
  have hd : dir ≠ -1 := by rcases h.st.at_ with h1 | h1 | h1 | h1 <;> have := h1.1 <;> omega
  refine (mSeek mp iA K ic kg idx dir its A n c key Fi R w0 w (by rw [h.eq] at hO; simpa using hO) h.row (hD.imp fun w hm => core_data h.core hm) h.len h.le hd (core_ll h.core hB.ll) hk hn).mono fun e w' ho => ?_
  refine fromN hB.mgd ho (by rw [map_iv]; exact h.row) (by rw [List.length_map]; exact h.len) h.le (by rw [core_map]; exact h.core) (plc_map fun it hit => ?_) (mAt_le Pr.k m key) (posF_map fun it hit => ?_) _ rfl
  · have := mAt_le Pr.k it.l key
    unfold posSeek; exact ⟨by omega, by omega⟩
  · right
    unfold posSeek
    rw [hB.mgd.seek (by rw [← core_l h.core]; exact List.mem_map.2 ⟨it, hit, rfl⟩) key]
end
end Go.Proofs.YtloflmcgbbbnjaaDoor
namespace Go.Proofs.YtloflmcgbbbnjaaDoor
open Go.RowKit Plain
set_option linter.all false

section
variable {mp : Nat} {its0 : List It} {m : List Pr} (hB : MBd its0 m)
include hB
theorem mi_next (p : Int) (F R : List Fr) (w0 w : World) (hI : MIx mp its0 m p F) (hD : St R w0 (MData its0)) (hO : Own (F ++ R) w0 w) :
    Calls Tryd.prog 200 #[.pointer (some ⟨mp, 0, none⟩)] w (ItBool m.length (MIx mp its0 m) (min (p + 1) (m.length : Int)) R w0) := by
  obtain ⟨iA, K, ic, kg, idx, dir, its, Fi, h⟩ := hI
  have hO1 : Own (mFr mp iA K ic kg idx dir :: fw kg 25 (its.map It.kv) :: (Fi ++ (its.map It.fr ++ R))) w0 w := by rw [h.eq] at hO; simpa using hO
  have hD1 : St R w0 (MData its) := hD.imp fun w hm => core_data h.core hm
  have hll := core_ll h.core hB.ll
  rcases h.st.at_ with ⟨rfl, rfl⟩ | ⟨rfl, rfl⟩ | ⟨rfl, P, x, it, r, rfl, hx, rfl, hi, hc, hF⟩ | ⟨rfl, P, x, it, r, rfl, hx, rfl, hi, hc, hBk⟩
  · refine (mNextS mp iA K ic kg idx its Fi R w0 w hO1 h.row hD1 h.len h.le hll).mono fun e w' ho => ?_
    rw [show min ((-1 : Int) + 1) (m.length : Int) = ((0 : Nat) : Int) by omega]
    refine fromN hB.mgd ho (by rw [map_iv]; exact h.row) (by rw [List.length_map]; exact h.len) h.le (by rw [core_map]; exact h.core) (plc_map fun it hit => ?_) (Nat.zero_le _) (posF_map fun it hit => ?_) _ rfl
    · unfold posFirst; split <;> exact ⟨by omega, by omega⟩
    · by_cases he : it.l = []
      · exact .inl he
      · right
        rw [hB.mgd.cut0 (by rw [← core_l h.core]; exact List.mem_map.2 ⟨it, hit, rfl⟩)]
        unfold posFirst; rw [if_neg (len_pos he)]; rfl
  · refine (mNextEnd mp iA K ic kg idx w (mFr_cells hO1)).mono ?_
    rintro e w' ⟨rfl, hd⟩
    rw [show min ((m.length : Int) + 1) (m.length : Int) = (m.length : Int) by omega]
    exact ⟨by rw [wval_not.2 (.inr (by omega))], F, ⟨iA, K, ic, kg, idx, 1, its, Fi, h⟩, hO.dr hd⟩
  · have hPl := (List.getElem?_eq_some_iff.1 hx).1
    obtain ⟨c, e1, e2⟩ := cur_pos hc
    have hcl := (List.getElem?_eq_some_iff.1 e2).1
    have hpl := h.st.plc it (List.mem_of_getElem? hi)
    refine (mNextF mp iA K ic kg x its it Fi R w0 w hO1 hi h.row hD1 h.len h.le (hll it (List.mem_of_getElem? hi)) hpl).mono fun e w' ho => ?_
    rw [show min ((P : Int) + 1) (m.length : Int) = ((P + 1 : Nat) : Int) by omega]
    exact fromN hB.mgd ho (by rw [set_iv hi]; exact h.row) (by rw [List.length_set]; exact h.len) h.le (by rw [core_set hi]; exact h.core) (plc_set h.st.plc ⟨by omega, by omega⟩) (by omega) (posF_step hB.mgd (core_l h.core) hF hx hi hc) _ rfl
  · have hPl := (List.getElem?_eq_some_iff.1 hx).1
    have hrm := List.mem_of_getElem? hx
    have hls := core_l h.core
    have hF1 : PosF m (its.map fun it => it.to (posSeek r.k it)) P := posF_map fun it hit => .inr (by unfold posSeek; rw [cut_seekP hx])
    have hls1 : (its.map fun it => it.to (posSeek r.k it)).map It.l = its0.map It.l := by rw [map_l]; exact hls
    obtain ⟨n1, n2, n3⟩ := next_done hB.mgd hls1 (by omega) hF1
    have hfound : Found (its.map fun it => it.to (posSeek r.k it)) := by
      apply Classical.byContradiction
      intro hnf
      have := n2 fun it hit => by
        cases hcu : it.cur with
        | none => rfl
        | some y => exact absurd ⟨it, hit, by rw [hcu]; simp⟩ hnf
      omega
    refine (mNextB mp iA K ic kg x its it r Fi R w0 w hO1 hi hc h.row hD1 h.len h.le hll (hB.kl r hrm).1 hfound).mono ?_
    rintro e w' ⟨j, it1, r1, b1, b2, b3, ho⟩
    have hx1 := n1 j it1 r1 b1 b2 b3
    obtain ⟨c, e1, e2⟩ := cur_pos b2
    have hcl := (List.getElem?_eq_some_iff.1 e2).1
    rw [show min ((P : Int) + 1) (m.length : Int) = ((P + 1 : Nat) : Int) by omega]
    refine fromN hB.mgd ho (by rw [set_iv b1, map_iv]; exact h.row) (by rw [List.length_set, List.length_map]; exact h.len) h.le (by rw [core_set b1, core_map]; exact h.core) (plc_set (plc_map fun it hit => ?_) ⟨by omega, by omega⟩) (by omega) (posF_step hB.mgd hls1 hF1 hx1 b1 b2) _ rfl
    have := mAt_le Pr.k it.l r.k
    unfold posSeek; exact ⟨by omega, by omega⟩
theorem mi_prev (p : Int) (F R : List Fr) (w0 w : World) (hI : MIx mp its0 m p F) (hD : St R w0 (MData its0)) (hO : Own (F ++ R) w0 w) :
    Calls Tryd.prog 201 #[.pointer (some ⟨mp, 0, none⟩)] w (ItBool m.length (MIx mp its0 m) (max (p - 1) (-1)) R w0) := by
  obtain ⟨iA, K, ic, kg, idx, dir, its, Fi, h⟩ := hI
  have hO1 : Own (mFr mp iA K ic kg idx dir :: fw kg 25 (its.map It.kv) :: (Fi ++ (its.map It.fr ++ R))) w0 w := by rw [h.eq] at hO; simpa using hO
  have hD1 : St R w0 (MData its) := hD.imp fun w hm => core_data h.core hm
  have hll := core_ll h.core hB.ll
  rcases h.st.at_ with ⟨rfl, rfl⟩ | ⟨rfl, rfl⟩ | ⟨rfl, P, x, it, r, rfl, hx, rfl, hi, hc, hF⟩ | ⟨rfl, P, x, it, r, rfl, hx, rfl, hi, hc, hBk⟩
  · refine (mPrevEnd mp iA K ic kg idx w (mFr_cells hO1)).mono ?_
    rintro e w' ⟨rfl, hd⟩
    rw [show max ((-1 : Int) - 1) (-1) = -1 by omega]
    exact ⟨by rw [wval_not.2 (.inl (by omega))], F, ⟨iA, K, ic, kg, idx, 0, its, Fi, h⟩, hO.dr hd⟩
  · refine (mPrevE mp iA K ic kg idx its Fi R w0 w hO1 h.row hD1 h.len h.le hll).mono fun e w' ho => ?_
    refine fromP hB.mgd ho (by rw [map_iv]; exact h.row) (by rw [List.length_map]; exact h.len) h.le (by rw [core_map]; exact h.core) (plc_map fun it hit => ?_) (Nat.le_refl _) (posB_map fun it hit => ?_) _ rfl _ (by omega)
    · unfold posLast; split <;> exact ⟨by omega, by omega⟩
    · by_cases he : it.l = []
      · exact .inl he
      · right
        rw [cut_end (Nat.le_refl _)]
        unfold posLast; rw [if_neg (len_pos he)]
  · have hPl := (List.getElem?_eq_some_iff.1 hx).1
    have hrm := List.mem_of_getElem? hx
    obtain ⟨c, e1, e2⟩ := cur_pos hc
    have hls := core_l h.core
    have hpl := h.st.plc it (List.mem_of_getElem? hi)
    have hcl := (List.getElem?_eq_some_iff.1 e2).1
    refine (mPrevF mp iA K ic kg x its it r Fi R w0 w hO1 hi hc h.row hD1 h.len h.le hll (hB.kl r hrm).1 hpl).mono ?_
    rintro e w' ⟨st, hst, ho⟩
    have hsx := hst.own hi
    have hsxl := (List.getElem?_eq_some_iff.1 hsx).1
    have hplc : ∀ y ∈ st, Plc y.l.length y.pos := by
      intro y hy
      obtain ⟨i, hil, rfl⟩ := List.getElem_of_mem hy
      have hil2 : i < its.length := by rw [← hst.len]; exact hil
      have h1 := hst.at_ i its[i] (List.getElem?_eq_getElem hil2)
      rw [List.getElem?_eq_getElem hil] at h1
      rw [Option.some.inj h1]
      split
      · have := mAt_le Pr.k its[i].l r.k
        show Plc its[i].l.length (posBack r.k its[i])
        unfold posBack; split <;> exact ⟨by omega, by omega⟩
      · exact h.st.plc _ (List.getElem_mem hil2)
    obtain ⟨s1, s2⟩ := hB.mgd.step hx (ls_mem hls hi).2 e2
    refine fromP hB.mgd ho (by rw [set_iv hsx, hst.map It.iv (fun _ _ => rfl)]; exact h.row) (by rw [List.length_set, hst.len]; exact h.len) h.le (by rw [core_set hsx, hst.map It.core (fun _ _ => rfl)]; exact h.core) (plc_set hplc ⟨by omega, by omega⟩) (show P ≤ m.length by omega) (fun i it' hi' => ?_) _ rfl _ (by omega)
    by_cases hix : i = x
    · subst hix
      rw [List.getElem?_set_self hsxl] at hi'
      rw [← Option.some.inj hi']
      right
      show max (it.pos - 1) (-1) = ((cut Pr.k m P it.l : Nat) : Int) - 1
      rw [s1]; omega
    · rw [List.getElem?_set_ne (by omega)] at hi'
      have hil : i < its.length := by rw [← hst.len]; exact (List.getElem?_eq_some_iff.1 hi').1
      have h1 := hst.at_ i its[i] (List.getElem?_eq_getElem hil)
      rw [hi', if_pos ⟨by rw [h.len]; exact hil, hix⟩] at h1
      rw [Option.some.inj h1]
      by_cases he : its[i].l = []
      · exact .inl he
      · right
        show posBack r.k its[i] = _
        unfold posBack
        rw [if_neg (len_pos he), cut_seekP hx]; rfl
  · have hPl := (List.getElem?_eq_some_iff.1 hx).1
    obtain ⟨c, e1, e2⟩ := cur_pos hc
    have hcl := (List.getElem?_eq_some_iff.1 e2).1
    have hpl := h.st.plc it (List.mem_of_getElem? hi)
    refine (mPrevB mp iA K ic kg x its it Fi R w0 w hO1 hi h.row hD1 h.len h.le (hll it (List.mem_of_getElem? hi)) hpl).mono fun e w' ho => ?_
    exact fromP hB.mgd ho (by rw [set_iv hi]; exact h.row) (by rw [List.length_set]; exact h.len) h.le (by rw [core_set hi]; exact h.core) (plc_set h.st.plc ⟨by omega, by omega⟩) (show P ≤ m.length by omega) (posB_step hB.mgd (core_l h.core) hBk hx hi hc) _ rfl _ (by omega)
theorem mi_valid (p : Int) (F R : List Fr) (w0 w : World) (hI : MIx mp its0 m p F) (hO : Own (F ++ R) w0 w) :
    Calls Tryd.prog 205 #[.pointer (some ⟨mp, 0, none⟩)] w (ItBool m.length (MIx mp its0 m) p R w0) := by
  obtain ⟨iA, K, ic, kg, idx, dir, its, Fi, h⟩ := hI
  have hO1 : Own (mFr mp iA K ic kg idx dir :: fw kg 25 (its.map It.kv) :: (Fi ++ (its.map It.fr ++ R))) w0 w := by rw [h.eq] at hO; simpa using hO
  refine (mValid mp iA K ic kg idx dir w (mFr_cells hO1)).mono ?_
  rintro e w' ⟨rfl, hd⟩
  refine ⟨?_, F, ⟨iA, K, ic, kg, idx, dir, its, Fi, h⟩, hO.dr hd⟩
  congr 2
  rcases h.st.at_ with ⟨rfl, rfl⟩ | ⟨rfl, rfl⟩ | ⟨rfl, P, x, it, r, rfl, hx, rfl, hi, hc, hF⟩ | ⟨rfl, P, x, it, r, rfl, hx, rfl, hi, hc, hBk⟩
  · rw [wval_not.2 (.inl (by omega))]; rfl
  · rw [wval_not.2 (.inr (by omega))]; rfl
  · have hPl := (List.getElem?_eq_some_iff.1 hx).1
    rw [wval_iff.2 ⟨by omega, by omega⟩]; rfl
  · have hPl := (List.getElem?_eq_some_iff.1 hx).1
    rw [wval_iff.2 ⟨by omega, by omega⟩]; rfl
/-- At a pair: which iterator has it. -/
theorem mi_at {p : Int} {idx dir : Int} {its : List It} (h : MSt (its0.map It.l) m its idx dir p) (hv : wval m.length p = true) : ∃ (P x : Nat) (it : It) (r : Pr), p = (P : Int) ∧ m[P]? = some r ∧ idx = (x : Int) ∧ its[x]? = some it ∧ it.cur = some r ∧ 1 < dir := by
  obtain ⟨v1, v2⟩ := wval_iff.1 hv
  rcases h.at_ with ⟨rfl, rfl⟩ | ⟨rfl, rfl⟩ | ⟨rfl, P, x, it, r, h1, hx, h2, hi, hc, hF⟩ | ⟨rfl, P, x, it, r, h1, hx, h2, hi, hc, hBk⟩
  · omega
  · omega
  · exact ⟨P, x, it, r, h1, hx, h2, hi, hc, by omega⟩
  · exact ⟨P, x, it, r, h1, hx, h2, hi, hc, by omega⟩
theorem mi_key (p : Int) (F R : List Fr) (w0 w : World) (hv : wval m.length p = true) (hI : MIx mp its0 m p F) (hD : St R w0 (MData its0)) (hO : Own (F ++ R) w0 w) :
    Calls Tryd.prog 198 #[.pointer (some ⟨mp, 0, none⟩)] w (ItSl (key (kvs m) p.toNat) (MIx mp its0 m) p R w0) := by
  obtain ⟨iA, K, ic, kg, idx, dir, its, Fi, h⟩ := hI
  have hO1 : Own (mFr mp iA K ic kg idx dir :: fw kg 25 (its.map It.kv) :: (Fi ++ (its.map It.fr ++ R))) w0 w := by rw [h.eq] at hO; simpa using hO
  obtain ⟨P, x, it, r, rfl, hx, rfl, hi, hc, hd⟩ := mi_at hB h.st hv
  have hk := key_cell hO1 hi
  rw [hc] at hk
  refine (mKey mp iA K ic kg x dir _ w (mFr_cells hO1) hd (by rw [h.len]; exact (List.getElem?_eq_some_iff.1 hi).1) hk).mono ?_
  rintro e w' ⟨rfl, hdr⟩
  have hD1 := (hO.dr hdr).st hD (fun y hy => List.mem_append_right _ hy)
  have hok := (core_data h.core hD1 it (List.mem_of_getElem? hi)).1.ok r (It.cur_mem hc)
  have hkk : key (kvs m) ((P : Int)).toNat = r.k := by rw [show ((P : Int)).toNat = P by omega]; exact key_kvs hx
  rw [hkk]
  exact ⟨r.ka, r.kc, r.k.length, F, rfl, rfl, hok.hkc, hok.hkm, ⟨iA, K, ic, kg, _, dir, its, Fi, h⟩, hO.dr hdr, hok.hk⟩
theorem mi_val (p : Int) (F R : List Fr) (w0 w : World) (hv : wval m.length p = true) (hI : MIx mp its0 m p F) (hD : St R w0 (MData its0)) (hO : Own (F ++ R) w0 w) :
    Calls Tryd.prog 206 #[.pointer (some ⟨mp, 0, none⟩)] w (ItSl (val (kvs m) p.toNat) (MIx mp its0 m) p R w0) := by
  obtain ⟨iA, K, ic, kg, idx, dir, its, Fi, h⟩ := hI
  have hO1 : Own (mFr mp iA K ic kg idx dir :: fw kg 25 (its.map It.kv) :: (Fi ++ (its.map It.fr ++ R))) w0 w := by rw [h.eq] at hO; simpa using hO
  have hD1 : St R w0 (MData its) := hD.imp fun w hm => core_data h.core hm
  obtain ⟨P, x, it, r, rfl, hx, rfl, hi, hc, hd⟩ := mi_at hB h.st hv
  obtain ⟨c, e1, e2⟩ := cur_pos hc
  have hcl := (List.getElem?_eq_some_iff.1 e2).1
  have hwv : wval it.l.length it.pos = true := wval_iff.2 ⟨by omega, by omega⟩
  refine (mValue mp iA K ic kg x dir its it Fi R w0 w hO1 hi hwv h.row hD1 h.len hd).mono ?_
  rintro e w' ⟨rfl, hO2⟩
  have hav : aVal it.l it.pos = .slice r.va r.v.length r.vc := by
    unfold aVal
    rw [if_pos hwv, show it.pos.toNat = c by omega, e2]
  have hok := ((hO2.st hD1 (fun y hy => by simp [hy])) it (List.mem_of_getElem? hi)).1.ok r (It.cur_mem hc)
  have hkk : val (kvs m) ((P : Int)).toNat = r.v := by rw [show ((P : Int)).toNat = P by omega]; exact val_kvs hx
  rw [hkk, hav]
  have hset : ∀ (i : Nat) it', (its.set x (it.to it.pos))[i]? = some it' → ∃ it1, its[i]? = some it1 ∧ it'.l = it1.l ∧ it'.pos = it1.pos := fun i it' hi' => by
    by_cases hix : i = x
    · subst hix
      rw [List.getElem?_set_self (List.getElem?_eq_some_iff.1 hi).1] at hi'
      rw [← Option.some.inj hi']
      exact ⟨it, hi, rfl, rfl⟩
    · rw [List.getElem?_set_ne (by omega)] at hi'
      exact ⟨it', hi', rfl, rfl⟩
  have hself : (its.set x (it.to it.pos))[x]? = some (it.to it.pos) := List.getElem?_set_self (List.getElem?_eq_some_iff.1 hi).1
  have hst2 : MSt (its0.map It.l) m (its.set x (it.to it.pos)) ((x : Nat) : Int) dir (P : Int) := by
    refine ⟨by rw [set_ls hi]; exact core_l h.core, plc_set h.st.plc (h.st.plc it (List.mem_of_getElem? hi)), ?_⟩
    rcases h.st.at_ with ⟨rfl, h1⟩ | ⟨rfl, h1⟩ | ⟨rfl, P', x', it', r', h1, hx', h2, hi', hc', hF⟩ | ⟨rfl, P', x', it', r', h1, hx', h2, hi', hc', hF⟩
    · omega
    · omega
    · obtain rfl : P' = P := by omega
      obtain rfl : x' = x := by omega
      rw [hi] at hi'
      obtain rfl := Option.some.inj hi'
      refine .inr (.inr (.inl ⟨rfl, P', x', it.to it.pos, r', rfl, hx', rfl, hself, hc', fun i it2 h2 => ?_⟩))
      obtain ⟨it1, a1, a2, a3⟩ := hset i it2 h2
      rw [a2, a3]; exact hF i it1 a1
    · obtain rfl : P' = P := by omega
      obtain rfl : x' = x := by omega
      rw [hi] at hi'
      obtain rfl := Option.some.inj hi'
      refine .inr (.inr (.inr ⟨rfl, P', x', it.to it.pos, r', rfl, hx', rfl, hself, hc', fun i it2 h2 => ?_⟩))
      obtain ⟨it1, a1, a2, a3⟩ := hset i it2 h2
      rw [a2, a3]; exact hF i it1 a1
  exact ⟨r.va, r.vc, r.v.length, _, rfl, rfl, hok.hvc, hok.hvm, ⟨iA, K, ic, kg, _, dir, _, Fi, ⟨rfl, by rw [set_iv hi]; exact h.row, by rw [List.length_set]; exact h.len, h.le, by rw [core_set hi]; exact h.core, hst2⟩⟩, by simpa using hO2, hok.hv⟩
end
def mItM (mp : Nat) : ItM := ⟨(197, .pointer (some ⟨mp, 0, none⟩)), (199, .pointer (some ⟨mp, 0, none⟩)), (200, .pointer (some ⟨mp, 0, none⟩)), (201, .pointer (some ⟨mp, 0, none⟩)), (203, .pointer (some ⟨mp, 0, none⟩)), (205, .pointer (some ⟨mp, 0, none⟩)), (198, .pointer (some ⟨mp, 0, none⟩)), (206, .pointer (some ⟨mp, 0, none⟩))⟩
theorem mergedIter (mp : Nat) (its0 : List It) (m : List Pr) (hB : MBd its0 m) : Iter 200 (.pointer (some ⟨mp, 0, none⟩)) (mItM mp) (kvs m) (MIx mp its0 m) (fun R w0 => St R w0 (MData its0)) where
  mono := fun R R' w0 hs hd => hd.mono hs
  mfi := by intro d w; kernel_rfl
  cfi := by intro a w; kernel_rfl
  mla := by intro d w; kernel_rfl
  cla := by intro a w; kernel_rfl
  mne := by intro d w; kernel_rfl
  cne := by intro a w; kernel_rfl
  mpr := by intro d w; kernel_rfl
  cpr := by intro a w; kernel_rfl
  mse := by intro d w; kernel_rfl
  cse := by intro a w; kernel_rfl
  mva := by intro d w; kernel_rfl
  cva := by intro a w; kernel_rfl
  mke := by intro d w; kernel_rfl
  cke := by intro a w; kernel_rfl
  mvl := by intro d w; kernel_rfl
  cvl := by intro a w; kernel_rfl
  first := fun p F R w0 w _ hI hD hO => by rw [kvs_length]; exact mi_first hB p F R w0 w hI hD hO
  last := fun p F R w0 w _ hI hD hO => by rw [kvs_length]; exact mi_last hB p F R w0 w hI hD hO
  next := fun p F R w0 w _ hI hD hO => by rw [kvs_length]; exact mi_next hB p F R w0 w hI hD hO
  prev := fun p F R w0 w _ hI hD hO => by rw [kvs_length]; exact mi_prev hB p F R w0 w hI hD hO
  seek := fun p F R w0 w A n c key _ hI hD hO hk hn _ _ => by rw [kvs_length, mAt_kvs]; exact mi_seek hB p F R w0 w A n c key hI hD hO hk hn
  valid := fun p F R w0 w _ hI hD hO => by rw [kvs_length]; exact mi_valid hB p F R w0 w hI hO
  key := fun p F R w0 w hv hI hD hO => mi_key hB p F R w0 w (by rw [← kvs_length]; exact hv) hI hD hO
  val := fun p F R w0 w hv hI hD hO => mi_val hB p F R w0 w (by rw [← kvs_length]; exact hv) hI hD hO
  len := fun j => by
    rcases Nat.lt_or_ge j m.length with h | h
    · have hx := List.getElem?_eq_getElem h
      rw [key_kvs hx, val_kvs hx]
      exact hB.kl _ (List.getElem_mem h)
    · have e : (kvs m)[j]? = none := List.getElem?_eq_none (by rw [kvs_length]; exact h)
      simp [Plain.key, Plain.val, List.getD_eq_getElem?_getD, e]
end Go.Proofs.YtloflmcgbbbnjaaDoor
