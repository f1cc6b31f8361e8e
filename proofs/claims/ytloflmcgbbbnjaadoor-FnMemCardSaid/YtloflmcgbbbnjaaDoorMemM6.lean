/-
  laws.walked: an iterator that stood where it should.
  PLAIN: a database in memory through calls: its map, and what each call tells. No Go in sight.
  ITERATORS that only go on from the first pair; impl.iterated over them, and over any.
  spec.Shared, sharedPrefixLen: how much two keys share at their heads.
-/
import Derived.Test.YtloflmcgbbbnjaaDoorMemM5
import Derived.Test.YtloflmcgbbbnjaaDoorMemM1
import Derived.Test.YtloflmcgbbbnjaaDoorMemM3
namespace Go.Proofs.YtloflmcgbbbnjaaDoor
open Go.RowKit Plain
set_option linter.all false

theorem mAt_kvs : ∀ (m : List Pr) (k : List UInt8), mAt Prod.fst (kvs m) k = mAt Pr.k m k
  | [], _ => rfl
  | x :: m, k => by
    have := mAt_kvs m k
    simp only [kvs, List.map_cons, mAt] at this ⊢
    rw [this]
theorem wkv_get {m : List Pr} {p : Int} (h : wval m.length p = true) : ∃ r, m[p.toNat]? = some r ∧ r ∈ m ∧ wkv (kvs m) p = (r.k, r.v) := by
  obtain ⟨h1, h2⟩ := wval_iff.1 h
  have hl : p.toNat < m.length := by omega
  refine ⟨m[p.toNat], List.getElem?_eq_getElem hl, List.getElem_mem hl, ?_⟩
  unfold wkv
  rw [kvs_length, if_pos h, key_kvs (List.getElem?_eq_getElem hl), val_kvs (List.getElem?_eq_getElem hl)]
set_option maxHeartbeats 6400000 in
set_option maxRecDepth 100000 in
theorem walked_true (A B mA cA kA : Option Addr) (c d mc cc kc n m : Nat) (x3 : Int) (x4 : Bool) (l mm : List Pr) (calls key : List UInt8) (w : World) (hp : Prs w A l) (hv : CsAt w B (cbl ((wpl mm.length (mAt Pr.k mm key) calls (-1)).map (wval mm.length))))
    (hm : Prs w mA mm) (hcs : BsAt w cA calls) (hk : BsAt w kA key) (hkl : key.length ≤ 2147483647) (hml : ∀ r ∈ mm, r.k.length ≤ 140737488351232) (hl : mm.length ≤ 1099511627776) (hcl : calls.length ≤ 1099511627776)
    (hn : n = calls.length) (hll : l.length = calls.length) (hmn : m = mm.length) (hkv : kvs l = (wpl mm.length (mAt Pr.k mm key) calls (-1)).map (wkv (kvs mm))) (cn kn : Nat) (hcn : cn = calls.length) (hkn : kn = key.length) :
    Calls Tryd.prog 27 #[.agg #[.slice A n c, .slice B n d, .int .i64 x3, .bool x4], .slice mA m mc, .slice cA cn cc, .slice kA kn kc] w fun e w' => e = .returned (.bool true) ∧ Only [] w w' := by
  subst hmn
  have hpl := wpl_plc (n := mm.length) (s := (mAt Pr.k mm key : Nat)) (by have := mAt_le Pr.k mm key; omega) calls (p := -1) ⟨by omega, by omega⟩
  obtain ⟨q, hq⟩ : ∃ q, w.heap.size = q := ⟨_, rfl⟩
  have hO := (Own.start w).alloc' hq 58 [.slice A n c, .slice B n d, .int .i64 x3, .bool x4]
  have ho := hO.only
  have hwk := specWalk mA cA kA mc cc kc mm calls key _ (hm.keep0 ho) (hcs.keep0 ho) (hk.keep0 ho) (by omega) hml hl hcl
  obtain ⟨ps, hps⟩ : ∃ ps, wpl mm.length (mAt Pr.k mm key) calls (-1) = ps := ⟨_, rfl⟩
  have hpsl : ps.length = calls.length := by rw [← hps, wpl_length]
  rw [hps] at hv hkv hpl hwk
  rw [← hcn, ← hkn] at hwk
  rw [← hcn] at hn hll hpsl hcl
  obtain ⟨N, hN⟩ : ∃ N, mm.length = N := ⟨_, rfl⟩
  rw [hN] at hpl hwk hv ⊢
  subst hn
  have HWK := hid hwk
  have HP := hid (hp.keep0 ho)
  have HV := hid (hv.keep0 ho)
  have HM := hid (hm.keep0 ho)
  have HO := hid hO
  have HPL := hid hpl
  have HKV := hid hkv
  have HLL := hid hll
  have HPSL := hid hpsl
  have HN := hid hN
  have HQ := hid hq
  clear hwk hp hv hm hO ho hpl hkv hll hpsl hN hcs hk hq hps hkl hkn hcn
  go_enter Tryd.func27, Tryd.ntmps27
  go_wp2_with fail
  rw [HQ.out]
  refine HWK.out.mono ?_
  rintro e w1 ⟨A1, c1, F1, rfl, hr1, hO1⟩
  have ho1 := hO1.out.only
  have HO1 := hid (HO.out.only0 ho1)
  have qa : w1.cell? ⟨q, 0, none⟩ = some (.slice A n c) := HO1.out.cell 0 rfl (k := 0) 0 rfl (by simp)
  have qb : w1.cell? ⟨q, 1, none⟩ = some (.slice B n d) := HO1.out.cell 0 rfl (k := 1) 1 rfl (by simp)
  have HP1 := hid (HP.out.keep0 ho1)
  have HV1 := hid (HV.out.keep0 ho1)
  have HM1 := hid (HM.out.keep0 ho1)
  have HR1 := hid (show CsAt w1 A1 (ci (ps.map (wat N))) from hr1.out.csO (by have := hO1.out; rwa [← List.append_nil F1] at this))
  clear ho1 hr1 hO1 HWK HP HV HM HO
  go_wp2_with fail
  go_loopw [32] (fun i wr => ∃ k : Nat, i = .int .i64 k ∧ k ≤ n ∧ Hid (Dr w1 wr)) (fun i _ => n - (intOf i).toNat)
  case atStart => exact ⟨0, rfl, Nat.zero_le _, hid (Dr.refl _)⟩
  case round =>
    obtain ⟨k, rfl, hk, HD⟩ := hrel
    obtain ⟨w2, rfl⟩ : ∃ w2, w2 = wr := ⟨_, rfl⟩
    by_cases h4 : k < n
    · have h4' : (k : Int) < (n : Int) := by omega
      have hkp : k < ps.length := by rw [HPSL.out]; exact h4
      have hkl : k < l.length := by rw [HLL.out]; exact h4
      obtain ⟨p, hp⟩ : ∃ p, ps[k] = p := ⟨_, rfl⟩
      have hpx : ps[k]? = some p := by rw [← hp]; exact List.getElem?_eq_getElem hkp
      have hplc := HPL.out p (List.mem_of_getElem? hpx)
      have hx : l[k]? = some l[k] := List.getElem?_eq_getElem hkl
      have hmx : l[k] ∈ l := List.getElem_mem hkl
      generalize l[k] = x at hx hmx
      have hxk : (x.k, x.v) = wkv (kvs mm) p := by
        have h1 : (kvs l)[k]? = some (x.k, x.v) := by simp [kvs, hx]
        rw [HKV.out, List.getElem?_map, hpx] at h1
        exact (Option.some.inj h1).symm
      have hP2 := HP1.out.keep0 HD.out.only
      have hM2 := HM1.out.keep0 HD.out.only
      obtain ⟨g, o, rfl, p0, p1⟩ := hP2.at_ hx
      have hok := hP2.ok x hmx
      obtain ⟨vg, vo, rfl, v0⟩ := (HV1.out.keep0 HD.out.only) k (by rw [cbl_length, List.length_map]; exact hkp)
      obtain ⟨rg, ro, rfl, r0⟩ := (HR1.out.keep0 HD.out.only) k (by rw [ci_length, List.length_map]; exact hkp)
      have ev : (cbl (ps.map (wval N)))[k]? = some (.bool (wval N p)) := by simp [cbl, hpx]
      have er : (ci (ps.map (wat N)))[k]? = some (.int .i64 (wat N p)) := by simp [ci, hpx]
      rw [ev] at v0
      rw [er] at r0
      have hdd : Only [] w2 w2.drew := (Only.refl [] w2).drew
      cases hv : wval N p with
      | true =>
        obtain ⟨r, hr, hrm, hrk⟩ := wkv_get (m := mm) (p := p) (by rw [HN.out]; exact hv)
        rw [hrk] at hxk
        injection hxk with ek ev2
        obtain ⟨mg, mo, rfl, m0, m1⟩ := hM2.at_ hr
        have hrok := hM2.ok r hrm
        obtain ⟨j, rfl⟩ : ∃ j : Nat, p = (j : Int) := ⟨p.toNat, by have := (wval_iff.1 hv).1; omega⟩
        have hjN : (j : Int) < (N : Int) := (wval_iff.1 hv).2
        rw [show ((j : Int)).toNat = j from by omega] at m0 m1
        rw [show wat N (j : Int) = (j : Int) from by unfold wat; rw [if_pos hv]] at r0
        rw [hv] at v0
        rw [ek] at p0
        rw [ev2] at p1
        have f1 := runStr ((ek ▸ hok.hk : BsAt w2 x.ka r.k).keep0 hdd) x.kc r.k.length rfl
        have f2 := runStr (hrok.hk.keep0 hdd) r.kc r.k.length rfl
        have f3 := runStr ((ev2 ▸ hok.hv : BsAt w2 x.va r.v).keep0 hdd) x.vc r.v.length rfl
        have f4 := runStr (hrok.hv.keep0 hdd) r.vc r.v.length rfl
        have qa2 := (HD.out.only.cell (p := ⟨q, 0, none⟩) (cell_lt qa) (by simp)).trans qa
        have qb2 := (HD.out.only.cell (p := ⟨q, 1, none⟩) (cell_lt qb) (by simp)).trans qb
        have d0 : decide ((0 : Int) ≤ (j : Int)) = true := decide_eq_true (by omega)
        clear hp hpx hplc hx hmx hP2 hM2 hok hrok ek ev2 ev er hr hrm hrk hv hkp hkl hdd
        go_wp2_with fail
        refine AnyT.start (S := fun w' => w'.cell? ⟨q, 0, none⟩ = some (.slice (some ⟨g, o, none⟩) n c) ∧ w'.cell? ⟨q, 1, none⟩ = some (.slice (some ⟨vg, vo, none⟩) n d) ∧ w'.cell? ⟨vg, vo + k, none⟩ = some (.bool true) ∧ w'.cell? ⟨g, o + k * 2, none⟩ = some (.slice x.ka r.k.length x.kc) ∧ w'.cell? ⟨g, o + k * 2 + 1, none⟩ = some (.slice x.va r.v.length x.vc) ∧ w'.cell? ⟨mg, mo + j * 2, none⟩ = some (.slice r.ka r.k.length r.kc) ∧ w'.cell? ⟨mg, mo + j * 2 + 1, none⟩ = some (.slice r.va r.v.length r.vc) ∧ Sem.run Tryd.prog (convert 25 9 (Value.slice x.ka r.k.length x.kc)) w' = Result.ok (Value.string (bstr r.k)) w' ∧ Sem.run Tryd.prog (convert 25 9 (Value.slice r.ka r.k.length r.kc)) w' = Result.ok (Value.string (bstr r.k)) w' ∧ Sem.run Tryd.prog (convert 25 9 (Value.slice x.va r.v.length x.vc)) w' = Result.ok (Value.string (bstr r.v)) w' ∧ Sem.run Tryd.prog (convert 25 9 (Value.slice r.va r.v.length r.vc)) w' = Result.ok (Value.string (bstr r.v)) w') (T := []) (by kernel_rfl) (⟨qa2, qb2, v0, p0, p1, m0, m1, f1, f2, f3, f4⟩) (fun hHeld => ?_)
        refine AnyT.take (i := 0) (v := ?_) (by simp only [List.getElem?_toArray, List.getElem?_cons_succ, List.getElem?_cons_zero]; rfl) (by kernel_rfl) (by kernel_rfl) (by kernel_rfl) (by kernel_rfl) (by intro _ _ _ h; exact h) (Or.inl ⟨by rfl, fun w hSw => ?_⟩) hHeld ?_
        rotate_left
        · ((try dsimp only at hSw); go_simp; first | done | with_reducible rfl | rfl)
        try simp only [Act.put, List.setIfInBounds_toArray, List.set_cons_zero, List.set_cons_succ]
        refine AnyT.take (i := 1) (v := ?_) (by simp only [List.getElem?_toArray, List.getElem?_cons_succ, List.getElem?_cons_zero]; rfl) (by kernel_rfl) (by kernel_rfl) (by kernel_rfl) (by kernel_rfl) (by intro _ _ _ h; exact h) (Or.inl ⟨by rfl, fun w hSw => ?_⟩) hHeld ?_
        rotate_left
        · ((try dsimp only at hSw); go_simp; first | done | with_reducible rfl | rfl)
        try simp only [Act.put, List.setIfInBounds_toArray, List.set_cons_zero, List.set_cons_succ]
        refine AnyT.take (i := 2) (v := ?_) (by simp only [List.getElem?_toArray, List.getElem?_cons_succ, List.getElem?_cons_zero]; rfl) (by kernel_rfl) (by kernel_rfl) (by kernel_rfl) (by kernel_rfl) (by intro _ _ _ h; exact h) (Or.inl ⟨by rfl, fun w hSw => ?_⟩) hHeld ?_
        rotate_left
        · ((try dsimp only at hSw); go_simp; first | done | with_reducible rfl | rfl)
        try simp only [Act.put, List.setIfInBounds_toArray, List.set_cons_zero, List.set_cons_succ]
        refine AnyT.take (i := 3) (v := ?_) (by simp only [List.getElem?_toArray, List.getElem?_cons_succ, List.getElem?_cons_zero]; rfl) (by kernel_rfl) (by kernel_rfl) (by kernel_rfl) (by kernel_rfl) (by intro _ _ _ h; exact h) (Or.inl ⟨by rfl, fun w hSw => ?_⟩) hHeld ?_
        rotate_left
        · ((try dsimp only at hSw); go_simp; first | done | with_reducible rfl | rfl)
        try simp only [Act.put, List.setIfInBounds_toArray, List.set_cons_zero, List.set_cons_succ]
        refine AnyT.take (i := 4) (v := ?_) (by simp only [List.getElem?_toArray, List.getElem?_cons_succ, List.getElem?_cons_zero]; rfl) (by kernel_rfl) (by kernel_rfl) (by kernel_rfl) (by kernel_rfl) (by intro _ _ _ h; exact h) (Or.inl ⟨by rfl, fun w hSw => ?_⟩) hHeld ?_
        rotate_left
        · ((try dsimp only at hSw); go_simp; first | done | with_reducible rfl | rfl)
        try simp only [Act.put, List.setIfInBounds_toArray, List.set_cons_zero, List.set_cons_succ]
        refine AnyT.take (i := 5) (v := ?_) (by simp only [List.getElem?_toArray, List.getElem?_cons_succ, List.getElem?_cons_zero]; rfl) (by kernel_rfl) (by kernel_rfl) (by kernel_rfl) (by kernel_rfl) (by intro _ _ _ h; exact h) (Or.inl ⟨by rfl, fun w hSw => ?_⟩) hHeld ?_
        rotate_left
        · ((try dsimp only at hSw); go_simp; first | done | with_reducible rfl | rfl)
        try simp only [Act.put, List.setIfInBounds_toArray, List.set_cons_zero, List.set_cons_succ]
        refine AnyT.take (i := 6) (v := ?_) (by simp only [List.getElem?_toArray, List.getElem?_cons_succ, List.getElem?_cons_zero]; rfl) (by kernel_rfl) (by kernel_rfl) (by kernel_rfl) (by kernel_rfl) (by intro _ _ _ h; exact h) (Or.inl ⟨by rfl, fun w hSw => ?_⟩) hHeld ?_
        rotate_left
        · ((try dsimp only at hSw); go_simp; first | done | with_reducible rfl | rfl)
        try simp only [Act.put, List.setIfInBounds_toArray, List.set_cons_zero, List.set_cons_succ]
        refine AnyT.take (i := 7) (v := ?_) (by simp only [List.getElem?_toArray, List.getElem?_cons_succ, List.getElem?_cons_zero]; rfl) (by kernel_rfl) (by kernel_rfl) (by kernel_rfl) (by kernel_rfl) (by intro _ _ _ h; exact h) (Or.inl ⟨by rfl, fun w hSw => ?_⟩) hHeld ?_
        rotate_left
        · ((try dsimp only at hSw); go_simp; first | done | with_reducible rfl | rfl)
        try simp only [Act.put, List.setIfInBounds_toArray, List.set_cons_zero, List.set_cons_succ]
        refine AnyT.take (i := 8) (v := ?_) (by simp only [List.getElem?_toArray, List.getElem?_cons_succ, List.getElem?_cons_zero]; rfl) (by kernel_rfl) (by kernel_rfl) (by kernel_rfl) (by kernel_rfl) (by intro _ _ _ h; exact h) (Or.inl ⟨by rfl, fun w hSw => ?_⟩) hHeld ?_
        rotate_left
        · ((try dsimp only at hSw); go_simp; first | done | with_reducible rfl | rfl)
        try simp only [Act.put, List.setIfInBounds_toArray, List.set_cons_zero, List.set_cons_succ]
        refine AnyT.take (i := 9) (v := ?_) (by simp only [List.getElem?_toArray, List.getElem?_cons_succ, List.getElem?_cons_zero]; rfl) (by kernel_rfl) (by kernel_rfl) (by kernel_rfl) (by kernel_rfl) (by intro _ _ _ h; exact h) (Or.inl ⟨by rfl, fun w hSw => ?_⟩) hHeld ?_
        rotate_left
        · ((try dsimp only at hSw); go_simp; first | done | with_reducible rfl | rfl)
        try simp only [Act.put, List.setIfInBounds_toArray, List.set_cons_zero, List.set_cons_succ]
        refine AnyT.take (i := 10) (v := ?_) (by simp only [List.getElem?_toArray, List.getElem?_cons_succ, List.getElem?_cons_zero]; rfl) (by kernel_rfl) (by kernel_rfl) (by kernel_rfl) (by kernel_rfl) (by intro _ _ _ h; exact h) (Or.inl ⟨by rfl, fun w hSw => ?_⟩) hHeld ?_
        rotate_left
        · ((try dsimp only at hSw); go_simp; first | done | with_reducible rfl | rfl)
        try simp only [Act.put, List.setIfInBounds_toArray, List.set_cons_zero, List.set_cons_succ]
        refine AnyT.take (i := 11) (v := ?_) (by simp only [List.getElem?_toArray, List.getElem?_cons_succ, List.getElem?_cons_zero]; rfl) (by kernel_rfl) (by kernel_rfl) (by kernel_rfl) (by kernel_rfl) (by intro _ _ _ h; exact h) (Or.inl ⟨by rfl, fun w hSw => ?_⟩) hHeld ?_
        rotate_left
        · ((try dsimp only at hSw); go_simp; first | done | with_reducible rfl | rfl)
        try simp only [Act.put, List.setIfInBounds_toArray, List.set_cons_zero, List.set_cons_succ]
        refine AnyT.take (i := 12) (v := ?_) (by simp only [List.getElem?_toArray, List.getElem?_cons_succ, List.getElem?_cons_zero]; rfl) (by kernel_rfl) (by kernel_rfl) (by kernel_rfl) (by kernel_rfl) (by intro _ _ _ h; exact h) (Or.inl ⟨by rfl, fun w hSw => ?_⟩) hHeld ?_
        rotate_left
        · ((try dsimp only at hSw); go_simp; first | done | with_reducible rfl | rfl)
        try simp only [Act.put, List.setIfInBounds_toArray, List.set_cons_zero, List.set_cons_succ]
        refine AnyT.take (i := 13) (v := ?_) (by simp only [List.getElem?_toArray, List.getElem?_cons_succ, List.getElem?_cons_zero]; rfl) (by kernel_rfl) (by kernel_rfl) (by kernel_rfl) (by kernel_rfl) (by intro _ _ _ h; exact h) (Or.inl ⟨by rfl, fun w hSw => ?_⟩) hHeld ?_
        rotate_left
        · ((try dsimp only at hSw); go_simp; first | done | with_reducible rfl | rfl)
        try simp only [Act.put, List.setIfInBounds_toArray, List.set_cons_zero, List.set_cons_succ]
        refine AnyT.take (i := 14) (v := ?_) (by simp only [List.getElem?_toArray, List.getElem?_cons_succ, List.getElem?_cons_zero]; rfl) (by kernel_rfl) (by kernel_rfl) (by kernel_rfl) (by kernel_rfl) (by intro _ _ _ h; exact h) (Or.inl ⟨by rfl, fun w hSw => ?_⟩) hHeld ?_
        rotate_left
        · ((try dsimp only at hSw); go_simp; first | done | with_reducible rfl | rfl)
        try simp only [Act.put, List.setIfInBounds_toArray, List.set_cons_zero, List.set_cons_succ]
        refine AnyT.take (i := 15) (v := ?_) (by simp only [List.getElem?_toArray, List.getElem?_cons_succ, List.getElem?_cons_zero]; rfl) (by kernel_rfl) (by kernel_rfl) (by kernel_rfl) (by kernel_rfl) (by intro _ _ _ h; exact h) (Or.inl ⟨by rfl, fun w hSw => ?_⟩) hHeld ?_
        rotate_left
        · ((try dsimp only at hSw); go_simp; first | done | with_reducible rfl | rfl)
        try simp only [Act.put, List.setIfInBounds_toArray, List.set_cons_zero, List.set_cons_succ]
        refine AnyT.take (i := 16) (v := ?_) (by simp only [List.getElem?_toArray, List.getElem?_cons_succ, List.getElem?_cons_zero]; rfl) (by kernel_rfl) (by kernel_rfl) (by kernel_rfl) (by kernel_rfl) (by intro _ _ _ h; exact h) (Or.inl ⟨by rfl, fun w hSw => ?_⟩) hHeld ?_
        rotate_left
        · ((try dsimp only at hSw); go_simp; first | done | with_reducible rfl | rfl)
        try simp only [Act.put, List.setIfInBounds_toArray, List.set_cons_zero, List.set_cons_succ]
        refine AnyT.take (i := 17) (v := ?_) (by simp only [List.getElem?_toArray, List.getElem?_cons_succ, List.getElem?_cons_zero]; rfl) (by kernel_rfl) (by kernel_rfl) (by kernel_rfl) (by kernel_rfl) (by intro _ _ _ h; exact h) (Or.inl ⟨by rfl, fun w hSw => ?_⟩) hHeld ?_
        rotate_left
        · ((try dsimp only at hSw); go_simp; first | done | with_reducible rfl | rfl)
        try simp only [Act.put, List.setIfInBounds_toArray, List.set_cons_zero, List.set_cons_succ]
        refine AnyT.take (i := 18) (v := ?_) (by simp only [List.getElem?_toArray, List.getElem?_cons_succ, List.getElem?_cons_zero]; rfl) (by kernel_rfl) (by kernel_rfl) (by kernel_rfl) (by kernel_rfl) (by intro _ _ _ h; exact h) (Or.inl ⟨by rfl, fun w hSw => ?_⟩) hHeld ?_
        rotate_left
        · ((try dsimp only at hSw); go_simp; first | done | with_reducible rfl | rfl)
        try simp only [Act.put, List.setIfInBounds_toArray, List.set_cons_zero, List.set_cons_succ]
        refine AnyT.take (i := 19) (v := ?_) (by simp only [List.getElem?_toArray, List.getElem?_cons_succ, List.getElem?_cons_zero]; rfl) (by kernel_rfl) (by kernel_rfl) (by kernel_rfl) (by kernel_rfl) (by intro _ _ _ h; exact h) (Or.inl ⟨by rfl, fun w hSw => ?_⟩) hHeld ?_
        rotate_left
        · ((try dsimp only at hSw); go_simp; first | done | with_reducible rfl | rfl)
        try simp only [Act.put, List.setIfInBounds_toArray, List.set_cons_zero, List.set_cons_succ]
        refine AnyT.take (i := 20) (v := ?_) (by simp only [List.getElem?_toArray, List.getElem?_cons_succ, List.getElem?_cons_zero]; rfl) (by kernel_rfl) (by kernel_rfl) (by kernel_rfl) (by kernel_rfl) (by intro _ _ _ h; exact h) (Or.inl ⟨by rfl, fun w hSw => ?_⟩) hHeld ?_
        rotate_left
        · ((try dsimp only at hSw); go_simp; first | done | with_reducible rfl | rfl)
        try simp only [Act.put, List.setIfInBounds_toArray, List.set_cons_zero, List.set_cons_succ]
        refine AnyT.take (i := 21) (v := ?_) (by simp only [List.getElem?_toArray, List.getElem?_cons_succ, List.getElem?_cons_zero]; rfl) (by kernel_rfl) (by kernel_rfl) (by kernel_rfl) (by kernel_rfl) (by intro _ _ _ h; exact h) (Or.inl ⟨by rfl, fun w hSw => ?_⟩) hHeld ?_
        rotate_left
        · ((try dsimp only at hSw); go_simp; first | done | with_reducible rfl | rfl)
        try simp only [Act.put, List.setIfInBounds_toArray, List.set_cons_zero, List.set_cons_succ]
        refine AnyT.take (i := 22) (v := ?_) (by simp only [List.getElem?_toArray, List.getElem?_cons_succ, List.getElem?_cons_zero]; rfl) (by kernel_rfl) (by kernel_rfl) (by kernel_rfl) (by kernel_rfl) (by intro _ _ _ h; exact h) (Or.inl ⟨by rfl, fun w hSw => ?_⟩) hHeld ?_
        rotate_left
        · ((try dsimp only at hSw); go_simp; first | done | with_reducible rfl | rfl)
        try simp only [Act.put, List.setIfInBounds_toArray, List.set_cons_zero, List.set_cons_succ]
        refine AnyT.take (i := 23) (v := ?_) (by simp only [List.getElem?_toArray, List.getElem?_cons_succ, List.getElem?_cons_zero]; rfl) (by kernel_rfl) (by kernel_rfl) (by kernel_rfl) (by kernel_rfl) (by intro _ _ _ h; exact h) (Or.inl ⟨by rfl, fun w hSw => ?_⟩) hHeld ?_
        rotate_left
        · ((try dsimp only at hSw); go_simp; first | done | with_reducible rfl | rfl)
        try simp only [Act.put, List.setIfInBounds_toArray, List.set_cons_zero, List.set_cons_succ]
        refine AnyT.take (i := 24) (v := ?_) (by simp only [List.getElem?_toArray, List.getElem?_cons_succ, List.getElem?_cons_zero]; rfl) (by kernel_rfl) (by kernel_rfl) (by kernel_rfl) (by kernel_rfl) (by intro _ _ _ h; exact h) (Or.inl ⟨by rfl, fun w hSw => ?_⟩) hHeld ?_
        rotate_left
        · ((try dsimp only at hSw); go_simp; first | done | with_reducible rfl | rfl)
        try simp only [Act.put, List.setIfInBounds_toArray, List.set_cons_zero, List.set_cons_succ]
        refine AnyT.take (i := 25) (v := ?_) (by simp only [List.getElem?_toArray, List.getElem?_cons_succ, List.getElem?_cons_zero]; rfl) (by kernel_rfl) (by kernel_rfl) (by kernel_rfl) (by kernel_rfl) (by intro _ _ _ h; exact h) (Or.inl ⟨by rfl, fun w hSw => ?_⟩) hHeld ?_
        rotate_left
        · ((try dsimp only at hSw); go_simp; first | done | with_reducible rfl | rfl)
        try simp only [Act.put, List.setIfInBounds_toArray, List.set_cons_zero, List.set_cons_succ]
        refine AnyT.take (i := 26) (v := ?_) (by simp only [List.getElem?_toArray, List.getElem?_cons_succ, List.getElem?_cons_zero]; rfl) (by kernel_rfl) (by kernel_rfl) (by kernel_rfl) (by kernel_rfl) (by intro _ _ _ h; exact h) (Or.inl ⟨by rfl, fun w hSw => ?_⟩) hHeld ?_
        rotate_left
        · ((try dsimp only at hSw); go_simp; first | done | with_reducible rfl | rfl)
        try simp only [Act.put, List.setIfInBounds_toArray, List.set_cons_zero, List.set_cons_succ]
        refine AnyT.take (i := 27) (v := ?_) (by simp only [List.getElem?_toArray, List.getElem?_cons_succ, List.getElem?_cons_zero]; rfl) (by kernel_rfl) (by kernel_rfl) (by kernel_rfl) (by kernel_rfl) (by intro _ _ _ h; exact h) (Or.inl ⟨by rfl, fun w hSw => ?_⟩) hHeld ?_
        rotate_left
        · ((try dsimp only at hSw); go_simp; first | done | with_reducible rfl | rfl)
        try simp only [Act.put, List.setIfInBounds_toArray, List.set_cons_zero, List.set_cons_succ]
        refine AnyT.take (i := 28) (v := ?_) (by simp only [List.getElem?_toArray, List.getElem?_cons_succ, List.getElem?_cons_zero]; rfl) (by kernel_rfl) (by kernel_rfl) (by kernel_rfl) (by kernel_rfl) (by intro _ _ _ h; exact h) (Or.inl ⟨by rfl, fun w hSw => ?_⟩) hHeld ?_
        rotate_left
        · ((try dsimp only at hSw); go_simp; first | done | with_reducible rfl | rfl)
        try simp only [Act.put, List.setIfInBounds_toArray, List.set_cons_zero, List.set_cons_succ]
        refine AnyT.take (i := 29) (v := ?_) (by simp only [List.getElem?_toArray, List.getElem?_cons_succ, List.getElem?_cons_zero]; rfl) (by kernel_rfl) (by kernel_rfl) (by kernel_rfl) (by kernel_rfl) (by intro _ _ _ h; exact h) (Or.inl ⟨by rfl, fun w hSw => ?_⟩) hHeld ?_
        rotate_left
        · ((try dsimp only at hSw); go_simp; first | done | with_reducible rfl | rfl)
        try simp only [Act.put, List.setIfInBounds_toArray, List.set_cons_zero, List.set_cons_succ]
        refine AnyT.take (i := 30) (v := ?_) (by simp only [List.getElem?_toArray, List.getElem?_cons_succ, List.getElem?_cons_zero]; rfl) (by kernel_rfl) (by kernel_rfl) (by kernel_rfl) (by kernel_rfl) (by intro _ _ _ h; exact h) (Or.inl ⟨by rfl, fun w hSw => ?_⟩) hHeld ?_
        rotate_left
        · ((try dsimp only at hSw); go_simp; first | done | with_reducible rfl | rfl)
        try simp only [Act.put, List.setIfInBounds_toArray, List.set_cons_zero, List.set_cons_succ]
        refine AnyT.take (i := 31) (v := ?_) (by simp only [List.getElem?_toArray, List.getElem?_cons_succ, List.getElem?_cons_zero]; rfl) (by kernel_rfl) (by kernel_rfl) (by kernel_rfl) (by kernel_rfl) (by intro _ _ _ h; exact h) (Or.inl ⟨by rfl, fun w hSw => ?_⟩) hHeld ?_
        rotate_left
        · ((try dsimp only at hSw); go_simp; first | done | with_reducible rfl | rfl)
        try simp only [Act.put, List.setIfInBounds_toArray, List.set_cons_zero, List.set_cons_succ]
        refine AnyT.take (i := 32) (v := ?_) (by simp only [List.getElem?_toArray, List.getElem?_cons_succ, List.getElem?_cons_zero]; rfl) (by kernel_rfl) (by kernel_rfl) (by kernel_rfl) (by kernel_rfl) (by intro _ _ _ h; exact h) (Or.inl ⟨by rfl, fun w hSw => ?_⟩) hHeld ?_
        rotate_left
        · ((try dsimp only at hSw); go_simp; first | done | with_reducible rfl | rfl)
        try simp only [Act.put, List.setIfInBounds_toArray, List.set_cons_zero, List.set_cons_succ]
        refine AnyT.take (i := 33) (v := ?_) (by simp only [List.getElem?_toArray, List.getElem?_cons_succ, List.getElem?_cons_zero]; rfl) (by kernel_rfl) (by kernel_rfl) (by kernel_rfl) (by kernel_rfl) (by intro _ _ _ h; exact h) (Or.inl ⟨by rfl, fun w hSw => ?_⟩) hHeld ?_
        rotate_left
        · ((try dsimp only at hSw); go_simp; first | done | with_reducible rfl | rfl)
        try simp only [Act.put, List.setIfInBounds_toArray, List.set_cons_zero, List.set_cons_succ]
        refine AnyT.take (i := 34) (v := ?_) (by simp only [List.getElem?_toArray, List.getElem?_cons_succ, List.getElem?_cons_zero]; rfl) (by kernel_rfl) (by kernel_rfl) (by kernel_rfl) (by kernel_rfl) (by intro _ _ _ h; exact h) (Or.inl ⟨by rfl, fun w hSw => ?_⟩) hHeld ?_
        rotate_left
        · ((try dsimp only at hSw); go_simp; first | done | with_reducible rfl | rfl)
        try simp only [Act.put, List.setIfInBounds_toArray, List.set_cons_zero, List.set_cons_succ]
        refine AnyT.take (i := 35) (v := ?_) (by simp only [List.getElem?_toArray, List.getElem?_cons_succ, List.getElem?_cons_zero]; rfl) (by kernel_rfl) (by kernel_rfl) (by kernel_rfl) (by kernel_rfl) (by intro _ _ _ h; exact h) (Or.inl ⟨by rfl, fun w hSw => ?_⟩) hHeld ?_
        rotate_left
        · ((try dsimp only at hSw); go_simp; first | done | with_reducible rfl | rfl)
        try simp only [Act.put, List.setIfInBounds_toArray, List.set_cons_zero, List.set_cons_succ]
        refine AnyT.take (i := 36) (v := ?_) (by simp only [List.getElem?_toArray, List.getElem?_cons_succ, List.getElem?_cons_zero]; rfl) (by kernel_rfl) (by kernel_rfl) (by kernel_rfl) (by kernel_rfl) (by intro _ _ _ h; exact h) (Or.inl ⟨by rfl, fun w hSw => ?_⟩) hHeld ?_
        rotate_left
        · ((try dsimp only at hSw); go_simp; first | done | with_reducible rfl | rfl)
        try simp only [Act.put, List.setIfInBounds_toArray, List.set_cons_zero, List.set_cons_succ]
        refine AnyT.take (i := 37) (v := ?_) (by simp only [List.getElem?_toArray, List.getElem?_cons_succ, List.getElem?_cons_zero]; rfl) (by kernel_rfl) (by kernel_rfl) (by kernel_rfl) (by kernel_rfl) (by intro _ _ _ h; exact h) (Or.inl ⟨by rfl, fun w hSw => ?_⟩) hHeld ?_
        rotate_left
        · ((try dsimp only at hSw); go_simp; first | done | with_reducible rfl | rfl)
        try simp only [Act.put, List.setIfInBounds_toArray, List.set_cons_zero, List.set_cons_succ]
        refine AnyT.take (i := 38) (v := ?_) (by simp only [List.getElem?_toArray, List.getElem?_cons_succ, List.getElem?_cons_zero]; rfl) (by kernel_rfl) (by kernel_rfl) (by kernel_rfl) (by kernel_rfl) (by intro _ _ _ h; exact h) (Or.inl ⟨by rfl, fun w hSw => ?_⟩) hHeld ?_
        rotate_left
        · ((try dsimp only at hSw); go_simp; first | done | with_reducible rfl | rfl)
        try simp only [Act.put, List.setIfInBounds_toArray, List.set_cons_zero, List.set_cons_succ]
        refine AnyT.take (i := 39) (v := ?_) (by simp only [List.getElem?_toArray, List.getElem?_cons_succ, List.getElem?_cons_zero]; rfl) (by kernel_rfl) (by kernel_rfl) (by kernel_rfl) (by kernel_rfl) (by intro _ _ _ h; exact h) (Or.inl ⟨by rfl, fun w hSw => ?_⟩) hHeld ?_
        rotate_left
        · ((try dsimp only at hSw); go_simp; first | done | with_reducible rfl | rfl)
        try simp only [Act.put, List.setIfInBounds_toArray, List.set_cons_zero, List.set_cons_succ]
        refine AnyT.take (i := 40) (v := ?_) (by simp only [List.getElem?_toArray, List.getElem?_cons_succ, List.getElem?_cons_zero]; rfl) (by kernel_rfl) (by kernel_rfl) (by kernel_rfl) (by kernel_rfl) (by intro _ _ _ h; exact h) (Or.inl ⟨by rfl, fun w hSw => ?_⟩) hHeld ?_
        rotate_left
        · ((try dsimp only at hSw); go_simp; first | done | with_reducible rfl | rfl)
        try simp only [Act.put, List.setIfInBounds_toArray, List.set_cons_zero, List.set_cons_succ]
        refine AnyT.take (i := 41) (v := ?_) (by simp only [List.getElem?_toArray, List.getElem?_cons_succ, List.getElem?_cons_zero]; rfl) (by kernel_rfl) (by kernel_rfl) (by kernel_rfl) (by kernel_rfl) (by intro _ _ _ h; exact h) (Or.inl ⟨by rfl, fun w hSw => ?_⟩) hHeld ?_
        rotate_left
        · ((try dsimp only at hSw); go_simp; first | done | with_reducible rfl | rfl)
        try simp only [Act.put, List.setIfInBounds_toArray, List.set_cons_zero, List.set_cons_succ]
        refine AnyT.take (i := 42) (v := ?_) (by simp only [List.getElem?_toArray, List.getElem?_cons_succ, List.getElem?_cons_zero]; rfl) (by kernel_rfl) (by kernel_rfl) (by kernel_rfl) (by kernel_rfl) (by intro _ _ _ h; exact h) (Or.inl ⟨by rfl, fun w hSw => ?_⟩) hHeld ?_
        rotate_left
        · ((try dsimp only at hSw); go_simp; first | done | with_reducible rfl | rfl)
        try simp only [Act.put, List.setIfInBounds_toArray, List.set_cons_zero, List.set_cons_succ]
        refine AnyT.take (i := 43) (v := ?_) (by simp only [List.getElem?_toArray, List.getElem?_cons_succ, List.getElem?_cons_zero]; rfl) (by kernel_rfl) (by kernel_rfl) (by kernel_rfl) (by kernel_rfl) (by intro _ _ _ h; exact h) (Or.inl ⟨by rfl, fun w hSw => ?_⟩) hHeld ?_
        rotate_left
        · ((try dsimp only at hSw); go_simp; first | done | with_reducible rfl | rfl)
        try simp only [Act.put, List.setIfInBounds_toArray, List.set_cons_zero, List.set_cons_succ]
        refine AnyT.done (by kernel_rfl) ?_ _
        clear hHeld p0 p1 m0 m1 f1 f2 f3 f4 v0 r0 qa2 qb2
        go_wp2_with fail
        go_roundw
        case rel => exact ⟨k + 1, by go_num, by omega, hid HD.out.drew⟩
        case measure => simp [intOf]; omega
      | false =>
        rw [show wat N p = -1 from by unfold wat; rw [hv]; rfl] at r0
        rw [hv] at v0
        have qa2 := (HD.out.only.cell (p := ⟨q, 0, none⟩) (cell_lt qa) (by simp)).trans qa
        have qb2 := (HD.out.only.cell (p := ⟨q, 1, none⟩) (cell_lt qb) (by simp)).trans qb
        clear hp hpx hplc hx hmx hP2 hM2 hok ev er hv hkp hkl hdd hxk p0 p1
        go_wp2_with fail
        refine AnyT.start (S := fun w' => w'.cell? ⟨q, 0, none⟩ = some (.slice (some ⟨g, o, none⟩) n c) ∧ w'.cell? ⟨q, 1, none⟩ = some (.slice (some ⟨vg, vo, none⟩) n d) ∧ w'.cell? ⟨vg, vo + k, none⟩ = some (.bool false)) (T := []) (by kernel_rfl) (⟨qa2, qb2, v0⟩) (fun hHeld => ?_)
        refine AnyT.take (i := 0) (v := ?_) (by simp only [List.getElem?_toArray, List.getElem?_cons_succ, List.getElem?_cons_zero]; rfl) (by kernel_rfl) (by kernel_rfl) (by kernel_rfl) (by kernel_rfl) (by intro _ _ _ h; exact h) (Or.inl ⟨by rfl, fun w hSw => ?_⟩) hHeld ?_
        rotate_left
        · ((try dsimp only at hSw); go_simp; first | done | with_reducible rfl | rfl)
        try simp only [Act.put, List.setIfInBounds_toArray, List.set_cons_zero, List.set_cons_succ]
        refine AnyT.take (i := 1) (v := ?_) (by simp only [List.getElem?_toArray, List.getElem?_cons_succ, List.getElem?_cons_zero]; rfl) (by kernel_rfl) (by kernel_rfl) (by kernel_rfl) (by kernel_rfl) (by intro _ _ _ h; exact h) (Or.inl ⟨by rfl, fun w hSw => ?_⟩) hHeld ?_
        rotate_left
        · ((try dsimp only at hSw); go_simp; first | done | with_reducible rfl | rfl)
        try simp only [Act.put, List.setIfInBounds_toArray, List.set_cons_zero, List.set_cons_succ]
        refine AnyT.take (i := 2) (v := ?_) (by simp only [List.getElem?_toArray, List.getElem?_cons_succ, List.getElem?_cons_zero]; rfl) (by kernel_rfl) (by kernel_rfl) (by kernel_rfl) (by kernel_rfl) (by intro _ _ _ h; exact h) (Or.inl ⟨by rfl, fun w hSw => ?_⟩) hHeld ?_
        rotate_left
        · ((try dsimp only at hSw); go_simp; first | done | with_reducible rfl | rfl)
        try simp only [Act.put, List.setIfInBounds_toArray, List.set_cons_zero, List.set_cons_succ]
        refine AnyT.take (i := 3) (v := ?_) (by simp only [List.getElem?_toArray, List.getElem?_cons_succ, List.getElem?_cons_zero]; rfl) (by kernel_rfl) (by kernel_rfl) (by kernel_rfl) (by kernel_rfl) (by intro _ _ _ h; exact h) (Or.inl ⟨by rfl, fun w hSw => ?_⟩) hHeld ?_
        rotate_left
        · ((try dsimp only at hSw); go_simp; first | done | with_reducible rfl | rfl)
        try simp only [Act.put, List.setIfInBounds_toArray, List.set_cons_zero, List.set_cons_succ]
        refine AnyT.take (i := 4) (v := ?_) (by simp only [List.getElem?_toArray, List.getElem?_cons_succ, List.getElem?_cons_zero]; rfl) (by kernel_rfl) (by kernel_rfl) (by kernel_rfl) (by kernel_rfl) (by intro _ _ _ h; exact h) (Or.inl ⟨by rfl, fun w hSw => ?_⟩) hHeld ?_
        rotate_left
        · ((try dsimp only at hSw); go_simp; first | done | with_reducible rfl | rfl)
        try simp only [Act.put, List.setIfInBounds_toArray, List.set_cons_zero, List.set_cons_succ]
        refine AnyT.take (i := 5) (v := ?_) (by simp only [List.getElem?_toArray, List.getElem?_cons_succ, List.getElem?_cons_zero]; rfl) (by kernel_rfl) (by kernel_rfl) (by kernel_rfl) (by kernel_rfl) (by intro _ _ _ h; exact h) (Or.inl ⟨by rfl, fun w hSw => ?_⟩) hHeld ?_
        rotate_left
        · ((try dsimp only at hSw); go_simp; first | done | with_reducible rfl | rfl)
        try simp only [Act.put, List.setIfInBounds_toArray, List.set_cons_zero, List.set_cons_succ]
        refine AnyT.take (i := 6) (v := ?_) (by simp only [List.getElem?_toArray, List.getElem?_cons_succ, List.getElem?_cons_zero]; rfl) (by kernel_rfl) (by kernel_rfl) (by kernel_rfl) (by kernel_rfl) (by intro _ _ _ h; exact h) (Or.inl ⟨by rfl, fun w hSw => ?_⟩) hHeld ?_
        rotate_left
        · ((try dsimp only at hSw); go_simp; first | done | with_reducible rfl | rfl)
        try simp only [Act.put, List.setIfInBounds_toArray, List.set_cons_zero, List.set_cons_succ]
        refine AnyT.take (i := 7) (v := ?_) (by simp only [List.getElem?_toArray, List.getElem?_cons_succ, List.getElem?_cons_zero]; rfl) (by kernel_rfl) (by kernel_rfl) (by kernel_rfl) (by kernel_rfl) (by intro _ _ _ h; exact h) (Or.inl ⟨by rfl, fun w hSw => ?_⟩) hHeld ?_
        rotate_left
        · ((try dsimp only at hSw); go_simp; first | done | with_reducible rfl | rfl)
        try simp only [Act.put, List.setIfInBounds_toArray, List.set_cons_zero, List.set_cons_succ]
        refine AnyT.take (i := 8) (v := ?_) (by simp only [List.getElem?_toArray, List.getElem?_cons_succ, List.getElem?_cons_zero]; rfl) (by kernel_rfl) (by kernel_rfl) (by kernel_rfl) (by kernel_rfl) (by intro _ _ _ h; exact h) (Or.inl ⟨by rfl, fun w hSw => ?_⟩) hHeld ?_
        rotate_left
        · ((try dsimp only at hSw); go_simp; first | done | with_reducible rfl | rfl)
        try simp only [Act.put, List.setIfInBounds_toArray, List.set_cons_zero, List.set_cons_succ]
        refine AnyT.take (i := 9) (v := ?_) (by simp only [List.getElem?_toArray, List.getElem?_cons_succ, List.getElem?_cons_zero]; rfl) (by kernel_rfl) (by kernel_rfl) (by kernel_rfl) (by kernel_rfl) (by intro _ _ _ h; exact h) (Or.inl ⟨by rfl, fun w hSw => ?_⟩) hHeld ?_
        rotate_left
        · ((try dsimp only at hSw); go_simp; first | done | with_reducible rfl | rfl)
        try simp only [Act.put, List.setIfInBounds_toArray, List.set_cons_zero, List.set_cons_succ]
        refine AnyT.take (i := 10) (v := ?_) (by simp only [List.getElem?_toArray, List.getElem?_cons_succ, List.getElem?_cons_zero]; rfl) (by kernel_rfl) (by kernel_rfl) (by kernel_rfl) (by kernel_rfl) (by intro _ _ _ h; exact h) (Or.inl ⟨by rfl, fun w hSw => ?_⟩) hHeld ?_
        rotate_left
        · ((try dsimp only at hSw); go_simp; first | done | with_reducible rfl | rfl)
        try simp only [Act.put, List.setIfInBounds_toArray, List.set_cons_zero, List.set_cons_succ]
        refine AnyT.take (i := 11) (v := ?_) (by simp only [List.getElem?_toArray, List.getElem?_cons_succ, List.getElem?_cons_zero]; rfl) (by kernel_rfl) (by kernel_rfl) (by kernel_rfl) (by kernel_rfl) (by intro _ _ _ h; exact h) (Or.inl ⟨by rfl, fun w hSw => ?_⟩) hHeld ?_
        rotate_left
        · ((try dsimp only at hSw); go_simp; first | done | with_reducible rfl | rfl)
        try simp only [Act.put, List.setIfInBounds_toArray, List.set_cons_zero, List.set_cons_succ]
        refine AnyT.take (i := 12) (v := undef) (by simp only [List.getElem?_toArray, List.getElem?_cons_succ, List.getElem?_cons_zero]; rfl) (by kernel_rfl) (by kernel_rfl) (by kernel_rfl) (by kernel_rfl) (by intro _ _ _ h; exact h) (Or.inr ⟨by rfl, rfl⟩) hHeld ?_
        try simp only [Act.put, List.setIfInBounds_toArray, List.set_cons_zero, List.set_cons_succ]
        refine AnyT.take (i := 13) (v := undef) (by simp only [List.getElem?_toArray, List.getElem?_cons_succ, List.getElem?_cons_zero]; rfl) (by kernel_rfl) (by kernel_rfl) (by kernel_rfl) (by kernel_rfl) (by intro _ _ _ h; exact h) (Or.inr ⟨by rfl, rfl⟩) hHeld ?_
        try simp only [Act.put, List.setIfInBounds_toArray, List.set_cons_zero, List.set_cons_succ]
        refine AnyT.take (i := 14) (v := undef) (by simp only [List.getElem?_toArray, List.getElem?_cons_succ, List.getElem?_cons_zero]; rfl) (by kernel_rfl) (by kernel_rfl) (by kernel_rfl) (by kernel_rfl) (by intro _ _ _ h; exact h) (Or.inr ⟨by rfl, rfl⟩) hHeld ?_
        try simp only [Act.put, List.setIfInBounds_toArray, List.set_cons_zero, List.set_cons_succ]
        refine AnyT.take (i := 15) (v := undef) (by simp only [List.getElem?_toArray, List.getElem?_cons_succ, List.getElem?_cons_zero]; rfl) (by kernel_rfl) (by kernel_rfl) (by kernel_rfl) (by kernel_rfl) (by intro _ _ _ h; exact h) (Or.inr ⟨by rfl, rfl⟩) hHeld ?_
        try simp only [Act.put, List.setIfInBounds_toArray, List.set_cons_zero, List.set_cons_succ]
        refine AnyT.take (i := 16) (v := undef) (by simp only [List.getElem?_toArray, List.getElem?_cons_succ, List.getElem?_cons_zero]; rfl) (by kernel_rfl) (by kernel_rfl) (by kernel_rfl) (by kernel_rfl) (by intro _ _ _ h; exact h) (Or.inr ⟨by rfl, rfl⟩) hHeld ?_
        try simp only [Act.put, List.setIfInBounds_toArray, List.set_cons_zero, List.set_cons_succ]
        refine AnyT.take (i := 17) (v := undef) (by simp only [List.getElem?_toArray, List.getElem?_cons_succ, List.getElem?_cons_zero]; rfl) (by kernel_rfl) (by kernel_rfl) (by kernel_rfl) (by kernel_rfl) (by intro _ _ _ h; exact h) (Or.inr ⟨by rfl, rfl⟩) hHeld ?_
        try simp only [Act.put, List.setIfInBounds_toArray, List.set_cons_zero, List.set_cons_succ]
        refine AnyT.take (i := 18) (v := undef) (by simp only [List.getElem?_toArray, List.getElem?_cons_succ, List.getElem?_cons_zero]; rfl) (by kernel_rfl) (by kernel_rfl) (by kernel_rfl) (by kernel_rfl) (by intro _ _ _ h; exact h) (Or.inr ⟨by rfl, rfl⟩) hHeld ?_
        try simp only [Act.put, List.setIfInBounds_toArray, List.set_cons_zero, List.set_cons_succ]
        refine AnyT.take (i := 19) (v := undef) (by simp only [List.getElem?_toArray, List.getElem?_cons_succ, List.getElem?_cons_zero]; rfl) (by kernel_rfl) (by kernel_rfl) (by kernel_rfl) (by kernel_rfl) (by intro _ _ _ h; exact h) (Or.inr ⟨by rfl, rfl⟩) hHeld ?_
        try simp only [Act.put, List.setIfInBounds_toArray, List.set_cons_zero, List.set_cons_succ]
        refine AnyT.take (i := 20) (v := undef) (by simp only [List.getElem?_toArray, List.getElem?_cons_succ, List.getElem?_cons_zero]; rfl) (by kernel_rfl) (by kernel_rfl) (by kernel_rfl) (by kernel_rfl) (by intro _ _ _ h; exact h) (Or.inr ⟨by rfl, rfl⟩) hHeld ?_
        try simp only [Act.put, List.setIfInBounds_toArray, List.set_cons_zero, List.set_cons_succ]
        refine AnyT.take (i := 21) (v := undef) (by simp only [List.getElem?_toArray, List.getElem?_cons_succ, List.getElem?_cons_zero]; rfl) (by kernel_rfl) (by kernel_rfl) (by kernel_rfl) (by kernel_rfl) (by intro _ _ _ h; exact h) (Or.inr ⟨by rfl, rfl⟩) hHeld ?_
        try simp only [Act.put, List.setIfInBounds_toArray, List.set_cons_zero, List.set_cons_succ]
        refine AnyT.take (i := 22) (v := undef) (by simp only [List.getElem?_toArray, List.getElem?_cons_succ, List.getElem?_cons_zero]; rfl) (by kernel_rfl) (by kernel_rfl) (by kernel_rfl) (by kernel_rfl) (by intro _ _ _ h; exact h) (Or.inr ⟨by rfl, rfl⟩) hHeld ?_
        try simp only [Act.put, List.setIfInBounds_toArray, List.set_cons_zero, List.set_cons_succ]
        refine AnyT.take (i := 23) (v := undef) (by simp only [List.getElem?_toArray, List.getElem?_cons_succ, List.getElem?_cons_zero]; rfl) (by kernel_rfl) (by kernel_rfl) (by kernel_rfl) (by kernel_rfl) (by intro _ _ _ h; exact h) (Or.inr ⟨by rfl, rfl⟩) hHeld ?_
        try simp only [Act.put, List.setIfInBounds_toArray, List.set_cons_zero, List.set_cons_succ]
        refine AnyT.take (i := 24) (v := undef) (by simp only [List.getElem?_toArray, List.getElem?_cons_succ, List.getElem?_cons_zero]; rfl) (by kernel_rfl) (by kernel_rfl) (by kernel_rfl) (by kernel_rfl) (by intro _ _ _ h; exact h) (Or.inr ⟨by rfl, rfl⟩) hHeld ?_
        try simp only [Act.put, List.setIfInBounds_toArray, List.set_cons_zero, List.set_cons_succ]
        refine AnyT.take (i := 25) (v := undef) (by simp only [List.getElem?_toArray, List.getElem?_cons_succ, List.getElem?_cons_zero]; rfl) (by kernel_rfl) (by kernel_rfl) (by kernel_rfl) (by kernel_rfl) (by intro _ _ _ h; exact h) (Or.inr ⟨by rfl, rfl⟩) hHeld ?_
        try simp only [Act.put, List.setIfInBounds_toArray, List.set_cons_zero, List.set_cons_succ]
        refine AnyT.take (i := 26) (v := undef) (by simp only [List.getElem?_toArray, List.getElem?_cons_succ, List.getElem?_cons_zero]; rfl) (by kernel_rfl) (by kernel_rfl) (by kernel_rfl) (by kernel_rfl) (by intro _ _ _ h; exact h) (Or.inr ⟨by rfl, rfl⟩) hHeld ?_
        try simp only [Act.put, List.setIfInBounds_toArray, List.set_cons_zero, List.set_cons_succ]
        refine AnyT.take (i := 27) (v := undef) (by simp only [List.getElem?_toArray, List.getElem?_cons_succ, List.getElem?_cons_zero]; rfl) (by kernel_rfl) (by kernel_rfl) (by kernel_rfl) (by kernel_rfl) (by intro _ _ _ h; exact h) (Or.inr ⟨by rfl, rfl⟩) hHeld ?_
        try simp only [Act.put, List.setIfInBounds_toArray, List.set_cons_zero, List.set_cons_succ]
        refine AnyT.take (i := 28) (v := undef) (by simp only [List.getElem?_toArray, List.getElem?_cons_succ, List.getElem?_cons_zero]; rfl) (by kernel_rfl) (by kernel_rfl) (by kernel_rfl) (by kernel_rfl) (by intro _ _ _ h; exact h) (Or.inr ⟨by rfl, rfl⟩) hHeld ?_
        try simp only [Act.put, List.setIfInBounds_toArray, List.set_cons_zero, List.set_cons_succ]
        refine AnyT.take (i := 29) (v := undef) (by simp only [List.getElem?_toArray, List.getElem?_cons_succ, List.getElem?_cons_zero]; rfl) (by kernel_rfl) (by kernel_rfl) (by kernel_rfl) (by kernel_rfl) (by intro _ _ _ h; exact h) (Or.inr ⟨by rfl, rfl⟩) hHeld ?_
        try simp only [Act.put, List.setIfInBounds_toArray, List.set_cons_zero, List.set_cons_succ]
        refine AnyT.take (i := 30) (v := undef) (by simp only [List.getElem?_toArray, List.getElem?_cons_succ, List.getElem?_cons_zero]; rfl) (by kernel_rfl) (by kernel_rfl) (by kernel_rfl) (by kernel_rfl) (by intro _ _ _ h; exact h) (Or.inr ⟨by rfl, rfl⟩) hHeld ?_
        try simp only [Act.put, List.setIfInBounds_toArray, List.set_cons_zero, List.set_cons_succ]
        refine AnyT.take (i := 31) (v := undef) (by simp only [List.getElem?_toArray, List.getElem?_cons_succ, List.getElem?_cons_zero]; rfl) (by kernel_rfl) (by kernel_rfl) (by kernel_rfl) (by kernel_rfl) (by intro _ _ _ h; exact h) (Or.inr ⟨by rfl, rfl⟩) hHeld ?_
        try simp only [Act.put, List.setIfInBounds_toArray, List.set_cons_zero, List.set_cons_succ]
        refine AnyT.take (i := 32) (v := undef) (by simp only [List.getElem?_toArray, List.getElem?_cons_succ, List.getElem?_cons_zero]; rfl) (by kernel_rfl) (by kernel_rfl) (by kernel_rfl) (by kernel_rfl) (by intro _ _ _ h; exact h) (Or.inr ⟨by rfl, rfl⟩) hHeld ?_
        try simp only [Act.put, List.setIfInBounds_toArray, List.set_cons_zero, List.set_cons_succ]
        refine AnyT.take (i := 33) (v := undef) (by simp only [List.getElem?_toArray, List.getElem?_cons_succ, List.getElem?_cons_zero]; rfl) (by kernel_rfl) (by kernel_rfl) (by kernel_rfl) (by kernel_rfl) (by intro _ _ _ h; exact h) (Or.inr ⟨by rfl, rfl⟩) hHeld ?_
        try simp only [Act.put, List.setIfInBounds_toArray, List.set_cons_zero, List.set_cons_succ]
        refine AnyT.take (i := 34) (v := undef) (by simp only [List.getElem?_toArray, List.getElem?_cons_succ, List.getElem?_cons_zero]; rfl) (by kernel_rfl) (by kernel_rfl) (by kernel_rfl) (by kernel_rfl) (by intro _ _ _ h; exact h) (Or.inr ⟨by rfl, rfl⟩) hHeld ?_
        try simp only [Act.put, List.setIfInBounds_toArray, List.set_cons_zero, List.set_cons_succ]
        refine AnyT.take (i := 35) (v := undef) (by simp only [List.getElem?_toArray, List.getElem?_cons_succ, List.getElem?_cons_zero]; rfl) (by kernel_rfl) (by kernel_rfl) (by kernel_rfl) (by kernel_rfl) (by intro _ _ _ h; exact h) (Or.inr ⟨by rfl, rfl⟩) hHeld ?_
        try simp only [Act.put, List.setIfInBounds_toArray, List.set_cons_zero, List.set_cons_succ]
        refine AnyT.take (i := 36) (v := undef) (by simp only [List.getElem?_toArray, List.getElem?_cons_succ, List.getElem?_cons_zero]; rfl) (by kernel_rfl) (by kernel_rfl) (by kernel_rfl) (by kernel_rfl) (by intro _ _ _ h; exact h) (Or.inr ⟨by rfl, rfl⟩) hHeld ?_
        try simp only [Act.put, List.setIfInBounds_toArray, List.set_cons_zero, List.set_cons_succ]
        refine AnyT.take (i := 37) (v := undef) (by simp only [List.getElem?_toArray, List.getElem?_cons_succ, List.getElem?_cons_zero]; rfl) (by kernel_rfl) (by kernel_rfl) (by kernel_rfl) (by kernel_rfl) (by intro _ _ _ h; exact h) (Or.inr ⟨by rfl, rfl⟩) hHeld ?_
        try simp only [Act.put, List.setIfInBounds_toArray, List.set_cons_zero, List.set_cons_succ]
        refine AnyT.take (i := 38) (v := undef) (by simp only [List.getElem?_toArray, List.getElem?_cons_succ, List.getElem?_cons_zero]; rfl) (by kernel_rfl) (by kernel_rfl) (by kernel_rfl) (by kernel_rfl) (by intro _ _ _ h; exact h) (Or.inr ⟨by rfl, rfl⟩) hHeld ?_
        try simp only [Act.put, List.setIfInBounds_toArray, List.set_cons_zero, List.set_cons_succ]
        refine AnyT.take (i := 39) (v := undef) (by simp only [List.getElem?_toArray, List.getElem?_cons_succ, List.getElem?_cons_zero]; rfl) (by kernel_rfl) (by kernel_rfl) (by kernel_rfl) (by kernel_rfl) (by intro _ _ _ h; exact h) (Or.inr ⟨by rfl, rfl⟩) hHeld ?_
        try simp only [Act.put, List.setIfInBounds_toArray, List.set_cons_zero, List.set_cons_succ]
        refine AnyT.take (i := 40) (v := undef) (by simp only [List.getElem?_toArray, List.getElem?_cons_succ, List.getElem?_cons_zero]; rfl) (by kernel_rfl) (by kernel_rfl) (by kernel_rfl) (by kernel_rfl) (by intro _ _ _ h; exact h) (Or.inr ⟨by rfl, rfl⟩) hHeld ?_
        try simp only [Act.put, List.setIfInBounds_toArray, List.set_cons_zero, List.set_cons_succ]
        refine AnyT.take (i := 41) (v := undef) (by simp only [List.getElem?_toArray, List.getElem?_cons_succ, List.getElem?_cons_zero]; rfl) (by kernel_rfl) (by kernel_rfl) (by kernel_rfl) (by kernel_rfl) (by intro _ _ _ h; exact h) (Or.inr ⟨by rfl, rfl⟩) hHeld ?_
        try simp only [Act.put, List.setIfInBounds_toArray, List.set_cons_zero, List.set_cons_succ]
        refine AnyT.take (i := 42) (v := ?_) (by simp only [List.getElem?_toArray, List.getElem?_cons_succ, List.getElem?_cons_zero]; rfl) (by kernel_rfl) (by kernel_rfl) (by kernel_rfl) (by kernel_rfl) (by intro _ _ _ h; exact h) (Or.inl ⟨by rfl, fun w hSw => ?_⟩) hHeld ?_
        rotate_left
        · ((try dsimp only at hSw); go_simp; first | done | with_reducible rfl | rfl)
        try simp only [Act.put, List.setIfInBounds_toArray, List.set_cons_zero, List.set_cons_succ]
        refine AnyT.take (i := 43) (v := ?_) (by simp only [List.getElem?_toArray, List.getElem?_cons_succ, List.getElem?_cons_zero]; rfl) (by kernel_rfl) (by kernel_rfl) (by kernel_rfl) (by kernel_rfl) (by intro _ _ _ h; exact h) (Or.inl ⟨by rfl, fun w hSw => ?_⟩) hHeld ?_
        rotate_left
        · ((try dsimp only at hSw); go_simp; first | done | with_reducible rfl | rfl)
        try simp only [Act.put, List.setIfInBounds_toArray, List.set_cons_zero, List.set_cons_succ]
        refine AnyT.done (by kernel_rfl) ?_ _
        clear hHeld v0 r0 qa2 qb2
        go_wp2_with fail
        go_roundw
        case rel => exact ⟨k + 1, by go_num, by omega, hid HD.out.drew⟩
        case measure => simp [intOf]; omega
    · have h4' : ¬ (k : Int) < (n : Int) := by omega
      go_wp2_with fail
      go_ret
      exact ⟨rfl, HO1.out.only.dr HD.out⟩
end Go.Proofs.YtloflmcgbbbnjaaDoor
namespace Go.Proofs.YtloflmcgbbbnjaaDoor.Plain
set_option linter.all false

/-- The map behind a call. -/
def mStep (m : List KV) (kind : Int) (k v : List UInt8) : List KV :=
  if kind = 0 then mPut Prod.fst m (k, v) else if kind = 1 then mDel Prod.fst m k else if kind = 11 then [] else m
/-- What a call tells: pairs, places, a number, whether it went well. -/
structure Told where
  ps : List KV
  vs : List Bool
  n : Int
  ok : Bool
structure TellsOk (m : List KV) (kind : Int) (k v : List UInt8) (a : Told) : Prop where
  c0 : kind = 0 → a.ok = true
  c1 : kind = 1 → a.ok = mIs Prod.fst m k
  c2 : kind = 2 → a.ok = mIs Prod.fst m k ∧ (mIs Prod.fst m k = true → ∃ p, m[mAt Prod.fst m k]? = some p ∧ a.ps = [p])
  c3 : kind = 3 → a.ok = decide (mAt Prod.fst m k < m.length) ∧ ∀ p, m[mAt Prod.fst m k]? = some p → a.ps = [p]
  c4 : kind = 4 → a.ok = mIs Prod.fst m k
  c5 : kind = 5 → a.n = (m.length : Int)
  c6 : kind = 6 → a.n = (szKv m : Int)
  c7 : kind = 7 → a.ps = m
  c8 : kind = 8 → a.ps = m.reverse
  c9 : kind = 9 → a.ps = mRange Prod.fst m k (bnd v)
  c10 : kind = 10 → a.ps = (wpl m.length (mAt Prod.fst m k : Nat) v (-1)).map (wkv m) ∧ a.vs = (wpl m.length (mAt Prod.fst m k : Nat) v (-1)).map (wval m.length)
end Go.Proofs.YtloflmcgbbbnjaaDoor.Plain
namespace Go.Proofs.YtloflmcgbbbnjaaDoor
open Go.RowKit Plain
set_option linter.all false

/-- What goes on from the first pair to behind the last. -/
structure ItF (T : TypeId) (v : Value) (f : ItM) (L : List KV) (I : Int → List Fr → Prop) (D : List Fr → World → Prop) : Prop where
  mono : ∀ R R' w0, (∀ x ∈ R, x ∈ R') → D R w0 → D R' w0
  mfi : ∀ d w, (method (d + 1) T v "First").run Tryd.prog w = .ok f.fi w
  cfi : ∀ args w, (callFunc f.fi.1 args).run Tryd.prog w = .ok (.enter f.fi.1 args) w
  mne : ∀ d w, (method (d + 1) T v "Next").run Tryd.prog w = .ok f.ne w
  cne : ∀ args w, (callFunc f.ne.1 args).run Tryd.prog w = .ok (.enter f.ne.1 args) w
  mke : ∀ d w, (method (d + 1) T v "Key").run Tryd.prog w = .ok f.ke w
  cke : ∀ args w, (callFunc f.ke.1 args).run Tryd.prog w = .ok (.enter f.ke.1 args) w
  mvl : ∀ d w, (method (d + 1) T v "Value").run Tryd.prog w = .ok f.vl w
  cvl : ∀ args w, (callFunc f.vl.1 args).run Tryd.prog w = .ok (.enter f.vl.1 args) w
  first : ∀ p F R w0 w, Plc L.length p → I p F → D R w0 → Own (F ++ R) w0 w → Calls Tryd.prog f.fi.1 #[f.fi.2] w (ItBool L.length I 0 R w0)
  next : ∀ p F R w0 w, wval L.length p = true → I p F → D R w0 → Own (F ++ R) w0 w → Calls Tryd.prog f.ne.1 #[f.ne.2] w (ItBool L.length I (p + 1) R w0)
  key : ∀ p F R w0 w, wval L.length p = true → I p F → D R w0 → Own (F ++ R) w0 w → Calls Tryd.prog f.ke.1 #[f.ke.2] w (ItSl (key L p.toNat) I p R w0)
  val : ∀ p F R w0 w, wval L.length p = true → I p F → D R w0 → Own (F ++ R) w0 w → Calls Tryd.prog f.vl.1 #[f.vl.2] w (ItSl (val L p.toNat) I p R w0)
  len : ∀ j, (Plain.key L j).length ≤ 2147483647 ∧ (Plain.val L j).length ≤ 2147483647
theorem Iter.f {T : TypeId} {v : Value} {f : ItM} {L : List KV} {I : Int → List Fr → Prop} {D : List Fr → World → Prop} (it : Iter T v f L I D) : ItF T v f L I D where
  mono := it.mono
  mfi := it.mfi
  cfi := it.cfi
  mne := it.mne
  cne := it.cne
  mke := it.mke
  cke := it.cke
  mvl := it.mvl
  cvl := it.cvl
  first := it.first
  next := fun p F R w0 w hp hI hD hO => by
    have h1 := wval_iff.1 hp
    have := it.next p F R w0 w ⟨by omega, by omega⟩ hI hD hO
    rwa [show min (p + 1) (L.length : Int) = p + 1 by omega] at this
  key := it.key
  val := it.val
  len := it.len
/-- Its end: no error; it is let go. -/
structure ItE (T : TypeId) (v : Value) (fe fr : FuncId × Value) (n : Nat) (I : Int → List Fr → Prop) (D : List Fr → World → Prop) : Prop where
  mer : ∀ d w, (method (d + 1) T v "Error").run Tryd.prog w = .ok fe w
  cer : ∀ args w, (callFunc fe.1 args).run Tryd.prog w = .ok (.enter fe.1 args) w
  mre : ∀ d w, (method (d + 1) T v "Release").run Tryd.prog w = .ok fr w
  cre : ∀ args w, (callFunc fr.1 args).run Tryd.prog w = .ok (.enter fr.1 args) w
  err : ∀ p F R w0 w, Plc n p → I p F → D R w0 → Own (F ++ R) w0 w → Calls Tryd.prog fe.1 #[fe.2] w fun e w' => e = .returned .nilIface ∧ w = w'
  rel : ∀ p F R w0 w, Plc n p → I p F → D R w0 → Own (F ++ R) w0 w → Calls Tryd.prog fr.1 #[fr.2] w fun e w' => e = .returned (.tuple #[]) ∧ ∃ F', Own (F' ++ R) w0 w'
set_option maxHeartbeats 3200000 in
set_option maxRecDepth 100000 in
theorem pair_k {T : TypeId} {v : Value} {f : ItM} {L : List KV} {I : Int → List Fr → Prop} {D : List Fr → World → Prop} (it : ItF T v f L I D) (p : Int) (F R : List Fr) (w0 w : World) (hp : wval L.length p = true) (hI : I p F) (hD : D R w0) (hO : Own (F ++ R) w0 w) :
    Calls Tryd.prog 97 #[.iface T v] w (PairOut L I p R w0) := by
  obtain ⟨q, hq⟩ : ∃ q, w.heap.size = q := ⟨_, rfl⟩
  have hO1 := hO.alloc' hq 36 [.slice none 0 0, .slice none 0 0]
  have hmk := it.mke
  have hmv := it.mvl
  have hck := it.cke
  have hcv := it.cvl
  have HQ := hid hq
  have HO1 := hid hO1
  have HI := hid hI
  have HDD := hid hD
  have HPV := hid hp
  clear hO hO1 hI hD hp hq
  go_enter Tryd.func97, Tryd.ntmps97
  go_wp2_with fail
  rw [HQ.out]
  refine (it.key p F (fw q 36 [.slice none 0 0, .slice none 0 0] :: R) w0 _ HPV.out HI.out (it.mono _ _ _ (fun _ hx => List.mem_cons_of_mem _ hx) HDD.out) (HO1.out.perm (perm_of fun _ _ z => by simp only [List.count_append, List.count_cons, List.cons_append, List.count_nil, List.nil_append, List.append_nil]; omega))).mono ?_
  rintro e w1 ⟨A1, c1, n1, F1, rfl, hn1, hc1, hm1, hI1, hO2, hb1⟩
  have HI1 := hid hI1
  have HO2 := hid hO2
  have HB1 := hid hb1
  have hl1 := (it.len p.toNat).1
  have hn1' : n1 ≤ 2147483647 := by omega
  have HN1 := hid hn1
  clear hI1 hO2 hb1 HO1 HI hn1 hl1
  go_wp2_with fail
  refine (copied_own A1 n1 c1 (key L p.toNat) (F1 ++ (fw q 36 [.slice none 0 0, .slice none 0 0] :: R)) w0 _ HB1.out HO2.out HN1.out (by rw [← HN1.out]; omega)).mono ?_
  rintro e w2 ⟨A2, c2, F2, n2, hn2, rfl, hr2, hO3⟩
  have HO3 := hid (hO3.out.perm (L' := F1 ++ (F2 ++ (fw q 36 [.slice none 0 0, .slice none 0 0] :: R))) (perm_of fun _ _ z => by simp only [List.count_append, List.count_cons, List.cons_append, List.count_nil, List.nil_append, List.append_nil]; omega))
  clear hO3 HO2 HB1 hc1 hm1
  go_wp2_with fail
  refine (it.val p F1 (F2 ++ (fw q 36 [.slice none 0 0, .slice none 0 0] :: R)) w0 _ HPV.out HI1.out (it.mono _ _ _ (fun _ hx => List.mem_append_right _ (List.mem_cons_of_mem _ hx)) HDD.out) HO3.out).mono ?_
  rintro e w3 ⟨A3, c3, n3, F3, rfl, hn3, hc3, hm3, hI3, hO4, hb3⟩
  have HI3 := hid hI3
  have HO4 := hid hO4
  have HB3 := hid hb3
  have hl3 := (it.len p.toNat).2
  have hn3' : n3 ≤ 2147483647 := by omega
  have HN3 := hid hn3
  clear hI3 hO4 hb3 HO3 HI1 hn3 hl3
  go_wp2_with fail
  refine (copied_own A3 n3 c3 (val L p.toNat) (F3 ++ (F2 ++ (fw q 36 [.slice none 0 0, .slice none 0 0] :: R))) w0 _ HB3.out HO4.out HN3.out (by rw [← HN3.out]; omega)).mono ?_
  rintro e w4 ⟨A4, c4, F4, n4, hn4, rfl, hr4, hO5⟩
  have HO5 := hid (hO5.out.perm (L' := fw q 36 [.slice none 0 0, .slice none 0 0] :: (F3 ++ (F2 ++ (F4 ++ R)))) (perm_of fun _ _ z => by simp only [List.count_append, List.count_cons, List.cons_append, List.count_nil, List.nil_append, List.append_nil]; omega))
  clear hO5 HO4 HB3 hc3 hm3
  go_wp2_with (refine own_store_row rfl 36 (.tmp 2) (.tmp 9) rfl q _ rfl rfl 36 _ HO5.out (by kernel_rfl) (by simp) (by simp [Value.oneCell']) ?_; intro w5 hO6; have qa : w5.cell? ⟨q, 0, none⟩ = some (.slice A2 n2 c2) := hO6.cell 0 rfl (k := 0) 0 rfl (by simp); have qb : w5.cell? ⟨q, 1, none⟩ = some (.slice A4 n4 c4) := hO6.cell 0 rfl (k := 1) 1 rfl (by simp); have HO6 := hid hO6; clear hO6)
  refine bodyPost_ret (v := .agg #[.slice A2 n2 c2, .slice A4 n4 c4]) ?_ rfl ?_
  · simp [results, Tryd.results97, go_sem, qa, qb]
  · refine ⟨⟨A2, c2, key L p.toNat, A4, c4, val L p.toNat⟩, n2, n4, F3, F2 ++ F4, rfl, hn2.out, hn4.out, hid ⟨rfl, rfl⟩, hid fun wb => ?_, HI3, hid ((HO6.out.drop).perm (perm_of fun _ _ z => by simp only [List.count_append, List.count_cons, List.cons_append, List.count_nil, List.nil_append, List.append_nil]; omega))⟩
    have r2 := hr2.out
    have r4 := hr4.out
    have l2 := r2.le
    have l4 := r4.le
    rw [hn2.out] at l2
    rw [hn4.out] at l4
    have t2 : Rd (F2 ++ F4) wb A2 (key L p.toNat) := (r2.rd wb).left F4
    have t4 : Rd (F2 ++ F4) wb A4 (val L p.toNat) := (r4.rd wb).right F2
    exact fun w hw0 hfr => ⟨t2 w hw0 hfr, t4 w hw0 hfr, l2, l4, r2.cap, r4.cap⟩
end Go.Proofs.YtloflmcgbbbnjaaDoor
namespace Go.Proofs.YtloflmcgbbbnjaaDoor
open Go.RowKit Plain
set_option linter.all false

set_option maxHeartbeats 400000 in
theorem shared_any (A B : Option Addr) (ca cb : Nat) (a b : List UInt8) (w : World) (ha : BsAt w A a) (hb : BsAt w B b) (la : a.length ≤ 140737488351232) :
    Calls Tryd.prog 38 #[.slice A a.length ca, .slice B b.length cb] w fun e w' => e = .returned (.int .i64 (shared a b)) ∧ Dr w w' := by
  go_enter Tryd.func38, Tryd.ntmps38
  go_wp2
  go_loopw [5] (fun i wr => ∃ k : Nat, i = .int .i64 k ∧ k ≤ shared a b ∧ Dr w wr) (fun i _ => a.length - (intOf i).toNat)
  case atStart => exact ⟨0, rfl, Nat.zero_le _, Dr.refl _⟩
  case round =>
    obtain ⟨k, rfl, hk, ⟨n, rfl⟩⟩ := hrel
    have hs := shared_le a b
    by_cases h1 : k < a.length
    · have t1 : decide ((k : Int) < (a.length : Int)) = true := by simp; omega
      have t1' : decide (k < a.length) = true := by simp; omega
      by_cases h2 : k < b.length
      · have t2 : decide ((k : Int) < (b.length : Int)) = true := by simp; omega
        obtain ⟨g, o, rfl, hc⟩ := ha k h1
        obtain ⟨g', o', rfl, hc'⟩ := hb k h2
        by_cases e : at_ a k = at_ b k
        · have e1 : (bz a k == bz b k) = true := by rw [beq_iff_eq]; exact bz_eq.2 e
          have hk' := shared_step hk h1 h2 e
          clear e
          go_wp2
          repeat (go_quiet (fail); try go_wp2)
          go_roundw
          case rel => exact ⟨k + 1, by go_num, hk', by repeat (first | exact Dr.refl _ | apply Dr.step)⟩
          case measure => simp [intOf]; omega
        · have e1 : (bz a k == bz b k) = false := by rw [beq_eq_false_iff_ne]; exact fun h => e (bz_eq.1 h)
          have hk' := shared_stop hk e
          have HK := hid hk'
          clear e hk'
          go_wp2
          repeat (go_quiet (fail); try go_wp2)
          go_ret
          exact ⟨ret_int (by have := HK.out; omega), by repeat (first | exact Dr.refl _ | apply Dr.step)⟩
      · have t2 : decide ((k : Int) < (b.length : Int)) = false := by simp; omega
        have t2' : decide (k < b.length) = false := by simp; omega
        have hk' : k = shared a b := by omega
        have HK := hid hk'
        clear hk'
        go_wp2
        repeat (go_quiet (fail); try go_wp2)
        go_ret
        exact ⟨ret_int (by have := HK.out; omega), by repeat (first | exact Dr.refl _ | apply Dr.step)⟩
    · have t1 : decide ((k : Int) < (a.length : Int)) = false := by simp; omega
      have t1' : decide (k < a.length) = false := by simp; omega
      have hk' : k = shared a b := by omega
      have HK := hid hk'
      clear hk'
      go_wp2
      repeat (go_quiet (fail); try go_wp2)
      go_ret
      exact ⟨ret_int (by have := HK.out; omega), by repeat (first | exact Dr.refl _ | apply Dr.step)⟩

set_option maxHeartbeats 800000 in
theorem spl_any (A B : Option Addr) (n m ca cb : Nat) (a b : List UInt8) (w : World) (ha : BsAt w A a) (hb : BsAt w B b) (hn : n = a.length) (hm : m = b.length) (la : a.length ≤ 140737488351232) (lb : b.length ≤ 140737488351232) :
    Calls Tryd.prog 102 #[.slice A n ca, .slice B m cb] w fun e w' => e = .returned (.int .i64 (shared a b)) ∧ Dr w w' := by
  subst hn; subst hm
  obtain ⟨N, hN⟩ : ∃ N, N = min a.length b.length := ⟨_, rfl⟩
  have HN := hid hN
  have hs := shared_le a b
  have hr : (fun (i : Value) (wr : World) => ∃ k : Nat, i = .int .i64 k ∧ k ≤ shared a b ∧ Dr w wr) (.int .i64 0) w := ⟨0, rfl, Nat.zero_le _, Dr.refl _⟩
  cases hgt : decide ((b.length : Int) < (a.length : Int)) <;> (
    have hgt' : decide (b.length < a.length) = decide ((b.length : Int) < (a.length : Int)) := by simp
    rw [hgt] at hgt'
    have hNv : (N : Int) = if (b.length : Int) < (a.length : Int) then (b.length : Int) else (a.length : Int) := by simp at hgt; split <;> omega
    have hgt2 := hgt
    simp only [decide_eq_true_eq, decide_eq_false_iff_not] at hgt2
    first | rw [if_pos hgt2] at hNv | rw [if_neg hgt2] at hNv
    clear hgt2
    have HNv := hid hNv
    clear hNv hN
    go_enter Tryd.func102, Tryd.ntmps102
    go_wp2
    go_loopw [5] (fun i wr => ∃ k : Nat, i = .int .i64 k ∧ k ≤ shared a b ∧ Dr w wr) (fun i _ => a.length - (intOf i).toNat)
    case atStart => exact ⟨0, rfl, Nat.zero_le _, Dr.refl _⟩
    case round =>
      obtain ⟨k, rfl, hk, ⟨nd, rfl⟩⟩ := hrel
      by_cases h1 : k < N
      · have h2 : k < a.length := by have := HN.out; omega
        have h3 : k < b.length := by have := HN.out; omega
        have t1 : decide ((k : Int) < (a.length : Int)) = true := by simp; omega
        have t1' : decide (k < a.length) = true := by simp; omega
        have t2 : decide ((k : Int) < (b.length : Int)) = true := by simp; omega
        have t2' : decide (k < b.length) = true := by simp; omega
        obtain ⟨g, o, rfl, hc⟩ := ha k h2
        obtain ⟨g', o', rfl, hc'⟩ := hb k h3
        by_cases e : at_ a k = at_ b k
        · have e1 : (bz a k == bz b k) = true := by rw [beq_iff_eq]; exact bz_eq.2 e
          have hk' := shared_step hk h2 h3 e
          clear e
          go_wp2
          repeat (go_quiet (fail); try go_wp2)
          go_roundw
          case rel => exact ⟨k + 1, by go_num, hk', by repeat (first | exact Dr.refl _ | apply Dr.step)⟩
          case measure => simp [intOf]; omega
        · have e1 : (bz a k == bz b k) = false := by rw [beq_eq_false_iff_ne]; exact fun h => e (bz_eq.1 h)
          have hk' := shared_stop hk e
          have HK := hid hk'
          clear e hk'
          go_wp2
          repeat (go_quiet (fail); try go_wp2)
          go_ret
          exact ⟨ret_int (by have := HK.out; omega), by repeat (first | exact Dr.refl _ | apply Dr.step)⟩
      · have hk' : k = shared a b := by have := HN.out; omega
        have HK := hid hk'
        have t1 : decide ((k : Int) < (a.length : Int)) = false ∨ decide ((k : Int) < (b.length : Int)) = false := by have := HN.out; simp; omega
        have t3 : decide ((k : Int) < (N : Int)) = false := by simp; omega
        rw [HNv.out] at t3
        have t3' := t3
        simp only [Int.ofNat_lt] at t3'
        clear hk' t1
        go_wp2
        repeat (go_quiet (fail); try go_wp2)
        go_ret
        exact ⟨ret_int (by have := HK.out; omega), by repeat (first | exact Dr.refl _ | apply Dr.step)⟩)
end Go.Proofs.YtloflmcgbbbnjaaDoor
