/-
  FnMem: the walk.
-/
import Derived.Test.YtloflmcgbbbnjaaDoorMemM14
import Derived.Test.YtloflmcgbbbnjaaDoorMemM21
import Derived.Test.YtloflmcgbbbnjaaDoorMemM12
namespace Go.Proofs.YtloflmcgbbbnjaaDoor
open Go.RowKit Plain
set_option linter.all false

/-- The answers are read. -/
structure MAs (w : World) (A : Option Addr) (l : List MAn) : Prop where
  row : CsAt w A (l.flatMap MAn.cells)
  ok : ∀ r ∈ l, r.Ok w
theorem MAs.keep0 {w w' : World} {A : Option Addr} {l : List MAn} (h : MAs w A l) (hb : Only [] w w') : MAs w' A l := ⟨h.row.keep0 hb, fun r hr => (h.ok r hr).keep0 hb⟩
theorem MAs.at_ {w : World} {A : Option Addr} {l : List MAn} (h : MAs w A l) {i : Nat} {r : MAn} (hr : l[i]? = some r) :
    ∃ g o, A = some ⟨g, o, none⟩ ∧ w.cell? ⟨g, o + i * 4, none⟩ = some (.slice r.pA r.l.length r.pc) ∧ w.cell? ⟨g, o + i * 4 + 1, none⟩ = some (.slice r.vA r.vs.length r.vc) ∧ w.cell? ⟨g, o + i * 4 + 2, none⟩ = some (.int .i64 r.n) ∧ w.cell? ⟨g, o + i * 4 + 3, none⟩ = some (.bool r.ok) := by
  obtain ⟨g, o, e, hc⟩ := CsAt.at_row MAn.cells 4 MAn.cells_length (by omega) h.row hr
  exact ⟨g, o, e, hc 0 (by omega), hc 1 (by omega), hc 2 (by omega), hc 3 (by omega)⟩
theorem kvs_put (m : List Pr) (x : Pr) : kvs (mPut Pr.k m x) = mPut Prod.fst (kvs m) (x.k, x.v) := by
  unfold mPut
  rw [show mIs Prod.fst (kvs m) (Prod.fst (x.k, x.v)) = mIs Pr.k m x.k from mIs_kvs' m x.k, show mAt Prod.fst (kvs m) (Prod.fst (x.k, x.v)) = mAt Pr.k m x.k from mAt_kvs' m x.k]
  split
  · simp [kvs, List.map_set]
  · simp [kvs, List.map_append, List.map_take, List.map_drop]
theorem kvs_del (m : List Pr) (k : List UInt8) : kvs (mDel Pr.k m k) = mDel Prod.fst (kvs m) k := by
  unfold mDel
  rw [mIs_kvs', mAt_kvs']
  split
  · simp [kvs, List.map_append, List.map_take, List.map_drop]
  · rfl
set_option maxHeartbeats 12800000 in
set_option maxRecDepth 100000 in
theorem fnMem_walk (A : Option Addr) (c : Nat) (ops : List MO) (w : World) (h : MOs w A ops) :
    Calls Tryd.prog 8 #[.slice A ops.length c] w fun e w' => e = .returned (.bool true) ∧ Only [] w w' := by
  have HH := hid h
  cases hf : okM ops with
  | false =>
    have HF := hid hf
    clear h hf
    go_enter Tryd.func8, Tryd.ntmps8
    go_wp2_with fail
    refine (fits4_any A c ops _ HH.out).mono ?_
    rintro e w1 ⟨rfl, ho1⟩
    rw [HF.out]
    have HO1 := hid ho1
    clear ho1
    go_wp2_with fail
    go_ret
    exact ⟨rfl, HO1.out⟩
  | true =>
    have HF := hid hf
    obtain ⟨hl1, hl2, hl3⟩ := okM_len hf
    have HL3 := hid hl3
    obtain ⟨sm, hsm⟩ : ∃ sm, decide (wgm ops ≤ 1048576) = sm := ⟨_, rfl⟩
    have HSM := hid hsm
    have hsml := fun w1 (ho : Only [] w w1) => small_any A c ops w1 (h.keep0 ho) hl2 hl1
    rw [hsm] at hsml
    have HSML := hid hsml
    obtain ⟨n, hn⟩ : ∃ n, ops.length = n := ⟨_, rfl⟩
    have HFA := hid (fits4_any A c ops w h)
    rw [hf] at HFA
    rw [hn] at HFA HSML hl1 ⊢
    have HN := hid hn
    clear h hf hl2 hl3 hsm hsml hn
    go_enter Tryd.func8, Tryd.ntmps8
    go_wp2_with fail
    refine HFA.out.mono ?_
    rintro e w1 ⟨rfl, ho1⟩
    have HO1 := hid ho1
    clear ho1
    go_wp2_with fail
    refine (HSML.out w1 HO1.out).mono ?_
    rintro e w2 ⟨rfl, ho2⟩
    have HO2 := hid (HO1.out.new ho2)
    clear ho2
    cases sm with
    | false =>
      go_wp2_with fail
      go_ret
      exact ⟨rfl, HO2.out⟩
    | true =>
      by_cases h3 : 300 < n
      · have z2 : decide (300 < (n : Int)) = true := decide_eq_true (by omega)
        have z2' : decide (300 < n) = true := decide_eq_true h3
        go_wp2_with fail
        go_ret
        exact ⟨rfl, HO2.out⟩
      · have z2 : decide (300 < (n : Int)) = false := decide_eq_false (by omega)
        have z2' : decide (300 < n) = false := decide_eq_false h3
        go_wp2_with fail
        have hwg : wgm ops ≤ 1048576 := of_decide_eq_true HSM.out
        refine (implMem A n c ops [] w2 w2 (fun w' ho _ => (HH.out.keep0 HO2.out).keep0 ho) HN.out.symm (by omega) (by omega) (Own.start w2)).mono ?_
        rintro e w3 ⟨gA, gc, ans, Fo, G, rfl, HA, HR, HSA, hO3⟩
        have hma : MAs w3 gA ans := ⟨HR.out.csO hO3.out, fun a ha => HSA.out a ha w2 w3 hO3.out.only fun y hy => hO3.out.ins y (by simp [hy])⟩
        have HMA := hid hma
        have HO3 := hid (HO2.out.new hO3.out.only)
        have HWG := hid hwg
        clear hma hO3 hwg HR HSA
        go_wp2_with fail
        go_loopw [4, 32] (fun ov s wr => ∃ (k mn mc : Nat) (mA : Option Addr) (mm : List Pr), s = .int .i64 k ∧ ov = .slice mA mn mc ∧ k ≤ n ∧ mn ≤ k ∧ mn ≤ mc ∧ Hid (mn = mm.length) ∧ Hid (kvs mm = mAfter (ops.take k)) ∧ Hid (∀ x ∈ mm, x.k.length ≤ 2147483647) ∧ Hid (Prs wr mA mm) ∧ Hid (Only [] w3 wr)) (fun _ s _ => n - (intOf s).toNat)
        case atStart => exact ⟨0, 0, 0, none, [], rfl, rfl, Nat.zero_le _, Nat.le_refl _, Nat.le_refl _, hid rfl, hid rfl, hid (by simp), hid ⟨CsAt.nil _ _, by simp⟩, hid (Only.refl _ _)⟩
        case round =>
          obtain ⟨k, mn, mc, mA, mm, rfl, rfl, hk, hmk, hmc, HMN, HKV, HKB, HPM, HOW⟩ := hrel
          obtain ⟨w4, rfl⟩ : ∃ w4, w4 = wr := ⟨_, rfl⟩
          by_cases h4 : k < n
          · have h4' : (k : Int) < (n : Int) := by omega
            have hkl : k < ops.length := by rw [HN.out]; exact h4
            have hx : ops[k]? = some ops[k] := List.getElem?_eq_getElem hkl
            have hxm : ops[k] ∈ ops := List.getElem_mem hkl
            have htk : ops.take (k + 1) = ops.take k ++ [ops[k]] := List.take_succ_eq_append_getElem hkl
            have hkal : k < ans.length := by rw [HA.out.1]; exact h4
            have hya : ans[k]? = some ans[k] := List.getElem?_eq_getElem hkal
            have hyam : ans[k] ∈ ans := List.getElem_mem hkal
            generalize ops[k] = r at hx hxm htk
            generalize ans[k] = a at hya hyam
            have ht := HA.out.2 k r a hx hya
            rw [← HKV.out] at ht
            have hstep : mAfter (ops.take (k + 1)) = mStep (kvs mm) r.kind r.k r.v := by rw [htk, mAfter_snoc, ← HKV.out]
            have HT := hid ht
            have HST := hid hstep
            obtain ⟨g, o, rfl, p0, p1, p2, p3⟩ := (HH.out.keep0 (HO3.out.new HOW.out)).at_ hx
            have hrok := (HH.out.keep0 (HO3.out.new HOW.out)).ok r hxm
            have hkb := HL3.out r hxm
            obtain ⟨gg, go, rfl, m0, m1, m2, m3⟩ := (HMA.out.keep0 HOW.out).at_ hya
            have haok := (HMA.out.keep0 HOW.out).ok a hyam
            have hmn := HMN.out
            subst hmn
            obtain ⟨qo, hqo⟩ : ∃ qo, w4.heap.size = qo := ⟨_, rfl⟩
            have hO5 := (Own.start w4).alloc' hqo 67 [.int .i64 r.kind, .slice r.ka r.k.length r.kc, .slice r.va r.v.length r.vc, .int .i64 r.n]
            have HO5 := hid hO5
            have HQ := hid hqo
            have HB := hid (show _ ∧ _ ∧ _ ∧ _ from ⟨hrok, haok, hkb, hyam⟩)
            have n0 := keepc hO5.only m0
            have n1 := keepc hO5.only m1
            have n2 := keepc hO5.only m2
            have n3 := keepc hO5.only m3
            clear hx hxm htk hkal hya hyam ht hstep hrok haok hkb hqo hO5 m0 m1 m2 m3 hkl
            go_upto_region 12 with fail
            rw [HQ.out]
            generalize (World.alloc _ _) = W at HO5 n0 n1 n2 n3 ⊢
            clear p0 p1 p2 p3
            have o1 : W.cell? ⟨qo, 1, none⟩ = some (.slice r.ka r.k.length r.kc) := HO5.out.cell 0 rfl (k := 1) 1 rfl (by simp)
            have hat := mapAt mA r.ka mc r.kc mm r.k W (HPM.out.keep0 HO5.out.only) (HB.out.1.hk.keep0 HO5.out.only) (by have := HB.out.2.2.1; omega) (fun x hx => by have := HKB.out x hx; omega) (by omega)
            obtain ⟨i, hi⟩ : ∃ i, mAt Pr.k mm r.k = i := ⟨_, rfl⟩
            obtain ⟨z, hz⟩ : ∃ z, mIs Pr.k mm r.k = z := ⟨_, rfl⟩
            rw [hi, hz] at hat
            have HI := hid (And.intro hi hz)
            have HAT := hid hat
            clear hat hi hz
            go_wp2_with fail
            refine HAT.out.mono ?_
            rintro e w5 ⟨rfl, hd5⟩
            have q0 := keepc hd5.only n0
            have q1 := keepc hd5.only n1
            have q2 := keepc hd5.only n2
            have q3 := keepc hd5.only n3
            have HO6 := hid (HO5.out.dr hd5)
            have HOX := hid ((HOW.out.new (HO5.out.only)).dr hd5)
            have HPX := hid ((HPM.out.keep0 HO5.out.only).keep0 hd5.only)
            have HRX := hid ((HB.out.1.keep0 HO5.out.only).keep0 hd5.only)
            have HAX := hid ((HB.out.2.1.keep0 HO5.out.only).keep0 hd5.only)
            clear n0 n1 n2 n3 hd5 o1 HAT
            have o0 : w5.cell? ⟨qo, 0, none⟩ = some (.int .i64 r.kind) := HO6.out.cell 0 rfl (k := 0) 0 rfl (by simp)
            have o1 : w5.cell? ⟨qo, 1, none⟩ = some (.slice r.ka r.k.length r.kc) := HO6.out.cell 0 rfl (k := 1) 1 rfl (by simp)
            have o2 : w5.cell? ⟨qo, 2, none⟩ = some (.slice r.va r.v.length r.vc) := HO6.out.cell 0 rfl (k := 2) 2 rfl (by simp)
            have o3 : w5.cell? ⟨qo, 3, none⟩ = some (.int .i64 r.n) := HO6.out.cell 0 rfl (k := 3) 3 rfl (by simp)
            obtain ⟨kd, hkd⟩ : ∃ kd, r.kind = kd := ⟨_, rfl⟩
            have HKD := hid hkd
            by_cases k0 : r.kind = 0
            · have e0 : (r.kind == 0) = true := by rw [k0]; rfl
              have hok : a.ok = true := HT.out.c0 k0
              rw [hok] at q3
              have HK0 := hid k0
              clear k0 hkd hok
              go_wp2_with fail
              refine (mapPut mA mc mm ⟨r.ka, r.kc, r.k, r.va, r.vc, r.v⟩ [] w5 _ (fun w' ho _ => HPX.out.keep0 ho) (fun w' ho _ => ⟨HRX.out.hk.keep0 ho, HRX.out.hv.keep0 ho, HRX.out.hkc, HRX.out.hvc, HRX.out.hkm, HRX.out.hvm⟩) (Own.start w5) (by have := HB.out.2.2.1.1; show r.k.length ≤ _; omega) (fun x hx => by have := HKB.out x hx; omega) (by omega)).mono ?_
              rintro e w6 ⟨A6, c6, F6, rfl, hr6, hO6⟩
              obtain ⟨n6, hn6⟩ : ∃ n6, (mPut Pr.k mm ⟨r.ka, r.kc, r.k, r.va, r.vc, r.v⟩).length = n6 := ⟨_, rfl⟩
              rw [hn6] at hr6 ⊢
              have hln := mPut_len Pr.k mm ⟨r.ka, r.kc, r.k, r.va, r.vc, r.v⟩
              have hle6 := hr6.out.le
              have h6k : n6 ≤ k + 1 := by rw [← hn6, hln]; split <;> omega
              have HR6 := hid (show _ ∧ _ from ⟨hr6.out.csO hO6.out, hO6.out.only⟩)
              have HN6 := hid hn6
              clear hr6 hO6 hln hn6 q0 q1 q2 q3 o0 o1 o2 o3
              go_wp2_with fail
              go_roundw
              case rel =>
                have hmem : ∀ y ∈ mPut Pr.k mm ⟨r.ka, r.kc, r.k, r.va, r.vc, r.v⟩, y ∈ mm ∨ y = ⟨r.ka, r.kc, r.k, r.va, r.vc, r.v⟩ := fun y hy => by
                  unfold mPut at hy
                  split at hy
                  · exact List.mem_or_eq_of_mem_set hy
                  · rcases List.mem_append.1 hy with h | h
                    · exact .inl (List.mem_of_mem_take h)
                    · rcases List.mem_cons.1 h with h | h
                      · exact .inr h
                      · exact .inl (List.mem_of_mem_drop h)
                refine ⟨k + 1, n6, c6, A6, mPut Pr.k mm ⟨r.ka, r.kc, r.k, r.va, r.vc, r.v⟩, by go_num, rfl, by omega, h6k, hle6, hid HN6.out.symm, hid ?_, hid fun y hy => ?_, hid ⟨HR6.out.1, fun y hy => ?_⟩, hid (HOX.out.new HR6.out.2)⟩
                · rw [HST.out, HK0.out, kvs_put]; simp [mStep]
                · rcases hmem y hy with h | rfl
                  · exact HKB.out y h
                  · exact HB.out.2.2.1.1
                · rcases hmem y hy with h | rfl
                  · exact (HPX.out.ok y h).keep0 HR6.out.2
                  · exact ⟨HRX.out.hk.keep0 HR6.out.2, HRX.out.hv.keep0 HR6.out.2, HRX.out.hkc, HRX.out.hvc, HRX.out.hkm, HRX.out.hvm⟩
              case measure => simp [intOf]; omega
            · have e0 : (r.kind == 0) = false := by simpa using k0
              by_cases k1 : r.kind = 1
              · have e1 : (r.kind == 1) = true := by rw [k1]; rfl
                have hok : a.ok = z := by
                  have := HT.out.c1 k1
                  rw [mIs_kvs', HI.out.2] at this
                  exact this
                rw [hok] at q3
                have hzz : (z != z) = false := by cases z <;> rfl
                have HK0 := hid k1
                have hdl := specDel mA r.ka mc mm.length r.k.length r.kc mm r.k w5 HPX.out HRX.out.hk rfl rfl (by have := HB.out.2.2.1; omega) HKB.out (by omega) hmc
                have HDL := hid hdl
                clear k0 k1 hkd hok hdl
                go_wp2_with fail
                refine HDL.out.mono ?_
                rintro e w6 ⟨A6, c6, n6, rfl, hn6, hc6, hp6, ho6⟩
                have HN6 := hid hn6
                have h6k : n6 ≤ k + 1 := by
                  rw [hn6]
                  unfold mDel
                  split
                  · rw [List.length_append, List.length_take, List.length_drop]; omega
                  · omega
                clear hn6 q0 q1 q2 q3 o0 o1 o2 o3
                go_wp2_with fail
                go_roundw
                case rel =>
                  refine ⟨k + 1, n6, c6, A6, mDel Pr.k mm r.k, by go_num, rfl, by omega, h6k, hc6, hid HN6.out, hid ?_, hid fun y hy => ?_, hid hp6.out, hid (HOX.out.new ho6.out)⟩
                  · rw [HST.out, HK0.out, kvs_del]; simp [mStep]
                  · refine HKB.out y ?_
                    unfold mDel at hy
                    split at hy
                    · rcases List.mem_append.1 hy with h | h
                      · exact List.mem_of_mem_take h
                      · exact List.mem_of_mem_drop h
                    · exact hy
                case measure => simp [intOf]; omega
              have e1 : (r.kind == 1) = false := by simpa using k1
              by_cases k11 : r.kind = 11
              · have e6 : (r.kind == 6) = false := by rw [k11]; rfl
                have e11 : (r.kind == 11) = true := by rw [k11]; rfl
                have HK0 := hid k11
                clear k0 k1 k11 hkd q0 q1 q2 q3 o1 o2 o3
                go_wp2_with fail
                go_roundw
                case rel =>
                  refine ⟨k + 1, 0, 0, none, [], by go_num, rfl, by omega, by omega, Nat.le_refl _, hid rfl, hid ?_, hid (by simp), hid ⟨CsAt.nil _ _, by simp⟩, HOX⟩
                  rw [HST.out, HK0.out]; simp [mStep, kvs]
                case measure => simp [intOf]; omega
              have e11 : (r.kind == 11) = false := by simpa using k11
              by_cases k6 : r.kind = 6
              · have e6 : (r.kind == 6) = true := by rw [k6]; rfl
                have hst : mAfter (ops.take (k + 1)) = kvs mm := by
                  rw [HST.out]; unfold mStep; rw [if_neg k0, if_neg k1, if_neg k11]
                have HS2 := hid hst
                have hN : a.n = (szKv (kvs mm) : Int) := HT.out.c6 k6
                rw [hN] at q2
                have htot : szKv (kvs mm) ≤ 1048576 := by
                  have h1 := (mAfter_bd ops k).2
                  rw [← HKV.out] at h1
                  have h2 := wgm_take_le ops k
                  have h3 := HWG.out
                  omega
                obtain ⟨tot, htt⟩ : ∃ tot, szKv (kvs mm) = tot := ⟨_, rfl⟩
                rw [htt] at q2 htot
                have HTT := hid htt
                clear k0 k1 k11 k6 hkd hst hN htt q0 q1 q3 o1 o2 o3
                go_wp2_with fail
                go_loopw [9, 85] (fun s9 s85 wr => ∃ (j t : Nat), s85 = .int .i64 j ∧ s9 = .int .i64 t ∧ j ≤ mm.length ∧ Hid (t = szKv (kvs (mm.take j))) ∧ Hid (Only [] w5 wr)) (fun _ s85 _ => mm.length - (intOf s85).toNat)
                case atStart => exact ⟨0, 0, rfl, rfl, Nat.zero_le _, hid rfl, hid (Only.refl _ _)⟩
                case round =>
                  obtain ⟨j, t, rfl, rfl, hj, HTJ, HOJ⟩ := hrel
                  obtain ⟨w6, rfl⟩ : ∃ w6, w6 = wr := ⟨_, rfl⟩
                  by_cases h5 : j < mm.length
                  · have h5' : (j : Int) < (mm.length : Int) := by omega
                    have hx : mm[j]? = some mm[j] := List.getElem?_eq_getElem h5
                    have htk : mm.take (j + 1) = mm.take j ++ [mm[j]] := List.take_succ_eq_append_getElem h5
                    generalize mm[j] = x at hx htk
                    have hsz : szKv (kvs (mm.take (j + 1))) = t + (x.k.length + x.v.length) := by
                      rw [htk, HTJ.out]
                      unfold kvs
                      rw [List.map_append, szKv_append]
                      simp [szKv]
                    have hle : szKv (kvs (mm.take (j + 1))) ≤ tot := by
                      rw [← HTT.out]
                      have := szKv_take (kvs mm) (j + 1)
                      unfold kvs at this ⊢
                      rwa [← List.map_take] at this
                    obtain ⟨g5, o5, hmA, p0, p1⟩ := (HPX.out.keep0 HOJ.out).at_ hx
                    subst hmA
                    have HSZ := hid hsz
                    have i1 : IntKind.i64.wrap ((x.k.length : Int) + (x.v.length : Int)) = ((x.k.length + x.v.length : Nat) : Int) := wrap_add _ _ (by omega)
                    obtain ⟨xl, hxl⟩ : ∃ xl, x.k.length + x.v.length = xl := ⟨_, rfl⟩
                    rw [hxl] at i1 hsz
                    have i2 : IntKind.i64.wrap ((t : Int) + (xl : Int)) = ((t + xl : Nat) : Int) := wrap_add _ _ (by omega)
                    obtain ⟨t2, ht2⟩ : ∃ t2, t + xl = t2 := ⟨_, rfl⟩
                    rw [ht2] at i2 hsz
                    have HS5 := hid hsz
                    clear hx htk hsz hle hxl ht2
                    go_wp2_with fail
                    go_roundw
                    case rel => exact ⟨j + 1, t2, by go_num, rfl, by omega, hid HS5.out.symm, hid (HOJ.out.alloc _)⟩
                    case measure => simp [intOf]; omega
                  · have h5' : ¬ (j : Int) < (mm.length : Int) := by omega
                    obtain rfl : j = mm.length := by omega
                    have ht := HTJ.out
                    rw [List.take_length, HTT.out] at ht
                    subst ht
                    have q2' := keepc HOJ.out q2
                    have hne : ((t : Int) != (t : Int)) = false := by simp
                    clear q2
                    go_wp2_with fail
                    go_roundw
                    case rel => exact ⟨k + 1, mm.length, mc, mA, mm, by go_num, rfl, by omega, by omega, hmc, hid rfl, hid HS2.out.symm, HKB, hid (HPX.out.keep0 HOJ.out), hid (HOX.out.new HOJ.out)⟩
                    case measure => simp [intOf]; omega
              have e6 : (r.kind == 6) = false := by simpa using k6
              have hst : mAfter (ops.take (k + 1)) = kvs mm := by
                rw [HST.out]; unfold mStep; rw [if_neg k0, if_neg k1, if_neg k11]
              have HS2 := hid hst
              have hrd : ∀ w', Only [] w5 w' → RdIn a mm r mA mm.length mc a.l.length a.vs.length r.k.length r.v.length w' := fun w' ho => ⟨HPX.out.keep0 ho, HAX.out.keep0 ho, HRX.out.keep0 ho, rfl, rfl, rfl, rfl, rfl, by omega, HB.out.2.2.1.1, HB.out.2.2.1.2, HKB.out, HT.out⟩
              have HRD := hid hrd
              clear k0 k1 k11 k6 hkd hst hrd
              go_wp2_with fail
              refine AnyT.start (S := fun w' => w'.cell? ⟨gg, go + k * 4, none⟩ = some (.slice a.pA a.l.length a.pc) ∧ w'.cell? ⟨gg, go + k * 4 + 1, none⟩ = some (.slice a.vA a.vs.length a.vc) ∧ w'.cell? ⟨gg, go + k * 4 + 2, none⟩ = some (.int .i64 a.n) ∧ w'.cell? ⟨gg, go + k * 4 + 3, none⟩ = some (.bool a.ok) ∧ w'.cell? ⟨qo, 0, none⟩ = some (.int .i64 r.kind) ∧ w'.cell? ⟨qo, 1, none⟩ = some (.slice r.ka r.k.length r.kc) ∧ w'.cell? ⟨qo, 2, none⟩ = some (.slice r.va r.v.length r.vc) ∧ w'.cell? ⟨qo, 3, none⟩ = some (.int .i64 r.n)) (T := []) (by kernel_rfl) (⟨q0, q1, q2, q3, o0, o1, o2, o3⟩) (fun hHeld => ?_)
              refine AnyT.take (i := 0) (v := ?_) (by simp only [List.getElem?_toArray, List.getElem?_cons_succ, List.getElem?_cons_zero]; rfl) (by kernel_rfl) (by kernel_rfl) (by kernel_rfl) (by kernel_rfl) (by intro _ _ _ h; exact h) (Or.inl ⟨by rfl, fun w hSw => ?_⟩) hHeld ?_
              rotate_left
              · ((try dsimp only at hSw); go_simp; first | done | with_reducible rfl | rfl)
              try simp only [Act.put, List.setIfInBounds_toArray, List.set_cons_zero, List.set_cons_succ]
              refine AnyT.take (i := 1) (v := ?_) (by simp only [List.getElem?_toArray, List.getElem?_cons_succ, List.getElem?_cons_zero]; rfl) (by kernel_rfl) (by kernel_rfl) (by kernel_rfl) (by kernel_rfl) (by intro _ _ _ h; exact h) (Or.inl ⟨by rfl, fun w hSw => ?_⟩) hHeld ?_
              rotate_left
              · ((try dsimp only at hSw); go_simp; first | done | with_reducible rfl | rfl)
              try simp only [Act.put, List.setIfInBounds_toArray, List.set_cons_zero, List.set_cons_succ]
              refine AnyT.take (i := 2) (v := ?_) (by simp only [List.getElem?_toArray, List.getElem?_cons_succ, List.getElem?_cons_zero]; rfl) (by kernel_rfl) (by kernel_rfl) (by kernel_rfl) (by kernel_rfl) (by intro _ _ _ h; exact h) (Or.inl ⟨by rfl, fun w hSw => ?_⟩) hHeld ?_
              rotate_left
              · ((try dsimp only at hSw); go_simp; first | done | with_reducible rfl | rfl)
              try simp only [Act.put, List.setIfInBounds_toArray, List.set_cons_zero, List.set_cons_succ]
              refine AnyT.take (i := 3) (v := ?_) (by simp only [List.getElem?_toArray, List.getElem?_cons_succ, List.getElem?_cons_zero]; rfl) (by kernel_rfl) (by kernel_rfl) (by kernel_rfl) (by kernel_rfl) (by intro _ _ _ h; exact h) (Or.inl ⟨by rfl, fun w hSw => ?_⟩) hHeld ?_
              rotate_left
              · ((try dsimp only at hSw); go_simp; first | done | with_reducible rfl | rfl)
              try simp only [Act.put, List.setIfInBounds_toArray, List.set_cons_zero, List.set_cons_succ]
              refine AnyT.take (i := 4) (v := ?_) (by simp only [List.getElem?_toArray, List.getElem?_cons_succ, List.getElem?_cons_zero]; rfl) (by kernel_rfl) (by kernel_rfl) (by kernel_rfl) (by kernel_rfl) (by intro _ _ _ h; exact h) (Or.inl ⟨by rfl, fun w hSw => ?_⟩) hHeld ?_
              rotate_left
              · ((try dsimp only at hSw); go_simp; first | done | with_reducible rfl | rfl)
              try simp only [Act.put, List.setIfInBounds_toArray, List.set_cons_zero, List.set_cons_succ]
              refine AnyT.take (i := 5) (v := ?_) (by simp only [List.getElem?_toArray, List.getElem?_cons_succ, List.getElem?_cons_zero]; rfl) (by kernel_rfl) (by kernel_rfl) (by kernel_rfl) (by kernel_rfl) (by intro _ _ _ h; exact h) (Or.inl ⟨by rfl, fun w hSw => ?_⟩) hHeld ?_
              rotate_left
              · ((try dsimp only at hSw); go_simp; first | done | with_reducible rfl | rfl)
              try simp only [Act.put, List.setIfInBounds_toArray, List.set_cons_zero, List.set_cons_succ]
              refine AnyT.ready (rs := [6]) (by kernel_rfl) (by simp) ?_
              refine AllT.cons (by simp only [List.getElem?_toArray, List.getElem?_cons_succ, List.getElem?_cons_zero]; rfl) (fun K hK => ?_) AllT.nil
              go_simp
              refine (read_true a mm r mA mm.length mc a.l.length a.vs.length r.k.length r.v.length _ (HRD.out _ (Only.refl _ _).drew)).mono ?_
              rintro e w6 ⟨rfl, ho6⟩
              have hod := (Only.refl [] w5).drew.trans ho6
              have u0 := keepc hod q0
              have u1 := keepc hod q1
              have u2 := keepc hod q2
              have u3 := keepc hod q3
              have v0 := keepc hod o0
              have v1 := keepc hod o1
              have v2 := keepc hod o2
              have v3 := keepc hod o3
              have HO7 := hid hod
              clear ho6 hod q0 q1 q2 q3 o0 o1 o2 o3
              try go_wp2_with fail
              refine hK.out _ _ ?_ (fun hHeld => ?_)
              · exact ⟨u0, u1, u2, u3, v0, v1, v2, v3⟩
              clear hK
              try simp only [Act.put, List.setIfInBounds_toArray, List.set_cons_zero, List.set_cons_succ]
              refine AnyT.take (i := 7) (v := ?_) (by simp only [List.getElem?_toArray, List.getElem?_cons_succ, List.getElem?_cons_zero]; rfl) (by kernel_rfl) (by kernel_rfl) (by kernel_rfl) (by kernel_rfl) (by intro _ _ _ h; exact h) (Or.inl ⟨by rfl, fun w hSw => ?_⟩) hHeld ?_
              rotate_left
              · ((try dsimp only at hSw); go_simp; first | done | with_reducible rfl | rfl)
              try simp only [Act.put, List.setIfInBounds_toArray, List.set_cons_zero, List.set_cons_succ]
              refine AnyT.done (by kernel_rfl) ?_ _
              clear hHeld u0 u1 u2 u3 v0 v1 v2 v3
              go_wp2_with fail
              go_roundw
              case rel => exact ⟨k + 1, mm.length, mc, mA, mm, by go_num, rfl, by omega, by omega, hmc, hid rfl, hid HS2.out.symm, HKB, hid (HPX.out.keep0 HO7.out), hid (HOX.out.new HO7.out)⟩
              case measure => simp [intOf]; omega
          · have h4' : ¬ (k : Int) < (n : Int) := by omega
            go_wp2_with fail
            go_ret
            exact ⟨rfl, HO3.out.new HOW.out⟩
end Go.Proofs.YtloflmcgbbbnjaaDoor
