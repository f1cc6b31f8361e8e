/-
  impl.iterated over an iterator: a script.
  memdb.DB: Delete.
  memdb: New, Reset.
  memdb: Reset.
-/
import Derived.Test.YtloflmcgbbbnjaaDoorMemM11
import Derived.Test.YtloflmcgbbbnjaaDoorMemM10
import Derived.Test.YtloflmcgbbbnjaaDoorMemM12
namespace Go.Proofs.YtloflmcgbbbnjaaDoor
open Go.RowKit Plain
set_option linter.all false

set_option maxHeartbeats 12800000 in
set_option maxRecDepth 100000 in
theorem iterd_script {T : TypeId} {v : Value} {f : ItM} {L : List KV} {I : Int → List Fr → Prop} {D : List Fr → World → Prop} (it : Iter T v f L I D) {fe fr : FuncId × Value} (ie : ItE T v fe fr L.length I D) (F R : List Fr) (w0 w : World) (hI : I (-1) F) (hD : D R w0) (hO : Own (F ++ R) w0 w)
    (kd nn : Int) (hkd : kd = 10) (kA vA : Option Addr) (kn kc vn vc : Nat) (key calls : List UInt8) (hk : Rd R w0 kA key) (hv : Rd R w0 vA calls) (hkn : kn = key.length) (hvn : vn = calls.length) (hkc : kn ≤ kc) (hkl : kn ≤ 2147483647) (hvl : vn ≤ 2147483647) (hL : L.length ≤ 1073741824) :
    Calls Tryd.prog 58 #[.iface T v, .agg #[.int .i64 kd, .slice kA kn kc, .slice vA vn vc, .int .i64 nn]] w (IdOut ((wpl L.length (mAt Prod.fst L key : Nat) calls (-1)).map (wkv L)) ((wpl L.length (mAt Prod.fst L key : Nat) calls (-1)).map (wval L.length)) R w0) := by
  obtain ⟨n, hn⟩ : ∃ n, L.length = n := ⟨_, rfl⟩
  have HNL := hid hn
  rw [hn] at hL
  obtain ⟨s0, hs0⟩ : ∃ s0, w.heap.size = s0 := ⟨_, rfl⟩
  have hO1 := ((hO.alloc' hs0 67 [.int .i64 kd, .slice kA kn kc, .slice vA vn vc, .int .i64 nn]).alloc' (g := s0 + 1) (by simp [hs0]) 58 [.slice none 0 0, .slice none 0 0, .int .i64 0, .bool false]).alloc' (g := s0 + 1 + 1) (by simp [hs0]) 58 [.slice none 0 0, .slice none 0 0, .int .i64 0, .bool false]
  have HO1 := hid hO1
  have HS := hid hs0
  have m3 := ie.mer
  have m4 := ie.mre
  have n3 := ie.cer
  have n4 := ie.cre
  have k7 : (kd == 7) = false := by subst hkd; rfl
  have k9 : (kd == 9) = false := by subst hkd; rfl
  have k8 : (kd == 8) = false := by subst hkd; rfl
  have k10 : (kd == 10) = true := by subst hkd; rfl
  have HDX := hid (fun X : List Fr => it.mono R (X ++ R) w0 (fun _ hx => List.mem_append_right _ hx) hD)
  obtain ⟨ps, hps⟩ : ∃ ps, wpl L.length (mAt Prod.fst L key : Nat) calls (-1) = ps := ⟨_, rfl⟩
  have hsc := fun w1 (X : List Fr) (hX : Own (F ++ (X ++ R)) w0 w1) => script_any it (-1) F (X ++ R) w0 w1 vA kA vn vc kn kc calls key (by rw [hn]; exact ⟨by omega, by omega⟩) hI (HDX.out X) hX (hv.mono fun y hy => by simp [hy]) (hk.mono fun y hy => by simp [hy]) hvn hkn hkc (by omega) (by omega)
  rw [hps] at hsc
  rw [hps]
  have hpl : ps.length = vn := by rw [← hps, wpl_length, hvn]
  have HSC := hid hsc
  have HPL := hid hpl
  clear hO hO1 hI hD hs0 hn hkd hk hv hkn hvn hsc hps hpl
  go_enter Tryd.func58, Tryd.ntmps58
  go_upto_region 2 with fail
  rw [HS.out]
  generalize hW : (World.alloc _ _) = W at HO1 ⊢
  clear hW
  obtain ⟨q4, hq4⟩ : ∃ q4, s0 + 1 = q4 := ⟨_, rfl⟩
  rw [hq4] at HO1 ⊢
  obtain ⟨qa, hqa⟩ : ∃ qa, q4 + 1 = qa := ⟨_, rfl⟩
  rw [hqa] at HO1 ⊢
  clear hq4 hqa
  have ck : W.cell? ⟨s0, 0, none⟩ = some (.int .i64 kd) := HO1.out.cell 2 rfl (k := 0) 0 rfl (by simp)
  have ck1 : W.cell? ⟨s0, 1, none⟩ = some (.slice kA kn kc) := HO1.out.cell 2 rfl (k := 1) 1 rfl (by simp)
  have ck2 : W.cell? ⟨s0, 2, none⟩ = some (.slice vA vn vc) := HO1.out.cell 2 rfl (k := 2) 2 rfl (by simp)
  have HO2 := hid (HO1.out.perm (L' := F ++ ([fw qa 58 [.slice none 0 0, .slice none 0 0, .int .i64 0, .bool false], fw q4 58 [.slice none 0 0, .slice none 0 0, .int .i64 0, .bool false], fw s0 67 [.int .i64 kd, .slice kA kn kc, .slice vA vn vc, .int .i64 nn]] ++ R)) (perm_of fun _ _ z => by simp only [List.count_append, List.count_cons, List.cons_append, List.count_nil, List.nil_append, List.append_nil]; omega))
  clear HO1
  go_wp2_with fail
  refine (HSC.out _ _ HO2.out).mono ?_
  rintro e w2 ⟨A, B, c, d, l, G, F', p', rfl, hl, hp, hv, h1, h2, hI2, hO2⟩
  have HL := hid hl.out
  have HP := hid hp.out
  have HV := hid hv.out
  have HI2 := hid hI2.out
  have hO3 := hO2.out.perm (L' := fw qa 58 [.slice none 0 0, .slice none 0 0, .int .i64 0, .bool false] :: (fw q4 58 [.slice none 0 0, .slice none 0 0, .int .i64 0, .bool false] :: (F' ++ (G ++ ([fw s0 67 [.int .i64 kd, .slice kA kn kc, .slice vA vn vc, .int .i64 nn]] ++ R))))) (perm_of fun _ _ z => by simp only [List.count_append, List.count_cons, List.cons_append, List.count_nil, List.nil_append, List.append_nil]; omega)
  have HO3 := hid hO3
  have c0 : w2.cell? ⟨qa, 0, none⟩ = some (.slice none 0 0) := hO3.cell 0 rfl (k := 0) 0 rfl (by simp)
  have c1 : w2.cell? ⟨qa, 1, none⟩ = some (.slice none 0 0) := hO3.cell 0 rfl (k := 1) 1 rfl (by simp)
  have fz := hO3.frozen 0 rfl
  have h01 : Own (fw qa 58 [.slice A vn c, .slice none 0 0, .int .i64 0, .bool false] :: (fw q4 58 [.slice none 0 0, .slice none 0 0, .int .i64 0, .bool false] :: (F' ++ (G ++ ([fw s0 67 [.int .i64 kd, .slice kA kn kc, .slice vA vn vc, .int .i64 nn]] ++ R))))) w0 _ := hO3.set (k := 0) 0 rfl (by simp) (.slice A vn c)
  have h02 : Own (fw qa 58 [.slice A vn c, .slice B vn d, .int .i64 0, .bool false] :: (fw q4 58 [.slice none 0 0, .slice none 0 0, .int .i64 0, .bool false] :: (F' ++ (G ++ ([fw s0 67 [.int .i64 kd, .slice kA kn kc, .slice vA vn vc, .int .i64 nn]] ++ R))))) w0 _ := h01.set (k := 1) 1 rfl (by simp) (.slice B vn d)
  have HO4 := hid h02
  clear h01 h02 hO3 HO3 hl hp hv hI2 hO2 HO2 ck ck1 ck2 HSC
  go_upto_region 16 with fail
  generalize (World.setCell _ _ _) = W3 at HO4 ⊢
  clear c0 c1 fz
  have HOA := hid (HO4.out.perm (L' := F' ++ ((fw qa 58 [.slice A vn c, .slice B vn d, .int .i64 0, .bool false] :: fw q4 58 [.slice none 0 0, .slice none 0 0, .int .i64 0, .bool false] :: (G ++ [fw s0 67 [.int .i64 kd, .slice kA kn kc, .slice vA vn vc, .int .i64 nn]])) ++ R)) (perm_of fun _ _ z => by simp only [List.count_append, List.count_cons, List.cons_append, List.count_nil, List.nil_append, List.append_nil]; omega))
  go_wp2_with fail
  refine (ie.err p' F' _ w0 _ HI2.out.1 HI2.out.2 (HDX.out _) HOA.out).mono ?_
  rintro e w4 ⟨rfl, rfl⟩
  have c3 : W3.cell? ⟨qa, 3, none⟩ = some (.bool false) := HO4.out.cell 0 rfl (k := 3) 3 rfl (by simp)
  have f3 := HO4.out.frozen 0 rfl 3
  have HOB := hid (show Own (fw qa 58 [.slice A vn c, .slice B vn d, .int .i64 0, .bool true] :: (fw q4 58 [.slice none 0 0, .slice none 0 0, .int .i64 0, .bool false] :: (F' ++ (G ++ ([fw s0 67 [.int .i64 kd, .slice kA kn kc, .slice vA vn vc, .int .i64 nn]] ++ R))))) w0 _ from HO4.out.set (k := 3) 3 rfl (by simp) (.bool true))
  clear HOA
  go_upto_region 17 with fail
  generalize (World.setCell _ _ _) = W4 at HOB ⊢
  clear c3 f3 HO4
  have HOC := hid (HOB.out.perm (L' := F' ++ ((fw qa 58 [.slice A vn c, .slice B vn d, .int .i64 0, .bool true] :: fw q4 58 [.slice none 0 0, .slice none 0 0, .int .i64 0, .bool false] :: (G ++ [fw s0 67 [.int .i64 kd, .slice kA kn kc, .slice vA vn vc, .int .i64 nn]])) ++ R)) (perm_of fun _ _ z => by simp only [List.count_append, List.count_cons, List.cons_append, List.count_nil, List.nil_append, List.append_nil]; omega))
  clear HOB
  go_wp2_with fail
  refine (ie.rel p' F' _ w0 _ HI2.out.1 HI2.out.2 (HDX.out _) HOC.out).mono ?_
  rintro e w5 ⟨rfl, F9, hO9⟩
  have hOD := hO9.perm (L' := fw q4 58 [.slice none 0 0, .slice none 0 0, .int .i64 0, .bool false] :: (fw qa 58 [.slice A vn c, .slice B vn d, .int .i64 0, .bool true] :: (F9 ++ (G ++ ([fw s0 67 [.int .i64 kd, .slice kA kn kc, .slice vA vn vc, .int .i64 nn]] ++ R))))) (perm_of fun _ _ z => by simp only [List.count_append, List.count_cons, List.cons_append, List.count_nil, List.nil_append, List.append_nil]; omega)
  have c0 : w5.cell? ⟨qa, 0, none⟩ = some (.slice A vn c) := hOD.cell 1 rfl (k := 0) 0 rfl (by simp)
  have c1 : w5.cell? ⟨qa, 1, none⟩ = some (.slice B vn d) := hOD.cell 1 rfl (k := 1) 1 rfl (by simp)
  have c2 : w5.cell? ⟨qa, 2, none⟩ = some (.int .i64 0) := hOD.cell 1 rfl (k := 2) 2 rfl (by simp)
  have c3 : w5.cell? ⟨qa, 3, none⟩ = some (.bool true) := hOD.cell 1 rfl (k := 3) 3 rfl (by simp)
  have HOD := hid hOD
  clear hO9 hOD HOC
  go_wp2_with (refine own_store_row rfl 58 (.tmp 4) (.tmp 59) rfl q4 _ rfl rfl 58 _ HOD.out (by kernel_rfl) (by simp) (by simp [Value.oneCell']) ?_; intro w6 hO6; have qa0 : w6.cell? ⟨q4, 0, none⟩ = some (.slice A vn c) := hO6.cell 0 rfl (k := 0) 0 rfl (by simp); have qa1 : w6.cell? ⟨q4, 1, none⟩ = some (.slice B vn d) := hO6.cell 0 rfl (k := 1) 1 rfl (by simp); have qa2 : w6.cell? ⟨q4, 2, none⟩ = some (.int .i64 0) := hO6.cell 0 rfl (k := 2) 2 rfl (by simp); have qa3 : w6.cell? ⟨q4, 3, none⟩ = some (.bool true) := hO6.cell 0 rfl (k := 3) 3 rfl (by simp); have HO6 := hid hO6; clear hO6)
  refine bodyPost_ret (v := .agg #[.slice A vn c, .slice B vn d, .int .i64 0, .bool true]) ?_ rfl ?_
  · simp [results, Tryd.results58, go_sem, qa0, qa1, qa2, qa3]
  · refine ⟨⟨A, c, l, B, d, ps.map (wval L.length), 0, true⟩, vn, vn, fw q4 58 [.slice A vn c, .slice B vn d, .int .i64 0, .bool true] :: (fw qa 58 [.slice A vn c, .slice B vn d, .int .i64 0, .bool true] :: (F9 ++ (G ++ [fw s0 67 [.int .i64 kd, .slice kA kn kc, .slice vA vn vc, .int .i64 nn]]))), rfl, hid ⟨HL.out.1.symm, by simp [HPL.out]⟩, hid ⟨HL.out.2, rfl, rfl, rfl⟩, hid fun wb => ?_, hid (HO6.out.perm (perm_of fun _ _ z => by simp only [List.count_append, List.count_cons, List.cons_append, List.count_nil, List.nil_append, List.append_nil]; omega))⟩
    exact fun w hw hb => ⟨HP.out wb w hw fun y hy => hb y (by simp [hy]), HV.out wb w hw fun y hy => hb y (by simp [hy])⟩
end Go.Proofs.YtloflmcgbbbnjaaDoor
namespace Go.Proofs.YtloflmcgbbbnjaaDoor
open Go.RowKit Plain
set_option linter.all false

namespace Plain
theorem skip_del_at {nd : List Nat} {mh : Nat} {A B : List Nd} {z : Nd} (hs : Skip nd mh (A ++ z :: B)) {P : Nat → Nat} (hP : ∀ i, i < z.h → P i = pv i (hdN :: A) 0) :
    (∀ k, k < z.h → (delN nd P k)[P k + 4 + k]? = some z.p ∧ z.p + 4 + k < nd.length) ∧ ∀ j, j < 4 → (delN nd P z.h)[z.p + j]? = nd[z.p + j]? := by
  have hz12 : z.h ≤ 12 := by have := (hs.high z (by simp)).2; have := hs.m2; omega
  have hzm : z ∈ hdN :: (A ++ z :: B) := by simp
  have hsub : ∀ x ∈ hdN :: A, x ∈ hdN :: (A ++ z :: B) := fun x hx => by
    rcases List.mem_cons.1 hx with rfl | hx
    · simp
    · simp [hx]
  have hoff' := hs.off
  rw [← List.cons_append] at hoff'
  obtain ⟨p1, p2, p3⟩ := List.pairwise_append.1 hoff'
  have hfr : ∀ i, i < z.h → ∃ x ∈ hdN :: A, i < x.h ∧ P i = x.p ∧ nd[x.p + 4 + i]? = some z.p := fun i hi => by
    obtain ⟨x, hx, q1, q2, q3⟩ := front_last hs.linked (i := i) (by omega)
    rw [nx_hit _ hi] at q3
    exact ⟨x, hx, q1, (hP i hi).trans q2, q3⟩
  have hPz : ∀ i, i < z.h → nd[P i + 4 + i]? = some z.p := fun i hi => by
    obtain ⟨x, hx, q1, q2, q3⟩ := hfr i hi
    rw [q2]; exact q3
  have hzr := hs.room z hzm
  have hinj : ∀ i j, i < z.h → j < z.h → P i + 4 + i = P j + 4 + j → i = j := fun i j hi hj e => by
    obtain ⟨x, hx, q1, q2, _⟩ := hfr i hi
    obtain ⟨y, hy, r1, r2, _⟩ := hfr j hj
    exact (off_p hs.off (hsub x hx) (hsub y hy) q1 r1 (by omega)).2
  have hne : ∀ i j, i < z.h → j < z.h → P i + 4 + i ≠ z.p + 4 + j := fun i j hi hj e => by
    obtain ⟨x, hx, q1, q2, _⟩ := hfr i hi
    rcases p3 x hx z (by simp) with h | h <;> omega
  have hnh : ∀ i j, i < z.h → j < 4 → z.p + j ≠ P i + 4 + i := fun i j hi hj e => by
    obtain ⟨x, hx, q1, q2, _⟩ := hfr i hi
    rcases p3 x hx z (by simp) with h | h <;> omega
  refine ⟨fun k hk => ?_, fun j hj => ?_⟩
  · obtain ⟨h1, h2⟩ := delN_get hPz (fun i hi => by omega) hne hinj k (by omega)
    refine ⟨?_, by omega⟩
    rw [h1 _ (fun i hi e => by have := hinj k i (by omega) (by omega) e; omega)]
    exact hPz k hk
  · obtain ⟨h1, h2⟩ := delN_get hPz (fun i hi => by omega) hne hinj z.h (Nat.le_refl _)
    exact h1 _ fun i hi => hnh i j hi hj
end Plain
def DelOut (g : Nat) (es : List En) (key : List UInt8) (K N : Nat) (R : List Fr) (w0 : World) (e : Ending) (w' : World) : Prop :=
  ((mIs En.k es key = true ∧ e = .returned .nilIface) ∨ (mIs En.k es key = false ∧ e = .returned (.iface 231 (.string { data := #[108, 101, 118, 101, 108, 100, 98, 58, 32, 110, 111, 116, 32, 102, 111, 117, 110, 100] })))) ∧ ∃ es', es'.map En.kv = mDel Prod.fst (es.map En.kv) key ∧ DbSt g es' K N R w0 w'
set_option maxHeartbeats 3200000 in
set_option maxRecDepth 100000 in
theorem del_none (g x : Nat) (A kA : Option Addr) (n1 c1 b n2 c2 mh kn kc K N : Nat) (pv0 : List Nat) (kv : List UInt8) (nd : List Nat) (F G : List Fr) (es : List En) (key : List UInt8) (R : List Fr) (w0 w : World)
    (hS : DbS es K N A n1 c1 b n2 c2 pv0 mh kv nd F G) (hO : Own (dFr g x A n1 c1 b n2 c2 pv0 mh es.length (szKv (es.map En.kv)) :: (F ++ (G ++ R))) w0 w) (hi : mIs En.k es key = false) (hk : Rd R w0 kA key) (hkn : kn = key.length) (hK : K ≤ 1073741824) (hN : N ≤ 1048576) :
    Calls Tryd.prog 66 #[.pointer (some ⟨g, 0, none⟩), .slice kA kn kc] w (DelOut g es key K N R w0) := by
  have HG := hid (findGE_p g x A kA n1 c1 b n2 c2 mh es.length (szKv (es.map En.kv)) kn kc pv0 kv nd es key (F ++ (G ++ R)) w0 w hS.ok hS.hp hO (hS.rd (fun y hy => by simp [hy])) (hS.nst hN (fun y hy => by simp [hy])) (hk.mono (fun y hy => by simp [hy])) hS.n1l hS.rk.le (by have := hS.bk; have := hS.n1l; omega) hkn)
  rw [hi] at HG
  have HS := hid hS
  have HI := hid hi
  obtain ⟨p, hp⟩ : ∃ p, nodeOf es (mAt En.k es key) = p := ⟨_, rfl⟩
  obtain ⟨sz, hsz'⟩ : ∃ sz, szKv (es.map En.kv) = sz := ⟨_, rfl⟩
  obtain ⟨n, hn⟩ : ∃ n, es.length = n := ⟨_, rfl⟩
  rw [hp, hsz', hn] at HG
  have HN := hid (And.intro hn hsz')
  clear hS hO hi hk hkn hp hsz' hn
  go_enter Tryd.func66, Tryd.ntmps66
  go_wp2_with fail
  refine HG.out.mono ?_
  rintro e w1 ⟨rfl, pv1, hrec, hO1⟩
  have HO1 := hid hO1
  have HREC := hid hrec
  clear hO1 hrec HG
  go_wp2_with fail
  go_ret
  refine ⟨.inr ⟨HI.out, rfl⟩, es, ?_, x, A, n1, c1, b, n2, c2, pv1, mh, kv, nd, F, G, ⟨HREC.out.1, HS.out.ok, HS.out.rk, HS.out.rn, HS.out.bk, HS.out.bn⟩, ?_⟩
  · unfold mDel
    rw [mIs_map, HI.out, if_neg (by simp)]
  · rw [HN.out.1, HN.out.2]
    exact HO1.out
set_option maxHeartbeats 6400000 in
set_option maxRecDepth 100000 in
theorem del_is_any (g x : Nat) (A kA : Option Addr) (n1 c1 b n2 c2 mh kn kc K N : Nat) (pv0 : List Nat) (kv : List UInt8) (nd : List Nat) (F G : List Fr) (es : List En) (key : List UInt8) (R : List Fr) (w0 w : World)
    (hS : DbS es K N A n1 c1 b n2 c2 pv0 mh kv nd F G) (hO : Own (dFr g x A n1 c1 b n2 c2 pv0 mh es.length (szKv (es.map En.kv)) :: (F ++ (G ++ R))) w0 w) (hi : mIs En.k es key = true) (hk : Rd R w0 kA key) (hkn : kn = key.length) (hK : K ≤ 1073741824) (hN : N ≤ 1048576) (hsz : szKv (es.map En.kv) ≤ K) (hel : es.length ≤ N) :
    Calls Tryd.prog 66 #[.pointer (some ⟨g, 0, none⟩), .slice kA kn kc] w (DelOut g es key K N R w0) := by
  obtain ⟨en, he, hkk⟩ := mIs_get hi
  have hem := List.mem_of_getElem? he
  have hno : nodeOf es (mAt En.k es key) = en.nd.p := by unfold nodeOf; rw [he]
  have HG := hid (findGE_p g x A kA n1 c1 b n2 c2 mh es.length (szKv (es.map En.kv)) kn kc pv0 kv nd es key (F ++ (G ++ R)) w0 w hS.ok hS.hp hO (hS.rd (fun y hy => by simp [hy])) (hS.nst hN (fun y hy => by simp [hy])) (hk.mono (fun y hy => by simp [hy])) hS.n1l hS.rk.le (by have := hS.bk; have := hS.n1l; omega) hkn)
  rw [hno, hi] at HG
  have hdel := sz_del (es' := es.map En.kv) (key := key) (v0 := en.v) (by rw [mIs_map]; exact hi) (by rw [mAt_map, List.getElem?_map, he, ← hkk]; rfl)
  have hn1 := hS.n1l
  have hn2 := hS.n2l
  have hbn := hS.bn
  have hh := hS.ok.high hem
  have hm2 := hS.ok.skip.m2
  have hat := hS.ok.at_ hem
  have hl0 := (List.getElem?_eq_some_iff.1 hat.2.2.2).1
  have hkl := (hS.ok.key en hem).1
  have hvl := (hS.ok.val en hem).1
  rw [hkk] at hkl
  obtain ⟨sz, hsz'⟩ : ∃ sz, szKv (es.map En.kv) = sz := ⟨_, rfl⟩
  rw [hsz'] at HG hsz hdel hO
  obtain ⟨n, hn⟩ : ∃ n, es.length = n := ⟨_, rfl⟩
  rw [hn] at HG hel
  have hnpos : 1 ≤ n := by rw [← hn]; exact List.length_pos_of_mem hem
  obtain ⟨m, hm⟩ : ∃ m, mAt En.k es key = m := ⟨_, rfl⟩
  rw [hm] at HG he
  have HS := hid hS
  have HE := hid (And.intro he hkk)
  have HI := hid hi
  have HKN := hid hkn
  have HDEL := hid hdel
  have HKL := hid (And.intro hkl hvl)
  have HN := hid (And.intro hn hsz')
  have HM := hid hm
  have hn2b : n2 ≤ 16 + 16 * N := by omega
  have hndl : nd.length = n2 := by omega
  rw [hndl] at hl0
  have HNDL := hid hndl
  obtain ⟨p, hp⟩ : ∃ p, en.nd.p = p := ⟨_, rfl⟩
  obtain ⟨h, hhe⟩ : ∃ h, en.nd.h = h := ⟨_, rfl⟩
  rw [hp] at HG hl0 hat
  rw [hhe] at hh hat
  have HP := hid (And.intro hp hhe)
  have HAT := hid hat
  have hh12 : h ≤ 12 := by omega
  have hhm : h ≤ mh := by omega
  clear hS hO he hkk hi hk hkn hdel hsz' hn hn1 hn2 hbn hp hm hno hem hhe hat hkl hvl hh hndl
  go_enter Tryd.func66, Tryd.ntmps66
  go_wp2_with fail
  refine HG.out.mono ?_
  rintro e w1 ⟨rfl, pv1, hrec, hO1⟩
  have HO1 := hid hO1
  have HREC := hid hrec
  have hc1 := dFr_cells hrec.1 hO1
  have q3 := hc1.q3
  have HNA := NdAt.of (n2 := n2) (HS.out.rn.csO (ownN hO1)) HNDL.out.symm (by omega)
  have a3 := (HNA.cell _ _ HAT.out.2.2.2).1
  have s3 : IntKind.i64.wrap ((p : Int) + 3) = ((p + 3 : Nat) : Int) := wrap_add p 3 (by omega)
  obtain ⟨p3, hp3⟩ : ∃ p3, p + 3 = p3 := ⟨_, rfl⟩
  rw [hp3] at s3 a3 hl0
  have hl3 : (p3 : Int) < (n2 : Int) := by omega
  have h12 : (h : Int) ≤ 12 := by omega
  clear hO1 hrec HG hc1 HNA
  go_wp2_with fail
  go_loopw [34] (fun s wr => ∃ (k : Nat), s = .int .i64 k ∧ k ≤ h ∧ Hid (NdOut g x A n1 c1 pv1 mh n sz (delN nd (fun i => pv i (front es m) 0) k) b n2 c2 F R w0 wr)) (fun s _ => h - (intOf s).toNat)
  case atStart => exact ⟨0, rfl, Nat.zero_le _, hid ⟨G, hid HS.out.rn, HO1⟩⟩
  case round =>
    clear q3 a3 HO1
    obtain ⟨k, rfl, hk, HND⟩ := hrel
    obtain ⟨w2, rfl⟩ : ∃ w2, w2 = wr := ⟨_, rfl⟩
    obtain ⟨G6, HR6, HO6⟩ := HND.out
    clear HND
    have hc6 := dFr_cells HREC.out.1 HO6.out
    by_cases h4 : k < h
    · have h4' : (k : Int) < (h : Int) := by omega
      obtain ⟨pk, hpk⟩ : ∃ pk, pv k (front es m) 0 = pk := ⟨_, rfl⟩
      have ck := dFr_pvc HREC.out.1 HO6.out (HREC.out.2 k (Nat.zero_le _) (by omega))
      rw [hpk] at ck
      have hsk := HS.out.ok.skip
      obtain ⟨hs1, -⟩ := set_split HE.out.1 en
      conv at hsk => arg 3; rw [hs1]
      rw [List.map_append, List.map_cons] at hsk
      obtain ⟨hd1, hd2⟩ := (skip_del_at hsk (P := fun i => pv i (front es m) 0) (fun i _ => rfl)).1 k (by rw [HP.out.2]; exact h4)
      rw [HP.out.1] at hd1 hd2
      rw [hpk] at hd1
      rw [HNDL.out] at hd2
      have hil := delN_length nd (fun i => pv i (front es m) 0) k
      have hgl : (delN nd (fun i => pv i (front es m) 0) k)[p + 4 + k]? = some ((delN nd (fun i => pv i (front es m) 0) k).getD (p + 4 + k) 0) := by
        rw [List.getD_eq_getElem?_getD, List.getElem?_eq_getElem (by rw [hil, HNDL.out]; omega), Option.getD_some]
      have hlt := (List.getElem?_eq_some_iff.1 hd1).1
      rw [hil, HNDL.out] at hlt
      obtain ⟨u, hu⟩ : ∃ u, (delN nd (fun i => pv i (front es m) 0) k).getD (p + 4 + k) 0 = u := ⟨_, rfl⟩
      rw [hu] at hgl
      have hna := NdAt.of (n2 := n2) (HR6.out.csO (ownN HO6.out)) (by rw [hil, HNDL.out]) (by omega)
      have cv := (hna.cell _ _ hd1).1
      have cu := (hna.cell _ _ hgl).1
      have q3 := hc6.q3
      have s1 : IntKind.i64.wrap ((pk : Int) + 4) = ((pk + 4 : Nat) : Int) := wrap_add pk 4 (by omega)
      have s2 : IntKind.i64.wrap (((pk + 4 : Nat) : Int) + (k : Int)) = ((pk + 4 + k : Nat) : Int) := wrap_add (pk + 4) k (by omega)
      have t1 : IntKind.i64.wrap ((p : Int) + 4) = ((p + 4 : Nat) : Int) := wrap_add p 4 (by omega)
      have t2 : IntKind.i64.wrap (((p + 4 : Nat) : Int) + (k : Int)) = ((p + 4 + k : Nat) : Int) := wrap_add (p + 4) k (by omega)
      have hdel : delN nd (fun i => pv i (front es m) 0) (k + 1) = (delN nd (fun i => pv i (front es m) 0) k).set (pk + 4 + k) u := by
        show (delN nd (fun i => pv i (front es m) 0) k).set (pv k (front es m) 0 + 4 + k) ((delN nd (fun i => pv i (front es m) 0) k).getD ((delN nd (fun i => pv i (front es m) 0) k).getD (pv k (front es m) 0 + 4 + k) 0 + 4 + k) 0) = _
        rw [hpk]
        have e1 : (delN nd (fun i => pv i (front es m) 0) k).getD (pk + 4 + k) 0 = p := by rw [List.getD_eq_getElem?_getD, hd1]; rfl
        rw [e1, hu]
      obtain ⟨i1, hi1⟩ : ∃ i1, pk + 4 = i1 := ⟨_, rfl⟩
      rw [hi1] at s1 s2 cv hlt hdel
      obtain ⟨i2, hi2⟩ : ∃ i2, i1 + k = i2 := ⟨_, rfl⟩
      rw [hi2] at s2 cv hlt hdel
      obtain ⟨j1, hj1⟩ : ∃ j1, p + 4 = j1 := ⟨_, rfl⟩
      rw [hj1] at t1 t2 cu hd2
      obtain ⟨j2, hj2⟩ : ∃ j2, j1 + k = j2 := ⟨_, rfl⟩
      rw [hj2] at t2 cu hd2
      have l1 : (i2 : Int) < (n2 : Int) := by omega
      have l2 : (j2 : Int) < (n2 : Int) := by omega
      have HDL := hid hdel
      clear hil hgl hu hi1 hi2 hj1 hj2 hd1 hs1 hsk hpk hdel hna hc6
      generalize delN nd (fun i => pv i (front es m) 0) k = ik at *
      obtain ⟨G8, hG8, hO8, f8⟩ := HR6.out.put (ownN HO6.out.drew) (i := i2) hlt (.int .i64 (u : Int))
      rw [← ni_set] at hG8
      have HG8 := hid hG8
      have HO8 := hid (ownN' hO8)
      clear hG8 hO8
      go_wp2_with fail
      refine AnyT.start (S := fun w' => w'.cell? ⟨g, 3, none⟩ = some (.slice (some ⟨b, 0, none⟩) n2 c2) ∧ w'.cell? ⟨b, i2, none⟩ = some (.int .i64 (p : Int)) ∧ w'.cell? ⟨b, j2, none⟩ = some (.int .i64 (u : Int))) (T := [22]) (by kernel_rfl) (⟨q3, cv, cu⟩) (fun hHeld => ?_)
      refine AnyT.take (i := 0) (v := ?_) (by simp only [List.getElem?_toArray, List.getElem?_cons_succ, List.getElem?_cons_zero]; rfl) (by kernel_rfl) (by kernel_rfl) (by kernel_rfl) (by kernel_rfl) (by intro _ _ _ h; exact h) (Or.inl ⟨by rfl, fun w hSw => ?_⟩) hHeld ?_
      rotate_left
      · ((try dsimp only at hSw); go_simp; first | done | with_reducible rfl | rfl)
      try simp only [Act.put, List.setIfInBounds_toArray, List.set_cons_zero, List.set_cons_succ]
      refine AnyT.take (i := 1) (v := ?_) (by simp only [List.getElem?_toArray, List.getElem?_cons_succ, List.getElem?_cons_zero]; rfl) (by kernel_rfl) (by kernel_rfl) (by kernel_rfl) (by kernel_rfl) (by intro _ _ _ h; exact h) (Or.inl ⟨by rfl, fun w hSw => ?_⟩) hHeld ?_
      rotate_left
      · ((try dsimp only at hSw); go_simp; first | done | with_reducible rfl | rfl)
      try simp only [Act.put, List.setIfInBounds_toArray, List.set_cons_zero, List.set_cons_succ]
      refine AnyT.take (i := 2) (v := ?_) (by simp only [List.getElem?_toArray, List.getElem?_cons_succ, List.getElem?_cons_zero]; rfl) (by kernel_rfl) (by kernel_rfl) (by kernel_rfl) (by kernel_rfl) (by intro _ _ _ h; exact h) (Or.inl ⟨by rfl, fun w hSw => ?_⟩) hHeld ?_
      rotate_left
      · ((try dsimp only at hSw); go_simp; first | done | with_reducible rfl | rfl)
      try simp only [Act.put, List.setIfInBounds_toArray, List.set_cons_zero, List.set_cons_succ]
      refine AnyT.take (i := 3) (v := ?_) (by simp only [List.getElem?_toArray, List.getElem?_cons_succ, List.getElem?_cons_zero]; rfl) (by kernel_rfl) (by kernel_rfl) (by kernel_rfl) (by kernel_rfl) (by intro _ _ _ h; exact h) (Or.inl ⟨by rfl, fun w hSw => ?_⟩) hHeld ?_
      rotate_left
      · ((try dsimp only at hSw); go_simp; first | done | with_reducible rfl | rfl)
      try simp only [Act.put, List.setIfInBounds_toArray, List.set_cons_zero, List.set_cons_succ]
      refine AnyT.take (i := 4) (v := ?_) (by simp only [List.getElem?_toArray, List.getElem?_cons_succ, List.getElem?_cons_zero]; rfl) (by kernel_rfl) (by kernel_rfl) (by kernel_rfl) (by kernel_rfl) (by intro _ _ _ h; exact h) (Or.inl ⟨by rfl, fun w hSw => ?_⟩) hHeld ?_
      rotate_left
      · ((try dsimp only at hSw); go_simp; first | done | with_reducible rfl | rfl)
      try simp only [Act.put, List.setIfInBounds_toArray, List.set_cons_zero, List.set_cons_succ]
      refine AnyT.take (i := 5) (v := ?_) (by simp only [List.getElem?_toArray, List.getElem?_cons_succ, List.getElem?_cons_zero]; rfl) (by kernel_rfl) (by kernel_rfl) (by kernel_rfl) (by kernel_rfl) (by intro _ _ _ h; exact h) (Or.inl ⟨by rfl, fun w hSw => ?_⟩) hHeld ?_
      rotate_left
      · ((try dsimp only at hSw); go_simp; first | done | with_reducible rfl | rfl)
      try simp only [Act.put, List.setIfInBounds_toArray, List.set_cons_zero, List.set_cons_succ]
      refine AnyT.take (i := 6) (v := ?_) (by simp only [List.getElem?_toArray, List.getElem?_cons_succ, List.getElem?_cons_zero]; rfl) (by kernel_rfl) (by kernel_rfl) (by kernel_rfl) (by kernel_rfl) (by intro _ _ _ h; exact h) (Or.inl ⟨by rfl, fun w hSw => ?_⟩) hHeld ?_
      rotate_left
      · ((try dsimp only at hSw); go_simp; first | done | with_reducible rfl | rfl)
      try simp only [Act.put, List.setIfInBounds_toArray, List.set_cons_zero, List.set_cons_succ]
      refine AnyT.take (i := 7) (v := ?_) (by simp only [List.getElem?_toArray, List.getElem?_cons_succ, List.getElem?_cons_zero]; rfl) (by kernel_rfl) (by kernel_rfl) (by kernel_rfl) (by kernel_rfl) (by intro _ _ _ h; exact h) (Or.inl ⟨by rfl, fun w hSw => ?_⟩) hHeld ?_
      rotate_left
      · ((try dsimp only at hSw); go_simp; first | done | with_reducible rfl | rfl)
      try simp only [Act.put, List.setIfInBounds_toArray, List.set_cons_zero, List.set_cons_succ]
      refine AnyT.take (i := 8) (v := ?_) (by simp only [List.getElem?_toArray, List.getElem?_cons_succ, List.getElem?_cons_zero]; rfl) (by kernel_rfl) (by kernel_rfl) (by kernel_rfl) (by kernel_rfl) (by intro _ _ _ h; exact h) (Or.inl ⟨by rfl, fun w hSw => ?_⟩) hHeld ?_
      rotate_left
      · ((try dsimp only at hSw); go_simp; first | done | with_reducible rfl | rfl)
      try simp only [Act.put, List.setIfInBounds_toArray, List.set_cons_zero, List.set_cons_succ]
      refine AnyT.take (i := 9) (v := ?_) (by simp only [List.getElem?_toArray, List.getElem?_cons_succ, List.getElem?_cons_zero]; rfl) (by kernel_rfl) (by kernel_rfl) (by kernel_rfl) (by kernel_rfl) (by intro _ _ _ h; exact h) (Or.inl ⟨by rfl, fun w hSw => ?_⟩) hHeld ?_
      rotate_left
      · ((try dsimp only at hSw); go_simp; first | done | with_reducible rfl | rfl)
      try simp only [Act.put, List.setIfInBounds_toArray, List.set_cons_zero, List.set_cons_succ]
      refine AnyT.take (i := 10) (v := ?_) (by simp only [List.getElem?_toArray, List.getElem?_cons_succ, List.getElem?_cons_zero]; rfl) (by kernel_rfl) (by kernel_rfl) (by kernel_rfl) (by kernel_rfl) (by intro _ _ _ h; exact h) (Or.inl ⟨by rfl, fun w hSw => ?_⟩) hHeld ?_
      rotate_left
      · ((try dsimp only at hSw); go_simp; first | done | with_reducible rfl | rfl)
      try simp only [Act.put, List.setIfInBounds_toArray, List.set_cons_zero, List.set_cons_succ]
      refine AnyT.take (i := 11) (v := ?_) (by simp only [List.getElem?_toArray, List.getElem?_cons_succ, List.getElem?_cons_zero]; rfl) (by kernel_rfl) (by kernel_rfl) (by kernel_rfl) (by kernel_rfl) (by intro _ _ _ h; exact h) (Or.inl ⟨by rfl, fun w hSw => ?_⟩) hHeld ?_
      rotate_left
      · ((try dsimp only at hSw); go_simp; first | done | with_reducible rfl | rfl)
      try simp only [Act.put, List.setIfInBounds_toArray, List.set_cons_zero, List.set_cons_succ]
      refine AnyT.take (i := 12) (v := ?_) (by simp only [List.getElem?_toArray, List.getElem?_cons_succ, List.getElem?_cons_zero]; rfl) (by kernel_rfl) (by kernel_rfl) (by kernel_rfl) (by kernel_rfl) (by intro _ _ _ h; exact h) (Or.inl ⟨by rfl, fun w hSw => ?_⟩) hHeld ?_
      rotate_left
      · ((try dsimp only at hSw); go_simp; first | done | with_reducible rfl | rfl)
      try simp only [Act.put, List.setIfInBounds_toArray, List.set_cons_zero, List.set_cons_succ]
      refine AnyT.take (i := 13) (v := ?_) (by simp only [List.getElem?_toArray, List.getElem?_cons_succ, List.getElem?_cons_zero]; rfl) (by kernel_rfl) (by kernel_rfl) (by kernel_rfl) (by kernel_rfl) (by intro _ _ _ h; exact h) (Or.inl ⟨by rfl, fun w hSw => ?_⟩) hHeld ?_
      rotate_left
      · ((try dsimp only at hSw); go_simp; first | done | with_reducible rfl | rfl)
      try simp only [Act.put, List.setIfInBounds_toArray, List.set_cons_zero, List.set_cons_succ]
      refine AnyT.take (i := 14) (v := ?_) (by simp only [List.getElem?_toArray, List.getElem?_cons_succ, List.getElem?_cons_zero]; rfl) (by kernel_rfl) (by kernel_rfl) (by kernel_rfl) (by kernel_rfl) (by intro _ _ _ h; exact h) (Or.inl ⟨by rfl, fun w hSw => ?_⟩) hHeld ?_
      rotate_left
      · ((try dsimp only at hSw); go_simp; first | done | with_reducible rfl | rfl)
      try simp only [Act.put, List.setIfInBounds_toArray, List.set_cons_zero, List.set_cons_succ]
      refine AnyT.take (i := 15) (v := ?_) (by simp only [List.getElem?_toArray, List.getElem?_cons_succ, List.getElem?_cons_zero]; rfl) (by kernel_rfl) (by kernel_rfl) (by kernel_rfl) (by kernel_rfl) (by intro _ _ _ h; exact h) (Or.inl ⟨by rfl, fun w hSw => ?_⟩) hHeld ?_
      rotate_left
      · ((try dsimp only at hSw); go_simp; first | done | with_reducible rfl | rfl)
      try simp only [Act.put, List.setIfInBounds_toArray, List.set_cons_zero, List.set_cons_succ]
      refine AnyT.take (i := 16) (v := ?_) (by simp only [List.getElem?_toArray, List.getElem?_cons_succ, List.getElem?_cons_zero]; rfl) (by kernel_rfl) (by kernel_rfl) (by kernel_rfl) (by kernel_rfl) (by intro _ _ _ h; exact h) (Or.inl ⟨by rfl, fun w hSw => ?_⟩) hHeld ?_
      rotate_left
      · ((try dsimp only at hSw); go_simp; first | done | with_reducible rfl | rfl)
      try simp only [Act.put, List.setIfInBounds_toArray, List.set_cons_zero, List.set_cons_succ]
      refine AnyT.take (i := 17) (v := ?_) (by simp only [List.getElem?_toArray, List.getElem?_cons_succ, List.getElem?_cons_zero]; rfl) (by kernel_rfl) (by kernel_rfl) (by kernel_rfl) (by kernel_rfl) (by intro _ _ _ h; exact h) (Or.inl ⟨by rfl, fun w hSw => ?_⟩) hHeld ?_
      rotate_left
      · ((try dsimp only at hSw); go_simp; first | done | with_reducible rfl | rfl)
      try simp only [Act.put, List.setIfInBounds_toArray, List.set_cons_zero, List.set_cons_succ]
      refine AnyT.take (i := 18) (v := ?_) (by simp only [List.getElem?_toArray, List.getElem?_cons_succ, List.getElem?_cons_zero]; rfl) (by kernel_rfl) (by kernel_rfl) (by kernel_rfl) (by kernel_rfl) (by intro _ _ _ h; exact h) (Or.inl ⟨by rfl, fun w hSw => ?_⟩) hHeld ?_
      rotate_left
      · ((try dsimp only at hSw); go_simp; first | done | with_reducible rfl | rfl)
      try simp only [Act.put, List.setIfInBounds_toArray, List.set_cons_zero, List.set_cons_succ]
      refine AnyT.take (i := 19) (v := ?_) (by simp only [List.getElem?_toArray, List.getElem?_cons_succ, List.getElem?_cons_zero]; rfl) (by kernel_rfl) (by kernel_rfl) (by kernel_rfl) (by kernel_rfl) (by intro _ _ _ h; exact h) (Or.inl ⟨by rfl, fun w hSw => ?_⟩) hHeld ?_
      rotate_left
      · ((try dsimp only at hSw); go_simp; first | done | with_reducible rfl | rfl)
      try simp only [Act.put, List.setIfInBounds_toArray, List.set_cons_zero, List.set_cons_succ]
      refine AnyT.take (i := 20) (v := ?_) (by simp only [List.getElem?_toArray, List.getElem?_cons_succ, List.getElem?_cons_zero]; rfl) (by kernel_rfl) (by kernel_rfl) (by kernel_rfl) (by kernel_rfl) (by intro _ _ _ h; exact h) (Or.inl ⟨by rfl, fun w hSw => ?_⟩) hHeld ?_
      rotate_left
      · ((try dsimp only at hSw); go_simp; first | done | with_reducible rfl | rfl)
      try simp only [Act.put, List.setIfInBounds_toArray, List.set_cons_zero, List.set_cons_succ]
      refine AnyT.take (i := 21) (v := ?_) (by simp only [List.getElem?_toArray, List.getElem?_cons_succ, List.getElem?_cons_zero]; rfl) (by kernel_rfl) (by kernel_rfl) (by kernel_rfl) (by kernel_rfl) (by intro _ _ _ h; exact h) (Or.inl ⟨by rfl, fun w hSw => ?_⟩) hHeld ?_
      rotate_left
      · ((try dsimp only at hSw); go_simp; first | done | with_reducible rfl | rfl)
      try simp only [Act.put, List.setIfInBounds_toArray, List.set_cons_zero, List.set_cons_succ]
      refine AnyT.ready (rs := [22]) (by kernel_rfl) (by simp) ?_
      refine AllT.late (by simp only [List.getElem?_toArray, List.getElem?_cons_succ, List.getElem?_cons_zero]; rfl) (by kernel_rfl) (fun K hK => ?_)
      go_simp
      refine hK.out _ _ ?_
      clear hK
      try simp only [Act.put, List.setIfInBounds_toArray, List.set_cons_zero, List.set_cons_succ]
      refine AnyT.done (by kernel_rfl) ?_ _
      clear hHeld q3 cv cu f8 ck
      go_wp2_with fail
      go_roundw
      case rel =>
        refine ⟨k + 1, by go_num, by omega, hid ⟨G8, hid ?_, HO8⟩⟩
        rw [HDL.out]
        exact HG8.out
      case measure => simp [intOf]; omega
    · have h4' : ¬ (k : Int) < (h : Int) := by omega
      obtain rfl : h = k := by omega
      have hsk := HS.out.ok.skip
      obtain ⟨hs1, -⟩ := set_split HE.out.1 en
      conv at hsk => arg 3; rw [hs1]
      rw [List.map_append, List.map_cons] at hsk
      have hd := (skip_del_at hsk (P := fun i => pv i (front es m) 0) (fun i _ => rfl)).2
      rw [HP.out.1, HP.out.2] at hd
      have d1 := hd 1 (by omega)
      have d2 := hd 2 (by omega)
      rw [HAT.out.2.1] at d1
      rw [HAT.out.2.2.1] at d2
      have hil := delN_length nd (fun i => pv i (front es m) 0) h
      have hna := NdAt.of (n2 := n2) (HR6.out.csO (ownN HO6.out)) (by rw [hil, HNDL.out]) (by omega)
      obtain ⟨kl, hkl⟩ : ∃ kl, en.nd.kl = kl := ⟨_, rfl⟩
      obtain ⟨vl, hvl⟩ : ∃ vl, en.nd.vl = vl := ⟨_, rfl⟩
      rw [hkl] at d1
      rw [hvl] at d2
      have a1 := (hna.cell _ _ d1).1
      have a2 := (hna.cell _ _ d2).1
      have q3 := hc6.q3
      have cz := hc6.cz
      have cn := hc6.cn
      have f17 := hc6.fz 17
      have f18 := hc6.fz 18
      obtain ⟨sz2, hsz2⟩ : ∃ sz2, szKv (mDel Prod.fst (es.map En.kv) key) = sz2 := ⟨_, rfl⟩
      have hdel := HDEL.out
      rw [hsz2, ← HKL.out.1, ← HKL.out.2, hkl, hvl] at hdel
      have s1 : IntKind.i64.wrap ((p : Int) + 1) = ((p + 1 : Nat) : Int) := wrap_add p 1 (by omega)
      have s2 : IntKind.i64.wrap ((p : Int) + 2) = ((p + 2 : Nat) : Int) := wrap_add p 2 (by omega)
      have t1 : IntKind.i64.wrap ((kl : Int) + (vl : Int)) = ((kl + vl : Nat) : Int) := wrap_add kl vl (by omega)
      obtain ⟨p1, hp1⟩ : ∃ p1, p + 1 = p1 := ⟨_, rfl⟩
      obtain ⟨p2, hp2⟩ : ∃ p2, p + 2 = p2 := ⟨_, rfl⟩
      rw [hp1] at s1 a1
      rw [hp2] at s2 a2
      have l1 : (p1 : Int) < (n2 : Int) := by omega
      have l2 : (p2 : Int) < (n2 : Int) := by omega
      obtain ⟨kvl, hkvl⟩ : ∃ kvl, kl + vl = kvl := ⟨_, rfl⟩
      rw [hkvl] at t1 hdel
      have i1 : IntKind.i64.wrap ((sz : Int) - (kvl : Int)) = (sz2 : Int) := by rw [i64_id (by omega) (by omega)]; omega
      obtain ⟨n5, hn5⟩ : ∃ n5, n - 1 = n5 := ⟨_, rfl⟩
      have i3 : IntKind.i64.wrap ((n : Int) - 1) = (n5 : Int) := by rw [i64_id (by omega) (by omega)]; omega
      have HO7 := hid (dFr_n HREC.out.1 (dFr_sz HREC.out.1 HO6.out.drew sz2) n5)
      have HSN := hid (And.intro hsz2 hn5)
      clear hc6 hna d1 d2 hd hs1 hsk hil hkl hvl hp1 hp2 hkvl hsz2 hn5 hdel
      go_wp2_with fail
      refine AnyT.start (S := fun w' => w'.cell? ⟨g, 3, none⟩ = some (.slice (some ⟨b, 0, none⟩) n2 c2) ∧ w'.cell? ⟨g, 18, none⟩ = some (.int .i64 (sz : Int)) ∧ w'.cell? ⟨b, p1, none⟩ = some (.int .i64 (kl : Int)) ∧ w'.cell? ⟨b, p2, none⟩ = some (.int .i64 (vl : Int))) (T := [24]) (by kernel_rfl) (⟨q3, cz, a1, a2⟩) (fun hHeld => ?_)
      refine AnyT.take (i := 0) (v := ?_) (by simp only [List.getElem?_toArray, List.getElem?_cons_succ, List.getElem?_cons_zero]; rfl) (by kernel_rfl) (by kernel_rfl) (by kernel_rfl) (by kernel_rfl) (by intro _ _ _ h; exact h) (Or.inl ⟨by rfl, fun w hSw => ?_⟩) hHeld ?_
      rotate_left
      · ((try dsimp only at hSw); go_simp; first | done | with_reducible rfl | rfl)
      try simp only [Act.put, List.setIfInBounds_toArray, List.set_cons_zero, List.set_cons_succ]
      refine AnyT.take (i := 1) (v := ?_) (by simp only [List.getElem?_toArray, List.getElem?_cons_succ, List.getElem?_cons_zero]; rfl) (by kernel_rfl) (by kernel_rfl) (by kernel_rfl) (by kernel_rfl) (by intro _ _ _ h; exact h) (Or.inl ⟨by rfl, fun w hSw => ?_⟩) hHeld ?_
      rotate_left
      · ((try dsimp only at hSw); go_simp; first | done | with_reducible rfl | rfl)
      try simp only [Act.put, List.setIfInBounds_toArray, List.set_cons_zero, List.set_cons_succ]
      refine AnyT.take (i := 2) (v := ?_) (by simp only [List.getElem?_toArray, List.getElem?_cons_succ, List.getElem?_cons_zero]; rfl) (by kernel_rfl) (by kernel_rfl) (by kernel_rfl) (by kernel_rfl) (by intro _ _ _ h; exact h) (Or.inl ⟨by rfl, fun w hSw => ?_⟩) hHeld ?_
      rotate_left
      · ((try dsimp only at hSw); go_simp; first | done | with_reducible rfl | rfl)
      try simp only [Act.put, List.setIfInBounds_toArray, List.set_cons_zero, List.set_cons_succ]
      refine AnyT.take (i := 3) (v := ?_) (by simp only [List.getElem?_toArray, List.getElem?_cons_succ, List.getElem?_cons_zero]; rfl) (by kernel_rfl) (by kernel_rfl) (by kernel_rfl) (by kernel_rfl) (by intro _ _ _ h; exact h) (Or.inl ⟨by rfl, fun w hSw => ?_⟩) hHeld ?_
      rotate_left
      · ((try dsimp only at hSw); go_simp; first | done | with_reducible rfl | rfl)
      try simp only [Act.put, List.setIfInBounds_toArray, List.set_cons_zero, List.set_cons_succ]
      refine AnyT.take (i := 4) (v := ?_) (by simp only [List.getElem?_toArray, List.getElem?_cons_succ, List.getElem?_cons_zero]; rfl) (by kernel_rfl) (by kernel_rfl) (by kernel_rfl) (by kernel_rfl) (by intro _ _ _ h; exact h) (Or.inl ⟨by rfl, fun w hSw => ?_⟩) hHeld ?_
      rotate_left
      · ((try dsimp only at hSw); go_simp; first | done | with_reducible rfl | rfl)
      try simp only [Act.put, List.setIfInBounds_toArray, List.set_cons_zero, List.set_cons_succ]
      refine AnyT.take (i := 5) (v := ?_) (by simp only [List.getElem?_toArray, List.getElem?_cons_succ, List.getElem?_cons_zero]; rfl) (by kernel_rfl) (by kernel_rfl) (by kernel_rfl) (by kernel_rfl) (by intro _ _ _ h; exact h) (Or.inl ⟨by rfl, fun w hSw => ?_⟩) hHeld ?_
      rotate_left
      · ((try dsimp only at hSw); go_simp; first | done | with_reducible rfl | rfl)
      try simp only [Act.put, List.setIfInBounds_toArray, List.set_cons_zero, List.set_cons_succ]
      refine AnyT.take (i := 6) (v := ?_) (by simp only [List.getElem?_toArray, List.getElem?_cons_succ, List.getElem?_cons_zero]; rfl) (by kernel_rfl) (by kernel_rfl) (by kernel_rfl) (by kernel_rfl) (by intro _ _ _ h; exact h) (Or.inl ⟨by rfl, fun w hSw => ?_⟩) hHeld ?_
      rotate_left
      · ((try dsimp only at hSw); go_simp; first | done | with_reducible rfl | rfl)
      try simp only [Act.put, List.setIfInBounds_toArray, List.set_cons_zero, List.set_cons_succ]
      refine AnyT.take (i := 7) (v := ?_) (by simp only [List.getElem?_toArray, List.getElem?_cons_succ, List.getElem?_cons_zero]; rfl) (by kernel_rfl) (by kernel_rfl) (by kernel_rfl) (by kernel_rfl) (by intro _ _ _ h; exact h) (Or.inl ⟨by rfl, fun w hSw => ?_⟩) hHeld ?_
      rotate_left
      · ((try dsimp only at hSw); go_simp; first | done | with_reducible rfl | rfl)
      try simp only [Act.put, List.setIfInBounds_toArray, List.set_cons_zero, List.set_cons_succ]
      refine AnyT.take (i := 8) (v := ?_) (by simp only [List.getElem?_toArray, List.getElem?_cons_succ, List.getElem?_cons_zero]; rfl) (by kernel_rfl) (by kernel_rfl) (by kernel_rfl) (by kernel_rfl) (by intro _ _ _ h; exact h) (Or.inl ⟨by rfl, fun w hSw => ?_⟩) hHeld ?_
      rotate_left
      · ((try dsimp only at hSw); go_simp; first | done | with_reducible rfl | rfl)
      try simp only [Act.put, List.setIfInBounds_toArray, List.set_cons_zero, List.set_cons_succ]
      refine AnyT.take (i := 9) (v := ?_) (by simp only [List.getElem?_toArray, List.getElem?_cons_succ, List.getElem?_cons_zero]; rfl) (by kernel_rfl) (by kernel_rfl) (by kernel_rfl) (by kernel_rfl) (by intro _ _ _ h; exact h) (Or.inl ⟨by rfl, fun w hSw => ?_⟩) hHeld ?_
      rotate_left
      · ((try dsimp only at hSw); go_simp; first | done | with_reducible rfl | rfl)
      try simp only [Act.put, List.setIfInBounds_toArray, List.set_cons_zero, List.set_cons_succ]
      refine AnyT.take (i := 10) (v := ?_) (by simp only [List.getElem?_toArray, List.getElem?_cons_succ, List.getElem?_cons_zero]; rfl) (by kernel_rfl) (by kernel_rfl) (by kernel_rfl) (by kernel_rfl) (by intro _ _ _ h; exact h) (Or.inl ⟨by rfl, fun w hSw => ?_⟩) hHeld ?_
      rotate_left
      · ((try dsimp only at hSw); go_simp; first | done | with_reducible rfl | rfl)
      try simp only [Act.put, List.setIfInBounds_toArray, List.set_cons_zero, List.set_cons_succ]
      refine AnyT.take (i := 11) (v := ?_) (by simp only [List.getElem?_toArray, List.getElem?_cons_succ, List.getElem?_cons_zero]; rfl) (by kernel_rfl) (by kernel_rfl) (by kernel_rfl) (by kernel_rfl) (by intro _ _ _ h; exact h) (Or.inl ⟨by rfl, fun w hSw => ?_⟩) hHeld ?_
      rotate_left
      · ((try dsimp only at hSw); go_simp; first | done | with_reducible rfl | rfl)
      try simp only [Act.put, List.setIfInBounds_toArray, List.set_cons_zero, List.set_cons_succ]
      refine AnyT.take (i := 12) (v := ?_) (by simp only [List.getElem?_toArray, List.getElem?_cons_succ, List.getElem?_cons_zero]; rfl) (by kernel_rfl) (by kernel_rfl) (by kernel_rfl) (by kernel_rfl) (by intro _ _ _ h; exact h) (Or.inl ⟨by rfl, fun w hSw => ?_⟩) hHeld ?_
      rotate_left
      · ((try dsimp only at hSw); go_simp; first | done | with_reducible rfl | rfl)
      try simp only [Act.put, List.setIfInBounds_toArray, List.set_cons_zero, List.set_cons_succ]
      refine AnyT.take (i := 13) (v := ?_) (by simp only [List.getElem?_toArray, List.getElem?_cons_succ, List.getElem?_cons_zero]; rfl) (by kernel_rfl) (by kernel_rfl) (by kernel_rfl) (by kernel_rfl) (by intro _ _ _ h; exact h) (Or.inl ⟨by rfl, fun w hSw => ?_⟩) hHeld ?_
      rotate_left
      · ((try dsimp only at hSw); go_simp; first | done | with_reducible rfl | rfl)
      try simp only [Act.put, List.setIfInBounds_toArray, List.set_cons_zero, List.set_cons_succ]
      refine AnyT.take (i := 14) (v := ?_) (by simp only [List.getElem?_toArray, List.getElem?_cons_succ, List.getElem?_cons_zero]; rfl) (by kernel_rfl) (by kernel_rfl) (by kernel_rfl) (by kernel_rfl) (by intro _ _ _ h; exact h) (Or.inl ⟨by rfl, fun w hSw => ?_⟩) hHeld ?_
      rotate_left
      · ((try dsimp only at hSw); go_simp; first | done | with_reducible rfl | rfl)
      try simp only [Act.put, List.setIfInBounds_toArray, List.set_cons_zero, List.set_cons_succ]
      refine AnyT.take (i := 15) (v := ?_) (by simp only [List.getElem?_toArray, List.getElem?_cons_succ, List.getElem?_cons_zero]; rfl) (by kernel_rfl) (by kernel_rfl) (by kernel_rfl) (by kernel_rfl) (by intro _ _ _ h; exact h) (Or.inl ⟨by rfl, fun w hSw => ?_⟩) hHeld ?_
      rotate_left
      · ((try dsimp only at hSw); go_simp; first | done | with_reducible rfl | rfl)
      try simp only [Act.put, List.setIfInBounds_toArray, List.set_cons_zero, List.set_cons_succ]
      refine AnyT.take (i := 16) (v := ?_) (by simp only [List.getElem?_toArray, List.getElem?_cons_succ, List.getElem?_cons_zero]; rfl) (by kernel_rfl) (by kernel_rfl) (by kernel_rfl) (by kernel_rfl) (by intro _ _ _ h; exact h) (Or.inl ⟨by rfl, fun w hSw => ?_⟩) hHeld ?_
      rotate_left
      · ((try dsimp only at hSw); go_simp; first | done | with_reducible rfl | rfl)
      try simp only [Act.put, List.setIfInBounds_toArray, List.set_cons_zero, List.set_cons_succ]
      refine AnyT.take (i := 17) (v := ?_) (by simp only [List.getElem?_toArray, List.getElem?_cons_succ, List.getElem?_cons_zero]; rfl) (by kernel_rfl) (by kernel_rfl) (by kernel_rfl) (by kernel_rfl) (by intro _ _ _ h; exact h) (Or.inl ⟨by rfl, fun w hSw => ?_⟩) hHeld ?_
      rotate_left
      · ((try dsimp only at hSw); go_simp; first | done | with_reducible rfl | rfl)
      try simp only [Act.put, List.setIfInBounds_toArray, List.set_cons_zero, List.set_cons_succ]
      refine AnyT.take (i := 18) (v := ?_) (by simp only [List.getElem?_toArray, List.getElem?_cons_succ, List.getElem?_cons_zero]; rfl) (by kernel_rfl) (by kernel_rfl) (by kernel_rfl) (by kernel_rfl) (by intro _ _ _ h; exact h) (Or.inl ⟨by rfl, fun w hSw => ?_⟩) hHeld ?_
      rotate_left
      · ((try dsimp only at hSw); go_simp; first | done | with_reducible rfl | rfl)
      try simp only [Act.put, List.setIfInBounds_toArray, List.set_cons_zero, List.set_cons_succ]
      refine AnyT.take (i := 19) (v := ?_) (by simp only [List.getElem?_toArray, List.getElem?_cons_succ, List.getElem?_cons_zero]; rfl) (by kernel_rfl) (by kernel_rfl) (by kernel_rfl) (by kernel_rfl) (by intro _ _ _ h; exact h) (Or.inl ⟨by rfl, fun w hSw => ?_⟩) hHeld ?_
      rotate_left
      · ((try dsimp only at hSw); go_simp; first | done | with_reducible rfl | rfl)
      try simp only [Act.put, List.setIfInBounds_toArray, List.set_cons_zero, List.set_cons_succ]
      refine AnyT.take (i := 20) (v := ?_) (by simp only [List.getElem?_toArray, List.getElem?_cons_succ, List.getElem?_cons_zero]; rfl) (by kernel_rfl) (by kernel_rfl) (by kernel_rfl) (by kernel_rfl) (by intro _ _ _ h; exact h) (Or.inl ⟨by rfl, fun w hSw => ?_⟩) hHeld ?_
      rotate_left
      · ((try dsimp only at hSw); go_simp; first | done | with_reducible rfl | rfl)
      try simp only [Act.put, List.setIfInBounds_toArray, List.set_cons_zero, List.set_cons_succ]
      refine AnyT.take (i := 21) (v := ?_) (by simp only [List.getElem?_toArray, List.getElem?_cons_succ, List.getElem?_cons_zero]; rfl) (by kernel_rfl) (by kernel_rfl) (by kernel_rfl) (by kernel_rfl) (by intro _ _ _ h; exact h) (Or.inl ⟨by rfl, fun w hSw => ?_⟩) hHeld ?_
      rotate_left
      · ((try dsimp only at hSw); go_simp; first | done | with_reducible rfl | rfl)
      try simp only [Act.put, List.setIfInBounds_toArray, List.set_cons_zero, List.set_cons_succ]
      refine AnyT.ready (rs := [22]) (by kernel_rfl) (by simp) ?_
      refine AllT.cons (by simp only [List.getElem?_toArray, List.getElem?_cons_succ, List.getElem?_cons_zero]; rfl) (fun K hK => ?_) AllT.nil
      go_simp
      refine hK.out _ _ ?_ (fun hHeld => ?_)
      · exact hHeld
      clear hK
      try simp only [Act.put, List.setIfInBounds_toArray, List.set_cons_zero, List.set_cons_succ]
      refine AnyT.take (i := 23) (v := ?_) (by simp only [List.getElem?_toArray, List.getElem?_cons_succ, List.getElem?_cons_zero]; rfl) (by kernel_rfl) (by kernel_rfl) (by kernel_rfl) (by kernel_rfl) (by intro _ _ _ h; exact h) (Or.inl ⟨by rfl, fun w hSw => ?_⟩) hHeld ?_
      rotate_left
      · ((try dsimp only at hSw); go_simp; first | done | with_reducible rfl | rfl)
      try simp only [Act.put, List.setIfInBounds_toArray, List.set_cons_zero, List.set_cons_succ]
      refine AnyT.ready (rs := [24]) (by kernel_rfl) (by simp) ?_
      refine AllT.late (by simp only [List.getElem?_toArray, List.getElem?_cons_succ, List.getElem?_cons_zero]; rfl) (by kernel_rfl) (fun K hK => ?_)
      go_simp
      refine hK.out _ _ ?_
      clear hK
      try simp only [Act.put, List.setIfInBounds_toArray, List.set_cons_zero, List.set_cons_succ]
      refine AnyT.done (by kernel_rfl) ?_ _
      clear hHeld q3 cz a1 a2
      go_wp2_with fail
      go_ret
      have hdk := HS.out.ok.del (key := key) (e := en) (by rw [HM.out]; exact HE.out.1) (P := fun i => pv i (front es m) 0) (fun i _ => by rw [HM.out])
      refine ⟨.inl ⟨HI.out, rfl⟩, _, del_is HI.out, x, A, n1, c1, b, n2, c2, pv1, mh, kv, delN nd (fun i => pv i (front es m) 0) h, F, G6, ⟨HREC.out.1, ?_, HS.out.rk, HR6.out, HS.out.bk, ?_⟩, ?_⟩
      · have := hdk.1
        rw [HP.out.2] at this
        exact this
      · rw [delN_length, HNDL.out]; exact hn2b
      · have hlen : (es.take (mAt En.k es key) ++ es.drop (mAt En.k es key + 1)).length = n5 := by
          have h7 := HSN.out.2
          have h8 := HN.out.1
          have h9 := (List.getElem?_eq_some_iff.1 HE.out.1).1
          rw [HM.out, List.length_append, List.length_take, List.length_drop]; omega
        rw [hlen, del_is HI.out, HSN.out.1]
        exact HO7.out
end Go.Proofs.YtloflmcgbbbnjaaDoor
namespace Go.Proofs.YtloflmcgbbbnjaaDoor
open Go.RowKit Plain
set_option linter.all false

def NewOut (R : List Fr) (w0 : World) (e : Ending) (w' : World) : Prop := ∃ g, e = .returned (.pointer (some ⟨g, 0, none⟩)) ∧ DbSt g [] 0 0 R w0 w'
set_option maxHeartbeats 3200000 in
set_option maxRecDepth 100000 in
theorem dbNew (R : List Fr) (w0 w : World) (hO : Own R w0 w) :
    Calls Tryd.prog 64 #[.iface 112 (.agg #[]), .int .i64 0] w (NewOut R w0) := by
  have HO := hid hO
  clear hO
  have hmk := fun w => run_make_own (P := Tryd.prog) 25 5 (.int .u8 0) 1 Tryd.underlying25 Tryd.info_u8 rfl .i64 .i64 0 0 0 0 rfl rfl (by omega) (by omega) (by omega) w
  have hmk2 := fun w => run_make_own (P := Tryd.prog) 60 3 (.int .i64 0) 8 Tryd.underlying60 Tryd.info_int' rfl .i64 .i64 16 16 16 16 rfl rfl (by omega) (by omega) (by omega) w
  go_enter Tryd.func64, Tryd.ntmps64
  go_wp2_with fail
  refine AnyT.start (S := fun w' => True) (T := []) (by kernel_rfl) (trivial) (fun hHeld => ?_)
  refine AnyT.take (i := 0) (v := ?_) (by simp only [List.getElem?_toArray, List.getElem?_cons_succ, List.getElem?_cons_zero]; rfl) (by kernel_rfl) (by kernel_rfl) (by kernel_rfl) (by kernel_rfl) (by intro _ _ _ h; exact h) (Or.inl ⟨by rfl, fun w hSw => ?_⟩) hHeld ?_
  rotate_left
  · ((try dsimp only at hSw); go_simp; first | done | with_reducible rfl | rfl)
  try simp only [Act.put, List.setIfInBounds_toArray, List.set_cons_zero, List.set_cons_succ]
  refine AnyT.take (i := 1) (v := ?_) (by simp only [List.getElem?_toArray, List.getElem?_cons_succ, List.getElem?_cons_zero]; rfl) (by kernel_rfl) (by kernel_rfl) (by kernel_rfl) (by kernel_rfl) (by intro _ _ _ h; exact h) (Or.inl ⟨by rfl, fun w hSw => ?_⟩) hHeld ?_
  rotate_left
  · ((try dsimp only at hSw); go_simp; first | done | with_reducible rfl | rfl)
  try simp only [Act.put, List.setIfInBounds_toArray, List.set_cons_zero, List.set_cons_succ]
  refine AnyT.take (i := 2) (v := ?_) (by simp only [List.getElem?_toArray, List.getElem?_cons_succ, List.getElem?_cons_zero]; rfl) (by kernel_rfl) (by kernel_rfl) (by kernel_rfl) (by kernel_rfl) (by intro _ _ _ h; exact h) (Or.inl ⟨by rfl, fun w hSw => ?_⟩) hHeld ?_
  rotate_left
  · ((try dsimp only at hSw); go_simp; first | done | with_reducible rfl | rfl)
  try simp only [Act.put, List.setIfInBounds_toArray, List.set_cons_zero, List.set_cons_succ]
  refine AnyT.ready (rs := [3, 4]) (by kernel_rfl) (by simp) ?_
  refine AllT.cons (by simp only [List.getElem?_toArray, List.getElem?_cons_succ, List.getElem?_cons_zero]; rfl) (fun K hK => ?_) (AllT.cons (by simp only [List.getElem?_toArray, List.getElem?_cons_succ, List.getElem?_cons_zero]; rfl) (fun K hK => ?_) AllT.nil)
  · go_simp
    obtain ⟨s0, hs0⟩ : ∃ s0, w.heap.size = s0 := ⟨_, rfl⟩
    try rw [hs0]
    refine hK.out _ _ ?_ (fun hHeld => ?_)
    · trivial
    clear hK
    try simp only [Act.put, List.setIfInBounds_toArray, List.set_cons_zero, List.set_cons_succ]
    refine AnyT.ready (rs := [4]) (by kernel_rfl) (by simp) ?_
    refine AllT.cons (by simp only [List.getElem?_toArray, List.getElem?_cons_succ, List.getElem?_cons_zero]; rfl) (fun K hK => ?_) AllT.nil
    go_simp
    try rw [hs0]
    obtain ⟨s1, hs1⟩ : ∃ s1, s0 + 1 = s1 := ⟨_, rfl⟩
    try rw [hs1]
    refine hK.out _ _ ?_ (fun hHeld => ?_)
    · trivial
    clear hK
    try simp only [Act.put, List.setIfInBounds_toArray, List.set_cons_zero, List.set_cons_succ]
    refine AnyT.take (i := 5) (v := ?_) (by simp only [List.getElem?_toArray, List.getElem?_cons_succ, List.getElem?_cons_zero]; rfl) (by kernel_rfl) (by kernel_rfl) (by kernel_rfl) (by kernel_rfl) (by intro _ _ _ h; exact h) (Or.inl ⟨by rfl, fun w hSw => ?_⟩) hHeld ?_
    rotate_left
    · ((try dsimp only at hSw); go_simp; first | done | with_reducible rfl | rfl)
    try simp only [Act.put, List.setIfInBounds_toArray, List.set_cons_zero, List.set_cons_succ]
    refine AnyT.ready (rs := [6]) (by kernel_rfl) (by simp) ?_
    refine AllT.cons (by simp only [List.getElem?_toArray, List.getElem?_cons_succ, List.getElem?_cons_zero]; rfl) (fun K hK => ?_) AllT.nil
    go_simp
    try rw [hs0]
    try rw [hs1]
    obtain ⟨g, hg⟩ : ∃ g, s1 + 1 = g := ⟨_, rfl⟩
    try rw [hg]
    have hO3 := (((HO.out.alloc' hs0 5 []).alloc' (g := s1) (by simp [hs0, hs1]) 3 (List.replicate 16 (.int .i64 0))).alloc' (g := g) (by simp [hs0, hs1, hg]) 229 [.iface 112 (.agg #[]), .int .u64 3735928559, .slice (some ⟨s0, 0, none⟩) 0 0, .slice (some ⟨s1, 0, none⟩) 16 16, .int .i64 0, .int .i64 0, .int .i64 0, .int .i64 0, .int .i64 0, .int .i64 0, .int .i64 0, .int .i64 0, .int .i64 0, .int .i64 0, .int .i64 0, .int .i64 0, .int .i64 1, .int .i64 0, .int .i64 0]).drew
    clear HO
    generalize hW : (World.drew _) = W
    have hO4 : Own (dFr g 3735928559 (some ⟨s0, 0, none⟩) 0 0 s1 16 16 (List.replicate 12 0) 1 0 0 :: fw s1 3 (List.replicate 16 (.int .i64 0)) :: fw s0 5 [] :: R) w0 W := by rw [← hW]; exact hO3
    replace hO4 : Own (dFr g 3735928559 (some ⟨s0, 0, none⟩) 0 0 s1 16 16 (List.replicate 12 0) 1 0 0 :: ([fw s0 5 []] ++ ([fw s1 3 (List.replicate 16 (.int .i64 0))] ++ R))) w0 W := hO4.perm (.cons _ (.swap _ _ _))
    have HO4 := hid hO4
    have hc := dFr_cells (by simp) hO4
    have q3 := hc.q3
    have hr0 : Row 3 1 (some ⟨s1, 0, none⟩) 16 16 (ni (List.replicate 16 0)) [fw s1 3 (List.replicate 16 (.int .i64 0))] := ⟨by simp [ni], .inr ⟨s1, _, rfl, rfl, by omega, by simp [maxLen], by simp, by rfl⟩⟩
    obtain ⟨G8, hG8, hO8, f8⟩ := hr0.put (ownN hO4) (i := 3) (by omega) (.int .i64 12)
    have hna := NdAt.of (n2 := 16) (hr0.csO (ownN hO4)) (by simp) (by omega)
    have c8 := (hna.cell 3 0 (by rfl)).1
    have HG8 := hid hG8
    have HO8 := hid (ownN' hO8)
    clear hO3 hO4 hc hr0 hG8 hO8 hna hs0 hs1 hg HO4 hW
    refine hK.out _ _ ?_ (fun hHeld => ?_)
    · trivial
    clear hK
    try simp only [Act.put, List.setIfInBounds_toArray, List.set_cons_zero, List.set_cons_succ]
    refine AnyT.take (i := 7) (v := ?_) (by simp only [List.getElem?_toArray, List.getElem?_cons_succ, List.getElem?_cons_zero]; rfl) (by kernel_rfl) (by kernel_rfl) (by kernel_rfl) (by kernel_rfl) (by intro _ _ _ h; exact h) (Or.inl ⟨by rfl, fun w hSw => ?_⟩) hHeld ?_
    rotate_left
    · ((try dsimp only at hSw); go_simp; first | done | with_reducible rfl | rfl)
    try simp only [Act.put, List.setIfInBounds_toArray, List.set_cons_zero, List.set_cons_succ]
    refine AnyT.done (by kernel_rfl) ?_ _
    clear hHeld
    go_wp2_with fail
    go_ret
    exact ⟨g, rfl, 3735928559, some ⟨s0, 0, none⟩, 0, 0, s1, 16, 16, List.replicate 12 0, 1, [], nd0, [fw s0 5 []], G8, ⟨by simp, DbOk.empty, ⟨by simp [bc], .inr ⟨s0, [], rfl, rfl, by omega, by simp [maxLen], by simp, by simp [bc]⟩⟩, HG8.out, by simp, by simp [nd0]⟩, HO8.out⟩
  · go_simp
    obtain ⟨s0, hs0⟩ : ∃ s0, w.heap.size = s0 := ⟨_, rfl⟩
    try rw [hs0]
    refine hK.out _ _ ?_ (fun hHeld => ?_)
    · trivial
    clear hK
    try simp only [Act.put, List.setIfInBounds_toArray, List.set_cons_zero, List.set_cons_succ]
    refine AnyT.ready (rs := [3]) (by kernel_rfl) (by simp) ?_
    refine AllT.cons (by simp only [List.getElem?_toArray, List.getElem?_cons_succ, List.getElem?_cons_zero]; rfl) (fun K hK => ?_) AllT.nil
    go_simp
    try rw [hs0]
    obtain ⟨s1, hs1⟩ : ∃ s1, s0 + 1 = s1 := ⟨_, rfl⟩
    try rw [hs1]
    refine hK.out _ _ ?_ (fun hHeld => ?_)
    · trivial
    clear hK
    try simp only [Act.put, List.setIfInBounds_toArray, List.set_cons_zero, List.set_cons_succ]
    refine AnyT.take (i := 5) (v := ?_) (by simp only [List.getElem?_toArray, List.getElem?_cons_succ, List.getElem?_cons_zero]; rfl) (by kernel_rfl) (by kernel_rfl) (by kernel_rfl) (by kernel_rfl) (by intro _ _ _ h; exact h) (Or.inl ⟨by rfl, fun w hSw => ?_⟩) hHeld ?_
    rotate_left
    · ((try dsimp only at hSw); go_simp; first | done | with_reducible rfl | rfl)
    try simp only [Act.put, List.setIfInBounds_toArray, List.set_cons_zero, List.set_cons_succ]
    refine AnyT.ready (rs := [6]) (by kernel_rfl) (by simp) ?_
    refine AllT.cons (by simp only [List.getElem?_toArray, List.getElem?_cons_succ, List.getElem?_cons_zero]; rfl) (fun K hK => ?_) AllT.nil
    go_simp
    try rw [hs0]
    try rw [hs1]
    obtain ⟨g, hg⟩ : ∃ g, s1 + 1 = g := ⟨_, rfl⟩
    try rw [hg]
    have hO3 := (((HO.out.alloc' hs0 3 (List.replicate 16 (.int .i64 0))).alloc' (g := s1) (by simp [hs0, hs1]) 5 []).alloc' (g := g) (by simp [hs0, hs1, hg]) 229 [.iface 112 (.agg #[]), .int .u64 3735928559, .slice (some ⟨s1, 0, none⟩) 0 0, .slice (some ⟨s0, 0, none⟩) 16 16, .int .i64 0, .int .i64 0, .int .i64 0, .int .i64 0, .int .i64 0, .int .i64 0, .int .i64 0, .int .i64 0, .int .i64 0, .int .i64 0, .int .i64 0, .int .i64 0, .int .i64 1, .int .i64 0, .int .i64 0]).drew
    clear HO
    generalize hW : (World.drew _) = W
    have hO4 : Own (dFr g 3735928559 (some ⟨s1, 0, none⟩) 0 0 s0 16 16 (List.replicate 12 0) 1 0 0 :: fw s1 5 [] :: fw s0 3 (List.replicate 16 (.int .i64 0)) :: R) w0 W := by rw [← hW]; exact hO3
    replace hO4 : Own (dFr g 3735928559 (some ⟨s1, 0, none⟩) 0 0 s0 16 16 (List.replicate 12 0) 1 0 0 :: ([fw s1 5 []] ++ ([fw s0 3 (List.replicate 16 (.int .i64 0))] ++ R))) w0 W := hO4.perm (.refl _)
    have HO4 := hid hO4
    have hc := dFr_cells (by simp) hO4
    have q3 := hc.q3
    have hr0 : Row 3 1 (some ⟨s0, 0, none⟩) 16 16 (ni (List.replicate 16 0)) [fw s0 3 (List.replicate 16 (.int .i64 0))] := ⟨by simp [ni], .inr ⟨s0, _, rfl, rfl, by omega, by simp [maxLen], by simp, by rfl⟩⟩
    obtain ⟨G8, hG8, hO8, f8⟩ := hr0.put (ownN hO4) (i := 3) (by omega) (.int .i64 12)
    have hna := NdAt.of (n2 := 16) (hr0.csO (ownN hO4)) (by simp) (by omega)
    have c8 := (hna.cell 3 0 (by rfl)).1
    have HG8 := hid hG8
    have HO8 := hid (ownN' hO8)
    clear hO3 hO4 hc hr0 hG8 hO8 hna hs0 hs1 hg HO4 hW
    refine hK.out _ _ ?_ (fun hHeld => ?_)
    · trivial
    clear hK
    try simp only [Act.put, List.setIfInBounds_toArray, List.set_cons_zero, List.set_cons_succ]
    refine AnyT.take (i := 7) (v := ?_) (by simp only [List.getElem?_toArray, List.getElem?_cons_succ, List.getElem?_cons_zero]; rfl) (by kernel_rfl) (by kernel_rfl) (by kernel_rfl) (by kernel_rfl) (by intro _ _ _ h; exact h) (Or.inl ⟨by rfl, fun w hSw => ?_⟩) hHeld ?_
    rotate_left
    · ((try dsimp only at hSw); go_simp; first | done | with_reducible rfl | rfl)
    try simp only [Act.put, List.setIfInBounds_toArray, List.set_cons_zero, List.set_cons_succ]
    refine AnyT.done (by kernel_rfl) ?_ _
    clear hHeld
    go_wp2_with fail
    go_ret
    exact ⟨g, rfl, 3735928559, some ⟨s1, 0, none⟩, 0, 0, s0, 16, 16, List.replicate 12 0, 1, [], nd0, [fw s1 5 []], G8, ⟨by simp, DbOk.empty, ⟨by simp [bc], .inr ⟨s1, [], rfl, rfl, by omega, by simp [maxLen], by simp, by simp [bc]⟩⟩, HG8.out, by simp, by simp [nd0]⟩, HO8.out⟩
end Go.Proofs.YtloflmcgbbbnjaaDoor
namespace Go.Proofs.YtloflmcgbbbnjaaDoor
open Go.RowKit Plain
set_option linter.all false

/-- The first k levels of the head are empty. -/
def ndz (nd : List Nat) : Nat → List Nat
  | 0 => (((((nd.take 16).set 0 0).set 1 0).set 2 0).set 3 12)
  | k + 1 => (ndz nd k).set (4 + k) 0
theorem ndz_length (nd : List Nat) (h : 16 ≤ nd.length) : ∀ k, (ndz nd k).length = 16
  | 0 => by simp [ndz, h]
  | k + 1 => by rw [ndz, List.length_set, ndz_length nd h k]
theorem ndz_end {nd : List Nat} (h : 16 ≤ nd.length) : ndz nd 12 = nd0 := by
  have hl : (nd.take 16).length = 16 := by rw [List.length_take]; omega
  unfold nd0
  simp only [ndz]
  generalize nd.take 16 = l at *
  match l, hl with
  | [a0, a1, a2, a3, a4, a5, a6, a7, a8, a9, a10, a11, a12, a13, a14, a15], _ => rfl
def pvz (pv : List Nat) : Nat → List Nat
  | 0 => pv
  | k + 1 => (pvz pv k).set k 0
theorem pvz_length (pv : List Nat) : ∀ k, (pvz pv k).length = pv.length
  | 0 => rfl
  | k + 1 => by rw [pvz, List.length_set, pvz_length pv k]
def ResIn (g x : Nat) (A : Option Addr) (c1 b c2 : Nat) (pv : List Nat) (nd : List Nat) (F R : List Fr) (w0 wx : World) : Prop :=
  ∃ G, Hid (Row 3 1 (some ⟨b, 0, none⟩) 16 c2 (ni nd) G) ∧ Hid (Own (dFr g x A 0 c1 b 16 c2 pv 1 0 0 :: (F ++ (G ++ R))) w0 wx)
set_option maxHeartbeats 6400000 in
set_option maxRecDepth 100000 in
theorem dbReset (g K N : Nat) (es : List En) (R : List Fr) (w0 w : World) (hs : DbSt g es K N R w0 w) :
    Calls Tryd.prog 73 #[.pointer (some ⟨g, 0, none⟩)] w fun e w' => e = .returned (.tuple #[]) ∧ DbSt g [] 0 0 R w0 w' := by
  obtain ⟨x, A, n1, c1, b, n2, c2, pv, mh, kv, nd, F, G, hS, hO⟩ := hs
  have hroom := hS.ok.skip.room hdN (by simp)
  have hroom2 : 16 ≤ nd.length := hroom
  have hn2 := hS.n2l
  have hr := hS.rn.back (m := 16) (by omega)
  have hk := hS.rk.back (m := 0) (Nat.zero_le _)
  rw [show (ni nd).take (16 * 1) = ni (nd.take 16) from by simp [ni, List.map_take]] at hr
  rw [show (bc kv).take (0 * 1) = bc [] from by simp [bc]] at hk
  have hn2l : 16 ≤ n2 := by omega
  have hcap2 := hS.rn.le
  have hn2c : 16 ≤ c2 := by omega
  have HRM := hid hroom2
  have HP := hid hS.hp
  have HR := hid hr
  have HK := hid hk
  have hc := dFr_cells hS.hp hO
  have q1 := hc.q1
  have q2 := hc.q2
  have q3 := hc.q3
  have cm := hc.cm
  have cn := hc.cn
  have cz := hc.cz
  have fz := hc.fz
  obtain ⟨n, hn⟩ : ∃ n, es.length = n := ⟨_, rfl⟩
  obtain ⟨sz, hsz⟩ : ∃ sz, szKv (es.map En.kv) = sz := ⟨_, rfl⟩
  rw [hn] at hO cn
  rw [hsz] at hO cz
  have hO2 := dFr_nd (dFr_kv (dFr_sz hS.hp (dFr_n hS.hp (dFr_mh hS.hp (dFr_x hO 3735928559) 1) 0) 0) A 0 c1) b 16 c2
  have HO2 := hid hO2
  have h16 : (16 : Int) ≤ (c2 : Int) := by omega
  clear hS hO hroom hroom2 hr hk hc hO2 hn hsz hn2 hcap2
  go_enter Tryd.func73, Tryd.ntmps73
  go_upto_region 6 with fail
  generalize (World.setCell _ _ _) = W at HO2 ⊢
  clear q1 q2 q3 cm cn cz fz
  have HX : Hid (ResIn g 3735928559 A c1 b c2 pv (nd.take 16) F R w0 W) := hid ⟨G, HR, HO2⟩
  clear HR HO2
  go_cut [] (fun wx => ResIn g 3735928559 A c1 b c2 pv ((nd.take 16).set 0 0) F R w0 wx)
  case first =>
    obtain ⟨G1, HR1, HO1⟩ := HX.out
    have q3 := (dFr_cells HP.out HO1.out).q3
    have hl : (nd.take 16).length = 16 := by have := HRM.out; simp; omega
    obtain ⟨G2, hG2, hO2, f2⟩ := HR1.out.put (ownN HO1.out) (i := 0) (by omega) (.int .i64 0)
    obtain ⟨u9, hu9⟩ : ∃ u, (nd.take 16)[0]? = some u := ⟨_, List.getElem?_eq_getElem (by rw [hl]; omega)⟩
    have c2' := ((NdAt.of (n2 := 16) (HR1.out.csO (ownN HO1.out)) hl.symm (by omega)).cell 0 _ hu9).1
    have hG3 : Row 3 1 (some ⟨b, 0, none⟩) 16 c2 (ni ((nd.take 16).set 0 0)) G2 := by rw [ni_set]; exact hG2
    have HG2 := hid hG3
    have HO3 := hid (ownN' hO2)
    clear hl hG2 hG3 hO2 hu9
    go_wp2_with fail
    go_meet
    exact ⟨G2, HG2, HO3⟩
  case rest =>
  clear HX
  obtain HX := hid hcut
  clear hcut
  go_step
  go_step
  go_cut [] (fun wx => ResIn g 3735928559 A c1 b c2 pv (((nd.take 16).set 0 0).set 1 0) F R w0 wx)
  case first =>
    obtain ⟨G1, HR1, HO1⟩ := HX.out
    have q3 := (dFr_cells HP.out HO1.out).q3
    have hl : ((nd.take 16).set 0 0).length = 16 := by have := HRM.out; simp; omega
    obtain ⟨G2, hG2, hO2, f2⟩ := HR1.out.put (ownN HO1.out) (i := 1) (by omega) (.int .i64 0)
    obtain ⟨u9, hu9⟩ : ∃ u, ((nd.take 16).set 0 0)[1]? = some u := ⟨_, List.getElem?_eq_getElem (by rw [hl]; omega)⟩
    have c2' := ((NdAt.of (n2 := 16) (HR1.out.csO (ownN HO1.out)) hl.symm (by omega)).cell 1 _ hu9).1
    have hG3 : Row 3 1 (some ⟨b, 0, none⟩) 16 c2 (ni (((nd.take 16).set 0 0).set 1 0)) G2 := by rw [ni_set]; exact hG2
    have HG2 := hid hG3
    have HO3 := hid (ownN' hO2)
    clear hl hG2 hG3 hO2 hu9
    go_wp2_with fail
    go_meet
    exact ⟨G2, HG2, HO3⟩
  case rest =>
  clear HX
  obtain HX := hid hcut
  clear hcut
  go_step
  go_step
  go_cut [] (fun wx => ResIn g 3735928559 A c1 b c2 pv ((((nd.take 16).set 0 0).set 1 0).set 2 0) F R w0 wx)
  case first =>
    obtain ⟨G1, HR1, HO1⟩ := HX.out
    have q3 := (dFr_cells HP.out HO1.out).q3
    have hl : (((nd.take 16).set 0 0).set 1 0).length = 16 := by have := HRM.out; simp; omega
    obtain ⟨G2, hG2, hO2, f2⟩ := HR1.out.put (ownN HO1.out) (i := 2) (by omega) (.int .i64 0)
    obtain ⟨u9, hu9⟩ : ∃ u, (((nd.take 16).set 0 0).set 1 0)[2]? = some u := ⟨_, List.getElem?_eq_getElem (by rw [hl]; omega)⟩
    have c2' := ((NdAt.of (n2 := 16) (HR1.out.csO (ownN HO1.out)) hl.symm (by omega)).cell 2 _ hu9).1
    have hG3 : Row 3 1 (some ⟨b, 0, none⟩) 16 c2 (ni ((((nd.take 16).set 0 0).set 1 0).set 2 0)) G2 := by rw [ni_set]; exact hG2
    have HG2 := hid hG3
    have HO3 := hid (ownN' hO2)
    clear hl hG2 hG3 hO2 hu9
    go_wp2_with fail
    go_meet
    exact ⟨G2, HG2, HO3⟩
  case rest =>
  clear HX
  obtain HX := hid hcut
  clear hcut
  go_step
  go_step
  go_cut [] (fun wx => ResIn g 3735928559 A c1 b c2 pv (((((nd.take 16).set 0 0).set 1 0).set 2 0).set 3 12) F R w0 wx)
  case first =>
    obtain ⟨G1, HR1, HO1⟩ := HX.out
    have q3 := (dFr_cells HP.out HO1.out).q3
    have hl : ((((nd.take 16).set 0 0).set 1 0).set 2 0).length = 16 := by have := HRM.out; simp; omega
    obtain ⟨G2, hG2, hO2, f2⟩ := HR1.out.put (ownN HO1.out) (i := 3) (by omega) (.int .i64 12)
    obtain ⟨u9, hu9⟩ : ∃ u, ((((nd.take 16).set 0 0).set 1 0).set 2 0)[3]? = some u := ⟨_, List.getElem?_eq_getElem (by rw [hl]; omega)⟩
    have c2' := ((NdAt.of (n2 := 16) (HR1.out.csO (ownN HO1.out)) hl.symm (by omega)).cell 3 _ hu9).1
    have hG3 : Row 3 1 (some ⟨b, 0, none⟩) 16 c2 (ni (((((nd.take 16).set 0 0).set 1 0).set 2 0).set 3 12)) G2 := by rw [ni_set]; exact hG2
    have HG2 := hid hG3
    have HO3 := hid (ownN' hO2)
    clear hl hG2 hG3 hO2 hu9
    go_wp2_with fail
    go_meet
    exact ⟨G2, HG2, HO3⟩
  case rest =>
  clear HX
  have HX : Hid (ResIn g 3735928559 A c1 b c2 (pvz pv 0) (ndz nd 0) F R w0 _) := hid hcut
  clear hcut
  go_step
  go_wp2_with fail
  go_loopw [2] (fun s wr => ∃ (k : Nat), s = .int .i64 k ∧ k ≤ 12 ∧ Hid (ResIn g 3735928559 A c1 b c2 (pvz pv k) (ndz nd k) F R w0 wr)) (fun s _ => 12 - (intOf s).toNat)
  case atStart => exact ⟨0, rfl, by omega, HX⟩
  case round =>
    clear HX
    obtain ⟨k, rfl, hk, HX⟩ := hrel
    obtain ⟨w2, rfl⟩ : ∃ w2, w2 = wr := ⟨_, rfl⟩
    by_cases h4 : k < 12
    · have h4' : (k : Int) < 12 := by omega
      have s1 : IntKind.i64.wrap (4 + (k : Int)) = ((4 + k : Nat) : Int) := by rw [show (4 : Int) = ((4 : Nat) : Int) from rfl]; exact wrap_add 4 k (by omega)
      have l1 : ((4 + k : Nat) : Int) < 16 := by omega
      have hpz : (pvz pv k).length = 12 := by rw [pvz_length]; exact HP.out
      have HPZ := hid hpz
      obtain ⟨i1, hi1⟩ : ∃ i1, 4 + k = i1 := ⟨_, rfl⟩
      rw [hi1] at s1 l1
      have HI1 := hid hi1
      clear hpz hi1
      go_upto_region 13 with fail
      go_cut [] (fun wx => ResIn g 3735928559 A c1 b c2 (pvz pv k) (ndz nd (k + 1)) F R w0 wx)
      case first =>
        obtain ⟨G1, HR1, HO1⟩ := HX.out
        have q3 := (dFr_cells HPZ.out HO1.out).q3
        have hl : (ndz nd k).length = 16 := ndz_length nd HRM.out k
        obtain ⟨G2, hG2, hO2, f2⟩ := HR1.out.put (ownN HO1.out) (i := i1) (by omega) (.int .i64 0)
        obtain ⟨u9, hu9⟩ : ∃ u, (ndz nd k)[i1]? = some u := ⟨_, List.getElem?_eq_getElem (by rw [hl]; omega)⟩
        have c2' := ((NdAt.of (n2 := 16) (HR1.out.csO (ownN HO1.out)) hl.symm (by omega)).cell i1 _ hu9).1
        have hG3 : Row 3 1 (some ⟨b, 0, none⟩) 16 c2 (ni (ndz nd (k + 1))) G2 := by rw [ndz, HI1.out, ni_set]; exact hG2
        have HG2 := hid hG3
        have HO3 := hid (ownN' hO2)
        clear hl hG2 hG3 hO2 hu9
        go_wp2_with fail
        go_meet
        exact ⟨G2, HG2, HO3⟩
      case rest =>
      clear HX
      obtain ⟨G1, HR1, HO1⟩ := hcut
      have c4 := dFr_pvc HPZ.out HO1.out (i := k) (List.getElem?_eq_getElem (by rw [HPZ.out]; omega))
      have f4 := (dFr_cells HPZ.out HO1.out).fz (4 + k)
      have HO3 := hid (dFr_pv HPZ.out HO1.out k 0 (by omega))
      go_step
      go_wp2_with fail
      go_roundw
      case rel => exact ⟨k + 1, by go_num, by omega, hid ⟨G1, HR1, HO3⟩⟩
      case measure => simp [intOf]; omega
    · have h4' : ¬ (k : Int) < 12 := by omega
      obtain rfl : k = 12 := by omega
      go_wp2_with fail
      go_end0
      obtain ⟨G1, HR1, HO1⟩ := HX.out
      refine ⟨rfl, 3735928559, A, 0, c1, b, 16, c2, pvz pv 12, 1, [], nd0, F, G1, ⟨by rw [pvz_length]; exact HP.out, DbOk.empty, HK.out, ?_, by simp, by simp [nd0]⟩, HO1.out⟩
      rw [← ndz_end HRM.out]
      exact HR1.out
end Go.Proofs.YtloflmcgbbbnjaaDoor
