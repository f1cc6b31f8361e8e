/-
  memdb.DB: Put, where the key is new.
  impl.TableOptions as an argument.
  A CALL OF A DATABASE AS A RECORD: its kind, key, value, number.
-/
import Derived.Test.YtloflmcgbbbnjaaDoorMemM9
import Derived.Test.YtloflmcgbbbnjaaDoorMemM4
import Derived.Lib.SmallJoins
namespace Go.Proofs.YtloflmcgbbbnjaaDoor
open Go.RowKit Plain
set_option linter.all false

theorem Row.isAddr {e size n c : Nat} {A : Option Addr} {xs : List Value} {F : List Fr} (h : Row e size A n c xs F) (hA : A ≠ none) : ∃ b, A = some ⟨b, 0, none⟩ := by
  rcases h.2 with ⟨h, _⟩ | ⟨g, _, h, _⟩
  · exact absurd h hA
  · exact ⟨g, h⟩
theorem pv_high {kv : List UInt8} {nd : List Nat} {mh : Nat} {es : List En} (ok : DbOk kv nd mh es) {m i : Nat} (hi : mh ≤ i) : pv i (front es m) 0 = 0 := by
  have e : pv i (front es m) 0 = pv i ((es.take m).map En.nd) (if i < hdN.h then hdN.p else 0) := rfl
  rw [e, pv_none _ (fun y hy => ?_)]
  · split <;> rfl
  · obtain ⟨c, hc, rfl⟩ := List.mem_map.1 hy
    have := (ok.high (List.mem_of_mem_take hc)).2
    omega
/-- The first k levels have their last nodes. -/
def RecU (es : List En) (m k : Nat) (pv' : List Nat) : Prop := pv'.length = 12 ∧ ∀ i, i < k → pv'[i]? = some (pv i (front es m) 0)
def NdOut2 (g x : Nat) (A : Option Addr) (n1 c1 : Nat) (pv : List Nat) (mh n sz : Nat) (nd : List Nat) (n2 : Nat) (F R : List Fr) (w0 wx : World) : Prop :=
  ∃ b c2 G, c2 ≤ maxLen ∧ Hid (Row 3 1 (some ⟨b, 0, none⟩) n2 c2 (ni nd) G) ∧ Hid (Own (dFr g x A n1 c1 b n2 c2 pv mh n sz :: (F ++ (G ++ R))) w0 wx)
set_option maxHeartbeats 12800000 in
set_option maxRecDepth 100000 in
theorem put_new_any (g x : Nat) (A kA vA : Option Addr) (n1 c1 b n2 c2 mh kn kc vn vc K N : Nat) (pv0 : List Nat) (kv : List UInt8) (nd : List Nat) (F G : List Fr) (es : List En) (key val : List UInt8) (R : List Fr) (w0 w : World)
    (hS : DbS es K N A n1 c1 b n2 c2 pv0 mh kv nd F G) (hO : Own (dFr g x A n1 c1 b n2 c2 pv0 mh es.length (szKv (es.map En.kv)) :: (F ++ (G ++ R))) w0 w) (hi : mIs En.k es key = false) (hk : Rd R w0 kA key) (hv : Rd R w0 vA val) (hkn : kn = key.length) (hvn : vn = val.length) (hK : K + kn + vn ≤ 1073741824) (hN : N + 1 ≤ 1048576) (hsz : szKv (es.map En.kv) ≤ K) (hel : es.length ≤ N) :
    Calls Tryd.prog 65 #[.pointer (some ⟨g, 0, none⟩), .slice kA kn kc, .slice vA vn vc] w (PutOut g es key val (K + kn + vn) (N + 1) R w0) := by
  have HG := hid (findGE_p g x A kA n1 c1 b n2 c2 mh es.length (szKv (es.map En.kv)) kn kc pv0 kv nd es key (F ++ (G ++ R)) w0 w hS.ok hS.hp hO (hS.rd (fun y hy => by simp [hy])) (hS.nst (by omega) (fun y hy => by simp [hy])) (hk.mono (fun y hy => by simp [hy])) hS.n1l hS.rk.le (by have := hS.bk; have := hS.n1l; omega) hkn)
  rw [hi] at HG
  have hnew := sz_new (es' := es.map En.kv) (key := key) (val := val) (by rw [mIs_map]; exact hi)
  have hbk := hS.bk
  have hbn := hS.bn
  have hn1 := hS.n1l
  have hn2 := hS.n2l
  have hm1 := hS.ok.skip.m1
  have hm2 := hS.ok.skip.m2
  have HS := hid hS
  have HI := hid hi
  have HK := hid hk
  have HV := hid hv
  have HKN := hid hkn
  have HVN := hid hvn
  have HNEW := hid hnew
  obtain ⟨sz, hsz'⟩ : ∃ sz, szKv (es.map En.kv) = sz := ⟨_, rfl⟩
  rw [hsz'] at HG hsz HNEW hO
  obtain ⟨n, hn⟩ : ∃ n, es.length = n := ⟨_, rfl⟩
  rw [hn] at HG hel
  obtain ⟨m, hm⟩ : ∃ m, mAt En.k es key = m := ⟨_, rfl⟩
  rw [hm] at HG
  have HM := hid hm
  have HN := hid (And.intro hn hsz')
  have HN12 := hid (And.intro hn1 hn2)
  have hn1b : n1 ≤ K := by omega
  have hn2b : n2 ≤ 16 + 16 * N := by omega
  have HNDL := hid (show nd.length = n2 by omega)
  obtain ⟨p, hp⟩ : ∃ p, nodeOf es m = p := ⟨_, rfl⟩
  rw [hp] at HG
  clear hS hO hi hk hv hkn hvn hnew hsz' hn hn1 hn2 hbk hbn hp hm
  go_enter Tryd.func65, Tryd.ntmps65
  go_wp2_with fail
  refine HG.out.mono ?_
  rintro e w1 ⟨rfl, pv1, hrec, hO1⟩
  have HO1 := hid hO1
  have HREC := hid hrec
  clear hO1 hrec HG
  go_upto_region 11 with fail
  go_cut [11] (fun v wx => ∃ (h x' : Nat), v = .int .i64 h ∧ 1 ≤ h ∧ h ≤ 12 ∧ Hid (Own (dFr g x' A n1 c1 b n2 c2 pv1 mh n sz :: (F ++ (G ++ R))) w0 wx))
  case first =>
    go_wp2_with fail
    refine (randHeight_any g x A n1 c1 b n2 c2 mh n sz pv1 (F ++ (G ++ R)) w0 w1 HREC.out.1 HO1.out).mono ?_
    rintro e w2 ⟨h, x', rfl, h1, h2, hO2⟩
    have HO2 := hid hO2
    clear hO2
    go_wp2_with fail
    go_meet
    exact ⟨h, x', rfl, h1, h2, HO2⟩
  case rest =>
  obtain ⟨h, x', rfl, hh1, hh2, HO2⟩ := hcut
  clear HO1
  go_step
  go_step
  go_cut [] (fun wx => ∃ pv2, Hid (RecU es m h pv2) ∧ Hid (Own (dFr g x' A n1 c1 b n2 c2 pv2 (max mh h) n sz :: (F ++ (G ++ R))) w0 wx))
  case first =>
    have hc := dFr_cells HREC.out.1 HO2.out
    have cm := hc.cm
    have f16 := hc.fz 16
    clear hc
    by_cases hgt : mh < h
    · have g1 : (mh : Int) < (h : Int) := by omega
      have g1' : decide ((mh : Int) < (h : Int)) = true := decide_eq_true g1
      go_wp2_with fail
      go_loopw [12] (fun s wr => ∃ (k : Nat) (pvk : List Nat), s = .int .i64 k ∧ mh ≤ k ∧ k ≤ h ∧ Hid (RecU es m k pvk) ∧ Hid (Own (dFr g x' A n1 c1 b n2 c2 pvk mh n sz :: (F ++ (G ++ R))) w0 wr)) (fun s _ => h - (intOf s).toNat)
      case atStart => exact ⟨mh, pv1, rfl, Nat.le_refl _, by omega, hid ⟨HREC.out.1, fun i hi => HREC.out.2 i (by omega) hi⟩, HO2⟩
      case round =>
        clear cm f16 HO2
        obtain ⟨k, pvk, rfl, hk1, hk2, HRU, HO3⟩ := hrel
        obtain ⟨w2, rfl⟩ : ∃ w2, w2 = wr := ⟨_, rfl⟩
        have hc := dFr_cells HRU.out.1 HO3.out
        by_cases h4 : k < h
        · have h4' : (k : Int) < (h : Int) := by omega
          have k12 : (k : Int) < 12 := by omega
          have ck := dFr_pvc HRU.out.1 HO3.out (i := k) (List.getElem?_eq_getElem (by rw [HRU.out.1]; omega))
          have fk := hc.fz (4 + k)
          have HO4 := hid (dFr_pv HRU.out.1 HO3.out k 0 (by omega))
          clear hc
          go_wp2_with fail
          go_roundw
          case rel =>
            refine ⟨k + 1, pvk.set k 0, by go_num, by omega, by omega, hid ⟨by rw [List.length_set]; exact HRU.out.1, fun i hi => ?_⟩, HO4⟩
            by_cases hik : i = k
            · subst hik
              rw [List.getElem?_set_self (by rw [HRU.out.1]; omega), pv_high HS.out.ok hk1]
            · rw [List.getElem?_set_ne (by omega)]
              exact HRU.out.2 i (by omega)
          case measure => simp [intOf]; omega
        · have h4' : ¬ (k : Int) < (h : Int) := by omega
          obtain rfl : h = k := by omega
          have cm := hc.cm
          have f16 := hc.fz 16
          have HO4 := hid (dFr_mh HRU.out.1 HO3.out h)
          clear hc
          go_wp2_with fail
          go_meet
          exact ⟨pvk, HRU, by rw [Nat.max_eq_right (by omega)]; exact HO4⟩
    · have g1 : ¬ (mh : Int) < (h : Int) := by omega
      have g1' : decide ((mh : Int) < (h : Int)) = false := decide_eq_false g1
      go_wp2_with fail
      go_meet
      exact ⟨pv1, hid ⟨HREC.out.1, fun i hi => HREC.out.2 i (by omega) (by omega)⟩, by rw [Nat.max_eq_left (by omega)]; exact HO2⟩
  case rest =>
  obtain ⟨pv2, HRU, HO3⟩ := hcut
  clear HO2 HREC
  obtain ⟨mh2, hmh2⟩ : ∃ mh2, max mh h = mh2 := ⟨_, rfl⟩
  rw [hmh2] at HO3
  have HMH := hid hmh2
  clear hmh2
  have hc3 := dFr_cells HRU.out.1 HO3.out
  have q2 := hc3.q2
  clear hc3
  go_step
  go_upto_region 19 with fail
  go_cut [] (fun wx => KvOut g x' b n2 c2 pv2 mh2 n sz (kv ++ key) (n1 + kn) G R w0 wx)
  case first =>
    have hbs := HO3.out.st HK.out (fun y hy => by simp [hy])
    have HBS := hid hbs
    clear hbs
    go_wp2_with (at_builtin; refine own_append rfl (.tmp 118) (.tmp 119) 25 rfl 5 (.int .u8 0) 1 1 Tryd.underlying25 Tryd.info_u8 rfl (by decide) A n1 c1 (bc kv) F rfl HS.out.rk (R := dFr g x' A n1 c1 b n2 c2 pv2 mh2 n sz :: (G ++ R)) (ownK HO3.out) kA kn kc (bc key) rfl (by rw [bc_length, Nat.mul_one]; exact HKN.out.symm) HBS.out.cs (bc_one key) (by simp [maxLen]; omega) (by omega) ?_; intro A3 c3 F3 w3 hr3 hO3 _; have hO3' := ownK' hO3; have hc3 := dFr_cells HRU.out.1 hO3'; have q3 := hc3.q2; have f3 := hc3.fz 2; have HR3 := hid hr3; have HO3 := hid (dFr_kv hO3' A3 (n1 + kn) c3); clear hr3 hO3 hO3' hc3)
    go_meet
    exact ⟨A3, c3, F3, by rw [bc_append]; exact HR3, HO3⟩
  case rest =>
  clear HO3
  obtain ⟨A3, c3, F3, HR3, HO3⟩ := hcut
  have hc3 := dFr_cells HRU.out.1 HO3.out
  have q2 := hc3.q2
  clear hc3
  go_step
  go_step
  go_cut [] (fun wx => KvOut g x' b n2 c2 pv2 mh2 n sz (kv ++ key ++ val) (n1 + kn + vn) G R w0 wx)
  case first =>
    have hbs := HO3.out.st HV.out (fun y hy => by simp [hy])
    have HBS := hid hbs
    clear hbs
    go_wp2_with (at_builtin; refine own_append rfl (.tmp 127) (.tmp 128) 25 rfl 5 (.int .u8 0) 1 1 Tryd.underlying25 Tryd.info_u8 rfl (by decide) A3 (n1 + kn) c3 (bc (kv ++ key)) F3 rfl HR3.out (R := dFr g x' A3 (n1 + kn) c3 b n2 c2 pv2 mh2 n sz :: (G ++ R)) (ownK HO3.out) vA vn vc (bc val) rfl (by rw [bc_length, Nat.mul_one]; exact HVN.out.symm) HBS.out.cs (bc_one val) (by simp [maxLen]; omega) (by omega) ?_; intro A4 c4 F4 w4 hr4 hO4 _; have hO4' := ownK' hO4; have hc4 := dFr_cells HRU.out.1 hO4'; have q4 := hc4.q2; have f4 := hc4.fz 2; have HR4 := hid hr4; have HO4 := hid (dFr_kv hO4' A4 (n1 + kn + vn) c4); clear hr4 hO4 hO4' hc4)
    go_meet
    exact ⟨A4, c4, F4, by rw [bc_append]; exact HR4, HO4⟩
  case rest =>
  obtain ⟨A4, c4, F4, HR4, HO4⟩ := hcut
  clear q2 HR3 HO3
  have hc4 := dFr_cells HRU.out.1 HO4.out
  have q3 := hc4.q3
  clear hc4
  obtain ⟨z, hz⟩ : ∃ z : Nd, (⟨n2, h, n1, kn, vn⟩ : Nd) = z := ⟨_, rfl⟩
  have HZ := hid hz
  clear hz
  go_step
  go_upto_region 22 with fail
  go_cut [] (fun wx => NdOut2 g x' A4 (n1 + kn + vn) c4 pv2 mh2 n sz (insN nd z (fun i => pv i (front es m) 0) 0) (n2 + 4) F4 R w0 wx)
  case first =>
    go_wp2_with (at_builtin; refine own_append rfl (.tmp 141) (.tmp 148) 60 rfl 3 (.int .i64 0) 1 8 Tryd.underlying60 Tryd.info_int' rfl (by decide) (some ⟨b, 0, none⟩) n2 c2 (ni nd) G rfl HS.out.rn (R := dFr g x' A4 (n1 + kn + vn) c4 b n2 c2 pv2 mh2 n sz :: (F4 ++ R)) ((ownN HO4.out).skip _) (some ⟨_, 0, none⟩) 4 4 [.int .i64 n1, .int .i64 kn, .int .i64 vn, .int .i64 h] rfl rfl (csAt_all _ _ _) (by simp [Value.oneCell']) (by simp [maxLen]; omega) (by omega) ?_; intro B5 c5 G5 w5 hr5 hO5 hn5; obtain ⟨b5, rfl⟩ := hr5.isAddr (fun e => by have := (hn5.1 e).1; simp at this); have hO5' := ownN' hO5; have hc5 := dFr_cells HRU.out.1 hO5'; have q5 := hc5.q3; have f5 := hc5.fz 3; have HR5 := hid hr5; have HO5 := hid (dFr_nd hO5' b5 (n2 + 4) c5); clear hr5 hO5 hO5' hc5 hn5)
    go_meet
    refine ⟨b5, c5, G5, HR5.out.cap, hid ?_, HO5⟩
    have h5 := HR5.out
    rw [← HZ.out]
    show Row _ 1 _ _ _ (ni (nd ++ [n1, kn, vn, h])) G5
    rw [ni_append]
    exact h5
  case rest =>
  clear q3 HO4
  obtain ⟨b5, c5, G5, hc5m, HR5, HO5⟩ := hcut
  have h12 : (h : Int) ≤ 12 := by omega
  go_step
  go_wp2_with fail
  go_loopw [158] (fun s wr => ∃ (k : Nat), s = .int .i64 k ∧ k ≤ h ∧ Hid (NdOut2 g x' A4 (n1 + kn + vn) c4 pv2 mh2 n sz (insN nd z (fun i => pv i (front es m) 0) k) (n2 + 4 + k) F4 R w0 wr)) (fun s _ => h - (intOf s).toNat)
  case atStart => exact ⟨0, rfl, Nat.zero_le _, hid ⟨b5, c5, G5, hc5m, HR5, HO5⟩⟩
  case round =>
    clear HR5 HO5 hc5m
    obtain ⟨k, rfl, hk, HND⟩ := hrel
    obtain ⟨w2, rfl⟩ : ∃ w2, w2 = wr := ⟨_, rfl⟩
    obtain ⟨b6, c6, G6, hc6m, HR6, HO6⟩ := HND.out
    clear HND
    have hc6 := dFr_cells HRU.out.1 HO6.out
    by_cases h4 : k < h
    · have h4' : (k : Int) < (h : Int) := by omega
      obtain ⟨pk, hpk⟩ : ∃ pk, pv k (front es m) 0 = pk := ⟨_, rfl⟩
      have ck := dFr_pvc HRU.out.1 HO6.out (HRU.out.2 k h4)
      rw [hpk] at ck
      have hl := HS.out.ok.skip.linked
      rw [front_back es m] at hl
      obtain ⟨xn, hxn, _, hx2, hx3⟩ := front_last (A := (es.take m).map En.nd) (B := (es.drop m).map En.nd) hl (i := k) (by omega)
      rw [show pv k (hdN :: (es.take m).map En.nd) 0 = pk from hpk] at hx2
      rw [← hx2] at hx3
      have hlt := (List.getElem?_eq_some_iff.1 hx3).1
      rw [HNDL.out] at hlt
      have hil := insN_length nd z (fun i => pv i (front es m) 0) k
      have hgl : (insN nd z (fun i => pv i (front es m) 0) k)[pk + 4 + k]? = some ((insN nd z (fun i => pv i (front es m) 0) k).getD (pk + 4 + k) 0) := by
        rw [List.getD_eq_getElem?_getD, List.getElem?_eq_getElem (by rw [hil, HNDL.out]; omega), Option.getD_some]
      obtain ⟨v, hv⟩ : ∃ v, (insN nd z (fun i => pv i (front es m) 0) k).getD (pk + 4 + k) 0 = v := ⟨_, rfl⟩
      rw [hv] at hgl
      have hnk : n2 + 4 + k = (insN nd z (fun i => pv i (front es m) 0) k).length := by rw [hil, HNDL.out]
      have cv := ((NdAt.of (n2 := n2 + 4 + k) (HR6.out.csO (ownN HO6.out)) hnk (by omega)).cell _ _ hgl).1
      have q3 := hc6.q3
      have s1 : IntKind.i64.wrap ((pk : Int) + 4) = ((pk + 4 : Nat) : Int) := wrap_add pk 4 (by omega)
      have s2 : IntKind.i64.wrap (((pk + 4 : Nat) : Int) + (k : Int)) = ((pk + 4 + k : Nat) : Int) := wrap_add (pk + 4) k (by omega)
      obtain ⟨i1, hi1⟩ : ∃ i1, pk + 4 = i1 := ⟨_, rfl⟩
      rw [hi1] at s1 s2 cv hlt hgl hv
      obtain ⟨i2, hi2⟩ : ∃ i2, i1 + k = i2 := ⟨_, rfl⟩
      rw [hi2] at s2 cv hlt hgl hv
      have lv : (i2 : Int) < ((n2 + 4 + k : Nat) : Int) := by omega
      have hins : insN nd z (fun i => pv i (front es m) 0) (k + 1) = (insN nd z (fun i => pv i (front es m) 0) k ++ [v]).set i2 z.p := by
        show (insN nd z (fun i => pv i (front es m) 0) k ++ [(insN nd z (fun i => pv i (front es m) 0) k).getD (pv k (front es m) 0 + 4 + k) 0]).set (pv k (front es m) 0 + 4 + k) z.p = _
        rw [hpk, hi1, hi2, hv]
      have HINS := hid hins
      clear hil hgl hv hnk hi1 hi2 hx2 hx3 hxn hl hpk hins hc6 hc6m
      generalize insN nd z (fun i => pv i (front es m) 0) k = ik at *
      obtain ⟨n3, hn3⟩ : ∃ n3, n2 + 4 + k = n3 := ⟨_, rfl⟩
      rw [hn3] at HR6 HO6 q3 lv
      have hn3b : n3 ≤ 33554432 := by omega
      have HN3 := hid hn3
      clear hn3
      go_wp2_with fail
      refine AnyT.start (S := fun w' => w'.cell? ⟨g, 3, none⟩ = some (.slice (some ⟨b6, 0, none⟩) n3 c6)) (T := [16]) (by kernel_rfl) (q3) (fun hHeld => ?_)
      refine AnyT.take (i := 0) (v := ?_) (by simp only [List.getElem?_toArray, List.getElem?_cons_succ, List.getElem?_cons_zero]; rfl) (by kernel_rfl) (by kernel_rfl) (by kernel_rfl) (by kernel_rfl) (by intro _ _ _ h; exact h) (Or.inl ⟨by rfl, fun w hSw => ?_⟩) hHeld ?_
      rotate_left
      · ((try dsimp only at hSw); go_simp; first | done | with_reducible rfl | rfl)
      try simp only [Act.put, List.setIfInBounds_toArray, List.set_cons_zero, List.set_cons_succ]
      refine AnyT.take (i := 1) (v := ?_) (by simp only [List.getElem?_toArray, List.getElem?_cons_succ, List.getElem?_cons_zero]; rfl) (by kernel_rfl) (by kernel_rfl) (by kernel_rfl) (by kernel_rfl) (by intro _ _ _ h; exact h) (Or.inl ⟨by rfl, fun w hSw => ?_⟩) hHeld ?_
      rotate_left
      · ((try dsimp only at hSw); go_simp; first | done | with_reducible rfl | rfl)
      try simp only [Act.put, List.setIfInBounds_toArray, List.set_cons_zero, List.set_cons_succ]
      refine AnyT.take (i := 2) (v := ?_) (by simp only [List.getElem?_toArray, List.getElem?_cons_succ, List.getElem?_cons_zero]; rfl) (by kernel_rfl) (by kernel_rfl) (by kernel_rfl) (by kernel_rfl) (by intro _ _ _ h; exact h) (Or.inl ⟨by rfl, fun w hSw => ?_⟩) hHeld ?_
      rotate_left
      · ((try dsimp only at hSw); go_simp; first | done | with_reducible rfl | rfl)
      try simp only [Act.put, List.setIfInBounds_toArray, List.set_cons_zero, List.set_cons_succ]
      refine AnyT.take (i := 3) (v := ?_) (by simp only [List.getElem?_toArray, List.getElem?_cons_succ, List.getElem?_cons_zero]; rfl) (by kernel_rfl) (by kernel_rfl) (by kernel_rfl) (by kernel_rfl) (by intro _ _ _ h; exact h) (Or.inl ⟨by rfl, fun w hSw => ?_⟩) hHeld ?_
      rotate_left
      · ((try dsimp only at hSw); go_simp; first | done | with_reducible rfl | rfl)
      try simp only [Act.put, List.setIfInBounds_toArray, List.set_cons_zero, List.set_cons_succ]
      refine AnyT.take (i := 4) (v := ?_) (by simp only [List.getElem?_toArray, List.getElem?_cons_succ, List.getElem?_cons_zero]; rfl) (by kernel_rfl) (by kernel_rfl) (by kernel_rfl) (by kernel_rfl) (by intro _ _ _ h; exact h) (Or.inl ⟨by rfl, fun w hSw => ?_⟩) hHeld ?_
      rotate_left
      · ((try dsimp only at hSw); go_simp; first | done | with_reducible rfl | rfl)
      try simp only [Act.put, List.setIfInBounds_toArray, List.set_cons_zero, List.set_cons_succ]
      refine AnyT.take (i := 5) (v := ?_) (by simp only [List.getElem?_toArray, List.getElem?_cons_succ, List.getElem?_cons_zero]; rfl) (by kernel_rfl) (by kernel_rfl) (by kernel_rfl) (by kernel_rfl) (by intro _ _ _ h; exact h) (Or.inl ⟨by rfl, fun w hSw => ?_⟩) hHeld ?_
      rotate_left
      · ((try dsimp only at hSw); go_simp; first | done | with_reducible rfl | rfl)
      try simp only [Act.put, List.setIfInBounds_toArray, List.set_cons_zero, List.set_cons_succ]
      refine AnyT.take (i := 6) (v := ?_) (by simp only [List.getElem?_toArray, List.getElem?_cons_succ, List.getElem?_cons_zero]; rfl) (by kernel_rfl) (by kernel_rfl) (by kernel_rfl) (by kernel_rfl) (by intro _ _ _ h; exact h) (Or.inl ⟨by rfl, fun w hSw => ?_⟩) hHeld ?_
      rotate_left
      · ((try dsimp only at hSw); go_simp; first | done | with_reducible rfl | rfl)
      try simp only [Act.put, List.setIfInBounds_toArray, List.set_cons_zero, List.set_cons_succ]
      refine AnyT.take (i := 7) (v := ?_) (by simp only [List.getElem?_toArray, List.getElem?_cons_succ, List.getElem?_cons_zero]; rfl) (by kernel_rfl) (by kernel_rfl) (by kernel_rfl) (by kernel_rfl) (by intro _ _ _ h; exact h) (Or.inl ⟨by rfl, fun w hSw => ?_⟩) hHeld ?_
      rotate_left
      · ((try dsimp only at hSw); go_simp; first | done | with_reducible rfl | rfl)
      try simp only [Act.put, List.setIfInBounds_toArray, List.set_cons_zero, List.set_cons_succ]
      refine AnyT.take (i := 8) (v := ?_) (by simp only [List.getElem?_toArray, List.getElem?_cons_succ, List.getElem?_cons_zero]; rfl) (by kernel_rfl) (by kernel_rfl) (by kernel_rfl) (by kernel_rfl) (by intro _ _ _ h; exact h) (Or.inl ⟨by rfl, fun w hSw => ?_⟩) hHeld ?_
      rotate_left
      · ((try dsimp only at hSw); go_simp; first | done | with_reducible rfl | rfl)
      try simp only [Act.put, List.setIfInBounds_toArray, List.set_cons_zero, List.set_cons_succ]
      refine AnyT.take (i := 9) (v := ?_) (by simp only [List.getElem?_toArray, List.getElem?_cons_succ, List.getElem?_cons_zero]; rfl) (by kernel_rfl) (by kernel_rfl) (by kernel_rfl) (by kernel_rfl) (by intro _ _ _ h; exact h) (Or.inl ⟨by rfl, fun w hSw => ?_⟩) hHeld ?_
      rotate_left
      · ((try dsimp only at hSw); go_simp; first | done | with_reducible rfl | rfl)
      try simp only [Act.put, List.setIfInBounds_toArray, List.set_cons_zero, List.set_cons_succ]
      refine AnyT.take (i := 10) (v := ?_) (by simp only [List.getElem?_toArray, List.getElem?_cons_succ, List.getElem?_cons_zero]; rfl) (by kernel_rfl) (by kernel_rfl) (by kernel_rfl) (by kernel_rfl) (by intro _ _ _ h; exact h) (Or.inl ⟨by rfl, fun w hSw => ?_⟩) hHeld ?_
      rotate_left
      · ((try dsimp only at hSw); go_simp; first | done | with_reducible rfl | rfl)
      try simp only [Act.put, List.setIfInBounds_toArray, List.set_cons_zero, List.set_cons_succ]
      refine AnyT.ready (rs := [11]) (by kernel_rfl) (by simp) ?_
      refine AllT.cons (by simp only [List.getElem?_toArray, List.getElem?_cons_succ, List.getElem?_cons_zero]; rfl) (fun K hK => ?_) AllT.nil
      go_simp
      refine hK.out _ _ ?_ (fun hHeld => ?_)
      · go_simp
      clear hK
      try simp only [Act.put, List.setIfInBounds_toArray, List.set_cons_zero, List.set_cons_succ]
      refine AnyT.ready (rs := [12]) (by kernel_rfl) (by simp) ?_
      refine AllT.cons (by simp only [List.getElem?_toArray, List.getElem?_cons_succ, List.getElem?_cons_zero]; rfl) (fun K hK => ?_) AllT.nil
      go_simp
      refine hK.out _ _ ?_ (fun hHeld => ?_)
      · exact keepc ((Only.refl [] _).alloc _).drew q3
      clear hK
      try simp only [Act.put, List.setIfInBounds_toArray, List.set_cons_zero, List.set_cons_succ]
      refine AnyT.ready (rs := [13]) (by kernel_rfl) (by simp) ?_
      refine AllT.cons (by simp only [List.getElem?_toArray, List.getElem?_cons_succ, List.getElem?_cons_zero]; rfl) (fun K hK => ?_) AllT.nil
      refine own_step_append rfl (.tmp 171) (.tmp 179) 60 rfl 3 (.int .i64 0) 1 8 Tryd.underlying60 Tryd.info_int' rfl (by decide) (some ⟨b6, 0, none⟩) n3 c6 (ni ik) G6 rfl HR6.out (R := dFr g x' A4 (n1 + kn + vn) c4 b6 n3 c6 pv2 mh2 n sz :: (F4 ++ R)) ((ownN HO6.out).drew.skip _) (some ⟨_, 0, none⟩) 1 1 [.int .i64 v] rfl rfl (csAt_one _ _ _) (by simp [Value.oneCell']) (by simp [maxLen]; omega) (by omega) ?_
      intro B7 c7 G7 w7 hr7 hO7 hn7
      obtain ⟨b7, rfl⟩ := hr7.isAddr (fun e => by have := (hn7.1 e).1; simp at this)
      have hO7' := ownN' hO7
      have hc7 := dFr_cells HRU.out.1 hO7'
      have q7 := hc7.q3
      have f7 := hc7.fz 3
      have HR7 := hid hr7
      have HO7 := hid (dFr_nd hO7' b7 (n3 + 1) c7)
      clear hr7 hO7 hO7' hc7 hn7 q3 cv
      refine hK.out _ _ ?_ (fun hHeld => ?_)
      · exact q7
      clear hK
      try simp only [Act.put, List.setIfInBounds_toArray, List.set_cons_zero, List.set_cons_succ]
      refine AnyT.ready (rs := [14]) (by kernel_rfl) (by simp) ?_
      refine AllT.cons (by simp only [List.getElem?_toArray, List.getElem?_cons_succ, List.getElem?_cons_zero]; rfl) (fun K hK => ?_) AllT.nil
      go_simp
      refine hK.out _ _ ?_ (fun hHeld => ?_)
      · exact q7
      clear hK
      try simp only [Act.put, List.setIfInBounds_toArray, List.set_cons_zero, List.set_cons_succ]
      refine AnyT.take (i := 15) (v := ?_) (by simp only [List.getElem?_toArray, List.getElem?_cons_succ, List.getElem?_cons_zero]; rfl) (by kernel_rfl) (by kernel_rfl) (by kernel_rfl) (by kernel_rfl) (by intro _ _ _ h; exact h) (Or.inl ⟨by rfl, fun w hSw => ?_⟩) hHeld ?_
      rotate_left
      · ((try dsimp only at hSw); go_simp; first | done | with_reducible rfl | rfl)
      try simp only [Act.put, List.setIfInBounds_toArray, List.set_cons_zero, List.set_cons_succ]
      refine AnyT.ready (rs := [16]) (by kernel_rfl) (by simp) ?_
      refine AllT.late (by simp only [List.getElem?_toArray, List.getElem?_cons_succ, List.getElem?_cons_zero]; rfl) (by kernel_rfl) (fun K hK => ?_)
      go_simp
      refine hK.out _ _ ?_
      clear hK
      try simp only [Act.put, List.setIfInBounds_toArray, List.set_cons_zero, List.set_cons_succ]
      refine AnyT.done (by kernel_rfl) ?_ _
      clear hHeld q7 f7 HO6 HR6 ck
      generalize World.setCell _ _ _ = W at HO7 ⊢
      have hc7 := dFr_cells HRU.out.1 HO7.out
      have q3 := hc7.q3
      have hr8 := HR7.out
      rw [show ni ik ++ [.int .i64 (v : Int)] = ni (ik ++ [v]) by simp [ni]] at hr8
      obtain ⟨G8, hG8, hO8, f8⟩ := hr8.put (ownN HO7.out) (i := i2) (by omega) (.int .i64 (n2 : Int))
      have z8 := ((hr8.csO (ownN HO7.out)) |> fun h => (NdAt.of (n2 := n3 + 1) h (by have h5 := hr8.1; rw [ni_length] at h5; omega) (by omega)))
      have hcell : ∃ u, (ik ++ [v])[i2]? = some u := ⟨_, List.getElem?_eq_getElem (by have h5 := hr8.1; rw [ni_length] at h5; omega)⟩
      obtain ⟨u8, hu8⟩ := hcell
      have c8 := (z8.cell _ _ hu8).1
      rw [← ni_set] at hG8
      have HG8 := hid hG8
      have HO8 := hid (ownN' hO8)
      have lv8 : (i2 : Int) < ((n3 + 1 : Nat) : Int) := by omega
      clear hc7 hr8 hG8 hO8 z8 hu8 HO7 HR7
      go_wp2_with fail
      go_roundw
      case rel =>
        refine ⟨k + 1, by go_num, by omega, hid ⟨b7, c7, G8, HG8.out.cap, hid ?_, hid ?_⟩⟩
        · rw [HINS.out, show n2 + 4 + (k + 1) = n3 + 1 by have := HN3.out; omega, ← HZ.out]
          exact HG8.out
        · rw [show n2 + 4 + (k + 1) = n3 + 1 by have := HN3.out; omega]
          exact HO8.out
      case measure => simp [intOf]; omega
    · have h4' : ¬ (k : Int) < (h : Int) := by omega
      obtain rfl : h = k := by omega
      have cn := hc6.cn
      have cz := hc6.cz
      have f17 := hc6.fz 17
      have f18 := hc6.fz 18
      have i1 : IntKind.i64.wrap ((kn : Int) + (vn : Int)) = ((kn + vn : Nat) : Int) := wrap_add _ _ (by omega)
      obtain ⟨kvn, hkvn⟩ : ∃ kvn, kn + vn = kvn := ⟨_, rfl⟩
      rw [hkvn] at i1
      have i2 : IntKind.i64.wrap ((sz : Int) + (kvn : Int)) = ((sz + kvn : Nat) : Int) := wrap_add _ _ (by omega)
      obtain ⟨sz3, hsz3⟩ : ∃ sz3, sz + kvn = sz3 := ⟨_, rfl⟩
      rw [hsz3] at i2
      have i3 : IntKind.i64.wrap ((n : Int) + 1) = ((n + 1 : Nat) : Int) := wrap_add n 1 (by omega)
      obtain ⟨n5, hn5⟩ : ∃ n5, n + 1 = n5 := ⟨_, rfl⟩
      rw [hn5] at i3
      have HO7 := hid (dFr_n HRU.out.1 (dFr_sz HRU.out.1 HO6.out sz3) n5)
      have HSN := hid (And.intro hkvn (And.intro hsz3 hn5))
      clear hkvn hsz3 hn5
      clear hc6 hc6m
      go_wp2_with fail
      go_ret
      have hid1 := HS.out.ok.ins (val := val) hh1 hh2 HI.out (P := fun i => pv i (front es m) 0) (fun i _ => by rw [HM.out])
      refine ⟨rfl, _, put_new (key := key) (val := val) (z := ⟨nd.length, h, kv.length, key.length, val.length⟩) HI.out, x', A4, n1 + kn + vn, c4, b6, n2 + 4 + h, c6, pv2, mh2, kv ++ key ++ val, insN nd z (fun i => pv i (front es m) 0) h, F4, G6, ⟨HRU.out.1, ?_, HR4.out, HR6.out, ?_, ?_⟩, ?_⟩
      · rw [← HMH.out, ← HZ.out, ← HNDL.out, HN12.out.1, HKN.out, HVN.out]
        exact hid1
      · rw [List.length_append, List.length_append, ← HKN.out, ← HVN.out]
        have := HN12.out.1; omega
      · rw [insN_length, HNDL.out]; omega
      · have hlen : (es.take (mAt En.k es key) ++ (⟨⟨nd.length, h, kv.length, key.length, val.length⟩, key, val⟩ : En) :: es.drop (mAt En.k es key)).length = n5 := by
          have := HSN.out.2.2
          have := HN.out.1
          have h9 := mAt_le En.k es key
          rw [List.length_append, List.length_cons, List.length_take, List.length_drop]; omega
        rw [put_new HI.out, hlen, HNEW.out, ← HKN.out, ← HVN.out, HSN.out.1, HSN.out.2.1]
        exact HO7.out
end Go.Proofs.YtloflmcgbbbnjaaDoor
namespace Go.Proofs.YtloflmcgbbbnjaaDoor
open Go.RowKit Go.ChangeShapes Go.WideShapes Plain
set_option linter.all false

theorem i64_bound {n : Int} (h : Lit.wf (.int .i64 n) = true) : -9223372036854775808 ≤ n ∧ n ≤ 9223372036854775807 := by
  have a : IntKind.i64.min = -9223372036854775808 := by decide
  have b : IntKind.i64.max = 9223372036854775807 := by decide
  have h : (decide (IntKind.i64.min ≤ n) && decide (n ≤ IntKind.i64.max)) = true := h
  rw [a, b, Bool.and_eq_true, decide_eq_true_eq, decide_eq_true_eq] at h
  exact h
def inI64 (n : Int) : Prop := -9223372036854775808 ≤ n ∧ n ≤ 9223372036854775807
set_option maxRecDepth 100000 in
theorem open_topts {H : Type} {enc : TypeId × Value → H} {W : World} {r : Reach} {b0 base : Nat} {spare : Nat → Bool} {held : Bool} {v : Value} {d : DataW H} {ps : List MemPlace}
    (hv : Value.okWide Tryd.prog W r b0 32 v) (h : DataW.Trod enc Tryd.prog W base spare held 32 v d ps) :
    ∃ a b c e : Int, v = .agg #[.int .i64 a, .int .i64 b, .int .i64 c, .int .i64 e] ∧ inI64 a ∧ inI64 b ∧ inI64 c ∧ inI64 e := by
  obtain ⟨cs, rfl, hsz⟩ := okWide_struct Tryd.underlying32 hv
  rw [show Tryd.prog.cellsOf 32 = 4 by kernel_rfl] at hsz
  obtain ⟨c0, c1, c2, c3, rfl⟩ := Joins.array4 hsz
  obtain ⟨fuel, hf⟩ := h
  obtain ⟨xs, k, _, _, hl, hlen, hf⟩ := DataW.trod_struct Tryd.underlying32 hf
  match xs, hlen with
  | [y1, y2, y3, y4], _ =>
    have u1 := hf 0 _ rfl
    have u2 := hf 1 _ rfl
    have u3 := hf 2 _ rfl
    have u4 := hf 3 _ rfl
    rw [show Tryd.prog.cellsOf _ = 1 by kernel_rfl] at u1 u2 u3 u4
    simp [Value.cells] at u1 u2 u3 u4
    obtain ⟨n1, e1, _, w1⟩ := DataW.trod_int Tryd.underlying3 u1
    obtain ⟨n2, e2, _, w2⟩ := DataW.trod_int Tryd.underlying3 u2
    obtain ⟨n3, e3, _, w3⟩ := DataW.trod_int Tryd.underlying3 u3
    obtain ⟨n4, e4, _, w4⟩ := DataW.trod_int Tryd.underlying3 u4
    simp at e1 e2 e3 e4
    subst e1; subst e2; subst e3; subst e4
    exact ⟨n1, n2, n3, n4, rfl, i64_bound w1, i64_bound w2, i64_bound w3, i64_bound w4⟩
end Go.Proofs.YtloflmcgbbbnjaaDoor
namespace Go.Proofs.YtloflmcgbbbnjaaDoor
open Go.RowKit Plain Go.ChangeShapes Go.WideShapes Go.ChangeAt
set_option linter.all false

structure MO where
  kind : Int
  ka : Option Addr
  kc : Nat
  k : List UInt8
  va : Option Addr
  vc : Nat
  v : List UInt8
  n : Int
def MO.cells (r : MO) : List Value := [.int .i64 r.kind, .slice r.ka r.k.length r.kc, .slice r.va r.v.length r.vc, .int .i64 r.n]
theorem MO.cells_length (r : MO) : r.cells.length = 4 := rfl
structure MO.Ok (w : World) (r : MO) : Prop where
  hk : BsAt w r.ka r.k
  hv : BsAt w r.va r.v
  hkc : r.k.length ≤ r.kc
  hvc : r.v.length ≤ r.vc
  hkm : r.kc ≤ maxLen
  hvm : r.vc ≤ maxLen
theorem MO.Ok.keep0 {w w' : World} {r : MO} (h : MO.Ok w r) (hb : Only [] w w') : MO.Ok w' r := ⟨h.hk.keep0 hb, h.hv.keep0 hb, h.hkc, h.hvc, h.hkm, h.hvm⟩
/-- A row of such records. -/
structure MOs (w : World) (A : Option Addr) (l : List MO) : Prop where
  row : CsAt w A (l.flatMap MO.cells)
  ok : ∀ r ∈ l, r.Ok w
theorem MOs.keep0 {w w' : World} {A : Option Addr} {l : List MO} (h : MOs w A l) (hb : Only [] w w') : MOs w' A l := ⟨h.row.keep0 hb, fun r hr => (h.ok r hr).keep0 hb⟩
theorem MOs.at_ {w : World} {A : Option Addr} {l : List MO} (h : MOs w A l) {i : Nat} {r : MO} (hr : l[i]? = some r) :
    ∃ g o, A = some ⟨g, o, none⟩ ∧ w.cell? ⟨g, o + i * 4, none⟩ = some (.int .i64 r.kind) ∧ w.cell? ⟨g, o + i * 4 + 1, none⟩ = some (.slice r.ka r.k.length r.kc) ∧ w.cell? ⟨g, o + i * 4 + 2, none⟩ = some (.slice r.va r.v.length r.vc) ∧ w.cell? ⟨g, o + i * 4 + 3, none⟩ = some (.int .i64 r.n) := by
  obtain ⟨g, o, e, hc⟩ := CsAt.at_row MO.cells 4 MO.cells_length (by omega) h.row hr
  exact ⟨g, o, e, hc 0 (by omega), hc 1 (by omega), hc 2 (by omega), hc 3 (by omega)⟩
set_option maxRecDepth 100000 in
theorem open_mo {H : Type} {enc : TypeId × Value → H} {W : World} {base : Nat} {spare : Nat → Bool} {held : Bool} {n : Nat} {c : List Value} {y : DataW H × List MemPlace}
    (h : DataW.trod enc Tryd.prog W base spare held n 67 c = some y) : ∃ r : MO, c = r.cells ∧ r.Ok W := by
  obtain ⟨xs, k, _, _, hl, hlen, hf⟩ := DataW.trod_struct Tryd.underlying67 h
  rw [show Tryd.prog.cellsOf 67 = 4 by kernel_rfl] at hl
  match c, hl, xs, hlen with
  | [c0, c1, c2, c3], _, [y0, y1, y2, y3], _ =>
    have u0 := hf 0 _ rfl
    have u1 := hf 1 _ rfl
    have u2 := hf 2 _ rfl
    have u3 := hf 3 _ rfl
    rw [show Tryd.prog.cellsOf _ = 1 by kernel_rfl] at u0 u1 u2 u3
    simp at u0 u1 u2 u3
    obtain ⟨kd, hb, _, w1⟩ := DataW.trod_int Tryd.underlying3 u0
    obtain ⟨A, l, cc, e1, h1, h2, h3⟩ := open_bytes_f Tryd.underlying25 Tryd.underlying5 (by kernel_rfl) u1
    obtain ⟨B, m, cd, e2, h4, h5, h6⟩ := open_bytes_f Tryd.underlying25 Tryd.underlying5 (by kernel_rfl) u2
    obtain ⟨nn, hn, _, w2⟩ := DataW.trod_int Tryd.underlying3 u3
    simp at hb e1 e2 hn
    subst hb; subst e1; subst e2; subst hn
    exact ⟨⟨kd, A, cc, l, B, cd, m, nn⟩, rfl, ⟨h3, h6, h1, h4, h2, h5⟩⟩
theorem open_mos {H : Type} {enc : TypeId × Value → H} {W : World} {base : Nat} {spare : Nat → Bool} {held : Bool} {a : Option Addr} {len cap : Nat} {d : DataW H} {ps : List MemPlace}
    (h : DataW.Trod enc Tryd.prog W base spare held 61 (.slice a len cap) d ps) : ∃ l : List MO, len = l.length ∧ l.length ≤ cap ∧ cap ≤ maxLen ∧ MOs W a l := by
  obtain ⟨fuel, hf⟩ := h
  obtain ⟨A, l, c, e, h1, h2, h3, h4⟩ := open_rows MO.cells (fun r => r.Ok W) 4 Tryd.underlying61 (by kernel_rfl) MO.cells_length (by omega) (fun n c y h => open_mo h) hf
  simp [Value.cells] at e
  obtain ⟨rfl, rfl, rfl⟩ := e
  exact ⟨l, rfl, h1, h2, ⟨h3, h4⟩⟩

/-! ### bounds, weight -/
def fits4 (l : List MO) : Bool := l.all fun r => decide (r.k.length ≤ 2147483647) && decide (r.v.length ≤ 2147483647)
set_option maxHeartbeats 800000 in
theorem fits5_any (r : MO) (w : World) :
    Calls Tryd.prog 54 #[.agg #[.int .i64 r.kind, .slice r.ka r.k.length r.kc, .slice r.va r.v.length r.vc, .int .i64 r.n]] w
      fun e w' => e = .returned (.bool (decide (r.k.length ≤ 2147483647) && decide (r.v.length ≤ 2147483647))) ∧ Only [] w w' := by
  obtain ⟨kd, ka, kc, k, va, vc, v, nn⟩ := r
  simp only
  go_enter Tryd.func54, Tryd.ntmps54
  by_cases h1 : k.length ≤ 2147483647
  · have d1 : decide (2147483647 < (k.length : Int)) = false := decide_eq_false (by omega)
    have d1' : decide (2147483647 < k.length) = false := decide_eq_false (by omega)
    by_cases h2 : v.length ≤ 2147483647
    · have d2 : decide (2147483647 < (v.length : Int)) = false := decide_eq_false (by omega)
      have d2' : decide (2147483647 < v.length) = false := decide_eq_false (by omega)
      have HR := hid (show (true : Bool) = (decide (k.length ≤ 2147483647) && decide (v.length ≤ 2147483647)) by simp [h1, h2])
      clear h1 h2
      go_wp2
      go_ret
      exact ⟨ret_bool HR.out, (Only.refl _ _).alloc _⟩
    · have d2 : decide (2147483647 < (v.length : Int)) = true := decide_eq_true (by omega)
      have d2' : decide (2147483647 < v.length) = true := decide_eq_true (by omega)
      have HR := hid (show (false : Bool) = (decide (k.length ≤ 2147483647) && decide (v.length ≤ 2147483647)) by simp [h2])
      clear h1 h2
      go_wp2
      go_ret
      exact ⟨ret_bool HR.out, (Only.refl _ _).alloc _⟩
  · have d1 : decide (2147483647 < (k.length : Int)) = true := decide_eq_true (by omega)
    have d1' : decide (2147483647 < k.length) = true := decide_eq_true (by omega)
    have HR := hid (show (false : Bool) = (decide (k.length ≤ 2147483647) && decide (v.length ≤ 2147483647)) by simp [h1])
    clear h1
    go_wp2
    go_ret
    exact ⟨ret_bool HR.out, (Only.refl _ _).alloc _⟩
set_option maxHeartbeats 800000 in
theorem fits4_in (A : Option Addr) (c : Nat) (l : List MO) (w : World) (h : MOs w A l) (hl : l.length ≤ 2147483647) :
    Calls Tryd.prog 28 #[.slice A l.length c] w fun e w' => e = .returned (.bool (fits4 l)) ∧ Only [] w w' := by
  have d0 : decide (2147483647 < (l.length : Int)) = false := decide_eq_false (by omega)
  have d0' : decide (2147483647 < l.length) = false := decide_eq_false (by omega)
  go_enter Tryd.func28, Tryd.ntmps28
  go_wp2
  go_loopw [10] (fun i wr => ∃ k : Nat, i = .int .i64 k ∧ k ≤ l.length ∧ fits4 l = fits4 (l.drop k) ∧ Only [] w wr) (fun i _ => l.length - (intOf i).toNat)
  case atStart => exact ⟨0, rfl, Nat.zero_le _, rfl, Only.refl _ _⟩
  case round =>
    obtain ⟨k, rfl, hk, hx, ho⟩ := hrel
    have HX := hid hx
    clear hx
    by_cases h4 : k < l.length
    · have h4' : (k : Int) < (l.length : Int) := by omega
      have hr : l[k]? = some l[k] := List.getElem?_eq_getElem h4
      have hd : fits4 (l.drop k) = ((decide (l[k].k.length ≤ 2147483647) && decide (l[k].v.length ≤ 2147483647)) && fits4 (l.drop (k + 1))) := by
        rw [← List.getElem_cons_drop h4]; simp only [fits4, List.all_cons]
      have HD := hid hd
      clear hd
      generalize l[k] = r at hr HD
      obtain ⟨g, o, rfl, c1, c2, c3, c4⟩ := (h.keep0 ho).at_ hr
      cases hb : (decide (r.k.length ≤ 2147483647) && decide (r.v.length ≤ 2147483647)) with
      | true =>
        have HB := hid hb
        clear hb
        go_wp2_with (go_at_call 54; refine (fits5_any r _).mono ?_; rintro e w4 ⟨rfl, ho4⟩; rw [HB.out])
        exact ⟨⟨k + 1, rfl, h4, by rw [HX.out, HD.out, HB.out, Bool.true_and], ((ho.alloc _).new ho4)⟩, by simp [intOf]; omega⟩
      | false =>
        have HB := hid hb
        clear hb
        go_wp2_with (go_at_call 54; refine (fits5_any r _).mono ?_; rintro e w4 ⟨rfl, ho4⟩; rw [HB.out])
        go_ret
        exact ⟨ret_bool (by rw [HX.out, HD.out, HB.out, Bool.false_and]), ((ho.alloc _).new ho4)⟩
    · have h4' : ¬ (k : Int) < (l.length : Int) := by omega
      have HR := hid (show (true : Bool) = fits4 l by rw [HX.out, List.drop_eq_nil_of_le (by omega)]; rfl)
      clear HX
      go_wp2
      go_ret
      exact ⟨ret_bool HR.out, ho⟩
def okM (l : List MO) : Bool := decide (l.length ≤ 2147483647) && fits4 l
set_option maxHeartbeats 800000 in
theorem fits4_any (A : Option Addr) (c : Nat) (l : List MO) (w : World) (h : MOs w A l) :
    Calls Tryd.prog 28 #[.slice A l.length c] w fun e w' => e = .returned (.bool (okM l)) ∧ Only [] w w' := by
  unfold okM
  by_cases hl : l.length ≤ 2147483647
  · simpa [hl] using fits4_in A c l w h hl
  · have d0 : decide (2147483647 < (l.length : Int)) = true := decide_eq_true (by omega)
    have d0' : decide (2147483647 < l.length) = true := decide_eq_true (by omega)
    have HR := hid (show (false : Bool) = (decide (l.length ≤ 2147483647) && fits4 l) by simp [hl])
    clear hl
    go_enter Tryd.func28, Tryd.ntmps28
    go_wp2
    go_ret
    exact ⟨ret_bool HR.out, Only.refl _ _⟩
def wgm (l : List MO) : Nat := (l.map fun r => r.k.length + r.v.length + 1).sum
theorem wgm_bound {M : Nat} : ∀ {l : List MO}, (∀ r ∈ l, r.k.length ≤ M ∧ r.v.length ≤ M) → wgm l ≤ l.length * (2 * M + 1)
  | [], _ => by simp [wgm]
  | r :: l, h => by
    have h1 := h r (by simp)
    have h2 := wgm_bound (l := l) fun r hr => h r (by simp [hr])
    simp only [wgm, List.map_cons, List.sum_cons, List.length_cons, Nat.add_mul, Nat.one_mul] at h2 ⊢
    omega
theorem fits4_mem {l : List MO} (h : fits4 l = true) : ∀ r ∈ l, r.k.length ≤ 2147483647 ∧ r.v.length ≤ 2147483647 := by
  simpa [fits4] using h
theorem okM_len {l : List MO} (h : okM l = true) : l.length ≤ 2147483647 ∧ wgm l ≤ 9223372036854775807 ∧ ∀ r ∈ l, r.k.length ≤ 2147483647 ∧ r.v.length ≤ 2147483647 := by
  simp only [okM, Bool.and_eq_true, decide_eq_true_eq] at h
  have := wgm_bound (fits4_mem h.2)
  refine ⟨h.1, Nat.le_trans this ?_, fits4_mem h.2⟩
  have : l.length * (2 * 2147483647 + 1) ≤ 2147483647 * (2 * 2147483647 + 1) := Nat.mul_le_mul_right _ h.1
  omega
theorem wgm_drop {l : List MO} {k : Nat} (h : k < l.length) : wgm (l.drop k) = (l[k].k.length + l[k].v.length + 1) + wgm (l.drop (k + 1)) := by
  rw [← List.getElem_cons_drop h]; simp only [wgm, List.map_cons, List.sum_cons]
theorem wgm_take {l : List MO} {k : Nat} (h : k < l.length) : wgm (l.take (k + 1)) = wgm (l.take k) + (l[k].k.length + l[k].v.length + 1) := by
  rw [List.take_succ_eq_append_getElem h]; simp only [wgm, List.map_append, List.sum_append, List.map_cons, List.map_nil, List.sum_cons, List.sum_nil]; omega
theorem wgm_take_le (l : List MO) (k : Nat) : wgm (l.take k) ≤ wgm l := by
  conv => rhs; rw [← List.take_append_drop k l]
  simp only [wgm, List.map_append, List.sum_append]; omega
theorem wgm_mem {l : List MO} {r : MO} (h : r ∈ l) : r.k.length + r.v.length + 1 ≤ wgm l := by
  induction l with
  | nil => cases h
  | cons x l ih =>
    simp only [wgm, List.map_cons, List.sum_cons] at ih ⊢
    rcases List.mem_cons.1 h with rfl | h
    · omega
    · have := ih h; omega
set_option maxHeartbeats 800000 in
theorem small_any (A : Option Addr) (c : Nat) (l : List MO) (w : World) (h : MOs w A l) (hb : wgm l ≤ 9223372036854775807) (hl : l.length ≤ 2147483647) :
    Calls Tryd.prog 29 #[.slice A l.length c] w fun e w' => e = .returned (.bool (decide (wgm l ≤ 1048576))) ∧ Only [] w w' := by
  go_enter Tryd.func29, Tryd.ntmps29
  go_wp2
  go_loopw [8, 3] (fun i s wr => ∃ k n : Nat, i = .int .i64 k ∧ s = .int .i64 n ∧ k ≤ l.length ∧ wgm l = n + wgm (l.drop k) ∧ Only [] w wr) (fun i _ _ => l.length - (intOf i).toNat)
  case atStart => exact ⟨0, 0, rfl, rfl, Nat.zero_le _, by simp, Only.refl _ _⟩
  case round =>
    obtain ⟨k, n, rfl, rfl, hk, hx, ho⟩ := hrel
    by_cases h4 : k < l.length
    · have h4' : (k : Int) < (l.length : Int) := by omega
      have hr : l[k]? = some l[k] := List.getElem?_eq_getElem h4
      have hd := wgm_drop h4
      generalize l[k] = r at hr hd
      obtain ⟨g, o, rfl, c1, c2, c3, c4⟩ := (h.keep0 ho).at_ hr
      have e1 : IntKind.i64.wrap ((r.k.length : Int) + (r.v.length : Int)) = (r.k.length : Int) + (r.v.length : Int) := i64_id63 (by omega) (by omega)
      have e2 : IntKind.i64.wrap ((r.k.length : Int) + (r.v.length : Int) + 1) = (r.k.length : Int) + (r.v.length : Int) + 1 := i64_id63 (by omega) (by omega)
      have e3 : IntKind.i64.wrap ((n : Int) + ((r.k.length : Int) + (r.v.length : Int) + 1)) = (n : Int) + ((r.k.length : Int) + (r.v.length : Int) + 1) := i64_id63 (by omega) (by omega)
      have HD := hid (show wgm l = (n + (r.k.length + r.v.length + 1)) + wgm (l.drop (k + 1)) by omega)
      clear hd hx hb
      go_wp2
      exact ⟨⟨k + 1, n + (r.k.length + r.v.length + 1), rfl, by simp, h4, HD.out, ho.alloc _⟩, by simp [intOf]; omega⟩
    · have h4' : ¬ (k : Int) < (l.length : Int) := by omega
      have HR := hid (show decide ((n : Int) ≤ 1048576) = decide (wgm l ≤ 1048576) by rw [hx, List.drop_eq_nil_of_le (by omega)]; simp [wgm]; omega)
      clear hx hb
      go_wp2
      go_ret
      exact ⟨ret_bool HR.out, ho⟩
end Go.Proofs.YtloflmcgbbbnjaaDoor
