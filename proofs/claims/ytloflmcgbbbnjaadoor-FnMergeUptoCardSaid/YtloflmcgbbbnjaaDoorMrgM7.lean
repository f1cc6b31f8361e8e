/-
  mergedIterator: First, Last, Seek.
  mergedIterator: Next where it goes forward, Prev where it goes backward.
-/
import Derived.Test.YtloflmcgbbbnjaaDoorMrgM6
namespace Go.Proofs.YtloflmcgbbbnjaaDoor
open Go.RowKit Plain
set_option linter.all false


def posFirst (it : It) : Int := if it.l.length = 0 then -1 else 0
set_option maxHeartbeats 3200000 in
set_option maxRecDepth 100000 in
theorem mFirst (mp : Nat) (iA : Option Addr) (KN ic kg : Nat) (idx dir : Int) (its : List It) (Fi R : List Fr) (w0 w : World) (hO : Own (mFr mp iA KN ic kg idx dir :: fw kg 25 (its.map It.kv) :: (Fi ++ (its.map It.fr ++ R))) w0 w) (hrow : Row 106 1 iA KN ic (its.map It.iv) Fi) (hD : St R w0 (MData its)) (hK : KN = its.length) (hKl : KN ≤ 2147483647) (hdir : dir ≠ -1)
    (hll : ∀ it ∈ its, it.l.length ≤ 1099511627776) :
    Calls Tryd.prog 197 #[.pointer (some ⟨mp, 0, none⟩)] w (MOutN mp iA KN ic kg (its.map fun it => it.to (posFirst it)) (Fi ++ ((its.map fun it => it.to (posFirst it)).map It.fr ++ R)) w0) := by
  have HDD := hid hD
  have HK := hid hK
  have HROW := hid hrow
  have HLL := hid hll
  have en := fun W x n c => Lib.run_eql_slice_nil (P := Tryd.prog) W 25 5 x n c 0 0 Tryd.underlying25
  have m1 := m_aFirst
  have m2 := m_aKey
  obtain ⟨c0, c1, c2, c3, c4, c5, c6, f4, f5⟩ := mFr_cells hO
  have t0 : (dir == -1) = false := by rw [beq_eq_false_iff_ne]; exact hdir
  have HO := hid hO
  skip
  clear hO hD hK hrow hll hdir
  go_enter Tryd.func197, Tryd.ntmps197
  go_wp2_with fail
  go_loopw [24] (fun i wr => ∃ x : Nat, i = .int .i64 x ∧ x ≤ KN ∧ Hid (Own (mFr mp iA KN ic kg idx dir :: fw kg 25 ((stage (fun it => it.to (posFirst it)) its x).map It.kv) :: (Fi ++ ((stage (fun it => it.to (posFirst it)) its x).map It.fr ++ R))) w0 wr)) (fun i _ => KN - (intOf i).toNat)
  case atStart => exact ⟨0, rfl, Nat.zero_le _, by rw [stage_zero]; exact HO⟩
  case round =>
    clear HO c0 c1 c2 c3 c4 c5 c6 f4 f5
    obtain ⟨x, rfl, hx, HO⟩ := hrel
    obtain ⟨w2, rfl⟩ : ∃ w2, w2 = wr := ⟨_, rfl⟩
    obtain ⟨c0, c1, c2, c3, c4, c5, c6, f4, f5⟩ := mFr_cells HO.out
    by_cases h4 : x < KN
    · have h4' : (x : Int) < (KN : Int) := by omega
      have hxl : x < its.length := by rw [← HK.out]; exact h4
      have hxi : its[x]? = some its[x] := List.getElem?_eq_getElem hxl
      have hxm : its[x] ∈ its := List.getElem_mem hxl
      generalize its[x] = it at hxi hxm
      have hsx := stage_at (u := fun it => it.to (posFirst it)) hxi
      have hss := stage_succ (u := fun it => it.to (posFirst it)) hxi
      obtain ⟨st, hst⟩ : ∃ st, stage (fun it => it.to (posFirst it)) its x = st := ⟨_, rfl⟩
      have hstl : st.length = its.length := by rw [← hst, stage_len]
      rw [hst] at hsx hss HO
      have HSS := hid hss
      have HSX := hid hsx
      have hics : CsAt w2 iA (its.map It.iv) := HROW.out.cs fun y hy => HO.out.ins y (by simp [hy])
      obtain ⟨ig, io, rfl, k0⟩ := hics x (by simpa using hxl)
      rw [List.getElem?_map, hxi] at k0
      have k1 : w2.cell? ⟨ig, io + x, none⟩ = some (.iface 187 (.pointer (some ⟨it.q, 0, none⟩))) := k0
      clear k0
      have hO1 := HO.out.perm (L' := it.fr :: (mFr mp (some ⟨ig, io, none⟩) KN ic kg idx dir :: fw kg 25 (st.map It.kv) :: (Fi ++ ((st.eraseIdx x).map It.fr ++ R)))) (((its_out hsx).append_right R |>.append_left Fi |>.cons _ |>.cons _).trans (perm_of fun _ _ z => by simp only [List.count_append, List.count_cons, List.cons_append, List.count_nil, List.nil_append, List.append_nil]; omega))
      have HO1 := hid hO1
      have hd1 := hO1.st HDD.out (fun y hy => by simp [hy])
      obtain ⟨hps, hne⟩ := hd1 it hxm
      have HST := hid hst
      have HSL := hid hstl
      have HNE := hid hne
      have hlx := HLL.out it hxm
      have HPX := hid (show St R w0 (fun w => Prs w it.A it.l) from HDD.out.imp fun w hm => (hm it hxm).1)
      clear hst hss hsx hics hd1 hps hne hO1 hstl
      go_wp2_with fail
      refine (aFirst it.q it.A it.l.length it.c it.pos it.apos (aKey it.l it.apos) (aVal it.l it.apos) _ w0 _ HO1.out).mono ?_
      rintro e w3 ⟨rfl, hO3⟩
      obtain ⟨p, hp⟩ : ∃ p, posFirst it = p := ⟨_, rfl⟩
      have hO3 : Own ((it.mv p).fr :: (mFr mp (some ⟨ig, io, none⟩) KN ic kg idx dir :: fw kg 25 (st.map It.kv) :: (Fi ++ ((st.eraseIdx x).map It.fr ++ R)))) w0 w3 := by rw [← hp]; exact hO3
      have hbq : decide (0 < it.l.length) = wval it.l.length p := by
        rw [← hp]
        unfold posFirst; by_cases h0 : it.l.length = 0 <;> simp [h0, wval] <;> omega
      rw [hbq]
      have HP := hid hp
      rw [hp] at HSS
      clear hp hbq c0 c1 c2 c3 c4 c5 c6 f4 f5 k1
      have hxs : x < st.length := by rw [HSL.out]; exact hxl
      cases hb : wval it.l.length p with
      | true =>
        obtain ⟨r, hr, hrm, hkv⟩ := aKey_valid hb
        have hps := hO3.st HPX.out (fun y hy => by simp [hy])
        have hnn := bs_some (hps.ok r hrm).hk (HNE.out r hrm)
        have hO3m := hO3.perm (L' := mFr mp (some ⟨ig, io, none⟩) KN ic kg idx dir :: ((it.mv p).fr :: fw kg 25 (st.map It.kv) :: (Fi ++ ((st.eraseIdx x).map It.fr ++ R)))) (perm_of fun _ _ z => by simp only [List.count_append, List.count_cons, List.cons_append, List.count_nil, List.nil_append, List.append_nil]; omega)
        have d3 : w3.cell? ⟨mp, 3, none⟩ = some (.slice (some ⟨kg, 0, none⟩) KN KN) := (mFr_cells hO3m).c3
        have hto : (it.to p).fr = aFr it.q (arrV it.A it.l.length it.c) p p (aKey it.l p) (aVal it.l p) := by unfold It.to It.fr; simp only [hb, if_true]
        have htk : (it.to p).kv = .slice r.ka r.k.length r.kc := hkv
        have HTO := hid hto
        have HTK := hid htk
        have HKV := hid hkv
        have HO3 := hid hO3
        clear hps hr hrm hO3m hO3 hto htk hkv
        go_wp2_with fail
        refine AnyT.start (S := fun w' => w'.cell? ⟨mp, 3, none⟩ = some (.slice (some ⟨kg, 0, none⟩) KN KN)) (T := []) (by kernel_rfl) (d3) (fun hHeld => ?_)
        refine AnyT.take (i := 0) (v := ?_) (by simp only [List.getElem?_toArray, List.getElem?_cons_succ, List.getElem?_cons_zero]; rfl) (by kernel_rfl) (by kernel_rfl) (by kernel_rfl) (by kernel_rfl) (by intro _ _ _ h; exact h) (Or.inl ⟨by rfl, fun w hSw => ?_⟩) hHeld ?_
        rotate_left
        · ((try dsimp only at hSw); go_simp; first | done | with_reducible rfl | rfl)
        try simp only [Act.put, List.setIfInBounds_toArray, List.set_cons_zero, List.set_cons_succ]
        refine AnyT.take (i := 1) (v := ?_) (by simp only [List.getElem?_toArray, List.getElem?_cons_succ, List.getElem?_cons_zero]; rfl) (by kernel_rfl) (by kernel_rfl) (by kernel_rfl) (by kernel_rfl) (by intro _ _ _ h; exact h) (Or.inl ⟨by rfl, fun w hSw => ?_⟩) hHeld ?_
        rotate_left
        · ((try dsimp only at hSw); go_simp; first | done | with_reducible rfl | rfl)
        try simp only [Act.put, List.setIfInBounds_toArray, List.set_cons_zero, List.set_cons_succ]
        refine AnyT.take (i := 2) (v := ?_) (by simp only [List.getElem?_toArray, List.getElem?_cons_succ, List.getElem?_cons_zero]; rfl) (by kernel_rfl) (by kernel_rfl) (by kernel_rfl) (by kernel_rfl) (by intro _ _ _ h; exact h) (Or.inl ⟨by rfl, fun w hSw => ?_⟩) hHeld ?_
        rotate_left
        · ((try dsimp only at hSw); go_simp; first | done | with_reducible rfl | rfl)
        try simp only [Act.put, List.setIfInBounds_toArray, List.set_cons_zero, List.set_cons_succ]
        refine AnyT.take (i := 3) (v := ?_) (by simp only [List.getElem?_toArray, List.getElem?_cons_succ, List.getElem?_cons_zero]; rfl) (by kernel_rfl) (by kernel_rfl) (by kernel_rfl) (by kernel_rfl) (by intro _ _ _ h; exact h) (Or.inl ⟨by rfl, fun w hSw => ?_⟩) hHeld ?_
        rotate_left
        · ((try dsimp only at hSw); go_simp; first | done | with_reducible rfl | rfl)
        try simp only [Act.put, List.setIfInBounds_toArray, List.set_cons_zero, List.set_cons_succ]
        refine AnyT.take (i := 4) (v := ?_) (by simp only [List.getElem?_toArray, List.getElem?_cons_succ, List.getElem?_cons_zero]; rfl) (by kernel_rfl) (by kernel_rfl) (by kernel_rfl) (by kernel_rfl) (by intro _ _ _ h; exact h) (Or.inl ⟨by rfl, fun w hSw => ?_⟩) hHeld ?_
        rotate_left
        · ((try dsimp only at hSw); go_simp; first | done | with_reducible rfl | rfl)
        try simp only [Act.put, List.setIfInBounds_toArray, List.set_cons_zero, List.set_cons_succ]
        refine AnyT.take (i := 5) (v := ?_) (by simp only [List.getElem?_toArray, List.getElem?_cons_succ, List.getElem?_cons_zero]; rfl) (by kernel_rfl) (by kernel_rfl) (by kernel_rfl) (by kernel_rfl) (by intro _ _ _ h; exact h) (Or.inl ⟨by rfl, fun w hSw => ?_⟩) hHeld ?_
        rotate_left
        · ((try dsimp only at hSw); go_simp; first | done | with_reducible rfl | rfl)
        try simp only [Act.put, List.setIfInBounds_toArray, List.set_cons_zero, List.set_cons_succ]
        refine AnyT.ready (rs := [6]) (by kernel_rfl) (by simp) ?_
        refine AllT.cons (by simp only [List.getElem?_toArray, List.getElem?_cons_succ, List.getElem?_cons_zero]; rfl) (fun K hK => ?_) AllT.nil
        go_simp
        refine (aKeyM it.q it.A it.l.length it.c p it.apos _ _ it.l _ w0 w3.drew HO3.out.drew ((((HPX.out.right ((st.eraseIdx x).map It.fr)).right Fi).cons _).cons _) rfl ⟨rfl, rfl⟩).mono ?_
        rintro e w4 ⟨rfl, hO4⟩
        rw [← HTO.out] at hO4
        rw [HKV.out]
        have hO5 := hO4.perm (L' := mFr mp (some ⟨ig, io, none⟩) KN ic kg idx dir :: fw kg 25 (st.map It.kv) :: ((it.to p).fr :: (Fi ++ ((st.eraseIdx x).map It.fr ++ R)))) (perm_of fun _ _ z => by simp only [List.count_append, List.count_cons, List.cons_append, List.count_nil, List.nil_append, List.append_nil]; omega)
        have e3 : w4.cell? ⟨mp, 3, none⟩ = some (.slice (some ⟨kg, 0, none⟩) KN KN) := (mFr_cells hO5).c3
        have ek : ∃ y, w4.cell? ⟨kg, x, none⟩ = some y := ⟨_, key_cell hO5 HSX.out⟩
        obtain ⟨yv, ek⟩ := ek
        have ef : w4.frozen? ⟨kg, x, none⟩ = false := keys_frozen hO5
        have hO6 := keys_set hO5 hxs (.slice r.ka r.k.length r.kc)
        have e3' : (w4.setCell ⟨kg, x, none⟩ (.slice r.ka r.k.length r.kc)).cell? ⟨mp, 3, none⟩ = some (.slice (some ⟨kg, 0, none⟩) KN KN) := (mFr_cells hO6).c3
        have HO6 := hid hO6
        clear hO4 hO5 hO6 HO3 HKV
        try go_wp2_with fail
        refine hK.out _ _ ?_ (fun hHeld => ?_)
        · exact e3
        clear hK
        try simp only [Act.put, List.setIfInBounds_toArray, List.set_cons_zero, List.set_cons_succ]
        refine AnyT.ready (rs := [7]) (by kernel_rfl) (by simp) ?_
        refine AllT.cons (by simp only [List.getElem?_toArray, List.getElem?_cons_succ, List.getElem?_cons_zero]; rfl) (fun K hK => ?_) AllT.nil
        go_simp
        refine (mAssert r.ka _ _ _ hnn).mono ?_
        rintro e w5 ⟨rfl, rfl⟩
        try go_wp2_with fail
        refine hK.out _ _ ?_ (fun hHeld => ?_)
        · exact e3
        clear hK
        try simp only [Act.put, List.setIfInBounds_toArray, List.set_cons_zero, List.set_cons_succ]
        refine AnyT.take (i := 8) (v := ?_) (by simp only [List.getElem?_toArray, List.getElem?_cons_succ, List.getElem?_cons_zero]; rfl) (by kernel_rfl) (by kernel_rfl) (by kernel_rfl) (by kernel_rfl) (by intro _ _ _ h; exact h) (Or.inl ⟨by rfl, fun w hSw => ?_⟩) hHeld ?_
        rotate_left
        · ((try dsimp only at hSw); go_simp; first | done | with_reducible rfl | rfl)
        try simp only [Act.put, List.setIfInBounds_toArray, List.set_cons_zero, List.set_cons_succ]
        refine AnyT.ready (rs := [9]) (by kernel_rfl) (by simp) ?_
        refine AllT.cons (by simp only [List.getElem?_toArray, List.getElem?_cons_succ, List.getElem?_cons_zero]; rfl) (fun K hK => ?_) AllT.nil
        go_simp
        refine hK.out _ _ ?_ (fun hHeld => ?_)
        · exact e3'
        clear hK
        try simp only [Act.put, List.setIfInBounds_toArray, List.set_cons_zero, List.set_cons_succ]
        refine AnyT.done (by kernel_rfl) ?_ _
        clear hHeld e3 ek ef e3' d3
        go_wp2_with fail
        go_roundw
        case rel =>
          refine ⟨x + 1, by go_num, by omega, hid ?_⟩
          rw [HSS.out, List.map_set, HTK.out]
          exact HO6.out.perm ((((its_in HSX.out (it.to p)).append_right R |>.append_left Fi |>.cons _ |>.cons _).symm.trans (perm_of fun _ _ z => by simp only [List.count_append, List.count_cons, List.cons_append, List.count_nil, List.nil_append, List.append_nil]; omega)).symm)
        case measure => simp [intOf]; omega
      | false =>
        have htf : (it.to p).fr = (it.mv p).fr := by unfold It.to It.mv It.fr; simp only [hb]; rfl
        have htk : (it.to p).kv = .slice none 0 0 := aKey_not hb
        have d4 : w3.cell? ⟨it.q, 4, none⟩ = some .nilIface := (aFr_cells hO3).c4
        rw [← htf] at hO3
        have hO5 := hO3.perm (L' := mFr mp (some ⟨ig, io, none⟩) KN ic kg idx dir :: fw kg 25 (st.map It.kv) :: ((it.to p).fr :: (Fi ++ ((st.eraseIdx x).map It.fr ++ R)))) (perm_of fun _ _ z => by simp only [List.count_append, List.count_cons, List.cons_append, List.count_nil, List.nil_append, List.append_nil]; omega)
        have e3 : w3.cell? ⟨mp, 3, none⟩ = some (.slice (some ⟨kg, 0, none⟩) KN KN) := (mFr_cells hO5).c3
        obtain ⟨yv, ek⟩ : ∃ y, w3.cell? ⟨kg, x, none⟩ = some y := ⟨_, key_cell hO5 HSX.out⟩
        have ef : w3.frozen? ⟨kg, x, none⟩ = false := keys_frozen hO5
        have HO6 := hid (keys_set hO5 hxs (.slice none 0 0))
        have HTK := hid htk
        clear hO3 hO5 htf htk
        go_wp2_with fail
        refine (mIterErr mp it.q _ d4).mono ?_
        rintro e w4 ⟨rfl, rfl⟩
        go_wp2_with fail
        go_roundw
        case rel =>
          refine ⟨x + 1, by go_num, by omega, hid ?_⟩
          rw [HSS.out, List.map_set, HTK.out]
          exact HO6.out.perm ((((its_in HSX.out (it.to p)).append_right R |>.append_left Fi |>.cons _ |>.cons _).symm.trans (perm_of fun _ _ z => by simp only [List.count_append, List.count_cons, List.cons_append, List.count_nil, List.nil_append, List.append_nil]; omega)).symm)
        case measure => simp [intOf]; omega
    · have h4' : ¬ (x : Int) < (KN : Int) := by omega
      obtain rfl : x = KN := by omega
      rw [stage_all (by rw [← HK.out]; exact Nat.le_refl _)] at HO
      have HO1 := hid (mFr_dir HO.out 0)
      go_wp2_with fail
      refine (mNext mp iA x ic kg idx 0 (its.map fun it => it.to (posFirst it)) (Fi ++ ((its.map fun it => it.to (posFirst it)).map It.fr ++ R)) w0 _ HO1.out ?_ (by rw [List.length_map]; exact HK.out) hKl (fun h => absurd h (by decide))).mono ?_
      · refine ((HDD.out.right _).right Fi).imp fun w hm it hit => ?_
        obtain ⟨it0, h0, rfl⟩ := List.mem_map.1 hit
        exact hm it0 h0
      rintro e w3 (⟨j, itj, r, a1, a2, a3, rfl, hO3⟩ | ⟨a1, rfl, ix, hO3⟩)
      · have HA := hid (show _ ∧ _ ∧ _ ∧ _ from ⟨a1, a2, a3, hO3⟩)
        clear a1 a2 a3 hO3
        go_wp2_with fail
        go_ret
        exact .inl ⟨j, itj, r, HA.out.1, HA.out.2.1, HA.out.2.2.1, rfl, HA.out.2.2.2⟩
      · have HA := hid (show _ ∧ _ from ⟨a1, hO3⟩)
        clear a1 hO3
        go_wp2_with fail
        go_ret
        exact .inr ⟨HA.out.1, rfl, ix, HA.out.2⟩

def posLast (it : It) : Int := if it.l.length = 0 then 0 else (it.l.length : Int) - 1
set_option maxHeartbeats 3200000 in
set_option maxRecDepth 100000 in
theorem mLast (mp : Nat) (iA : Option Addr) (KN ic kg : Nat) (idx dir : Int) (its : List It) (Fi R : List Fr) (w0 w : World) (hO : Own (mFr mp iA KN ic kg idx dir :: fw kg 25 (its.map It.kv) :: (Fi ++ (its.map It.fr ++ R))) w0 w) (hrow : Row 106 1 iA KN ic (its.map It.iv) Fi) (hD : St R w0 (MData its)) (hK : KN = its.length) (hKl : KN ≤ 2147483647) (hdir : dir ≠ -1)
    (hll : ∀ it ∈ its, it.l.length ≤ 1099511627776) :
    Calls Tryd.prog 199 #[.pointer (some ⟨mp, 0, none⟩)] w (MOutP mp iA KN ic kg (its.map fun it => it.to (posLast it)) (Fi ++ ((its.map fun it => it.to (posLast it)).map It.fr ++ R)) w0) := by
  have HDD := hid hD
  have HK := hid hK
  have HROW := hid hrow
  have HLL := hid hll
  have en := fun W x n c => Lib.run_eql_slice_nil (P := Tryd.prog) W 25 5 x n c 0 0 Tryd.underlying25
  have m1 := m_aLast
  have m2 := m_aKey
  obtain ⟨c0, c1, c2, c3, c4, c5, c6, f4, f5⟩ := mFr_cells hO
  have t0 : (dir == -1) = false := by rw [beq_eq_false_iff_ne]; exact hdir
  have HO := hid hO
  skip
  clear hO hD hK hrow hll hdir
  go_enter Tryd.func199, Tryd.ntmps199
  go_wp2_with fail
  go_loopw [24] (fun i wr => ∃ x : Nat, i = .int .i64 x ∧ x ≤ KN ∧ Hid (Own (mFr mp iA KN ic kg idx dir :: fw kg 25 ((stage (fun it => it.to (posLast it)) its x).map It.kv) :: (Fi ++ ((stage (fun it => it.to (posLast it)) its x).map It.fr ++ R))) w0 wr)) (fun i _ => KN - (intOf i).toNat)
  case atStart => exact ⟨0, rfl, Nat.zero_le _, by rw [stage_zero]; exact HO⟩
  case round =>
    clear HO c0 c1 c2 c3 c4 c5 c6 f4 f5
    obtain ⟨x, rfl, hx, HO⟩ := hrel
    obtain ⟨w2, rfl⟩ : ∃ w2, w2 = wr := ⟨_, rfl⟩
    obtain ⟨c0, c1, c2, c3, c4, c5, c6, f4, f5⟩ := mFr_cells HO.out
    by_cases h4 : x < KN
    · have h4' : (x : Int) < (KN : Int) := by omega
      have hxl : x < its.length := by rw [← HK.out]; exact h4
      have hxi : its[x]? = some its[x] := List.getElem?_eq_getElem hxl
      have hxm : its[x] ∈ its := List.getElem_mem hxl
      generalize its[x] = it at hxi hxm
      have hsx := stage_at (u := fun it => it.to (posLast it)) hxi
      have hss := stage_succ (u := fun it => it.to (posLast it)) hxi
      obtain ⟨st, hst⟩ : ∃ st, stage (fun it => it.to (posLast it)) its x = st := ⟨_, rfl⟩
      have hstl : st.length = its.length := by rw [← hst, stage_len]
      rw [hst] at hsx hss HO
      have HSS := hid hss
      have HSX := hid hsx
      have hics : CsAt w2 iA (its.map It.iv) := HROW.out.cs fun y hy => HO.out.ins y (by simp [hy])
      obtain ⟨ig, io, rfl, k0⟩ := hics x (by simpa using hxl)
      rw [List.getElem?_map, hxi] at k0
      have k1 : w2.cell? ⟨ig, io + x, none⟩ = some (.iface 187 (.pointer (some ⟨it.q, 0, none⟩))) := k0
      clear k0
      have hO1 := HO.out.perm (L' := it.fr :: (mFr mp (some ⟨ig, io, none⟩) KN ic kg idx dir :: fw kg 25 (st.map It.kv) :: (Fi ++ ((st.eraseIdx x).map It.fr ++ R)))) (((its_out hsx).append_right R |>.append_left Fi |>.cons _ |>.cons _).trans (perm_of fun _ _ z => by simp only [List.count_append, List.count_cons, List.cons_append, List.count_nil, List.nil_append, List.append_nil]; omega))
      have HO1 := hid hO1
      have hd1 := hO1.st HDD.out (fun y hy => by simp [hy])
      obtain ⟨hps, hne⟩ := hd1 it hxm
      have HST := hid hst
      have HSL := hid hstl
      have HNE := hid hne
      have hlx := HLL.out it hxm
      have HPX := hid (show St R w0 (fun w => Prs w it.A it.l) from HDD.out.imp fun w hm => (hm it hxm).1)
      clear hst hss hsx hics hd1 hps hne hO1 hstl
      go_wp2_with fail
      refine (aLast it.q it.A it.l.length it.c it.pos it.apos (aKey it.l it.apos) (aVal it.l it.apos) _ w0 _ HO1.out hlx).mono ?_
      rintro e w3 ⟨rfl, hO3⟩
      obtain ⟨p, hp⟩ : ∃ p, posLast it = p := ⟨_, rfl⟩
      have hO3 : Own ((it.mv p).fr :: (mFr mp (some ⟨ig, io, none⟩) KN ic kg idx dir :: fw kg 25 (st.map It.kv) :: (Fi ++ ((st.eraseIdx x).map It.fr ++ R)))) w0 w3 := by rw [← hp]; exact hO3
      have hbq : decide (0 < it.l.length) = wval it.l.length p := by
        rw [← hp]
        unfold posLast
        by_cases h0 : it.l.length = 0
        · rw [if_pos h0, h0]; rfl
        · rw [if_neg h0, decide_eq_true (by omega), wval_iff.2 ⟨by omega, by omega⟩]
      rw [hbq]
      have HP := hid hp
      rw [hp] at HSS
      clear hp hbq c0 c1 c2 c3 c4 c5 c6 f4 f5 k1
      have hxs : x < st.length := by rw [HSL.out]; exact hxl
      cases hb : wval it.l.length p with
      | true =>
        obtain ⟨r, hr, hrm, hkv⟩ := aKey_valid hb
        have hps := hO3.st HPX.out (fun y hy => by simp [hy])
        have hnn := bs_some (hps.ok r hrm).hk (HNE.out r hrm)
        have hO3m := hO3.perm (L' := mFr mp (some ⟨ig, io, none⟩) KN ic kg idx dir :: ((it.mv p).fr :: fw kg 25 (st.map It.kv) :: (Fi ++ ((st.eraseIdx x).map It.fr ++ R)))) (perm_of fun _ _ z => by simp only [List.count_append, List.count_cons, List.cons_append, List.count_nil, List.nil_append, List.append_nil]; omega)
        have d3 : w3.cell? ⟨mp, 3, none⟩ = some (.slice (some ⟨kg, 0, none⟩) KN KN) := (mFr_cells hO3m).c3
        have hto : (it.to p).fr = aFr it.q (arrV it.A it.l.length it.c) p p (aKey it.l p) (aVal it.l p) := by unfold It.to It.fr; simp only [hb, if_true]
        have htk : (it.to p).kv = .slice r.ka r.k.length r.kc := hkv
        have HTO := hid hto
        have HTK := hid htk
        have HKV := hid hkv
        have HO3 := hid hO3
        clear hps hr hrm hO3m hO3 hto htk hkv
        go_wp2_with fail
        refine AnyT.start (S := fun w' => w'.cell? ⟨mp, 3, none⟩ = some (.slice (some ⟨kg, 0, none⟩) KN KN)) (T := []) (by kernel_rfl) (d3) (fun hHeld => ?_)
        refine AnyT.take (i := 0) (v := ?_) (by simp only [List.getElem?_toArray, List.getElem?_cons_succ, List.getElem?_cons_zero]; rfl) (by kernel_rfl) (by kernel_rfl) (by kernel_rfl) (by kernel_rfl) (by intro _ _ _ h; exact h) (Or.inl ⟨by rfl, fun w hSw => ?_⟩) hHeld ?_
        rotate_left
        · ((try dsimp only at hSw); go_simp; first | done | with_reducible rfl | rfl)
        try simp only [Act.put, List.setIfInBounds_toArray, List.set_cons_zero, List.set_cons_succ]
        refine AnyT.take (i := 1) (v := ?_) (by simp only [List.getElem?_toArray, List.getElem?_cons_succ, List.getElem?_cons_zero]; rfl) (by kernel_rfl) (by kernel_rfl) (by kernel_rfl) (by kernel_rfl) (by intro _ _ _ h; exact h) (Or.inl ⟨by rfl, fun w hSw => ?_⟩) hHeld ?_
        rotate_left
        · ((try dsimp only at hSw); go_simp; first | done | with_reducible rfl | rfl)
        try simp only [Act.put, List.setIfInBounds_toArray, List.set_cons_zero, List.set_cons_succ]
        refine AnyT.take (i := 2) (v := ?_) (by simp only [List.getElem?_toArray, List.getElem?_cons_succ, List.getElem?_cons_zero]; rfl) (by kernel_rfl) (by kernel_rfl) (by kernel_rfl) (by kernel_rfl) (by intro _ _ _ h; exact h) (Or.inl ⟨by rfl, fun w hSw => ?_⟩) hHeld ?_
        rotate_left
        · ((try dsimp only at hSw); go_simp; first | done | with_reducible rfl | rfl)
        try simp only [Act.put, List.setIfInBounds_toArray, List.set_cons_zero, List.set_cons_succ]
        refine AnyT.take (i := 3) (v := ?_) (by simp only [List.getElem?_toArray, List.getElem?_cons_succ, List.getElem?_cons_zero]; rfl) (by kernel_rfl) (by kernel_rfl) (by kernel_rfl) (by kernel_rfl) (by intro _ _ _ h; exact h) (Or.inl ⟨by rfl, fun w hSw => ?_⟩) hHeld ?_
        rotate_left
        · ((try dsimp only at hSw); go_simp; first | done | with_reducible rfl | rfl)
        try simp only [Act.put, List.setIfInBounds_toArray, List.set_cons_zero, List.set_cons_succ]
        refine AnyT.take (i := 4) (v := ?_) (by simp only [List.getElem?_toArray, List.getElem?_cons_succ, List.getElem?_cons_zero]; rfl) (by kernel_rfl) (by kernel_rfl) (by kernel_rfl) (by kernel_rfl) (by intro _ _ _ h; exact h) (Or.inl ⟨by rfl, fun w hSw => ?_⟩) hHeld ?_
        rotate_left
        · ((try dsimp only at hSw); go_simp; first | done | with_reducible rfl | rfl)
        try simp only [Act.put, List.setIfInBounds_toArray, List.set_cons_zero, List.set_cons_succ]
        refine AnyT.take (i := 5) (v := ?_) (by simp only [List.getElem?_toArray, List.getElem?_cons_succ, List.getElem?_cons_zero]; rfl) (by kernel_rfl) (by kernel_rfl) (by kernel_rfl) (by kernel_rfl) (by intro _ _ _ h; exact h) (Or.inl ⟨by rfl, fun w hSw => ?_⟩) hHeld ?_
        rotate_left
        · ((try dsimp only at hSw); go_simp; first | done | with_reducible rfl | rfl)
        try simp only [Act.put, List.setIfInBounds_toArray, List.set_cons_zero, List.set_cons_succ]
        refine AnyT.ready (rs := [6]) (by kernel_rfl) (by simp) ?_
        refine AllT.cons (by simp only [List.getElem?_toArray, List.getElem?_cons_succ, List.getElem?_cons_zero]; rfl) (fun K hK => ?_) AllT.nil
        go_simp
        refine (aKeyM it.q it.A it.l.length it.c p it.apos _ _ it.l _ w0 w3.drew HO3.out.drew ((((HPX.out.right ((st.eraseIdx x).map It.fr)).right Fi).cons _).cons _) rfl ⟨rfl, rfl⟩).mono ?_
        rintro e w4 ⟨rfl, hO4⟩
        rw [← HTO.out] at hO4
        rw [HKV.out]
        have hO5 := hO4.perm (L' := mFr mp (some ⟨ig, io, none⟩) KN ic kg idx dir :: fw kg 25 (st.map It.kv) :: ((it.to p).fr :: (Fi ++ ((st.eraseIdx x).map It.fr ++ R)))) (perm_of fun _ _ z => by simp only [List.count_append, List.count_cons, List.cons_append, List.count_nil, List.nil_append, List.append_nil]; omega)
        have e3 : w4.cell? ⟨mp, 3, none⟩ = some (.slice (some ⟨kg, 0, none⟩) KN KN) := (mFr_cells hO5).c3
        have ek : ∃ y, w4.cell? ⟨kg, x, none⟩ = some y := ⟨_, key_cell hO5 HSX.out⟩
        obtain ⟨yv, ek⟩ := ek
        have ef : w4.frozen? ⟨kg, x, none⟩ = false := keys_frozen hO5
        have hO6 := keys_set hO5 hxs (.slice r.ka r.k.length r.kc)
        have e3' : (w4.setCell ⟨kg, x, none⟩ (.slice r.ka r.k.length r.kc)).cell? ⟨mp, 3, none⟩ = some (.slice (some ⟨kg, 0, none⟩) KN KN) := (mFr_cells hO6).c3
        have HO6 := hid hO6
        clear hO4 hO5 hO6 HO3 HKV
        try go_wp2_with fail
        refine hK.out _ _ ?_ (fun hHeld => ?_)
        · exact e3
        clear hK
        try simp only [Act.put, List.setIfInBounds_toArray, List.set_cons_zero, List.set_cons_succ]
        refine AnyT.ready (rs := [7]) (by kernel_rfl) (by simp) ?_
        refine AllT.cons (by simp only [List.getElem?_toArray, List.getElem?_cons_succ, List.getElem?_cons_zero]; rfl) (fun K hK => ?_) AllT.nil
        go_simp
        refine (mAssert r.ka _ _ _ hnn).mono ?_
        rintro e w5 ⟨rfl, rfl⟩
        try go_wp2_with fail
        refine hK.out _ _ ?_ (fun hHeld => ?_)
        · exact e3
        clear hK
        try simp only [Act.put, List.setIfInBounds_toArray, List.set_cons_zero, List.set_cons_succ]
        refine AnyT.take (i := 8) (v := ?_) (by simp only [List.getElem?_toArray, List.getElem?_cons_succ, List.getElem?_cons_zero]; rfl) (by kernel_rfl) (by kernel_rfl) (by kernel_rfl) (by kernel_rfl) (by intro _ _ _ h; exact h) (Or.inl ⟨by rfl, fun w hSw => ?_⟩) hHeld ?_
        rotate_left
        · ((try dsimp only at hSw); go_simp; first | done | with_reducible rfl | rfl)
        try simp only [Act.put, List.setIfInBounds_toArray, List.set_cons_zero, List.set_cons_succ]
        refine AnyT.ready (rs := [9]) (by kernel_rfl) (by simp) ?_
        refine AllT.cons (by simp only [List.getElem?_toArray, List.getElem?_cons_succ, List.getElem?_cons_zero]; rfl) (fun K hK => ?_) AllT.nil
        go_simp
        refine hK.out _ _ ?_ (fun hHeld => ?_)
        · exact e3'
        clear hK
        try simp only [Act.put, List.setIfInBounds_toArray, List.set_cons_zero, List.set_cons_succ]
        refine AnyT.done (by kernel_rfl) ?_ _
        clear hHeld e3 ek ef e3' d3
        go_wp2_with fail
        go_roundw
        case rel =>
          refine ⟨x + 1, by go_num, by omega, hid ?_⟩
          rw [HSS.out, List.map_set, HTK.out]
          exact HO6.out.perm ((((its_in HSX.out (it.to p)).append_right R |>.append_left Fi |>.cons _ |>.cons _).symm.trans (perm_of fun _ _ z => by simp only [List.count_append, List.count_cons, List.cons_append, List.count_nil, List.nil_append, List.append_nil]; omega)).symm)
        case measure => simp [intOf]; omega
      | false =>
        have htf : (it.to p).fr = (it.mv p).fr := by unfold It.to It.mv It.fr; simp only [hb]; rfl
        have htk : (it.to p).kv = .slice none 0 0 := aKey_not hb
        have d4 : w3.cell? ⟨it.q, 4, none⟩ = some .nilIface := (aFr_cells hO3).c4
        rw [← htf] at hO3
        have hO5 := hO3.perm (L' := mFr mp (some ⟨ig, io, none⟩) KN ic kg idx dir :: fw kg 25 (st.map It.kv) :: ((it.to p).fr :: (Fi ++ ((st.eraseIdx x).map It.fr ++ R)))) (perm_of fun _ _ z => by simp only [List.count_append, List.count_cons, List.cons_append, List.count_nil, List.nil_append, List.append_nil]; omega)
        have e3 : w3.cell? ⟨mp, 3, none⟩ = some (.slice (some ⟨kg, 0, none⟩) KN KN) := (mFr_cells hO5).c3
        obtain ⟨yv, ek⟩ : ∃ y, w3.cell? ⟨kg, x, none⟩ = some y := ⟨_, key_cell hO5 HSX.out⟩
        have ef : w3.frozen? ⟨kg, x, none⟩ = false := keys_frozen hO5
        have HO6 := hid (keys_set hO5 hxs (.slice none 0 0))
        have HTK := hid htk
        clear hO3 hO5 htf htk
        go_wp2_with fail
        refine (mIterErr mp it.q _ d4).mono ?_
        rintro e w4 ⟨rfl, rfl⟩
        go_wp2_with fail
        go_roundw
        case rel =>
          refine ⟨x + 1, by go_num, by omega, hid ?_⟩
          rw [HSS.out, List.map_set, HTK.out]
          exact HO6.out.perm ((((its_in HSX.out (it.to p)).append_right R |>.append_left Fi |>.cons _ |>.cons _).symm.trans (perm_of fun _ _ z => by simp only [List.count_append, List.count_cons, List.cons_append, List.count_nil, List.nil_append, List.append_nil]; omega)).symm)
        case measure => simp [intOf]; omega
    · have h4' : ¬ (x : Int) < (KN : Int) := by omega
      obtain rfl : x = KN := by omega
      rw [stage_all (by rw [← HK.out]; exact Nat.le_refl _)] at HO
      have HO1 := hid (mFr_dir HO.out 1)
      go_wp2_with fail
      refine (mPrev mp iA x ic kg idx 1 (its.map fun it => it.to (posLast it)) (Fi ++ ((its.map fun it => it.to (posLast it)).map It.fr ++ R)) w0 _ HO1.out ?_ (by rw [List.length_map]; exact HK.out) hKl (fun h => absurd h (by decide))).mono ?_
      · refine ((HDD.out.right _).right Fi).imp fun w hm it hit => ?_
        obtain ⟨it0, h0, rfl⟩ := List.mem_map.1 hit
        exact hm it0 h0
      rintro e w3 (⟨j, itj, r, a1, a2, a3, rfl, hO3⟩ | ⟨a1, rfl, ix, hO3⟩)
      · have HA := hid (show _ ∧ _ ∧ _ ∧ _ from ⟨a1, a2, a3, hO3⟩)
        clear a1 a2 a3 hO3
        go_wp2_with fail
        go_ret
        exact .inl ⟨j, itj, r, HA.out.1, HA.out.2.1, HA.out.2.2.1, rfl, HA.out.2.2.2⟩
      · have HA := hid (show _ ∧ _ from ⟨a1, hO3⟩)
        clear a1 hO3
        go_wp2_with fail
        go_ret
        exact .inr ⟨HA.out.1, rfl, ix, HA.out.2⟩

def posSeek (key : List UInt8) (it : It) : Int := ((mAt Pr.k it.l key : Nat) : Int)
set_option maxHeartbeats 3200000 in
set_option maxRecDepth 100000 in
theorem mSeek (mp : Nat) (iA : Option Addr) (KN ic kg : Nat) (idx dir : Int) (its : List It) (kA : Option Addr) (kn kc : Nat) (key : List UInt8) (Fi R : List Fr) (w0 w : World) (hO : Own (mFr mp iA KN ic kg idx dir :: fw kg 25 (its.map It.kv) :: (Fi ++ (its.map It.fr ++ R))) w0 w) (hrow : Row 106 1 iA KN ic (its.map It.iv) Fi) (hD : St R w0 (MData its)) (hK : KN = its.length) (hKl : KN ≤ 2147483647) (hdir : dir ≠ -1)
    (hll : ∀ it ∈ its, it.l.length ≤ 1099511627776) (hkr : Rd R w0 kA key) (hkn : kn = key.length) :
    Calls Tryd.prog 203 #[.pointer (some ⟨mp, 0, none⟩), .slice kA kn kc] w (MOutN mp iA KN ic kg (its.map fun it => it.to (posSeek key it)) (Fi ++ ((its.map fun it => it.to (posSeek key it)).map It.fr ++ R)) w0) := by
  have HDD := hid hD
  have HK := hid hK
  have HROW := hid hrow
  have HLL := hid hll
  have en := fun W x n c => Lib.run_eql_slice_nil (P := Tryd.prog) W 25 5 x n c 0 0 Tryd.underlying25
  have m1 := m_aSeek
  have m2 := m_aKey
  obtain ⟨c0, c1, c2, c3, c4, c5, c6, f4, f5⟩ := mFr_cells hO
  have t0 : (dir == -1) = false := by rw [beq_eq_false_iff_ne]; exact hdir
  have HO := hid hO
  have HKR := hid hkr
  have HKN := hid hkn
  clear hkr hkn
  clear hO hD hK hrow hll hdir
  go_enter Tryd.func203, Tryd.ntmps203
  go_wp2_with fail
  go_loopw [26] (fun i wr => ∃ x : Nat, i = .int .i64 x ∧ x ≤ KN ∧ Hid (Own (mFr mp iA KN ic kg idx dir :: fw kg 25 ((stage (fun it => it.to (posSeek key it)) its x).map It.kv) :: (Fi ++ ((stage (fun it => it.to (posSeek key it)) its x).map It.fr ++ R))) w0 wr)) (fun i _ => KN - (intOf i).toNat)
  case atStart => exact ⟨0, rfl, Nat.zero_le _, by rw [stage_zero]; exact HO⟩
  case round =>
    clear HO c0 c1 c2 c3 c4 c5 c6 f4 f5
    obtain ⟨x, rfl, hx, HO⟩ := hrel
    obtain ⟨w2, rfl⟩ : ∃ w2, w2 = wr := ⟨_, rfl⟩
    obtain ⟨c0, c1, c2, c3, c4, c5, c6, f4, f5⟩ := mFr_cells HO.out
    by_cases h4 : x < KN
    · have h4' : (x : Int) < (KN : Int) := by omega
      have hxl : x < its.length := by rw [← HK.out]; exact h4
      have hxi : its[x]? = some its[x] := List.getElem?_eq_getElem hxl
      have hxm : its[x] ∈ its := List.getElem_mem hxl
      generalize its[x] = it at hxi hxm
      have hsx := stage_at (u := fun it => it.to (posSeek key it)) hxi
      have hss := stage_succ (u := fun it => it.to (posSeek key it)) hxi
      obtain ⟨st, hst⟩ : ∃ st, stage (fun it => it.to (posSeek key it)) its x = st := ⟨_, rfl⟩
      have hstl : st.length = its.length := by rw [← hst, stage_len]
      rw [hst] at hsx hss HO
      have HSS := hid hss
      have HSX := hid hsx
      have hics : CsAt w2 iA (its.map It.iv) := HROW.out.cs fun y hy => HO.out.ins y (by simp [hy])
      obtain ⟨ig, io, rfl, k0⟩ := hics x (by simpa using hxl)
      rw [List.getElem?_map, hxi] at k0
      have k1 : w2.cell? ⟨ig, io + x, none⟩ = some (.iface 187 (.pointer (some ⟨it.q, 0, none⟩))) := k0
      clear k0
      have hO1 := HO.out.perm (L' := it.fr :: (mFr mp (some ⟨ig, io, none⟩) KN ic kg idx dir :: fw kg 25 (st.map It.kv) :: (Fi ++ ((st.eraseIdx x).map It.fr ++ R)))) (((its_out hsx).append_right R |>.append_left Fi |>.cons _ |>.cons _).trans (perm_of fun _ _ z => by simp only [List.count_append, List.count_cons, List.cons_append, List.count_nil, List.nil_append, List.append_nil]; omega))
      have HO1 := hid hO1
      have hd1 := hO1.st HDD.out (fun y hy => by simp [hy])
      obtain ⟨hps, hne⟩ := hd1 it hxm
      have HST := hid hst
      have HSL := hid hstl
      have HNE := hid hne
      have hlx := HLL.out it hxm
      have HPX := hid (show St R w0 (fun w => Prs w it.A it.l) from HDD.out.imp fun w hm => (hm it hxm).1)
      clear hst hss hsx hics hd1 hps hne hO1 hstl
      go_wp2_with fail
      refine (aSeek it.q it.A kA it.l.length it.c kn kc it.pos it.apos (aKey it.l it.apos) (aVal it.l it.apos) it.l key _ w0 _ HO1.out ((((HPX.out.right ((st.eraseIdx x).map It.fr)).right Fi).cons _).cons _) ((((HKR.out.right ((st.eraseIdx x).map It.fr)).right Fi).cons _).cons _) rfl HKN.out hlx).mono ?_
      rintro e w3 ⟨rfl, hO3⟩
      obtain ⟨p, hp⟩ : ∃ p, posSeek key it = p := ⟨_, rfl⟩
      have hO3 : Own ((it.mv p).fr :: (mFr mp (some ⟨ig, io, none⟩) KN ic kg idx dir :: fw kg 25 (st.map It.kv) :: (Fi ++ ((st.eraseIdx x).map It.fr ++ R)))) w0 w3 := by rw [← hp]; exact hO3
      have hbq : wval it.l.length ((mAt Pr.k it.l key : Nat) : Int) = wval it.l.length p := by
        rw [← hp]
        rfl
      rw [hbq]
      have HP := hid hp
      rw [hp] at HSS
      clear hp hbq c0 c1 c2 c3 c4 c5 c6 f4 f5 k1
      have hxs : x < st.length := by rw [HSL.out]; exact hxl
      cases hb : wval it.l.length p with
      | true =>
        obtain ⟨r, hr, hrm, hkv⟩ := aKey_valid hb
        have hps := hO3.st HPX.out (fun y hy => by simp [hy])
        have hnn := bs_some (hps.ok r hrm).hk (HNE.out r hrm)
        have hO3m := hO3.perm (L' := mFr mp (some ⟨ig, io, none⟩) KN ic kg idx dir :: ((it.mv p).fr :: fw kg 25 (st.map It.kv) :: (Fi ++ ((st.eraseIdx x).map It.fr ++ R)))) (perm_of fun _ _ z => by simp only [List.count_append, List.count_cons, List.cons_append, List.count_nil, List.nil_append, List.append_nil]; omega)
        have d3 : w3.cell? ⟨mp, 3, none⟩ = some (.slice (some ⟨kg, 0, none⟩) KN KN) := (mFr_cells hO3m).c3
        have hto : (it.to p).fr = aFr it.q (arrV it.A it.l.length it.c) p p (aKey it.l p) (aVal it.l p) := by unfold It.to It.fr; simp only [hb, if_true]
        have htk : (it.to p).kv = .slice r.ka r.k.length r.kc := hkv
        have HTO := hid hto
        have HTK := hid htk
        have HKV := hid hkv
        have HO3 := hid hO3
        clear hps hr hrm hO3m hO3 hto htk hkv
        go_wp2_with fail
        refine AnyT.start (S := fun w' => w'.cell? ⟨mp, 3, none⟩ = some (.slice (some ⟨kg, 0, none⟩) KN KN)) (T := []) (by kernel_rfl) (d3) (fun hHeld => ?_)
        refine AnyT.take (i := 0) (v := ?_) (by simp only [List.getElem?_toArray, List.getElem?_cons_succ, List.getElem?_cons_zero]; rfl) (by kernel_rfl) (by kernel_rfl) (by kernel_rfl) (by kernel_rfl) (by intro _ _ _ h; exact h) (Or.inl ⟨by rfl, fun w hSw => ?_⟩) hHeld ?_
        rotate_left
        · ((try dsimp only at hSw); go_simp; first | done | with_reducible rfl | rfl)
        try simp only [Act.put, List.setIfInBounds_toArray, List.set_cons_zero, List.set_cons_succ]
        refine AnyT.take (i := 1) (v := ?_) (by simp only [List.getElem?_toArray, List.getElem?_cons_succ, List.getElem?_cons_zero]; rfl) (by kernel_rfl) (by kernel_rfl) (by kernel_rfl) (by kernel_rfl) (by intro _ _ _ h; exact h) (Or.inl ⟨by rfl, fun w hSw => ?_⟩) hHeld ?_
        rotate_left
        · ((try dsimp only at hSw); go_simp; first | done | with_reducible rfl | rfl)
        try simp only [Act.put, List.setIfInBounds_toArray, List.set_cons_zero, List.set_cons_succ]
        refine AnyT.take (i := 2) (v := ?_) (by simp only [List.getElem?_toArray, List.getElem?_cons_succ, List.getElem?_cons_zero]; rfl) (by kernel_rfl) (by kernel_rfl) (by kernel_rfl) (by kernel_rfl) (by intro _ _ _ h; exact h) (Or.inl ⟨by rfl, fun w hSw => ?_⟩) hHeld ?_
        rotate_left
        · ((try dsimp only at hSw); go_simp; first | done | with_reducible rfl | rfl)
        try simp only [Act.put, List.setIfInBounds_toArray, List.set_cons_zero, List.set_cons_succ]
        refine AnyT.take (i := 3) (v := ?_) (by simp only [List.getElem?_toArray, List.getElem?_cons_succ, List.getElem?_cons_zero]; rfl) (by kernel_rfl) (by kernel_rfl) (by kernel_rfl) (by kernel_rfl) (by intro _ _ _ h; exact h) (Or.inl ⟨by rfl, fun w hSw => ?_⟩) hHeld ?_
        rotate_left
        · ((try dsimp only at hSw); go_simp; first | done | with_reducible rfl | rfl)
        try simp only [Act.put, List.setIfInBounds_toArray, List.set_cons_zero, List.set_cons_succ]
        refine AnyT.take (i := 4) (v := ?_) (by simp only [List.getElem?_toArray, List.getElem?_cons_succ, List.getElem?_cons_zero]; rfl) (by kernel_rfl) (by kernel_rfl) (by kernel_rfl) (by kernel_rfl) (by intro _ _ _ h; exact h) (Or.inl ⟨by rfl, fun w hSw => ?_⟩) hHeld ?_
        rotate_left
        · ((try dsimp only at hSw); go_simp; first | done | with_reducible rfl | rfl)
        try simp only [Act.put, List.setIfInBounds_toArray, List.set_cons_zero, List.set_cons_succ]
        refine AnyT.take (i := 5) (v := ?_) (by simp only [List.getElem?_toArray, List.getElem?_cons_succ, List.getElem?_cons_zero]; rfl) (by kernel_rfl) (by kernel_rfl) (by kernel_rfl) (by kernel_rfl) (by intro _ _ _ h; exact h) (Or.inl ⟨by rfl, fun w hSw => ?_⟩) hHeld ?_
        rotate_left
        · ((try dsimp only at hSw); go_simp; first | done | with_reducible rfl | rfl)
        try simp only [Act.put, List.setIfInBounds_toArray, List.set_cons_zero, List.set_cons_succ]
        refine AnyT.ready (rs := [6]) (by kernel_rfl) (by simp) ?_
        refine AllT.cons (by simp only [List.getElem?_toArray, List.getElem?_cons_succ, List.getElem?_cons_zero]; rfl) (fun K hK => ?_) AllT.nil
        go_simp
        refine (aKeyM it.q it.A it.l.length it.c p it.apos _ _ it.l _ w0 w3.drew HO3.out.drew ((((HPX.out.right ((st.eraseIdx x).map It.fr)).right Fi).cons _).cons _) rfl ⟨rfl, rfl⟩).mono ?_
        rintro e w4 ⟨rfl, hO4⟩
        rw [← HTO.out] at hO4
        rw [HKV.out]
        have hO5 := hO4.perm (L' := mFr mp (some ⟨ig, io, none⟩) KN ic kg idx dir :: fw kg 25 (st.map It.kv) :: ((it.to p).fr :: (Fi ++ ((st.eraseIdx x).map It.fr ++ R)))) (perm_of fun _ _ z => by simp only [List.count_append, List.count_cons, List.cons_append, List.count_nil, List.nil_append, List.append_nil]; omega)
        have e3 : w4.cell? ⟨mp, 3, none⟩ = some (.slice (some ⟨kg, 0, none⟩) KN KN) := (mFr_cells hO5).c3
        have ek : ∃ y, w4.cell? ⟨kg, x, none⟩ = some y := ⟨_, key_cell hO5 HSX.out⟩
        obtain ⟨yv, ek⟩ := ek
        have ef : w4.frozen? ⟨kg, x, none⟩ = false := keys_frozen hO5
        have hO6 := keys_set hO5 hxs (.slice r.ka r.k.length r.kc)
        have e3' : (w4.setCell ⟨kg, x, none⟩ (.slice r.ka r.k.length r.kc)).cell? ⟨mp, 3, none⟩ = some (.slice (some ⟨kg, 0, none⟩) KN KN) := (mFr_cells hO6).c3
        have HO6 := hid hO6
        clear hO4 hO5 hO6 HO3 HKV
        try go_wp2_with fail
        refine hK.out _ _ ?_ (fun hHeld => ?_)
        · exact e3
        clear hK
        try simp only [Act.put, List.setIfInBounds_toArray, List.set_cons_zero, List.set_cons_succ]
        refine AnyT.ready (rs := [7]) (by kernel_rfl) (by simp) ?_
        refine AllT.cons (by simp only [List.getElem?_toArray, List.getElem?_cons_succ, List.getElem?_cons_zero]; rfl) (fun K hK => ?_) AllT.nil
        go_simp
        refine (mAssert r.ka _ _ _ hnn).mono ?_
        rintro e w5 ⟨rfl, rfl⟩
        try go_wp2_with fail
        refine hK.out _ _ ?_ (fun hHeld => ?_)
        · exact e3
        clear hK
        try simp only [Act.put, List.setIfInBounds_toArray, List.set_cons_zero, List.set_cons_succ]
        refine AnyT.take (i := 8) (v := ?_) (by simp only [List.getElem?_toArray, List.getElem?_cons_succ, List.getElem?_cons_zero]; rfl) (by kernel_rfl) (by kernel_rfl) (by kernel_rfl) (by kernel_rfl) (by intro _ _ _ h; exact h) (Or.inl ⟨by rfl, fun w hSw => ?_⟩) hHeld ?_
        rotate_left
        · ((try dsimp only at hSw); go_simp; first | done | with_reducible rfl | rfl)
        try simp only [Act.put, List.setIfInBounds_toArray, List.set_cons_zero, List.set_cons_succ]
        refine AnyT.ready (rs := [9]) (by kernel_rfl) (by simp) ?_
        refine AllT.cons (by simp only [List.getElem?_toArray, List.getElem?_cons_succ, List.getElem?_cons_zero]; rfl) (fun K hK => ?_) AllT.nil
        go_simp
        refine hK.out _ _ ?_ (fun hHeld => ?_)
        · exact e3'
        clear hK
        try simp only [Act.put, List.setIfInBounds_toArray, List.set_cons_zero, List.set_cons_succ]
        refine AnyT.done (by kernel_rfl) ?_ _
        clear hHeld e3 ek ef e3' d3
        go_wp2_with fail
        go_roundw
        case rel =>
          refine ⟨x + 1, by go_num, by omega, hid ?_⟩
          rw [HSS.out, List.map_set, HTK.out]
          exact HO6.out.perm ((((its_in HSX.out (it.to p)).append_right R |>.append_left Fi |>.cons _ |>.cons _).symm.trans (perm_of fun _ _ z => by simp only [List.count_append, List.count_cons, List.cons_append, List.count_nil, List.nil_append, List.append_nil]; omega)).symm)
        case measure => simp [intOf]; omega
      | false =>
        have htf : (it.to p).fr = (it.mv p).fr := by unfold It.to It.mv It.fr; simp only [hb]; rfl
        have htk : (it.to p).kv = .slice none 0 0 := aKey_not hb
        have d4 : w3.cell? ⟨it.q, 4, none⟩ = some .nilIface := (aFr_cells hO3).c4
        rw [← htf] at hO3
        have hO5 := hO3.perm (L' := mFr mp (some ⟨ig, io, none⟩) KN ic kg idx dir :: fw kg 25 (st.map It.kv) :: ((it.to p).fr :: (Fi ++ ((st.eraseIdx x).map It.fr ++ R)))) (perm_of fun _ _ z => by simp only [List.count_append, List.count_cons, List.cons_append, List.count_nil, List.nil_append, List.append_nil]; omega)
        have e3 : w3.cell? ⟨mp, 3, none⟩ = some (.slice (some ⟨kg, 0, none⟩) KN KN) := (mFr_cells hO5).c3
        obtain ⟨yv, ek⟩ : ∃ y, w3.cell? ⟨kg, x, none⟩ = some y := ⟨_, key_cell hO5 HSX.out⟩
        have ef : w3.frozen? ⟨kg, x, none⟩ = false := keys_frozen hO5
        have HO6 := hid (keys_set hO5 hxs (.slice none 0 0))
        have HTK := hid htk
        clear hO3 hO5 htf htk
        go_wp2_with fail
        refine (mIterErr mp it.q _ d4).mono ?_
        rintro e w4 ⟨rfl, rfl⟩
        go_wp2_with fail
        go_roundw
        case rel =>
          refine ⟨x + 1, by go_num, by omega, hid ?_⟩
          rw [HSS.out, List.map_set, HTK.out]
          exact HO6.out.perm ((((its_in HSX.out (it.to p)).append_right R |>.append_left Fi |>.cons _ |>.cons _).symm.trans (perm_of fun _ _ z => by simp only [List.count_append, List.count_cons, List.cons_append, List.count_nil, List.nil_append, List.append_nil]; omega)).symm)
        case measure => simp [intOf]; omega
    · have h4' : ¬ (x : Int) < (KN : Int) := by omega
      obtain rfl : x = KN := by omega
      rw [stage_all (by rw [← HK.out]; exact Nat.le_refl _)] at HO
      have HO1 := hid (mFr_dir HO.out 0)
      go_wp2_with fail
      refine (mNext mp iA x ic kg idx 0 (its.map fun it => it.to (posSeek key it)) (Fi ++ ((its.map fun it => it.to (posSeek key it)).map It.fr ++ R)) w0 _ HO1.out ?_ (by rw [List.length_map]; exact HK.out) hKl (fun h => absurd h (by decide))).mono ?_
      · refine ((HDD.out.right _).right Fi).imp fun w hm it hit => ?_
        obtain ⟨it0, h0, rfl⟩ := List.mem_map.1 hit
        exact hm it0 h0
      rintro e w3 (⟨j, itj, r, a1, a2, a3, rfl, hO3⟩ | ⟨a1, rfl, ix, hO3⟩)
      · have HA := hid (show _ ∧ _ ∧ _ ∧ _ from ⟨a1, a2, a3, hO3⟩)
        clear a1 a2 a3 hO3
        go_wp2_with fail
        go_ret
        exact .inl ⟨j, itj, r, HA.out.1, HA.out.2.1, HA.out.2.2.1, rfl, HA.out.2.2.2⟩
      · have HA := hid (show _ ∧ _ from ⟨a1, hO3⟩)
        clear a1 hO3
        go_wp2_with fail
        go_ret
        exact .inr ⟨HA.out.1, rfl, ix, HA.out.2⟩
end Go.Proofs.YtloflmcgbbbnjaaDoor
namespace Go.Proofs.YtloflmcgbbbnjaaDoor
open Go.RowKit Plain
set_option linter.all false

theorem mdata_set {its : List It} {x : Nat} {it : It} (hx : its[x]? = some it) (p : Int) {w : World} (h : MData its w) : MData (its.set x (it.to p)) w := by
  intro y hy
  rcases List.mem_or_eq_of_mem_set hy with hy | rfl
  · exact h y hy
  · exact h it (List.mem_of_getElem? hx)

set_option maxHeartbeats 3200000 in
set_option maxRecDepth 100000 in
theorem mNextF (mp : Nat) (iA : Option Addr) (KN ic kg x : Nat) (st : List It) (it : It) (Fi R : List Fr) (w0 w : World) (hO : Own (mFr mp iA KN ic kg (x : Int) 3 :: fw kg 25 (st.map It.kv) :: (Fi ++ (st.map It.fr ++ R))) w0 w) (hx : st[x]? = some it) (hrow : Row 106 1 iA KN ic (st.map It.iv) Fi) (hD : St R w0 (MData st)) (hK : KN = st.length) (hKl : KN ≤ 2147483647)
    (hlx : it.l.length ≤ 1099511627776) (hpl : Plc it.l.length it.pos) :
    Calls Tryd.prog 200 #[.pointer (some ⟨mp, 0, none⟩)] w (MOutN mp iA KN ic kg (st.set x (it.to (min (it.pos + 1) (it.l.length : Int)))) (Fi ++ ((st.set x (it.to (min (it.pos + 1) (it.l.length : Int)))).map It.fr ++ R)) w0) := by
  obtain ⟨p, hp⟩ : ∃ p, (min (it.pos + 1) (it.l.length : Int)) = p := ⟨_, rfl⟩
  rw [hp]
  have hbq : wval it.l.length (it.pos + 1) = wval it.l.length p := by
    rw [← hp]
    obtain ⟨h1, h2⟩ := hpl
    by_cases h3 : it.pos + 1 < (it.l.length : Int)
    · rw [show min (it.pos + 1) (it.l.length : Int) = it.pos + 1 by omega]
    · rw [wval_not.2 (.inr (by omega)), wval_not.2 (.inr (by omega))]
  have HPE := hid hp
  have HBQ := hid hbq
  clear hp hbq
  have HDD := hid hD
  have HK := hid hK
  have m1 := m_aNext
  have m2 := m_aKey
  have HSX := hid hx
  have hxs : x < st.length := (List.getElem?_eq_some_iff.1 hx).1
  have h4' : (x : Int) < (KN : Int) := by omega
  obtain ⟨c0, c1, c2, c3, c4, c5, c6, f4, f5⟩ := mFr_cells hO
  have hics : CsAt w iA (st.map It.iv) := hrow.cs fun y hy => hO.ins y (by simp [hy])
  obtain ⟨ig, io, rfl, k0⟩ := hics x (by simpa using hxs)
  rw [List.getElem?_map, hx] at k0
  have k1 : w.cell? ⟨ig, io + x, none⟩ = some (.iface 187 (.pointer (some ⟨it.q, 0, none⟩))) := k0
  have hO1 := hO.perm (L' := it.fr :: (mFr mp (some ⟨ig, io, none⟩) KN ic kg (x : Int) 3 :: fw kg 25 (st.map It.kv) :: (Fi ++ ((st.eraseIdx x).map It.fr ++ R)))) (((its_out hx).append_right R |>.append_left Fi |>.cons _ |>.cons _).trans (perm_of fun _ _ z => by simp only [List.count_append, List.count_cons, List.cons_append, List.count_nil, List.nil_append, List.append_nil]; omega))
  have HO1 := hid hO1
  have hne := ((hO1.st hD (fun y hy => by simp [hy])) it (List.mem_of_getElem? hx)).2
  have HNE := hid hne
  have HPX := hid (show St R w0 (fun w => Prs w it.A it.l) from hD.imp fun w hm => (hm it (List.mem_of_getElem? hx)).1)
  clear hO hO1 hD hics hne k0 hx hrow hK
  go_enter Tryd.func200, Tryd.ntmps200
  go_wp2_with fail
  refine (aNext it.q it.A it.l.length it.c it.pos it.apos (aKey it.l it.apos) (aVal it.l it.apos) _ w0 _ HO1.out hlx hpl).mono ?_
  rintro e w3 ⟨rfl, hO3⟩
  have hO3 : Own ((it.mv p).fr :: (mFr mp (some ⟨ig, io, none⟩) KN ic kg (x : Int) 3 :: fw kg 25 (st.map It.kv) :: (Fi ++ ((st.eraseIdx x).map It.fr ++ R)))) w0 w3 := by rw [← HPE.out]; exact hO3
  rw [HBQ.out]
  clear c0 c1 c2 c3 c4 c5 c6 f4 f5 k1
  cases hb : wval it.l.length p with
  | true =>
    obtain ⟨r, hr, hrm, hkv⟩ := aKey_valid hb
    have hps := hO3.st HPX.out (fun y hy => by simp [hy])
    have hnn := bs_some (hps.ok r hrm).hk (HNE.out r hrm)
    have hO3m := hO3.perm (L' := mFr mp (some ⟨ig, io, none⟩) KN ic kg (x : Int) 3 :: ((it.mv p).fr :: fw kg 25 (st.map It.kv) :: (Fi ++ ((st.eraseIdx x).map It.fr ++ R)))) (perm_of fun _ _ z => by simp only [List.count_append, List.count_cons, List.cons_append, List.count_nil, List.nil_append, List.append_nil]; omega)
    have d3 : w3.cell? ⟨mp, 3, none⟩ = some (.slice (some ⟨kg, 0, none⟩) KN KN) := (mFr_cells hO3m).c3
    have hto : (it.to p).fr = aFr it.q (arrV it.A it.l.length it.c) p p (aKey it.l p) (aVal it.l p) := by unfold It.to It.fr; simp only [hb, if_true]
    have htk : (it.to p).kv = .slice r.ka r.k.length r.kc := hkv
    have HTO := hid hto
    have HTK := hid htk
    have HKV := hid hkv
    have HO3 := hid hO3
    clear hps hr hrm hO3m hO3 hto htk hkv
    go_wp2_with fail
    refine AnyT.start (S := fun w' => w'.cell? ⟨mp, 3, none⟩ = some (.slice (some ⟨kg, 0, none⟩) KN KN)) (T := []) (by kernel_rfl) (d3) (fun hHeld => ?_)
    refine AnyT.take (i := 0) (v := ?_) (by simp only [List.getElem?_toArray, List.getElem?_cons_succ, List.getElem?_cons_zero]; rfl) (by kernel_rfl) (by kernel_rfl) (by kernel_rfl) (by kernel_rfl) (by intro _ _ _ h; exact h) (Or.inl ⟨by rfl, fun w hSw => ?_⟩) hHeld ?_
    rotate_left
    · ((try dsimp only at hSw); go_simp; first | done | with_reducible rfl | rfl)
    try simp only [Act.put, List.setIfInBounds_toArray, List.set_cons_zero, List.set_cons_succ]
    refine AnyT.take (i := 1) (v := ?_) (by simp only [List.getElem?_toArray, List.getElem?_cons_succ, List.getElem?_cons_zero]; rfl) (by kernel_rfl) (by kernel_rfl) (by kernel_rfl) (by kernel_rfl) (by intro _ _ _ h; exact h) (Or.inl ⟨by rfl, fun w hSw => ?_⟩) hHeld ?_
    rotate_left
    · ((try dsimp only at hSw); go_simp; first | done | with_reducible rfl | rfl)
    try simp only [Act.put, List.setIfInBounds_toArray, List.set_cons_zero, List.set_cons_succ]
    refine AnyT.take (i := 2) (v := ?_) (by simp only [List.getElem?_toArray, List.getElem?_cons_succ, List.getElem?_cons_zero]; rfl) (by kernel_rfl) (by kernel_rfl) (by kernel_rfl) (by kernel_rfl) (by intro _ _ _ h; exact h) (Or.inl ⟨by rfl, fun w hSw => ?_⟩) hHeld ?_
    rotate_left
    · ((try dsimp only at hSw); go_simp; first | done | with_reducible rfl | rfl)
    try simp only [Act.put, List.setIfInBounds_toArray, List.set_cons_zero, List.set_cons_succ]
    refine AnyT.take (i := 3) (v := ?_) (by simp only [List.getElem?_toArray, List.getElem?_cons_succ, List.getElem?_cons_zero]; rfl) (by kernel_rfl) (by kernel_rfl) (by kernel_rfl) (by kernel_rfl) (by intro _ _ _ h; exact h) (Or.inl ⟨by rfl, fun w hSw => ?_⟩) hHeld ?_
    rotate_left
    · ((try dsimp only at hSw); go_simp; first | done | with_reducible rfl | rfl)
    try simp only [Act.put, List.setIfInBounds_toArray, List.set_cons_zero, List.set_cons_succ]
    refine AnyT.take (i := 4) (v := ?_) (by simp only [List.getElem?_toArray, List.getElem?_cons_succ, List.getElem?_cons_zero]; rfl) (by kernel_rfl) (by kernel_rfl) (by kernel_rfl) (by kernel_rfl) (by intro _ _ _ h; exact h) (Or.inl ⟨by rfl, fun w hSw => ?_⟩) hHeld ?_
    rotate_left
    · ((try dsimp only at hSw); go_simp; first | done | with_reducible rfl | rfl)
    try simp only [Act.put, List.setIfInBounds_toArray, List.set_cons_zero, List.set_cons_succ]
    refine AnyT.take (i := 5) (v := ?_) (by simp only [List.getElem?_toArray, List.getElem?_cons_succ, List.getElem?_cons_zero]; rfl) (by kernel_rfl) (by kernel_rfl) (by kernel_rfl) (by kernel_rfl) (by intro _ _ _ h; exact h) (Or.inl ⟨by rfl, fun w hSw => ?_⟩) hHeld ?_
    rotate_left
    · ((try dsimp only at hSw); go_simp; first | done | with_reducible rfl | rfl)
    try simp only [Act.put, List.setIfInBounds_toArray, List.set_cons_zero, List.set_cons_succ]
    refine AnyT.ready (rs := [6]) (by kernel_rfl) (by simp) ?_
    refine AllT.cons (by simp only [List.getElem?_toArray, List.getElem?_cons_succ, List.getElem?_cons_zero]; rfl) (fun K hK => ?_) AllT.nil
    go_simp
    refine (aKeyM it.q it.A it.l.length it.c p it.apos _ _ it.l _ w0 w3.drew HO3.out.drew ((((HPX.out.right ((st.eraseIdx x).map It.fr)).right Fi).cons _).cons _) rfl ⟨rfl, rfl⟩).mono ?_
    rintro e w4 ⟨rfl, hO4⟩
    rw [← HTO.out] at hO4
    rw [HKV.out]
    have hO5 := hO4.perm (L' := mFr mp (some ⟨ig, io, none⟩) KN ic kg (x : Int) 3 :: fw kg 25 (st.map It.kv) :: ((it.to p).fr :: (Fi ++ ((st.eraseIdx x).map It.fr ++ R)))) (perm_of fun _ _ z => by simp only [List.count_append, List.count_cons, List.cons_append, List.count_nil, List.nil_append, List.append_nil]; omega)
    have e3 : w4.cell? ⟨mp, 3, none⟩ = some (.slice (some ⟨kg, 0, none⟩) KN KN) := (mFr_cells hO5).c3
    have ek : ∃ y, w4.cell? ⟨kg, x, none⟩ = some y := ⟨_, key_cell hO5 HSX.out⟩
    obtain ⟨yv, ek⟩ := ek
    have ef : w4.frozen? ⟨kg, x, none⟩ = false := keys_frozen hO5
    have hO6 := keys_set hO5 hxs (.slice r.ka r.k.length r.kc)
    have e3' : (w4.setCell ⟨kg, x, none⟩ (.slice r.ka r.k.length r.kc)).cell? ⟨mp, 3, none⟩ = some (.slice (some ⟨kg, 0, none⟩) KN KN) := (mFr_cells hO6).c3
    have HO6 := hid hO6
    clear hO4 hO5 hO6 HO3 HKV
    try go_wp2_with fail
    refine hK.out _ _ ?_ (fun hHeld => ?_)
    · exact e3
    clear hK
    try simp only [Act.put, List.setIfInBounds_toArray, List.set_cons_zero, List.set_cons_succ]
    refine AnyT.ready (rs := [7]) (by kernel_rfl) (by simp) ?_
    refine AllT.cons (by simp only [List.getElem?_toArray, List.getElem?_cons_succ, List.getElem?_cons_zero]; rfl) (fun K hK => ?_) AllT.nil
    go_simp
    refine (mAssert r.ka _ _ _ hnn).mono ?_
    rintro e w5 ⟨rfl, rfl⟩
    try go_wp2_with fail
    refine hK.out _ _ ?_ (fun hHeld => ?_)
    · exact e3
    clear hK
    try simp only [Act.put, List.setIfInBounds_toArray, List.set_cons_zero, List.set_cons_succ]
    refine AnyT.take (i := 8) (v := ?_) (by simp only [List.getElem?_toArray, List.getElem?_cons_succ, List.getElem?_cons_zero]; rfl) (by kernel_rfl) (by kernel_rfl) (by kernel_rfl) (by kernel_rfl) (by intro _ _ _ h; exact h) (Or.inl ⟨by rfl, fun w hSw => ?_⟩) hHeld ?_
    rotate_left
    · ((try dsimp only at hSw); go_simp; first | done | with_reducible rfl | rfl)
    try simp only [Act.put, List.setIfInBounds_toArray, List.set_cons_zero, List.set_cons_succ]
    refine AnyT.ready (rs := [9]) (by kernel_rfl) (by simp) ?_
    refine AllT.cons (by simp only [List.getElem?_toArray, List.getElem?_cons_succ, List.getElem?_cons_zero]; rfl) (fun K hK => ?_) AllT.nil
    go_simp
    refine hK.out _ _ ?_ (fun hHeld => ?_)
    · exact e3'
    clear hK
    try simp only [Act.put, List.setIfInBounds_toArray, List.set_cons_zero, List.set_cons_succ]
    refine AnyT.done (by kernel_rfl) ?_ _
    clear hHeld e3 ek ef e3' d3
    go_wp2_with fail
    have HO7 := hid (show Own (mFr mp (some ⟨ig, io, none⟩) KN ic kg (x : Int) 3 :: fw kg 25 ((st.set x (it.to p)).map It.kv) :: (Fi ++ ((st.set x (it.to p)).map It.fr ++ R))) w0 _ from by
      rw [List.map_set, HTK.out]
      exact HO6.out.perm ((((its_in HSX.out (it.to p)).append_right R |>.append_left Fi |>.cons _ |>.cons _).symm.trans (perm_of fun _ _ z => by simp only [List.count_append, List.count_cons, List.cons_append, List.count_nil, List.nil_append, List.append_nil]; omega)).symm))
    generalize World.setCell _ _ _ = w7 at HO7 ⊢
    refine (mNext mp (some ⟨ig, io, none⟩) KN ic kg (x : Int) 3 (st.set x (it.to p)) (Fi ++ ((st.set x (it.to p)).map It.fr ++ R)) w0 _ HO7.out ?_ (by rw [List.length_set]; exact HK.out) hKl (fun _ => ⟨x, rfl, by rw [HK.out]; exact hxs⟩)).mono ?_
    · exact ((HDD.out.right _).right Fi).imp fun w hm => mdata_set HSX.out p hm
    rintro e w3 (⟨j, itj, r, a1, a2, a3, rfl, hO3⟩ | ⟨a1, rfl, ix, hO3⟩)
    · have HA := hid (show _ ∧ _ ∧ _ ∧ _ from ⟨a1, a2, a3, hO3⟩)
      clear a1 a2 a3 hO3
      go_wp2_with fail
      go_ret
      exact .inl ⟨j, itj, r, HA.out.1, HA.out.2.1, HA.out.2.2.1, rfl, HA.out.2.2.2⟩
    · have HA := hid (show _ ∧ _ from ⟨a1, hO3⟩)
      clear a1 hO3
      go_wp2_with fail
      go_ret
      exact .inr ⟨HA.out.1, rfl, ix, HA.out.2⟩
  | false =>
    have htf : (it.to p).fr = (it.mv p).fr := by unfold It.to It.mv It.fr; simp only [hb]; rfl
    have htk : (it.to p).kv = .slice none 0 0 := aKey_not hb
    have d4 : w3.cell? ⟨it.q, 4, none⟩ = some .nilIface := (aFr_cells hO3).c4
    rw [← htf] at hO3
    have hO5 := hO3.perm (L' := mFr mp (some ⟨ig, io, none⟩) KN ic kg (x : Int) 3 :: fw kg 25 (st.map It.kv) :: ((it.to p).fr :: (Fi ++ ((st.eraseIdx x).map It.fr ++ R)))) (perm_of fun _ _ z => by simp only [List.count_append, List.count_cons, List.cons_append, List.count_nil, List.nil_append, List.append_nil]; omega)
    have e3 : w3.cell? ⟨mp, 3, none⟩ = some (.slice (some ⟨kg, 0, none⟩) KN KN) := (mFr_cells hO5).c3
    obtain ⟨yv, ek⟩ : ∃ y, w3.cell? ⟨kg, x, none⟩ = some y := ⟨_, key_cell hO5 HSX.out⟩
    have ef : w3.frozen? ⟨kg, x, none⟩ = false := keys_frozen hO5
    have HO6 := hid (keys_set hO5 hxs (.slice none 0 0))
    have HTK := hid htk
    clear hO3 hO5 htf htk
    go_wp2_with fail
    refine (mIterErr mp it.q _ d4).mono ?_
    rintro e w4 ⟨rfl, rfl⟩
    go_wp2_with fail
    have HO7 := hid (show Own (mFr mp (some ⟨ig, io, none⟩) KN ic kg (x : Int) 3 :: fw kg 25 ((st.set x (it.to p)).map It.kv) :: (Fi ++ ((st.set x (it.to p)).map It.fr ++ R))) w0 _ from by
      rw [List.map_set, HTK.out]
      exact HO6.out.perm ((((its_in HSX.out (it.to p)).append_right R |>.append_left Fi |>.cons _ |>.cons _).symm.trans (perm_of fun _ _ z => by simp only [List.count_append, List.count_cons, List.cons_append, List.count_nil, List.nil_append, List.append_nil]; omega)).symm))
    generalize World.setCell _ _ _ = w7 at HO7 ⊢
    refine (mNext mp (some ⟨ig, io, none⟩) KN ic kg (x : Int) 3 (st.set x (it.to p)) (Fi ++ ((st.set x (it.to p)).map It.fr ++ R)) w0 _ HO7.out ?_ (by rw [List.length_set]; exact HK.out) hKl (fun _ => ⟨x, rfl, by rw [HK.out]; exact hxs⟩)).mono ?_
    · exact ((HDD.out.right _).right Fi).imp fun w hm => mdata_set HSX.out p hm
    rintro e w3 (⟨j, itj, r, a1, a2, a3, rfl, hO3⟩ | ⟨a1, rfl, ix, hO3⟩)
    · have HA := hid (show _ ∧ _ ∧ _ ∧ _ from ⟨a1, a2, a3, hO3⟩)
      clear a1 a2 a3 hO3
      go_wp2_with fail
      go_ret
      exact .inl ⟨j, itj, r, HA.out.1, HA.out.2.1, HA.out.2.2.1, rfl, HA.out.2.2.2⟩
    · have HA := hid (show _ ∧ _ from ⟨a1, hO3⟩)
      clear a1 hO3
      go_wp2_with fail
      go_ret
      exact .inr ⟨HA.out.1, rfl, ix, HA.out.2⟩

set_option maxHeartbeats 3200000 in
set_option maxRecDepth 100000 in
theorem mPrevB (mp : Nat) (iA : Option Addr) (KN ic kg x : Nat) (st : List It) (it : It) (Fi R : List Fr) (w0 w : World) (hO : Own (mFr mp iA KN ic kg (x : Int) 2 :: fw kg 25 (st.map It.kv) :: (Fi ++ (st.map It.fr ++ R))) w0 w) (hx : st[x]? = some it) (hrow : Row 106 1 iA KN ic (st.map It.iv) Fi) (hD : St R w0 (MData st)) (hK : KN = st.length) (hKl : KN ≤ 2147483647)
    (hlx : it.l.length ≤ 1099511627776) (hpl : Plc it.l.length it.pos) :
    Calls Tryd.prog 201 #[.pointer (some ⟨mp, 0, none⟩)] w (MOutP mp iA KN ic kg (st.set x (it.to (max (it.pos - 1) (-1)))) (Fi ++ ((st.set x (it.to (max (it.pos - 1) (-1)))).map It.fr ++ R)) w0) := by
  obtain ⟨p, hp⟩ : ∃ p, (max (it.pos - 1) (-1)) = p := ⟨_, rfl⟩
  rw [hp]
  have hbq : decide (0 ≤ it.pos - 1) = wval it.l.length p := by
    rw [← hp]
    obtain ⟨h1, h2⟩ := hpl
    by_cases h3 : 0 ≤ it.pos - 1
    · rw [decide_eq_true h3, wval_iff.2 ⟨by omega, by omega⟩]
    · rw [decide_eq_false h3, wval_not.2 (.inl (by omega))]
  have HPE := hid hp
  have HBQ := hid hbq
  clear hp hbq
  have HDD := hid hD
  have HK := hid hK
  have m1 := m_aPrev
  have m2 := m_aKey
  have HSX := hid hx
  have hxs : x < st.length := (List.getElem?_eq_some_iff.1 hx).1
  have h4' : (x : Int) < (KN : Int) := by omega
  obtain ⟨c0, c1, c2, c3, c4, c5, c6, f4, f5⟩ := mFr_cells hO
  have hics : CsAt w iA (st.map It.iv) := hrow.cs fun y hy => hO.ins y (by simp [hy])
  obtain ⟨ig, io, rfl, k0⟩ := hics x (by simpa using hxs)
  rw [List.getElem?_map, hx] at k0
  have k1 : w.cell? ⟨ig, io + x, none⟩ = some (.iface 187 (.pointer (some ⟨it.q, 0, none⟩))) := k0
  have hO1 := hO.perm (L' := it.fr :: (mFr mp (some ⟨ig, io, none⟩) KN ic kg (x : Int) 2 :: fw kg 25 (st.map It.kv) :: (Fi ++ ((st.eraseIdx x).map It.fr ++ R)))) (((its_out hx).append_right R |>.append_left Fi |>.cons _ |>.cons _).trans (perm_of fun _ _ z => by simp only [List.count_append, List.count_cons, List.cons_append, List.count_nil, List.nil_append, List.append_nil]; omega))
  have HO1 := hid hO1
  have hne := ((hO1.st hD (fun y hy => by simp [hy])) it (List.mem_of_getElem? hx)).2
  have HNE := hid hne
  have HPX := hid (show St R w0 (fun w => Prs w it.A it.l) from hD.imp fun w hm => (hm it (List.mem_of_getElem? hx)).1)
  clear hO hO1 hD hics hne k0 hx hrow hK
  go_enter Tryd.func201, Tryd.ntmps201
  go_wp2_with fail
  refine (aPrev it.q it.A it.l.length it.c it.pos it.apos (aKey it.l it.apos) (aVal it.l it.apos) _ w0 _ HO1.out hlx hpl).mono ?_
  rintro e w3 ⟨rfl, hO3⟩
  have hO3 : Own ((it.mv p).fr :: (mFr mp (some ⟨ig, io, none⟩) KN ic kg (x : Int) 2 :: fw kg 25 (st.map It.kv) :: (Fi ++ ((st.eraseIdx x).map It.fr ++ R)))) w0 w3 := by rw [← HPE.out]; exact hO3
  rw [HBQ.out]
  clear c0 c1 c2 c3 c4 c5 c6 f4 f5 k1
  cases hb : wval it.l.length p with
  | true =>
    obtain ⟨r, hr, hrm, hkv⟩ := aKey_valid hb
    have hps := hO3.st HPX.out (fun y hy => by simp [hy])
    have hnn := bs_some (hps.ok r hrm).hk (HNE.out r hrm)
    have hO3m := hO3.perm (L' := mFr mp (some ⟨ig, io, none⟩) KN ic kg (x : Int) 2 :: ((it.mv p).fr :: fw kg 25 (st.map It.kv) :: (Fi ++ ((st.eraseIdx x).map It.fr ++ R)))) (perm_of fun _ _ z => by simp only [List.count_append, List.count_cons, List.cons_append, List.count_nil, List.nil_append, List.append_nil]; omega)
    have d3 : w3.cell? ⟨mp, 3, none⟩ = some (.slice (some ⟨kg, 0, none⟩) KN KN) := (mFr_cells hO3m).c3
    have hto : (it.to p).fr = aFr it.q (arrV it.A it.l.length it.c) p p (aKey it.l p) (aVal it.l p) := by unfold It.to It.fr; simp only [hb, if_true]
    have htk : (it.to p).kv = .slice r.ka r.k.length r.kc := hkv
    have HTO := hid hto
    have HTK := hid htk
    have HKV := hid hkv
    have HO3 := hid hO3
    clear hps hr hrm hO3m hO3 hto htk hkv
    go_wp2_with fail
    refine AnyT.start (S := fun w' => w'.cell? ⟨mp, 3, none⟩ = some (.slice (some ⟨kg, 0, none⟩) KN KN)) (T := []) (by kernel_rfl) (d3) (fun hHeld => ?_)
    refine AnyT.take (i := 0) (v := ?_) (by simp only [List.getElem?_toArray, List.getElem?_cons_succ, List.getElem?_cons_zero]; rfl) (by kernel_rfl) (by kernel_rfl) (by kernel_rfl) (by kernel_rfl) (by intro _ _ _ h; exact h) (Or.inl ⟨by rfl, fun w hSw => ?_⟩) hHeld ?_
    rotate_left
    · ((try dsimp only at hSw); go_simp; first | done | with_reducible rfl | rfl)
    try simp only [Act.put, List.setIfInBounds_toArray, List.set_cons_zero, List.set_cons_succ]
    refine AnyT.take (i := 1) (v := ?_) (by simp only [List.getElem?_toArray, List.getElem?_cons_succ, List.getElem?_cons_zero]; rfl) (by kernel_rfl) (by kernel_rfl) (by kernel_rfl) (by kernel_rfl) (by intro _ _ _ h; exact h) (Or.inl ⟨by rfl, fun w hSw => ?_⟩) hHeld ?_
    rotate_left
    · ((try dsimp only at hSw); go_simp; first | done | with_reducible rfl | rfl)
    try simp only [Act.put, List.setIfInBounds_toArray, List.set_cons_zero, List.set_cons_succ]
    refine AnyT.take (i := 2) (v := ?_) (by simp only [List.getElem?_toArray, List.getElem?_cons_succ, List.getElem?_cons_zero]; rfl) (by kernel_rfl) (by kernel_rfl) (by kernel_rfl) (by kernel_rfl) (by intro _ _ _ h; exact h) (Or.inl ⟨by rfl, fun w hSw => ?_⟩) hHeld ?_
    rotate_left
    · ((try dsimp only at hSw); go_simp; first | done | with_reducible rfl | rfl)
    try simp only [Act.put, List.setIfInBounds_toArray, List.set_cons_zero, List.set_cons_succ]
    refine AnyT.take (i := 3) (v := ?_) (by simp only [List.getElem?_toArray, List.getElem?_cons_succ, List.getElem?_cons_zero]; rfl) (by kernel_rfl) (by kernel_rfl) (by kernel_rfl) (by kernel_rfl) (by intro _ _ _ h; exact h) (Or.inl ⟨by rfl, fun w hSw => ?_⟩) hHeld ?_
    rotate_left
    · ((try dsimp only at hSw); go_simp; first | done | with_reducible rfl | rfl)
    try simp only [Act.put, List.setIfInBounds_toArray, List.set_cons_zero, List.set_cons_succ]
    refine AnyT.take (i := 4) (v := ?_) (by simp only [List.getElem?_toArray, List.getElem?_cons_succ, List.getElem?_cons_zero]; rfl) (by kernel_rfl) (by kernel_rfl) (by kernel_rfl) (by kernel_rfl) (by intro _ _ _ h; exact h) (Or.inl ⟨by rfl, fun w hSw => ?_⟩) hHeld ?_
    rotate_left
    · ((try dsimp only at hSw); go_simp; first | done | with_reducible rfl | rfl)
    try simp only [Act.put, List.setIfInBounds_toArray, List.set_cons_zero, List.set_cons_succ]
    refine AnyT.take (i := 5) (v := ?_) (by simp only [List.getElem?_toArray, List.getElem?_cons_succ, List.getElem?_cons_zero]; rfl) (by kernel_rfl) (by kernel_rfl) (by kernel_rfl) (by kernel_rfl) (by intro _ _ _ h; exact h) (Or.inl ⟨by rfl, fun w hSw => ?_⟩) hHeld ?_
    rotate_left
    · ((try dsimp only at hSw); go_simp; first | done | with_reducible rfl | rfl)
    try simp only [Act.put, List.setIfInBounds_toArray, List.set_cons_zero, List.set_cons_succ]
    refine AnyT.ready (rs := [6]) (by kernel_rfl) (by simp) ?_
    refine AllT.cons (by simp only [List.getElem?_toArray, List.getElem?_cons_succ, List.getElem?_cons_zero]; rfl) (fun K hK => ?_) AllT.nil
    go_simp
    refine (aKeyM it.q it.A it.l.length it.c p it.apos _ _ it.l _ w0 w3.drew HO3.out.drew ((((HPX.out.right ((st.eraseIdx x).map It.fr)).right Fi).cons _).cons _) rfl ⟨rfl, rfl⟩).mono ?_
    rintro e w4 ⟨rfl, hO4⟩
    rw [← HTO.out] at hO4
    rw [HKV.out]
    have hO5 := hO4.perm (L' := mFr mp (some ⟨ig, io, none⟩) KN ic kg (x : Int) 2 :: fw kg 25 (st.map It.kv) :: ((it.to p).fr :: (Fi ++ ((st.eraseIdx x).map It.fr ++ R)))) (perm_of fun _ _ z => by simp only [List.count_append, List.count_cons, List.cons_append, List.count_nil, List.nil_append, List.append_nil]; omega)
    have e3 : w4.cell? ⟨mp, 3, none⟩ = some (.slice (some ⟨kg, 0, none⟩) KN KN) := (mFr_cells hO5).c3
    have ek : ∃ y, w4.cell? ⟨kg, x, none⟩ = some y := ⟨_, key_cell hO5 HSX.out⟩
    obtain ⟨yv, ek⟩ := ek
    have ef : w4.frozen? ⟨kg, x, none⟩ = false := keys_frozen hO5
    have hO6 := keys_set hO5 hxs (.slice r.ka r.k.length r.kc)
    have e3' : (w4.setCell ⟨kg, x, none⟩ (.slice r.ka r.k.length r.kc)).cell? ⟨mp, 3, none⟩ = some (.slice (some ⟨kg, 0, none⟩) KN KN) := (mFr_cells hO6).c3
    have HO6 := hid hO6
    clear hO4 hO5 hO6 HO3 HKV
    try go_wp2_with fail
    refine hK.out _ _ ?_ (fun hHeld => ?_)
    · exact e3
    clear hK
    try simp only [Act.put, List.setIfInBounds_toArray, List.set_cons_zero, List.set_cons_succ]
    refine AnyT.ready (rs := [7]) (by kernel_rfl) (by simp) ?_
    refine AllT.cons (by simp only [List.getElem?_toArray, List.getElem?_cons_succ, List.getElem?_cons_zero]; rfl) (fun K hK => ?_) AllT.nil
    go_simp
    refine (mAssert r.ka _ _ _ hnn).mono ?_
    rintro e w5 ⟨rfl, rfl⟩
    try go_wp2_with fail
    refine hK.out _ _ ?_ (fun hHeld => ?_)
    · exact e3
    clear hK
    try simp only [Act.put, List.setIfInBounds_toArray, List.set_cons_zero, List.set_cons_succ]
    refine AnyT.take (i := 8) (v := ?_) (by simp only [List.getElem?_toArray, List.getElem?_cons_succ, List.getElem?_cons_zero]; rfl) (by kernel_rfl) (by kernel_rfl) (by kernel_rfl) (by kernel_rfl) (by intro _ _ _ h; exact h) (Or.inl ⟨by rfl, fun w hSw => ?_⟩) hHeld ?_
    rotate_left
    · ((try dsimp only at hSw); go_simp; first | done | with_reducible rfl | rfl)
    try simp only [Act.put, List.setIfInBounds_toArray, List.set_cons_zero, List.set_cons_succ]
    refine AnyT.ready (rs := [9]) (by kernel_rfl) (by simp) ?_
    refine AllT.cons (by simp only [List.getElem?_toArray, List.getElem?_cons_succ, List.getElem?_cons_zero]; rfl) (fun K hK => ?_) AllT.nil
    go_simp
    refine hK.out _ _ ?_ (fun hHeld => ?_)
    · exact e3'
    clear hK
    try simp only [Act.put, List.setIfInBounds_toArray, List.set_cons_zero, List.set_cons_succ]
    refine AnyT.done (by kernel_rfl) ?_ _
    clear hHeld e3 ek ef e3' d3
    go_wp2_with fail
    have HO7 := hid (show Own (mFr mp (some ⟨ig, io, none⟩) KN ic kg (x : Int) 2 :: fw kg 25 ((st.set x (it.to p)).map It.kv) :: (Fi ++ ((st.set x (it.to p)).map It.fr ++ R))) w0 _ from by
      rw [List.map_set, HTK.out]
      exact HO6.out.perm ((((its_in HSX.out (it.to p)).append_right R |>.append_left Fi |>.cons _ |>.cons _).symm.trans (perm_of fun _ _ z => by simp only [List.count_append, List.count_cons, List.cons_append, List.count_nil, List.nil_append, List.append_nil]; omega)).symm))
    generalize World.setCell _ _ _ = w7 at HO7 ⊢
    refine (mPrev mp (some ⟨ig, io, none⟩) KN ic kg (x : Int) 2 (st.set x (it.to p)) (Fi ++ ((st.set x (it.to p)).map It.fr ++ R)) w0 _ HO7.out ?_ (by rw [List.length_set]; exact HK.out) hKl (fun _ => ⟨x, rfl, by rw [HK.out]; exact hxs⟩)).mono ?_
    · exact ((HDD.out.right _).right Fi).imp fun w hm => mdata_set HSX.out p hm
    rintro e w3 (⟨j, itj, r, a1, a2, a3, rfl, hO3⟩ | ⟨a1, rfl, ix, hO3⟩)
    · have HA := hid (show _ ∧ _ ∧ _ ∧ _ from ⟨a1, a2, a3, hO3⟩)
      clear a1 a2 a3 hO3
      go_wp2_with fail
      go_ret
      exact .inl ⟨j, itj, r, HA.out.1, HA.out.2.1, HA.out.2.2.1, rfl, HA.out.2.2.2⟩
    · have HA := hid (show _ ∧ _ from ⟨a1, hO3⟩)
      clear a1 hO3
      go_wp2_with fail
      go_ret
      exact .inr ⟨HA.out.1, rfl, ix, HA.out.2⟩
  | false =>
    have htf : (it.to p).fr = (it.mv p).fr := by unfold It.to It.mv It.fr; simp only [hb]; rfl
    have htk : (it.to p).kv = .slice none 0 0 := aKey_not hb
    have d4 : w3.cell? ⟨it.q, 4, none⟩ = some .nilIface := (aFr_cells hO3).c4
    rw [← htf] at hO3
    have hO5 := hO3.perm (L' := mFr mp (some ⟨ig, io, none⟩) KN ic kg (x : Int) 2 :: fw kg 25 (st.map It.kv) :: ((it.to p).fr :: (Fi ++ ((st.eraseIdx x).map It.fr ++ R)))) (perm_of fun _ _ z => by simp only [List.count_append, List.count_cons, List.cons_append, List.count_nil, List.nil_append, List.append_nil]; omega)
    have e3 : w3.cell? ⟨mp, 3, none⟩ = some (.slice (some ⟨kg, 0, none⟩) KN KN) := (mFr_cells hO5).c3
    obtain ⟨yv, ek⟩ : ∃ y, w3.cell? ⟨kg, x, none⟩ = some y := ⟨_, key_cell hO5 HSX.out⟩
    have ef : w3.frozen? ⟨kg, x, none⟩ = false := keys_frozen hO5
    have HO6 := hid (keys_set hO5 hxs (.slice none 0 0))
    have HTK := hid htk
    clear hO3 hO5 htf htk
    go_wp2_with fail
    refine (mIterErr mp it.q _ d4).mono ?_
    rintro e w4 ⟨rfl, rfl⟩
    go_wp2_with fail
    have HO7 := hid (show Own (mFr mp (some ⟨ig, io, none⟩) KN ic kg (x : Int) 2 :: fw kg 25 ((st.set x (it.to p)).map It.kv) :: (Fi ++ ((st.set x (it.to p)).map It.fr ++ R))) w0 _ from by
      rw [List.map_set, HTK.out]
      exact HO6.out.perm ((((its_in HSX.out (it.to p)).append_right R |>.append_left Fi |>.cons _ |>.cons _).symm.trans (perm_of fun _ _ z => by simp only [List.count_append, List.count_cons, List.cons_append, List.count_nil, List.nil_append, List.append_nil]; omega)).symm))
    generalize World.setCell _ _ _ = w7 at HO7 ⊢
    refine (mPrev mp (some ⟨ig, io, none⟩) KN ic kg (x : Int) 2 (st.set x (it.to p)) (Fi ++ ((st.set x (it.to p)).map It.fr ++ R)) w0 _ HO7.out ?_ (by rw [List.length_set]; exact HK.out) hKl (fun _ => ⟨x, rfl, by rw [HK.out]; exact hxs⟩)).mono ?_
    · exact ((HDD.out.right _).right Fi).imp fun w hm => mdata_set HSX.out p hm
    rintro e w3 (⟨j, itj, r, a1, a2, a3, rfl, hO3⟩ | ⟨a1, rfl, ix, hO3⟩)
    · have HA := hid (show _ ∧ _ ∧ _ ∧ _ from ⟨a1, a2, a3, hO3⟩)
      clear a1 a2 a3 hO3
      go_wp2_with fail
      go_ret
      exact .inl ⟨j, itj, r, HA.out.1, HA.out.2.1, HA.out.2.2.1, rfl, HA.out.2.2.2⟩
    · have HA := hid (show _ ∧ _ from ⟨a1, hO3⟩)
      clear a1 hO3
      go_wp2_with fail
      go_ret
      exact .inr ⟨HA.out.1, rfl, ix, HA.out.2⟩
end Go.Proofs.YtloflmcgbbbnjaaDoor
