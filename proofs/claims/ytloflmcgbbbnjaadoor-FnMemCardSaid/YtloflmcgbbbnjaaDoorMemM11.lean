/-
  impl.iterated over an iterator: on, back, a script.
-/
import Derived.Test.YtloflmcgbbbnjaaDoorMemM6
import Derived.Test.YtloflmcgbbbnjaaDoorMemM10
namespace Go.Proofs.YtloflmcgbbbnjaaDoor
open Go.RowKit Plain
set_option linter.all false

/-- An answer as a record. -/
structure MAn where
  pA : Option Addr
  pc : Nat
  l : List Pr
  vA : Option Addr
  vc : Nat
  vs : List Bool
  n : Int
  ok : Bool
def MAn.cells (r : MAn) : List Value := [.slice r.pA r.l.length r.pc, .slice r.vA r.vs.length r.vc, .int .i64 r.n, .bool r.ok]
theorem MAn.cells_length (r : MAn) : r.cells.length = 4 := rfl
structure MAn.Ok (w : World) (r : MAn) : Prop where
  hp : Prs w r.pA r.l
  hv : CsAt w r.vA (cbl r.vs)
theorem MAn.Ok.keep0 {w w' : World} {r : MAn} (h : MAn.Ok w r) (hb : Only [] w w') : MAn.Ok w' r := ⟨h.hp.keep0 hb, h.hv.keep0 hb⟩
def MAn.told (r : MAn) : Plain.Told := ⟨kvs r.l, r.vs, r.n, r.ok⟩
def IdOut (ps : List KV) (vs : List Bool) (R : List Fr) (w0 : World) (e : Ending) (w' : World) : Prop :=
  ∃ (a : MAn) (kn vn : Nat) (G : List Fr), e = .returned (.agg #[.slice a.pA kn a.pc, .slice a.vA vn a.vc, .int .i64 a.n, .bool a.ok]) ∧ Hid (kn = a.l.length ∧ vn = a.vs.length) ∧ Hid (kvs a.l = ps ∧ a.vs = vs ∧ a.ok = true ∧ a.n = 0) ∧ Hid (∀ wb, St G wb fun w => a.Ok w) ∧ Hid (Own (G ++ R) w0 w')
def lenOf : Option Value → Nat
  | some (.slice _ n _) => n
  | _ => 0
set_option maxHeartbeats 12800000 in
set_option maxRecDepth 100000 in
theorem iterd_on {T : TypeId} {v : Value} {f : ItM} {L : List KV} {I : Int → List Fr → Prop} {D : List Fr → World → Prop} (it : ItF T v f L I D) {fe fr : FuncId × Value} (ie : ItE T v fe fr L.length I D) (p0 : Int) (F R : List Fr) (w0 w : World) (hp0 : Plc L.length p0) (hI : I p0 F) (hD : D R w0) (hO : Own (F ++ R) w0 w)
    (kd nn : Int) (hkd : kd = 7 ∨ kd = 9) (kA vA : Option Addr) (kn kc vn vc : Nat) (hL : L.length ≤ 1073741824) :
    Calls Tryd.prog 58 #[.iface T v, .agg #[.int .i64 kd, .slice kA kn kc, .slice vA vn vc, .int .i64 nn]] w (IdOut L [] R w0) := by
  obtain ⟨n, hn⟩ : ∃ n, L.length = n := ⟨_, rfl⟩
  have HNL := hid hn
  rw [hn] at hp0 hL
  obtain ⟨s0, hs0⟩ : ∃ s0, w.heap.size = s0 := ⟨_, rfl⟩
  have hO1 := ((hO.alloc' hs0 67 [.int .i64 kd, .slice kA kn kc, .slice vA vn vc, .int .i64 nn]).alloc' (g := s0 + 1) (by simp [hs0]) 58 [.slice none 0 0, .slice none 0 0, .int .i64 0, .bool false]).alloc' (g := s0 + 1 + 1) (by simp [hs0]) 58 [.slice none 0 0, .slice none 0 0, .int .i64 0, .bool false]
  have HO1 := hid hO1
  have HS := hid hs0
  have HI := hid hI
  have HDD := hid hD
  have HP0 := hid hp0
  have m1 := it.mfi
  have m2 := it.mne
  have m3 := ie.mer
  have m4 := ie.mre
  have n1 := it.cfi
  have n2 := it.cne
  have n3 := ie.cer
  have n4 := ie.cre
  have k7 : (kd == 7) = true ∨ (kd == 7) = false ∧ (kd == 9) = true := by
    rcases hkd with rfl | rfl
    · exact .inl rfl
    · exact .inr ⟨rfl, rfl⟩
  have K7 := hid k7
  clear hkd k7
  clear hO hO1 hI hD hp0 hs0 hn
  go_enter Tryd.func58, Tryd.ntmps58
  go_upto_region 2 with fail
  rw [HS.out]
  generalize hW : (World.alloc _ _) = W at HO1 ⊢
  clear hW
  obtain ⟨q4, hq4⟩ : ∃ q4, s0 + 1 = q4 := ⟨_, rfl⟩
  rw [hq4] at HO1 ⊢
  obtain ⟨qa, hqa⟩ : ∃ qa, q4 + 1 = qa := ⟨_, rfl⟩
  rw [hqa] at HO1 ⊢
  clear hq4 hqa
  have ck : W.cell? ⟨s0, 0, none⟩ = some (.int .i64 kd) := HO1.out.cell 2 rfl (k := 0) 0 rfl (by simp)
  have HO2 := hid (HO1.out.perm (L' := F ++ (fw qa 58 [.slice none 0 0, .slice none 0 0, .int .i64 0, .bool false] :: fw q4 58 [.slice none 0 0, .slice none 0 0, .int .i64 0, .bool false] :: (fw s0 67 [.int .i64 kd, .slice kA kn kc, .slice vA vn vc, .int .i64 nn] :: R))) (perm_of fun _ _ z => by simp only [List.count_append, List.count_cons, List.cons_append, List.count_nil, List.nil_append, List.append_nil]; omega))
  have HDX := hid (fun X : List Fr => it.mono R (X ++ R) w0 (fun _ hx => List.mem_append_right _ hx) HDD.out)
  clear HO1
  obtain ⟨b7, hb7⟩ : ∃ b7, (kd == 7) = b7 := ⟨_, rfl⟩
  cases b7 with
  | true =>
    go_wp2_with fail
    refine (it.first p0 F _ w0 _ (by rw [HNL.out]; exact HP0.out) HI.out (HDX.out [fw qa 58 [.slice none 0 0, .slice none 0 0, .int .i64 0, .bool false], fw q4 58 [.slice none 0 0, .slice none 0 0, .int .i64 0, .bool false], fw s0 67 [.int .i64 kd, .slice kA kn kc, .slice vA vn vc, .int .i64 nn]]) HO2.out).mono ?_
    rintro e w2 ⟨rfl, F2, hI2, hO2⟩
    have HI2 := hid hI2
    have HO3 := hid (hO2.perm (L' := fw qa 58 [.slice none 0 0, .slice none 0 0, .int .i64 0, .bool false] :: fw q4 58 [.slice none 0 0, .slice none 0 0, .int .i64 0, .bool false] :: (F2 ++ ([] ++ ([fw s0 67 [.int .i64 kd, .slice kA kn kc, .slice vA vn vc, .int .i64 nn]] ++ R)))) (perm_of fun _ _ z => by simp only [List.count_append, List.count_cons, List.cons_append, List.count_nil, List.nil_append, List.append_nil]; omega))
    clear hI2 hO2 HO2 HI ck
    try rw [HNL.out] at HI2
    rw [HNL.out]
    go_wp2_with fail
    go_loopw [6] (fun s wr => ∃ (j c : Nat) (A : Option Addr) (l : List Pr) (Fp F' G : List Fr), s = .bool (wval n (((j : Nat) : Int))) ∧ j ≤ n ∧ Hid (I (((j : Nat) : Int)) F') ∧ Hid (l.length = j ∧ kvs l = (L).take j) ∧ Hid (Row 36 2 A j c (l.flatMap Pr.cells) Fp) ∧ Hid (∀ r ∈ l, ∀ wb, St G wb fun w => r.Ok w) ∧ Hid (Own (fw qa 58 [.slice A j c, .slice none 0 0, .int .i64 0, .bool false] :: fw q4 58 [.slice none 0 0, .slice none 0 0, .int .i64 0, .bool false] :: (F' ++ (Fp ++ (G ++ R)))) w0 wr)) (fun _ wr => n - lenOf (wr.cell? ⟨qa, 0, none⟩))
    case atStart => exact ⟨0, 0, none, [], [], F2, [fw s0 67 [.int .i64 kd, .slice kA kn kc, .slice vA vn vc, .int .i64 nn]], rfl, Nat.zero_le _, HI2, hid ⟨rfl, rfl⟩, hid (Row.nil _ _), hid (by simp), HO3⟩
    case round =>
      clear HO3 HI2
      obtain ⟨j, c, A, l, Fp, F', G, rfl, hj, HIJ, HLJ, HR, HOK, HO⟩ := hrel
      obtain ⟨w2, rfl⟩ : ∃ w2, w2 = wr := ⟨_, rfl⟩
      have c0 : w2.cell? ⟨qa, 0, none⟩ = some (.slice A j c) := HO.out.cell 0 rfl (k := 0) 0 rfl (by simp)
      have HC0 := hid c0
      by_cases h4 : j < n
      · have hwv : wval n (((j : Nat) : Int)) = true := wval_iff.2 ⟨by omega, by omega⟩
        rw [hwv]
        have HWV := hid hwv
        clear hwv
        have hX : fw qa 58 [.slice A j c, .slice none 0 0, .int .i64 0, .bool false] :: fw q4 58 [.slice none 0 0, .slice none 0 0, .int .i64 0, .bool false] :: (Fp ++ (G ++ R)) = (fw qa 58 [.slice A j c, .slice none 0 0, .int .i64 0, .bool false] :: fw q4 58 [.slice none 0 0, .slice none 0 0, .int .i64 0, .bool false] :: (Fp ++ G)) ++ R := by simp
        have HD2 := hid (hX ▸ HDX.out _)
        clear hX
        go_wp2_with fail
        refine AnyT.start (S := fun w' => w'.cell? ⟨qa, 0, none⟩ = some (.slice A j c)) (T := [7]) (by kernel_rfl) (c0) (fun hHeld => ?_)
        refine AnyT.take (i := 0) (v := ?_) (by simp only [List.getElem?_toArray, List.getElem?_cons_succ, List.getElem?_cons_zero]; rfl) (by kernel_rfl) (by kernel_rfl) (by kernel_rfl) (by kernel_rfl) (by intro _ _ _ h; exact h) (Or.inl ⟨by rfl, fun w hSw => ?_⟩) hHeld ?_
        rotate_left
        · ((try dsimp only at hSw); go_simp; first | done | with_reducible rfl | rfl)
        try simp only [Act.put, List.setIfInBounds_toArray, List.set_cons_zero, List.set_cons_succ]
        refine AnyT.take (i := 1) (v := ?_) (by simp only [List.getElem?_toArray, List.getElem?_cons_succ, List.getElem?_cons_zero]; rfl) (by kernel_rfl) (by kernel_rfl) (by kernel_rfl) (by kernel_rfl) (by intro _ _ _ h; exact h) (Or.inl ⟨by rfl, fun w hSw => ?_⟩) hHeld ?_
        rotate_left
        · ((try dsimp only at hSw); go_simp; first | done | with_reducible rfl | rfl)
        try simp only [Act.put, List.setIfInBounds_toArray, List.set_cons_zero, List.set_cons_succ]
        refine AnyT.take (i := 2) (v := ?_) (by simp only [List.getElem?_toArray, List.getElem?_cons_succ, List.getElem?_cons_zero]; rfl) (by kernel_rfl) (by kernel_rfl) (by kernel_rfl) (by kernel_rfl) (by intro _ _ _ h; exact h) (Or.inl ⟨by rfl, fun w hSw => ?_⟩) hHeld ?_
        rotate_left
        · ((try dsimp only at hSw); go_simp; first | done | with_reducible rfl | rfl)
        try simp only [Act.put, List.setIfInBounds_toArray, List.set_cons_zero, List.set_cons_succ]
        refine AnyT.ready (rs := [3]) (by kernel_rfl) (by simp) ?_
        refine AllT.cons (by simp only [List.getElem?_toArray, List.getElem?_cons_succ, List.getElem?_cons_zero]; rfl) (fun K hK => ?_) AllT.nil
        go_simp
        refine (pair_k it (((j : Nat) : Int)) F' (fw qa 58 [.slice A j c, .slice none 0 0, .int .i64 0, .bool false] :: fw q4 58 [.slice none 0 0, .slice none 0 0, .int .i64 0, .bool false] :: (Fp ++ (G ++ R))) w0 _ (by rw [HNL.out]; exact HWV.out) HIJ.out HD2.out (HO.out.drew.perm (perm_of fun _ _ z => by simp only [List.count_append, List.count_cons, List.cons_append, List.count_nil, List.nil_append, List.append_nil]; omega))).mono ?_
        rintro e w3 ⟨r, rkn, rvn, F6, G6, rfl, hk1, hk2, HKV, HST, HI6, HO6⟩
        have HO7 := hid (HO6.out.perm (L' := fw qa 58 [.slice A j c, .slice none 0 0, .int .i64 0, .bool false] :: fw q4 58 [.slice none 0 0, .slice none 0 0, .int .i64 0, .bool false] :: (F6 ++ (Fp ++ ((G6 ++ G) ++ R)))) (perm_of fun _ _ z => by simp only [List.count_append, List.count_cons, List.cons_append, List.count_nil, List.nil_append, List.append_nil]; omega))
        have d0 : w3.cell? ⟨qa, 0, none⟩ = some (.slice A j c) := HO7.out.cell 0 rfl (k := 0) 0 rfl (by simp)
        have HKN := hid (And.intro hk1 hk2)
        clear HO6 c0 HD2 hk1 hk2
        try go_wp2_with fail
        refine hK.out _ _ ?_ (fun hHeld => ?_)
        · exact d0
        clear hK
        try simp only [Act.put, List.setIfInBounds_toArray, List.set_cons_zero, List.set_cons_succ]
        refine AnyT.ready (rs := [4]) (by kernel_rfl) (by simp) ?_
        refine AllT.cons (by simp only [List.getElem?_toArray, List.getElem?_cons_succ, List.getElem?_cons_zero]; rfl) (fun K hK => ?_) AllT.nil
        go_simp
        refine hK.out _ _ ?_ (fun hHeld => ?_)
        · first | exact keepc ((Only.refl [] _).alloc _).drew d0 | exact keepc ((Only.refl [] _).alloc _) d0
        clear hK
        try simp only [Act.put, List.setIfInBounds_toArray, List.set_cons_zero, List.set_cons_succ]
        refine AnyT.ready (rs := [5]) (by kernel_rfl) (by simp) ?_
        refine AllT.cons (by simp only [List.getElem?_toArray, List.getElem?_cons_succ, List.getElem?_cons_zero]; rfl) (fun K hK => ?_) AllT.nil
        refine own_step_append rfl (.tmp 20) (.tmp 23) 22 rfl 36 (.agg #[.slice none 0 0, .slice none 0 0]) 2 48 Tryd.underlying22 Tryd.info_ipr rfl (by decide) A j c (l.flatMap Pr.cells) Fp rfl HR.out (R := fw qa 58 [.slice A j c, .slice none 0 0, .int .i64 0, .bool false] :: fw q4 58 [.slice none 0 0, .slice none 0 0, .int .i64 0, .bool false] :: (F6 ++ ((G6 ++ G) ++ R))) ((HO7.out.perm (L' := Fp ++ (fw qa 58 [.slice A j c, .slice none 0 0, .int .i64 0, .bool false] :: fw q4 58 [.slice none 0 0, .slice none 0 0, .int .i64 0, .bool false] :: (F6 ++ ((G6 ++ G) ++ R)))) (perm_of fun _ _ z => by simp only [List.count_append, List.count_cons, List.cons_append, List.count_nil, List.nil_append, List.append_nil]; omega)).skip _) (some ⟨_, 0, none⟩) 1 1 [.slice r.ka rkn r.kc, .slice r.va rvn r.vc] rfl rfl (csAt_all _ _ _) (by simp [Value.oneCell']) (by simp [maxLen]; omega) (by omega) ?_
        intro A2 c2 Fp2 w7 hr7 hO7 _
        have HR7 := hid hr7
        have hO8 := hO7.perm (L' := fw qa 58 [.slice A j c, .slice none 0 0, .int .i64 0, .bool false] :: fw q4 58 [.slice none 0 0, .slice none 0 0, .int .i64 0, .bool false] :: (F6 ++ (Fp2 ++ ((G6 ++ G) ++ R)))) (perm_of fun _ _ z => by simp only [List.count_append, List.count_cons, List.cons_append, List.count_nil, List.nil_append, List.append_nil]; omega)
        have e0 : w7.cell? ⟨qa, 0, none⟩ = some (.slice A j c) := hO8.cell 0 rfl (k := 0) 0 rfl (by simp)
        have f0 := hO8.frozen 0 rfl 0
        have HO9 := hid (show Own (fw qa 58 [.slice A2 (j + 1) c2, .slice none 0 0, .int .i64 0, .bool false] :: fw q4 58 [.slice none 0 0, .slice none 0 0, .int .i64 0, .bool false] :: (F6 ++ (Fp2 ++ ((G6 ++ G) ++ R)))) w0 _ from hO8.set (k := 0) 0 rfl (by simp) (.slice A2 (j + 1) c2))
        clear hr7 hO7 hO8 HO7 d0
        refine hK.out _ _ ?_ (fun hHeld => ?_)
        · exact e0
        clear hK
        try simp only [Act.put, List.setIfInBounds_toArray, List.set_cons_zero, List.set_cons_succ]
        refine AnyT.take (i := 6) (v := ?_) (by simp only [List.getElem?_toArray, List.getElem?_cons_succ, List.getElem?_cons_zero]; rfl) (by kernel_rfl) (by kernel_rfl) (by kernel_rfl) (by kernel_rfl) (by intro _ _ _ h; exact h) (Or.inl ⟨by rfl, fun w hSw => ?_⟩) hHeld ?_
        rotate_left
        · ((try dsimp only at hSw); go_simp; first | done | with_reducible rfl | rfl)
        try simp only [Act.put, List.setIfInBounds_toArray, List.set_cons_zero, List.set_cons_succ]
        refine AnyT.ready (rs := [7]) (by kernel_rfl) (by simp) ?_
        refine AllT.late (by simp only [List.getElem?_toArray, List.getElem?_cons_succ, List.getElem?_cons_zero]; rfl) (by kernel_rfl) (fun K hK => ?_)
        go_simp
        refine hK.out _ _ ?_
        clear hK
        try simp only [Act.put, List.setIfInBounds_toArray, List.set_cons_zero, List.set_cons_succ]
        refine AnyT.done (by kernel_rfl) ?_ _
        clear hHeld e0 f0
        generalize (World.setCell _ _ _) = W2 at HO9 ⊢
        have HOA := hid (HO9.out.perm (L' := F6 ++ (fw qa 58 [.slice A2 (j + 1) c2, .slice none 0 0, .int .i64 0, .bool false] :: fw q4 58 [.slice none 0 0, .slice none 0 0, .int .i64 0, .bool false] :: (Fp2 ++ ((G6 ++ G) ++ R)))) (perm_of fun _ _ z => by simp only [List.count_append, List.count_cons, List.cons_append, List.count_nil, List.nil_append, List.append_nil]; omega))
        have hX : fw qa 58 [.slice A2 (j + 1) c2, .slice none 0 0, .int .i64 0, .bool false] :: fw q4 58 [.slice none 0 0, .slice none 0 0, .int .i64 0, .bool false] :: (Fp2 ++ ((G6 ++ G) ++ R)) = (fw qa 58 [.slice A2 (j + 1) c2, .slice none 0 0, .int .i64 0, .bool false] :: fw q4 58 [.slice none 0 0, .slice none 0 0, .int .i64 0, .bool false] :: (Fp2 ++ (G6 ++ G))) ++ R := by simp
        have HD2 := hid (hX ▸ HDX.out _)
        clear hX HO9
        go_wp2_with fail
        refine (it.next ((j : Nat) : Int) F6 _ w0 _ (by rw [HNL.out]; exact HWV.out) HI6.out HD2.out HOA.out).mono ?_
        rintro e w4 ⟨rfl, F8, hI8, hO8⟩
        have HI8 := hid hI8
        have HO8 := hid (hO8.perm (L' := fw qa 58 [.slice A2 (j + 1) c2, .slice none 0 0, .int .i64 0, .bool false] :: fw q4 58 [.slice none 0 0, .slice none 0 0, .int .i64 0, .bool false] :: (F8 ++ (Fp2 ++ ((G6 ++ G) ++ R)))) (perm_of fun _ _ z => by simp only [List.count_append, List.count_cons, List.cons_append, List.count_nil, List.nil_append, List.append_nil]; omega))
        clear hI8 hO8
        rw [HNL.out]
        have g0 : w4.cell? ⟨qa, 0, none⟩ = some (.slice A2 (j + 1) c2) := HO8.out.cell 0 rfl (k := 0) 0 rfl (by simp)
        have G0 := hid g0
        clear g0 HOA HD2
        go_wp2_with fail
        go_roundw
        case rel =>
          refine ⟨j + 1, c2, A2, l ++ [r], Fp2, F8, G6 ++ G, by rw [show ((j + 1 : Nat) : Int) = (j : Int) + 1 by omega], by omega, by rw [show ((j + 1 : Nat) : Int) = (j : Int) + 1 by omega]; exact HI8, hid ⟨by rw [List.length_append, HLJ.out.1]; rfl, ?_⟩, hid ?_, hid fun x hx => ?_, HO8⟩
          · have hr1 := HKV.out
            have hkv1 : kvs (l ++ [r]) = kvs l ++ [(r.k, r.v)] := by simp [kvs]
            rw [hkv1, HLJ.out.2]
            rw [hr1.1, hr1.2, show ((j : Int)).toNat = j by omega]
            have hjl : j < L.length := by rw [HNL.out]; exact h4
            rw [List.take_succ_eq_append_getElem hjl]
            congr 2
            simp [Plain.key, Plain.val, List.getD_eq_getElem?_getD, List.getElem?_eq_getElem hjl]
          · have h9 := HR7.out
            rw [List.flatMap_append]
            rw [HKN.out.1, HKN.out.2] at h9
            simpa [Pr.cells] using h9
          · rcases List.mem_append.1 hx with hx | hx
            · exact fun wb => (HOK.out x hx wb).right G6
            · rw [List.mem_singleton] at hx
              subst hx
              exact fun wb => (HST.out wb).left G
        case measure =>
          rw [HC0.out, G0.out]
          simp only [lenOf]
          omega
      · obtain rfl : n = j := by omega
        have hwv : wval n (((n : Nat) : Int)) = false := wval_not.2 (.inr (by omega))
        rw [hwv]
        clear hwv
        have hX : fw qa 58 [.slice A n c, .slice none 0 0, .int .i64 0, .bool false] :: fw q4 58 [.slice none 0 0, .slice none 0 0, .int .i64 0, .bool false] :: (Fp ++ (G ++ R)) = (fw qa 58 [.slice A n c, .slice none 0 0, .int .i64 0, .bool false] :: fw q4 58 [.slice none 0 0, .slice none 0 0, .int .i64 0, .bool false] :: (Fp ++ G)) ++ R := by simp
        have HD2 := hid (hX ▸ HDX.out _)
        clear hX c0
        have HOA := hid (HO.out.perm (L' := F' ++ (fw qa 58 [.slice A n c, .slice none 0 0, .int .i64 0, .bool false] :: fw q4 58 [.slice none 0 0, .slice none 0 0, .int .i64 0, .bool false] :: (Fp ++ (G ++ R)))) (perm_of fun _ _ z => by simp only [List.count_append, List.count_cons, List.cons_append, List.count_nil, List.nil_append, List.append_nil]; omega))
        go_wp2_with fail
        refine (ie.err (((n : Nat) : Int)) F' _ w0 _ (by rw [HNL.out]; exact ⟨by omega, by omega⟩) HIJ.out HD2.out HOA.out).mono ?_
        rintro e w4 ⟨rfl, rfl⟩
        have c3 : w2.cell? ⟨qa, 3, none⟩ = some (.bool false) := HO.out.cell 0 rfl (k := 3) 3 rfl (by simp)
        have f3 := HO.out.frozen 0 rfl 3
        have HOB := hid (show Own (fw qa 58 [.slice A n c, .slice none 0 0, .int .i64 0, .bool true] :: fw q4 58 [.slice none 0 0, .slice none 0 0, .int .i64 0, .bool false] :: (F' ++ (Fp ++ (G ++ R)))) w0 _ from HO.out.set (k := 3) 3 rfl (by simp) (.bool true))
        go_upto_region 17 with fail
        generalize (World.setCell _ _ _) = W3 at HOB ⊢
        have HOC := hid (HOB.out.perm (L' := F' ++ (fw qa 58 [.slice A n c, .slice none 0 0, .int .i64 0, .bool true] :: fw q4 58 [.slice none 0 0, .slice none 0 0, .int .i64 0, .bool false] :: (Fp ++ (G ++ R)))) (perm_of fun _ _ z => by simp only [List.count_append, List.count_cons, List.cons_append, List.count_nil, List.nil_append, List.append_nil]; omega))
        have hX : fw qa 58 [.slice A n c, .slice none 0 0, .int .i64 0, .bool true] :: fw q4 58 [.slice none 0 0, .slice none 0 0, .int .i64 0, .bool false] :: (Fp ++ (G ++ R)) = (fw qa 58 [.slice A n c, .slice none 0 0, .int .i64 0, .bool true] :: fw q4 58 [.slice none 0 0, .slice none 0 0, .int .i64 0, .bool false] :: (Fp ++ G)) ++ R := by simp
        have HD3 := hid (hX ▸ HDX.out _)
        clear hX c3 f3 HOB HOA HO HD2
        go_wp2_with fail
        refine (ie.rel (((n : Nat) : Int)) F' _ w0 _ (by rw [HNL.out]; exact ⟨by omega, by omega⟩) HIJ.out HD3.out HOC.out).mono ?_
        rintro e w5 ⟨rfl, F9, hO9⟩
        have hOD := hO9.perm (L' := fw q4 58 [.slice none 0 0, .slice none 0 0, .int .i64 0, .bool false] :: (fw qa 58 [.slice A n c, .slice none 0 0, .int .i64 0, .bool true] :: (F9 ++ (Fp ++ (G ++ R))))) (perm_of fun _ _ z => by simp only [List.count_append, List.count_cons, List.cons_append, List.count_nil, List.nil_append, List.append_nil]; omega)
        have c0 : w5.cell? ⟨qa, 0, none⟩ = some (.slice A n c) := hOD.cell 1 rfl (k := 0) 0 rfl (by simp)
        have c1 : w5.cell? ⟨qa, 1, none⟩ = some (.slice none 0 0) := hOD.cell 1 rfl (k := 1) 1 rfl (by simp)
        have c2 : w5.cell? ⟨qa, 2, none⟩ = some (.int .i64 0) := hOD.cell 1 rfl (k := 2) 2 rfl (by simp)
        have c3 : w5.cell? ⟨qa, 3, none⟩ = some (.bool true) := hOD.cell 1 rfl (k := 3) 3 rfl (by simp)
        have HOD := hid hOD
        clear hO9 hOD HD3 HOC
        go_wp2_with (refine own_store_row rfl 58 (.tmp 4) (.tmp 59) rfl q4 _ rfl rfl 58 _ HOD.out (by kernel_rfl) (by simp) (by simp [Value.oneCell']) ?_; intro w6 hO6; have qa0 : w6.cell? ⟨q4, 0, none⟩ = some (.slice A n c) := hO6.cell 0 rfl (k := 0) 0 rfl (by simp); have qa1 : w6.cell? ⟨q4, 1, none⟩ = some (.slice none 0 0) := hO6.cell 0 rfl (k := 1) 1 rfl (by simp); have qa2 : w6.cell? ⟨q4, 2, none⟩ = some (.int .i64 0) := hO6.cell 0 rfl (k := 2) 2 rfl (by simp); have qa3 : w6.cell? ⟨q4, 3, none⟩ = some (.bool true) := hO6.cell 0 rfl (k := 3) 3 rfl (by simp); have HO6 := hid hO6; clear hO6)
        refine bodyPost_ret (v := .agg #[.slice A n c, .slice none 0 0, .int .i64 0, .bool true]) ?_ rfl ?_
        · simp [results, Tryd.results58, go_sem, qa0, qa1, qa2, qa3]
        · refine ⟨⟨A, c, l, none, 0, [], 0, true⟩, n, 0, fw q4 58 [.slice A n c, .slice none 0 0, .int .i64 0, .bool true] :: (fw qa 58 [.slice A n c, .slice none 0 0, .int .i64 0, .bool true] :: (F9 ++ (Fp ++ G))), rfl, hid ⟨HLJ.out.1.symm, rfl⟩, hid ⟨?_, rfl, rfl, rfl⟩, hid fun wb => ?_, hid (HO6.out.perm (perm_of fun _ _ z => by simp only [List.count_append, List.count_cons, List.cons_append, List.count_nil, List.nil_append, List.append_nil]; omega))⟩
          · have h9 := HLJ.out.2
            rw [List.take_of_length_le (by simp [HNL.out])] at h9
            exact h9
          · have hpr : St (Fp ++ G) wb fun w => Prs w A l := fun w hw hb => ⟨HR.out.cs fun x hx => hb x (List.mem_append_left _ hx), fun x hx => HOK.out x hx wb w hw fun y hy => hb y (List.mem_append_right _ hy)⟩
            exact fun w hw hb => ⟨hpr w hw fun y hy => hb y (by simp at hy ⊢; rcases hy with h | h <;> simp [h]), CsAt.nil _ _⟩
  | false =>
    have k9 : (kd == 9) = true := by
      rcases K7.out with h | h
      · rw [hb7] at h; cases h
      · exact h.2
    go_wp2_with fail
    refine (it.first p0 F _ w0 _ (by rw [HNL.out]; exact HP0.out) HI.out (HDX.out [fw qa 58 [.slice none 0 0, .slice none 0 0, .int .i64 0, .bool false], fw q4 58 [.slice none 0 0, .slice none 0 0, .int .i64 0, .bool false], fw s0 67 [.int .i64 kd, .slice kA kn kc, .slice vA vn vc, .int .i64 nn]]) HO2.out).mono ?_
    rintro e w2 ⟨rfl, F2, hI2, hO2⟩
    have HI2 := hid hI2
    have HO3 := hid (hO2.perm (L' := fw qa 58 [.slice none 0 0, .slice none 0 0, .int .i64 0, .bool false] :: fw q4 58 [.slice none 0 0, .slice none 0 0, .int .i64 0, .bool false] :: (F2 ++ ([] ++ ([fw s0 67 [.int .i64 kd, .slice kA kn kc, .slice vA vn vc, .int .i64 nn]] ++ R)))) (perm_of fun _ _ z => by simp only [List.count_append, List.count_cons, List.cons_append, List.count_nil, List.nil_append, List.append_nil]; omega))
    clear hI2 hO2 HO2 HI ck
    try rw [HNL.out] at HI2
    rw [HNL.out]
    go_wp2_with fail
    go_loopw [6] (fun s wr => ∃ (j c : Nat) (A : Option Addr) (l : List Pr) (Fp F' G : List Fr), s = .bool (wval n (((j : Nat) : Int))) ∧ j ≤ n ∧ Hid (I (((j : Nat) : Int)) F') ∧ Hid (l.length = j ∧ kvs l = (L).take j) ∧ Hid (Row 36 2 A j c (l.flatMap Pr.cells) Fp) ∧ Hid (∀ r ∈ l, ∀ wb, St G wb fun w => r.Ok w) ∧ Hid (Own (fw qa 58 [.slice A j c, .slice none 0 0, .int .i64 0, .bool false] :: fw q4 58 [.slice none 0 0, .slice none 0 0, .int .i64 0, .bool false] :: (F' ++ (Fp ++ (G ++ R)))) w0 wr)) (fun _ wr => n - lenOf (wr.cell? ⟨qa, 0, none⟩))
    case atStart => exact ⟨0, 0, none, [], [], F2, [fw s0 67 [.int .i64 kd, .slice kA kn kc, .slice vA vn vc, .int .i64 nn]], rfl, Nat.zero_le _, HI2, hid ⟨rfl, rfl⟩, hid (Row.nil _ _), hid (by simp), HO3⟩
    case round =>
      clear HO3 HI2
      obtain ⟨j, c, A, l, Fp, F', G, rfl, hj, HIJ, HLJ, HR, HOK, HO⟩ := hrel
      obtain ⟨w2, rfl⟩ : ∃ w2, w2 = wr := ⟨_, rfl⟩
      have c0 : w2.cell? ⟨qa, 0, none⟩ = some (.slice A j c) := HO.out.cell 0 rfl (k := 0) 0 rfl (by simp)
      have HC0 := hid c0
      by_cases h4 : j < n
      · have hwv : wval n (((j : Nat) : Int)) = true := wval_iff.2 ⟨by omega, by omega⟩
        rw [hwv]
        have HWV := hid hwv
        clear hwv
        have hX : fw qa 58 [.slice A j c, .slice none 0 0, .int .i64 0, .bool false] :: fw q4 58 [.slice none 0 0, .slice none 0 0, .int .i64 0, .bool false] :: (Fp ++ (G ++ R)) = (fw qa 58 [.slice A j c, .slice none 0 0, .int .i64 0, .bool false] :: fw q4 58 [.slice none 0 0, .slice none 0 0, .int .i64 0, .bool false] :: (Fp ++ G)) ++ R := by simp
        have HD2 := hid (hX ▸ HDX.out _)
        clear hX
        go_wp2_with fail
        refine AnyT.start (S := fun w' => w'.cell? ⟨qa, 0, none⟩ = some (.slice A j c)) (T := [7]) (by kernel_rfl) (c0) (fun hHeld => ?_)
        refine AnyT.take (i := 0) (v := ?_) (by simp only [List.getElem?_toArray, List.getElem?_cons_succ, List.getElem?_cons_zero]; rfl) (by kernel_rfl) (by kernel_rfl) (by kernel_rfl) (by kernel_rfl) (by intro _ _ _ h; exact h) (Or.inl ⟨by rfl, fun w hSw => ?_⟩) hHeld ?_
        rotate_left
        · ((try dsimp only at hSw); go_simp; first | done | with_reducible rfl | rfl)
        try simp only [Act.put, List.setIfInBounds_toArray, List.set_cons_zero, List.set_cons_succ]
        refine AnyT.take (i := 1) (v := ?_) (by simp only [List.getElem?_toArray, List.getElem?_cons_succ, List.getElem?_cons_zero]; rfl) (by kernel_rfl) (by kernel_rfl) (by kernel_rfl) (by kernel_rfl) (by intro _ _ _ h; exact h) (Or.inl ⟨by rfl, fun w hSw => ?_⟩) hHeld ?_
        rotate_left
        · ((try dsimp only at hSw); go_simp; first | done | with_reducible rfl | rfl)
        try simp only [Act.put, List.setIfInBounds_toArray, List.set_cons_zero, List.set_cons_succ]
        refine AnyT.take (i := 2) (v := ?_) (by simp only [List.getElem?_toArray, List.getElem?_cons_succ, List.getElem?_cons_zero]; rfl) (by kernel_rfl) (by kernel_rfl) (by kernel_rfl) (by kernel_rfl) (by intro _ _ _ h; exact h) (Or.inl ⟨by rfl, fun w hSw => ?_⟩) hHeld ?_
        rotate_left
        · ((try dsimp only at hSw); go_simp; first | done | with_reducible rfl | rfl)
        try simp only [Act.put, List.setIfInBounds_toArray, List.set_cons_zero, List.set_cons_succ]
        refine AnyT.ready (rs := [3]) (by kernel_rfl) (by simp) ?_
        refine AllT.cons (by simp only [List.getElem?_toArray, List.getElem?_cons_succ, List.getElem?_cons_zero]; rfl) (fun K hK => ?_) AllT.nil
        go_simp
        refine (pair_k it (((j : Nat) : Int)) F' (fw qa 58 [.slice A j c, .slice none 0 0, .int .i64 0, .bool false] :: fw q4 58 [.slice none 0 0, .slice none 0 0, .int .i64 0, .bool false] :: (Fp ++ (G ++ R))) w0 _ (by rw [HNL.out]; exact HWV.out) HIJ.out HD2.out (HO.out.drew.perm (perm_of fun _ _ z => by simp only [List.count_append, List.count_cons, List.cons_append, List.count_nil, List.nil_append, List.append_nil]; omega))).mono ?_
        rintro e w3 ⟨r, rkn, rvn, F6, G6, rfl, hk1, hk2, HKV, HST, HI6, HO6⟩
        have HO7 := hid (HO6.out.perm (L' := fw qa 58 [.slice A j c, .slice none 0 0, .int .i64 0, .bool false] :: fw q4 58 [.slice none 0 0, .slice none 0 0, .int .i64 0, .bool false] :: (F6 ++ (Fp ++ ((G6 ++ G) ++ R)))) (perm_of fun _ _ z => by simp only [List.count_append, List.count_cons, List.cons_append, List.count_nil, List.nil_append, List.append_nil]; omega))
        have d0 : w3.cell? ⟨qa, 0, none⟩ = some (.slice A j c) := HO7.out.cell 0 rfl (k := 0) 0 rfl (by simp)
        have HKN := hid (And.intro hk1 hk2)
        clear HO6 c0 HD2 hk1 hk2
        try go_wp2_with fail
        refine hK.out _ _ ?_ (fun hHeld => ?_)
        · exact d0
        clear hK
        try simp only [Act.put, List.setIfInBounds_toArray, List.set_cons_zero, List.set_cons_succ]
        refine AnyT.ready (rs := [4]) (by kernel_rfl) (by simp) ?_
        refine AllT.cons (by simp only [List.getElem?_toArray, List.getElem?_cons_succ, List.getElem?_cons_zero]; rfl) (fun K hK => ?_) AllT.nil
        go_simp
        refine hK.out _ _ ?_ (fun hHeld => ?_)
        · first | exact keepc ((Only.refl [] _).alloc _).drew d0 | exact keepc ((Only.refl [] _).alloc _) d0
        clear hK
        try simp only [Act.put, List.setIfInBounds_toArray, List.set_cons_zero, List.set_cons_succ]
        refine AnyT.ready (rs := [5]) (by kernel_rfl) (by simp) ?_
        refine AllT.cons (by simp only [List.getElem?_toArray, List.getElem?_cons_succ, List.getElem?_cons_zero]; rfl) (fun K hK => ?_) AllT.nil
        refine own_step_append rfl (.tmp 20) (.tmp 23) 22 rfl 36 (.agg #[.slice none 0 0, .slice none 0 0]) 2 48 Tryd.underlying22 Tryd.info_ipr rfl (by decide) A j c (l.flatMap Pr.cells) Fp rfl HR.out (R := fw qa 58 [.slice A j c, .slice none 0 0, .int .i64 0, .bool false] :: fw q4 58 [.slice none 0 0, .slice none 0 0, .int .i64 0, .bool false] :: (F6 ++ ((G6 ++ G) ++ R))) ((HO7.out.perm (L' := Fp ++ (fw qa 58 [.slice A j c, .slice none 0 0, .int .i64 0, .bool false] :: fw q4 58 [.slice none 0 0, .slice none 0 0, .int .i64 0, .bool false] :: (F6 ++ ((G6 ++ G) ++ R)))) (perm_of fun _ _ z => by simp only [List.count_append, List.count_cons, List.cons_append, List.count_nil, List.nil_append, List.append_nil]; omega)).skip _) (some ⟨_, 0, none⟩) 1 1 [.slice r.ka rkn r.kc, .slice r.va rvn r.vc] rfl rfl (csAt_all _ _ _) (by simp [Value.oneCell']) (by simp [maxLen]; omega) (by omega) ?_
        intro A2 c2 Fp2 w7 hr7 hO7 _
        have HR7 := hid hr7
        have hO8 := hO7.perm (L' := fw qa 58 [.slice A j c, .slice none 0 0, .int .i64 0, .bool false] :: fw q4 58 [.slice none 0 0, .slice none 0 0, .int .i64 0, .bool false] :: (F6 ++ (Fp2 ++ ((G6 ++ G) ++ R)))) (perm_of fun _ _ z => by simp only [List.count_append, List.count_cons, List.cons_append, List.count_nil, List.nil_append, List.append_nil]; omega)
        have e0 : w7.cell? ⟨qa, 0, none⟩ = some (.slice A j c) := hO8.cell 0 rfl (k := 0) 0 rfl (by simp)
        have f0 := hO8.frozen 0 rfl 0
        have HO9 := hid (show Own (fw qa 58 [.slice A2 (j + 1) c2, .slice none 0 0, .int .i64 0, .bool false] :: fw q4 58 [.slice none 0 0, .slice none 0 0, .int .i64 0, .bool false] :: (F6 ++ (Fp2 ++ ((G6 ++ G) ++ R)))) w0 _ from hO8.set (k := 0) 0 rfl (by simp) (.slice A2 (j + 1) c2))
        clear hr7 hO7 hO8 HO7 d0
        refine hK.out _ _ ?_ (fun hHeld => ?_)
        · exact e0
        clear hK
        try simp only [Act.put, List.setIfInBounds_toArray, List.set_cons_zero, List.set_cons_succ]
        refine AnyT.take (i := 6) (v := ?_) (by simp only [List.getElem?_toArray, List.getElem?_cons_succ, List.getElem?_cons_zero]; rfl) (by kernel_rfl) (by kernel_rfl) (by kernel_rfl) (by kernel_rfl) (by intro _ _ _ h; exact h) (Or.inl ⟨by rfl, fun w hSw => ?_⟩) hHeld ?_
        rotate_left
        · ((try dsimp only at hSw); go_simp; first | done | with_reducible rfl | rfl)
        try simp only [Act.put, List.setIfInBounds_toArray, List.set_cons_zero, List.set_cons_succ]
        refine AnyT.ready (rs := [7]) (by kernel_rfl) (by simp) ?_
        refine AllT.late (by simp only [List.getElem?_toArray, List.getElem?_cons_succ, List.getElem?_cons_zero]; rfl) (by kernel_rfl) (fun K hK => ?_)
        go_simp
        refine hK.out _ _ ?_
        clear hK
        try simp only [Act.put, List.setIfInBounds_toArray, List.set_cons_zero, List.set_cons_succ]
        refine AnyT.done (by kernel_rfl) ?_ _
        clear hHeld e0 f0
        generalize (World.setCell _ _ _) = W2 at HO9 ⊢
        have HOA := hid (HO9.out.perm (L' := F6 ++ (fw qa 58 [.slice A2 (j + 1) c2, .slice none 0 0, .int .i64 0, .bool false] :: fw q4 58 [.slice none 0 0, .slice none 0 0, .int .i64 0, .bool false] :: (Fp2 ++ ((G6 ++ G) ++ R)))) (perm_of fun _ _ z => by simp only [List.count_append, List.count_cons, List.cons_append, List.count_nil, List.nil_append, List.append_nil]; omega))
        have hX : fw qa 58 [.slice A2 (j + 1) c2, .slice none 0 0, .int .i64 0, .bool false] :: fw q4 58 [.slice none 0 0, .slice none 0 0, .int .i64 0, .bool false] :: (Fp2 ++ ((G6 ++ G) ++ R)) = (fw qa 58 [.slice A2 (j + 1) c2, .slice none 0 0, .int .i64 0, .bool false] :: fw q4 58 [.slice none 0 0, .slice none 0 0, .int .i64 0, .bool false] :: (Fp2 ++ (G6 ++ G))) ++ R := by simp
        have HD2 := hid (hX ▸ HDX.out _)
        clear hX HO9
        go_wp2_with fail
        refine (it.next ((j : Nat) : Int) F6 _ w0 _ (by rw [HNL.out]; exact HWV.out) HI6.out HD2.out HOA.out).mono ?_
        rintro e w4 ⟨rfl, F8, hI8, hO8⟩
        have HI8 := hid hI8
        have HO8 := hid (hO8.perm (L' := fw qa 58 [.slice A2 (j + 1) c2, .slice none 0 0, .int .i64 0, .bool false] :: fw q4 58 [.slice none 0 0, .slice none 0 0, .int .i64 0, .bool false] :: (F8 ++ (Fp2 ++ ((G6 ++ G) ++ R)))) (perm_of fun _ _ z => by simp only [List.count_append, List.count_cons, List.cons_append, List.count_nil, List.nil_append, List.append_nil]; omega))
        clear hI8 hO8
        rw [HNL.out]
        have g0 : w4.cell? ⟨qa, 0, none⟩ = some (.slice A2 (j + 1) c2) := HO8.out.cell 0 rfl (k := 0) 0 rfl (by simp)
        have G0 := hid g0
        clear g0 HOA HD2
        go_wp2_with fail
        go_roundw
        case rel =>
          refine ⟨j + 1, c2, A2, l ++ [r], Fp2, F8, G6 ++ G, by rw [show ((j + 1 : Nat) : Int) = (j : Int) + 1 by omega], by omega, by rw [show ((j + 1 : Nat) : Int) = (j : Int) + 1 by omega]; exact HI8, hid ⟨by rw [List.length_append, HLJ.out.1]; rfl, ?_⟩, hid ?_, hid fun x hx => ?_, HO8⟩
          · have hr1 := HKV.out
            have hkv1 : kvs (l ++ [r]) = kvs l ++ [(r.k, r.v)] := by simp [kvs]
            rw [hkv1, HLJ.out.2]
            rw [hr1.1, hr1.2, show ((j : Int)).toNat = j by omega]
            have hjl : j < L.length := by rw [HNL.out]; exact h4
            rw [List.take_succ_eq_append_getElem hjl]
            congr 2
            simp [Plain.key, Plain.val, List.getD_eq_getElem?_getD, List.getElem?_eq_getElem hjl]
          · have h9 := HR7.out
            rw [List.flatMap_append]
            rw [HKN.out.1, HKN.out.2] at h9
            simpa [Pr.cells] using h9
          · rcases List.mem_append.1 hx with hx | hx
            · exact fun wb => (HOK.out x hx wb).right G6
            · rw [List.mem_singleton] at hx
              subst hx
              exact fun wb => (HST.out wb).left G
        case measure =>
          rw [HC0.out, G0.out]
          simp only [lenOf]
          omega
      · obtain rfl : n = j := by omega
        have hwv : wval n (((n : Nat) : Int)) = false := wval_not.2 (.inr (by omega))
        rw [hwv]
        clear hwv
        have hX : fw qa 58 [.slice A n c, .slice none 0 0, .int .i64 0, .bool false] :: fw q4 58 [.slice none 0 0, .slice none 0 0, .int .i64 0, .bool false] :: (Fp ++ (G ++ R)) = (fw qa 58 [.slice A n c, .slice none 0 0, .int .i64 0, .bool false] :: fw q4 58 [.slice none 0 0, .slice none 0 0, .int .i64 0, .bool false] :: (Fp ++ G)) ++ R := by simp
        have HD2 := hid (hX ▸ HDX.out _)
        clear hX c0
        have HOA := hid (HO.out.perm (L' := F' ++ (fw qa 58 [.slice A n c, .slice none 0 0, .int .i64 0, .bool false] :: fw q4 58 [.slice none 0 0, .slice none 0 0, .int .i64 0, .bool false] :: (Fp ++ (G ++ R)))) (perm_of fun _ _ z => by simp only [List.count_append, List.count_cons, List.cons_append, List.count_nil, List.nil_append, List.append_nil]; omega))
        go_wp2_with fail
        refine (ie.err (((n : Nat) : Int)) F' _ w0 _ (by rw [HNL.out]; exact ⟨by omega, by omega⟩) HIJ.out HD2.out HOA.out).mono ?_
        rintro e w4 ⟨rfl, rfl⟩
        have c3 : w2.cell? ⟨qa, 3, none⟩ = some (.bool false) := HO.out.cell 0 rfl (k := 3) 3 rfl (by simp)
        have f3 := HO.out.frozen 0 rfl 3
        have HOB := hid (show Own (fw qa 58 [.slice A n c, .slice none 0 0, .int .i64 0, .bool true] :: fw q4 58 [.slice none 0 0, .slice none 0 0, .int .i64 0, .bool false] :: (F' ++ (Fp ++ (G ++ R)))) w0 _ from HO.out.set (k := 3) 3 rfl (by simp) (.bool true))
        go_upto_region 17 with fail
        generalize (World.setCell _ _ _) = W3 at HOB ⊢
        have HOC := hid (HOB.out.perm (L' := F' ++ (fw qa 58 [.slice A n c, .slice none 0 0, .int .i64 0, .bool true] :: fw q4 58 [.slice none 0 0, .slice none 0 0, .int .i64 0, .bool false] :: (Fp ++ (G ++ R)))) (perm_of fun _ _ z => by simp only [List.count_append, List.count_cons, List.cons_append, List.count_nil, List.nil_append, List.append_nil]; omega))
        have hX : fw qa 58 [.slice A n c, .slice none 0 0, .int .i64 0, .bool true] :: fw q4 58 [.slice none 0 0, .slice none 0 0, .int .i64 0, .bool false] :: (Fp ++ (G ++ R)) = (fw qa 58 [.slice A n c, .slice none 0 0, .int .i64 0, .bool true] :: fw q4 58 [.slice none 0 0, .slice none 0 0, .int .i64 0, .bool false] :: (Fp ++ G)) ++ R := by simp
        have HD3 := hid (hX ▸ HDX.out _)
        clear hX c3 f3 HOB HOA HO HD2
        go_wp2_with fail
        refine (ie.rel (((n : Nat) : Int)) F' _ w0 _ (by rw [HNL.out]; exact ⟨by omega, by omega⟩) HIJ.out HD3.out HOC.out).mono ?_
        rintro e w5 ⟨rfl, F9, hO9⟩
        have hOD := hO9.perm (L' := fw q4 58 [.slice none 0 0, .slice none 0 0, .int .i64 0, .bool false] :: (fw qa 58 [.slice A n c, .slice none 0 0, .int .i64 0, .bool true] :: (F9 ++ (Fp ++ (G ++ R))))) (perm_of fun _ _ z => by simp only [List.count_append, List.count_cons, List.cons_append, List.count_nil, List.nil_append, List.append_nil]; omega)
        have c0 : w5.cell? ⟨qa, 0, none⟩ = some (.slice A n c) := hOD.cell 1 rfl (k := 0) 0 rfl (by simp)
        have c1 : w5.cell? ⟨qa, 1, none⟩ = some (.slice none 0 0) := hOD.cell 1 rfl (k := 1) 1 rfl (by simp)
        have c2 : w5.cell? ⟨qa, 2, none⟩ = some (.int .i64 0) := hOD.cell 1 rfl (k := 2) 2 rfl (by simp)
        have c3 : w5.cell? ⟨qa, 3, none⟩ = some (.bool true) := hOD.cell 1 rfl (k := 3) 3 rfl (by simp)
        have HOD := hid hOD
        clear hO9 hOD HD3 HOC
        go_wp2_with (refine own_store_row rfl 58 (.tmp 4) (.tmp 59) rfl q4 _ rfl rfl 58 _ HOD.out (by kernel_rfl) (by simp) (by simp [Value.oneCell']) ?_; intro w6 hO6; have qa0 : w6.cell? ⟨q4, 0, none⟩ = some (.slice A n c) := hO6.cell 0 rfl (k := 0) 0 rfl (by simp); have qa1 : w6.cell? ⟨q4, 1, none⟩ = some (.slice none 0 0) := hO6.cell 0 rfl (k := 1) 1 rfl (by simp); have qa2 : w6.cell? ⟨q4, 2, none⟩ = some (.int .i64 0) := hO6.cell 0 rfl (k := 2) 2 rfl (by simp); have qa3 : w6.cell? ⟨q4, 3, none⟩ = some (.bool true) := hO6.cell 0 rfl (k := 3) 3 rfl (by simp); have HO6 := hid hO6; clear hO6)
        refine bodyPost_ret (v := .agg #[.slice A n c, .slice none 0 0, .int .i64 0, .bool true]) ?_ rfl ?_
        · simp [results, Tryd.results58, go_sem, qa0, qa1, qa2, qa3]
        · refine ⟨⟨A, c, l, none, 0, [], 0, true⟩, n, 0, fw q4 58 [.slice A n c, .slice none 0 0, .int .i64 0, .bool true] :: (fw qa 58 [.slice A n c, .slice none 0 0, .int .i64 0, .bool true] :: (F9 ++ (Fp ++ G))), rfl, hid ⟨HLJ.out.1.symm, rfl⟩, hid ⟨?_, rfl, rfl, rfl⟩, hid fun wb => ?_, hid (HO6.out.perm (perm_of fun _ _ z => by simp only [List.count_append, List.count_cons, List.cons_append, List.count_nil, List.nil_append, List.append_nil]; omega))⟩
          · have h9 := HLJ.out.2
            rw [List.take_of_length_le (by simp [HNL.out])] at h9
            exact h9
          · have hpr : St (Fp ++ G) wb fun w => Prs w A l := fun w hw hb => ⟨HR.out.cs fun x hx => hb x (List.mem_append_left _ hx), fun x hx => HOK.out x hx wb w hw fun y hy => hb y (List.mem_append_right _ hy)⟩
            exact fun w hw hb => ⟨hpr w hw fun y hy => hb y (by simp at hy ⊢; rcases hy with h | h <;> simp [h]), CsAt.nil _ _⟩
set_option maxHeartbeats 12800000 in
set_option maxRecDepth 100000 in
theorem iterd_back {T : TypeId} {v : Value} {f : ItM} {L : List KV} {I : Int → List Fr → Prop} {D : List Fr → World → Prop} (it : Iter T v f L I D) {fe fr : FuncId × Value} (ie : ItE T v fe fr L.length I D) (p0 : Int) (F R : List Fr) (w0 w : World) (hp0 : Plc L.length p0) (hI : I p0 F) (hD : D R w0) (hO : Own (F ++ R) w0 w)
    (kd nn : Int) (hkd : kd = 8) (kA vA : Option Addr) (kn kc vn vc : Nat) (hL : L.length ≤ 1073741824) :
    Calls Tryd.prog 58 #[.iface T v, .agg #[.int .i64 kd, .slice kA kn kc, .slice vA vn vc, .int .i64 nn]] w (IdOut L.reverse [] R w0) := by
  obtain ⟨n, hn⟩ : ∃ n, L.length = n := ⟨_, rfl⟩
  have HNL := hid hn
  rw [hn] at hp0 hL
  obtain ⟨s0, hs0⟩ : ∃ s0, w.heap.size = s0 := ⟨_, rfl⟩
  have hO1 := ((hO.alloc' hs0 67 [.int .i64 kd, .slice kA kn kc, .slice vA vn vc, .int .i64 nn]).alloc' (g := s0 + 1) (by simp [hs0]) 58 [.slice none 0 0, .slice none 0 0, .int .i64 0, .bool false]).alloc' (g := s0 + 1 + 1) (by simp [hs0]) 58 [.slice none 0 0, .slice none 0 0, .int .i64 0, .bool false]
  have HO1 := hid hO1
  have HS := hid hs0
  have HI := hid hI
  have HDD := hid hD
  have HP0 := hid hp0
  have m1 := it.mla
  have m2 := it.mpr
  have m3 := ie.mer
  have m4 := ie.mre
  have n1 := it.cla
  have n2 := it.cpr
  have n3 := ie.cer
  have n4 := ie.cre
  have k7 : (kd == 7) = false := by subst hkd; rfl
  have k9 : (kd == 9) = false := by subst hkd; rfl
  have k8 : (kd == 8) = true := by subst hkd; rfl
  clear hkd
  clear hO hO1 hI hD hp0 hs0 hn
  go_enter Tryd.func58, Tryd.ntmps58
  go_upto_region 2 with fail
  rw [HS.out]
  generalize hW : (World.alloc _ _) = W at HO1 ⊢
  clear hW
  obtain ⟨q4, hq4⟩ : ∃ q4, s0 + 1 = q4 := ⟨_, rfl⟩
  rw [hq4] at HO1 ⊢
  obtain ⟨qa, hqa⟩ : ∃ qa, q4 + 1 = qa := ⟨_, rfl⟩
  rw [hqa] at HO1 ⊢
  clear hq4 hqa
  have ck : W.cell? ⟨s0, 0, none⟩ = some (.int .i64 kd) := HO1.out.cell 2 rfl (k := 0) 0 rfl (by simp)
  have HO2 := hid (HO1.out.perm (L' := F ++ (fw qa 58 [.slice none 0 0, .slice none 0 0, .int .i64 0, .bool false] :: fw q4 58 [.slice none 0 0, .slice none 0 0, .int .i64 0, .bool false] :: (fw s0 67 [.int .i64 kd, .slice kA kn kc, .slice vA vn vc, .int .i64 nn] :: R))) (perm_of fun _ _ z => by simp only [List.count_append, List.count_cons, List.cons_append, List.count_nil, List.nil_append, List.append_nil]; omega))
  have HDX := hid (fun X : List Fr => it.mono R (X ++ R) w0 (fun _ hx => List.mem_append_right _ hx) HDD.out)
  clear HO1

  go_wp2_with fail
  refine (it.last p0 F _ w0 _ (by rw [HNL.out]; exact HP0.out) HI.out (HDX.out [fw qa 58 [.slice none 0 0, .slice none 0 0, .int .i64 0, .bool false], fw q4 58 [.slice none 0 0, .slice none 0 0, .int .i64 0, .bool false], fw s0 67 [.int .i64 kd, .slice kA kn kc, .slice vA vn vc, .int .i64 nn]]) HO2.out).mono ?_
  rintro e w2 ⟨rfl, F2, hI2, hO2⟩
  have HI2 := hid hI2
  have HO3 := hid (hO2.perm (L' := fw qa 58 [.slice none 0 0, .slice none 0 0, .int .i64 0, .bool false] :: fw q4 58 [.slice none 0 0, .slice none 0 0, .int .i64 0, .bool false] :: (F2 ++ ([] ++ ([fw s0 67 [.int .i64 kd, .slice kA kn kc, .slice vA vn vc, .int .i64 nn]] ++ R)))) (perm_of fun _ _ z => by simp only [List.count_append, List.count_cons, List.cons_append, List.count_nil, List.nil_append, List.append_nil]; omega))
  clear hI2 hO2 HO2 HI ck
  try rw [HNL.out] at HI2
  rw [HNL.out]
  go_wp2_with fail
  go_loopw [7] (fun s wr => ∃ (j c : Nat) (A : Option Addr) (l : List Pr) (Fp F' G : List Fr), s = .bool (wval n ((n : Int) - 1 - ((j : Nat) : Int))) ∧ j ≤ n ∧ Hid (I ((n : Int) - 1 - ((j : Nat) : Int)) F') ∧ Hid (l.length = j ∧ kvs l = (L.reverse).take j) ∧ Hid (Row 36 2 A j c (l.flatMap Pr.cells) Fp) ∧ Hid (∀ r ∈ l, ∀ wb, St G wb fun w => r.Ok w) ∧ Hid (Own (fw qa 58 [.slice A j c, .slice none 0 0, .int .i64 0, .bool false] :: fw q4 58 [.slice none 0 0, .slice none 0 0, .int .i64 0, .bool false] :: (F' ++ (Fp ++ (G ++ R)))) w0 wr)) (fun _ wr => n - lenOf (wr.cell? ⟨qa, 0, none⟩))
  case atStart => exact ⟨0, 0, none, [], [], F2, [fw s0 67 [.int .i64 kd, .slice kA kn kc, .slice vA vn vc, .int .i64 nn]], by rw [show ((n : Int) - 1 - ((0 : Nat) : Int)) = (n : Int) - 1 by omega], Nat.zero_le _, by rw [show ((n : Int) - 1 - ((0 : Nat) : Int)) = (n : Int) - 1 by omega]; exact HI2, hid ⟨rfl, rfl⟩, hid (Row.nil _ _), hid (by simp), HO3⟩
  case round =>
    clear HO3 HI2
    obtain ⟨j, c, A, l, Fp, F', G, rfl, hj, HIJ, HLJ, HR, HOK, HO⟩ := hrel
    obtain ⟨w2, rfl⟩ : ∃ w2, w2 = wr := ⟨_, rfl⟩
    have c0 : w2.cell? ⟨qa, 0, none⟩ = some (.slice A j c) := HO.out.cell 0 rfl (k := 0) 0 rfl (by simp)
    have HC0 := hid c0
    by_cases h4 : j < n
    · have hwv : wval n ((n : Int) - 1 - ((j : Nat) : Int)) = true := wval_iff.2 ⟨by omega, by omega⟩
      rw [hwv]
      have HWV := hid hwv
      clear hwv
      have hX : fw qa 58 [.slice A j c, .slice none 0 0, .int .i64 0, .bool false] :: fw q4 58 [.slice none 0 0, .slice none 0 0, .int .i64 0, .bool false] :: (Fp ++ (G ++ R)) = (fw qa 58 [.slice A j c, .slice none 0 0, .int .i64 0, .bool false] :: fw q4 58 [.slice none 0 0, .slice none 0 0, .int .i64 0, .bool false] :: (Fp ++ G)) ++ R := by simp
      have HD2 := hid (hX ▸ HDX.out _)
      clear hX
      go_wp2_with fail
      refine AnyT.start (S := fun w' => w'.cell? ⟨qa, 0, none⟩ = some (.slice A j c)) (T := [7]) (by kernel_rfl) (c0) (fun hHeld => ?_)
      refine AnyT.take (i := 0) (v := ?_) (by simp only [List.getElem?_toArray, List.getElem?_cons_succ, List.getElem?_cons_zero]; rfl) (by kernel_rfl) (by kernel_rfl) (by kernel_rfl) (by kernel_rfl) (by intro _ _ _ h; exact h) (Or.inl ⟨by rfl, fun w hSw => ?_⟩) hHeld ?_
      rotate_left
      · ((try dsimp only at hSw); go_simp; first | done | with_reducible rfl | rfl)
      try simp only [Act.put, List.setIfInBounds_toArray, List.set_cons_zero, List.set_cons_succ]
      refine AnyT.take (i := 1) (v := ?_) (by simp only [List.getElem?_toArray, List.getElem?_cons_succ, List.getElem?_cons_zero]; rfl) (by kernel_rfl) (by kernel_rfl) (by kernel_rfl) (by kernel_rfl) (by intro _ _ _ h; exact h) (Or.inl ⟨by rfl, fun w hSw => ?_⟩) hHeld ?_
      rotate_left
      · ((try dsimp only at hSw); go_simp; first | done | with_reducible rfl | rfl)
      try simp only [Act.put, List.setIfInBounds_toArray, List.set_cons_zero, List.set_cons_succ]
      refine AnyT.take (i := 2) (v := ?_) (by simp only [List.getElem?_toArray, List.getElem?_cons_succ, List.getElem?_cons_zero]; rfl) (by kernel_rfl) (by kernel_rfl) (by kernel_rfl) (by kernel_rfl) (by intro _ _ _ h; exact h) (Or.inl ⟨by rfl, fun w hSw => ?_⟩) hHeld ?_
      rotate_left
      · ((try dsimp only at hSw); go_simp; first | done | with_reducible rfl | rfl)
      try simp only [Act.put, List.setIfInBounds_toArray, List.set_cons_zero, List.set_cons_succ]
      refine AnyT.ready (rs := [3]) (by kernel_rfl) (by simp) ?_
      refine AllT.cons (by simp only [List.getElem?_toArray, List.getElem?_cons_succ, List.getElem?_cons_zero]; rfl) (fun K hK => ?_) AllT.nil
      go_simp
      refine (pair_k it.f ((n : Int) - 1 - ((j : Nat) : Int)) F' (fw qa 58 [.slice A j c, .slice none 0 0, .int .i64 0, .bool false] :: fw q4 58 [.slice none 0 0, .slice none 0 0, .int .i64 0, .bool false] :: (Fp ++ (G ++ R))) w0 _ (by rw [HNL.out]; exact HWV.out) HIJ.out HD2.out (HO.out.drew.perm (perm_of fun _ _ z => by simp only [List.count_append, List.count_cons, List.cons_append, List.count_nil, List.nil_append, List.append_nil]; omega))).mono ?_
      rintro e w3 ⟨r, rkn, rvn, F6, G6, rfl, hk1, hk2, HKV, HST, HI6, HO6⟩
      have HO7 := hid (HO6.out.perm (L' := fw qa 58 [.slice A j c, .slice none 0 0, .int .i64 0, .bool false] :: fw q4 58 [.slice none 0 0, .slice none 0 0, .int .i64 0, .bool false] :: (F6 ++ (Fp ++ ((G6 ++ G) ++ R)))) (perm_of fun _ _ z => by simp only [List.count_append, List.count_cons, List.cons_append, List.count_nil, List.nil_append, List.append_nil]; omega))
      have d0 : w3.cell? ⟨qa, 0, none⟩ = some (.slice A j c) := HO7.out.cell 0 rfl (k := 0) 0 rfl (by simp)
      have HKN := hid (And.intro hk1 hk2)
      clear HO6 c0 HD2 hk1 hk2
      try go_wp2_with fail
      refine hK.out _ _ ?_ (fun hHeld => ?_)
      · exact d0
      clear hK
      try simp only [Act.put, List.setIfInBounds_toArray, List.set_cons_zero, List.set_cons_succ]
      refine AnyT.ready (rs := [4]) (by kernel_rfl) (by simp) ?_
      refine AllT.cons (by simp only [List.getElem?_toArray, List.getElem?_cons_succ, List.getElem?_cons_zero]; rfl) (fun K hK => ?_) AllT.nil
      go_simp
      refine hK.out _ _ ?_ (fun hHeld => ?_)
      · first | exact keepc ((Only.refl [] _).alloc _).drew d0 | exact keepc ((Only.refl [] _).alloc _) d0
      clear hK
      try simp only [Act.put, List.setIfInBounds_toArray, List.set_cons_zero, List.set_cons_succ]
      refine AnyT.ready (rs := [5]) (by kernel_rfl) (by simp) ?_
      refine AllT.cons (by simp only [List.getElem?_toArray, List.getElem?_cons_succ, List.getElem?_cons_zero]; rfl) (fun K hK => ?_) AllT.nil
      refine own_step_append rfl (.tmp 34) (.tmp 37) 22 rfl 36 (.agg #[.slice none 0 0, .slice none 0 0]) 2 48 Tryd.underlying22 Tryd.info_ipr rfl (by decide) A j c (l.flatMap Pr.cells) Fp rfl HR.out (R := fw qa 58 [.slice A j c, .slice none 0 0, .int .i64 0, .bool false] :: fw q4 58 [.slice none 0 0, .slice none 0 0, .int .i64 0, .bool false] :: (F6 ++ ((G6 ++ G) ++ R))) ((HO7.out.perm (L' := Fp ++ (fw qa 58 [.slice A j c, .slice none 0 0, .int .i64 0, .bool false] :: fw q4 58 [.slice none 0 0, .slice none 0 0, .int .i64 0, .bool false] :: (F6 ++ ((G6 ++ G) ++ R)))) (perm_of fun _ _ z => by simp only [List.count_append, List.count_cons, List.cons_append, List.count_nil, List.nil_append, List.append_nil]; omega)).skip _) (some ⟨_, 0, none⟩) 1 1 [.slice r.ka rkn r.kc, .slice r.va rvn r.vc] rfl rfl (csAt_all _ _ _) (by simp [Value.oneCell']) (by simp [maxLen]; omega) (by omega) ?_
      intro A2 c2 Fp2 w7 hr7 hO7 _
      have HR7 := hid hr7
      have hO8 := hO7.perm (L' := fw qa 58 [.slice A j c, .slice none 0 0, .int .i64 0, .bool false] :: fw q4 58 [.slice none 0 0, .slice none 0 0, .int .i64 0, .bool false] :: (F6 ++ (Fp2 ++ ((G6 ++ G) ++ R)))) (perm_of fun _ _ z => by simp only [List.count_append, List.count_cons, List.cons_append, List.count_nil, List.nil_append, List.append_nil]; omega)
      have e0 : w7.cell? ⟨qa, 0, none⟩ = some (.slice A j c) := hO8.cell 0 rfl (k := 0) 0 rfl (by simp)
      have f0 := hO8.frozen 0 rfl 0
      have HO9 := hid (show Own (fw qa 58 [.slice A2 (j + 1) c2, .slice none 0 0, .int .i64 0, .bool false] :: fw q4 58 [.slice none 0 0, .slice none 0 0, .int .i64 0, .bool false] :: (F6 ++ (Fp2 ++ ((G6 ++ G) ++ R)))) w0 _ from hO8.set (k := 0) 0 rfl (by simp) (.slice A2 (j + 1) c2))
      clear hr7 hO7 hO8 HO7 d0
      refine hK.out _ _ ?_ (fun hHeld => ?_)
      · exact e0
      clear hK
      try simp only [Act.put, List.setIfInBounds_toArray, List.set_cons_zero, List.set_cons_succ]
      refine AnyT.take (i := 6) (v := ?_) (by simp only [List.getElem?_toArray, List.getElem?_cons_succ, List.getElem?_cons_zero]; rfl) (by kernel_rfl) (by kernel_rfl) (by kernel_rfl) (by kernel_rfl) (by intro _ _ _ h; exact h) (Or.inl ⟨by rfl, fun w hSw => ?_⟩) hHeld ?_
      rotate_left
      · ((try dsimp only at hSw); go_simp; first | done | with_reducible rfl | rfl)
      try simp only [Act.put, List.setIfInBounds_toArray, List.set_cons_zero, List.set_cons_succ]
      refine AnyT.ready (rs := [7]) (by kernel_rfl) (by simp) ?_
      refine AllT.late (by simp only [List.getElem?_toArray, List.getElem?_cons_succ, List.getElem?_cons_zero]; rfl) (by kernel_rfl) (fun K hK => ?_)
      go_simp
      refine hK.out _ _ ?_
      clear hK
      try simp only [Act.put, List.setIfInBounds_toArray, List.set_cons_zero, List.set_cons_succ]
      refine AnyT.done (by kernel_rfl) ?_ _
      clear hHeld e0 f0
      generalize (World.setCell _ _ _) = W2 at HO9 ⊢
      have HOA := hid (HO9.out.perm (L' := F6 ++ (fw qa 58 [.slice A2 (j + 1) c2, .slice none 0 0, .int .i64 0, .bool false] :: fw q4 58 [.slice none 0 0, .slice none 0 0, .int .i64 0, .bool false] :: (Fp2 ++ ((G6 ++ G) ++ R)))) (perm_of fun _ _ z => by simp only [List.count_append, List.count_cons, List.cons_append, List.count_nil, List.nil_append, List.append_nil]; omega))
      have hX : fw qa 58 [.slice A2 (j + 1) c2, .slice none 0 0, .int .i64 0, .bool false] :: fw q4 58 [.slice none 0 0, .slice none 0 0, .int .i64 0, .bool false] :: (Fp2 ++ ((G6 ++ G) ++ R)) = (fw qa 58 [.slice A2 (j + 1) c2, .slice none 0 0, .int .i64 0, .bool false] :: fw q4 58 [.slice none 0 0, .slice none 0 0, .int .i64 0, .bool false] :: (Fp2 ++ (G6 ++ G))) ++ R := by simp
      have HD2 := hid (hX ▸ HDX.out _)
      clear hX HO9
      go_wp2_with fail
      refine (it.prev ((n : Int) - 1 - (j : Nat)) F6 _ w0 _ (by rw [HNL.out]; exact ⟨by omega, by omega⟩) HI6.out HD2.out HOA.out).mono ?_
      rw [show max ((n : Int) - 1 - (j : Int) - 1) (-1) = (n : Int) - 1 - ((j + 1 : Nat) : Int) by omega]
      rintro e w4 ⟨rfl, F8, hI8, hO8⟩
      have HI8 := hid hI8
      have HO8 := hid (hO8.perm (L' := fw qa 58 [.slice A2 (j + 1) c2, .slice none 0 0, .int .i64 0, .bool false] :: fw q4 58 [.slice none 0 0, .slice none 0 0, .int .i64 0, .bool false] :: (F8 ++ (Fp2 ++ ((G6 ++ G) ++ R)))) (perm_of fun _ _ z => by simp only [List.count_append, List.count_cons, List.cons_append, List.count_nil, List.nil_append, List.append_nil]; omega))
      clear hI8 hO8
      rw [HNL.out]
      have g0 : w4.cell? ⟨qa, 0, none⟩ = some (.slice A2 (j + 1) c2) := HO8.out.cell 0 rfl (k := 0) 0 rfl (by simp)
      have G0 := hid g0
      clear g0 HOA HD2
      go_wp2_with fail
      go_roundw
      case rel =>
        refine ⟨j + 1, c2, A2, l ++ [r], Fp2, F8, G6 ++ G, rfl, by omega, HI8, hid ⟨by rw [List.length_append, HLJ.out.1]; rfl, ?_⟩, hid ?_, hid fun x hx => ?_, HO8⟩
        · have hr1 := HKV.out
          have hkv1 : kvs (l ++ [r]) = kvs l ++ [(r.k, r.v)] := by simp [kvs]
          rw [hkv1, HLJ.out.2]
          have hjl : j < L.reverse.length := by rw [List.length_reverse, HNL.out]; exact h4
          rw [hr1.1, hr1.2, show ((n : Int) - 1 - (j : Int)).toNat = n - 1 - j by omega, List.take_succ_eq_append_getElem hjl]
          congr 2
          have hjl2 : n - 1 - j < L.length := by rw [HNL.out]; omega
          rw [List.getElem_reverse]
          simp [Plain.key, Plain.val, List.getD_eq_getElem?_getD, List.getElem?_eq_getElem hjl2, HNL.out]
        · have h9 := HR7.out
          rw [List.flatMap_append]
          rw [HKN.out.1, HKN.out.2] at h9
          simpa [Pr.cells] using h9
        · rcases List.mem_append.1 hx with hx | hx
          · exact fun wb => (HOK.out x hx wb).right G6
          · rw [List.mem_singleton] at hx
            subst hx
            exact fun wb => (HST.out wb).left G
      case measure =>
        rw [HC0.out, G0.out]
        simp only [lenOf]
        omega
    · obtain rfl : n = j := by omega
      have hwv : wval n ((n : Int) - 1 - ((n : Nat) : Int)) = false := wval_not.2 (.inl (by omega))
      rw [hwv]
      clear hwv
      have hX : fw qa 58 [.slice A n c, .slice none 0 0, .int .i64 0, .bool false] :: fw q4 58 [.slice none 0 0, .slice none 0 0, .int .i64 0, .bool false] :: (Fp ++ (G ++ R)) = (fw qa 58 [.slice A n c, .slice none 0 0, .int .i64 0, .bool false] :: fw q4 58 [.slice none 0 0, .slice none 0 0, .int .i64 0, .bool false] :: (Fp ++ G)) ++ R := by simp
      have HD2 := hid (hX ▸ HDX.out _)
      clear hX c0
      have HOA := hid (HO.out.perm (L' := F' ++ (fw qa 58 [.slice A n c, .slice none 0 0, .int .i64 0, .bool false] :: fw q4 58 [.slice none 0 0, .slice none 0 0, .int .i64 0, .bool false] :: (Fp ++ (G ++ R)))) (perm_of fun _ _ z => by simp only [List.count_append, List.count_cons, List.cons_append, List.count_nil, List.nil_append, List.append_nil]; omega))
      go_wp2_with fail
      refine (ie.err ((n : Int) - 1 - ((n : Nat) : Int)) F' _ w0 _ (by rw [HNL.out]; exact ⟨by omega, by omega⟩) HIJ.out HD2.out HOA.out).mono ?_
      rintro e w4 ⟨rfl, rfl⟩
      have c3 : w2.cell? ⟨qa, 3, none⟩ = some (.bool false) := HO.out.cell 0 rfl (k := 3) 3 rfl (by simp)
      have f3 := HO.out.frozen 0 rfl 3
      have HOB := hid (show Own (fw qa 58 [.slice A n c, .slice none 0 0, .int .i64 0, .bool true] :: fw q4 58 [.slice none 0 0, .slice none 0 0, .int .i64 0, .bool false] :: (F' ++ (Fp ++ (G ++ R)))) w0 _ from HO.out.set (k := 3) 3 rfl (by simp) (.bool true))
      go_upto_region 17 with fail
      generalize (World.setCell _ _ _) = W3 at HOB ⊢
      have HOC := hid (HOB.out.perm (L' := F' ++ (fw qa 58 [.slice A n c, .slice none 0 0, .int .i64 0, .bool true] :: fw q4 58 [.slice none 0 0, .slice none 0 0, .int .i64 0, .bool false] :: (Fp ++ (G ++ R)))) (perm_of fun _ _ z => by simp only [List.count_append, List.count_cons, List.cons_append, List.count_nil, List.nil_append, List.append_nil]; omega))
      have hX : fw qa 58 [.slice A n c, .slice none 0 0, .int .i64 0, .bool true] :: fw q4 58 [.slice none 0 0, .slice none 0 0, .int .i64 0, .bool false] :: (Fp ++ (G ++ R)) = (fw qa 58 [.slice A n c, .slice none 0 0, .int .i64 0, .bool true] :: fw q4 58 [.slice none 0 0, .slice none 0 0, .int .i64 0, .bool false] :: (Fp ++ G)) ++ R := by simp
      have HD3 := hid (hX ▸ HDX.out _)
      clear hX c3 f3 HOB HOA HO HD2
      go_wp2_with fail
      refine (ie.rel ((n : Int) - 1 - ((n : Nat) : Int)) F' _ w0 _ (by rw [HNL.out]; exact ⟨by omega, by omega⟩) HIJ.out HD3.out HOC.out).mono ?_
      rintro e w5 ⟨rfl, F9, hO9⟩
      have hOD := hO9.perm (L' := fw q4 58 [.slice none 0 0, .slice none 0 0, .int .i64 0, .bool false] :: (fw qa 58 [.slice A n c, .slice none 0 0, .int .i64 0, .bool true] :: (F9 ++ (Fp ++ (G ++ R))))) (perm_of fun _ _ z => by simp only [List.count_append, List.count_cons, List.cons_append, List.count_nil, List.nil_append, List.append_nil]; omega)
      have c0 : w5.cell? ⟨qa, 0, none⟩ = some (.slice A n c) := hOD.cell 1 rfl (k := 0) 0 rfl (by simp)
      have c1 : w5.cell? ⟨qa, 1, none⟩ = some (.slice none 0 0) := hOD.cell 1 rfl (k := 1) 1 rfl (by simp)
      have c2 : w5.cell? ⟨qa, 2, none⟩ = some (.int .i64 0) := hOD.cell 1 rfl (k := 2) 2 rfl (by simp)
      have c3 : w5.cell? ⟨qa, 3, none⟩ = some (.bool true) := hOD.cell 1 rfl (k := 3) 3 rfl (by simp)
      have HOD := hid hOD
      clear hO9 hOD HD3 HOC
      go_wp2_with (refine own_store_row rfl 58 (.tmp 4) (.tmp 59) rfl q4 _ rfl rfl 58 _ HOD.out (by kernel_rfl) (by simp) (by simp [Value.oneCell']) ?_; intro w6 hO6; have qa0 : w6.cell? ⟨q4, 0, none⟩ = some (.slice A n c) := hO6.cell 0 rfl (k := 0) 0 rfl (by simp); have qa1 : w6.cell? ⟨q4, 1, none⟩ = some (.slice none 0 0) := hO6.cell 0 rfl (k := 1) 1 rfl (by simp); have qa2 : w6.cell? ⟨q4, 2, none⟩ = some (.int .i64 0) := hO6.cell 0 rfl (k := 2) 2 rfl (by simp); have qa3 : w6.cell? ⟨q4, 3, none⟩ = some (.bool true) := hO6.cell 0 rfl (k := 3) 3 rfl (by simp); have HO6 := hid hO6; clear hO6)
      refine bodyPost_ret (v := .agg #[.slice A n c, .slice none 0 0, .int .i64 0, .bool true]) ?_ rfl ?_
      · simp [results, Tryd.results58, go_sem, qa0, qa1, qa2, qa3]
      · refine ⟨⟨A, c, l, none, 0, [], 0, true⟩, n, 0, fw q4 58 [.slice A n c, .slice none 0 0, .int .i64 0, .bool true] :: (fw qa 58 [.slice A n c, .slice none 0 0, .int .i64 0, .bool true] :: (F9 ++ (Fp ++ G))), rfl, hid ⟨HLJ.out.1.symm, rfl⟩, hid ⟨?_, rfl, rfl, rfl⟩, hid fun wb => ?_, hid (HO6.out.perm (perm_of fun _ _ z => by simp only [List.count_append, List.count_cons, List.cons_append, List.count_nil, List.nil_append, List.append_nil]; omega))⟩
        · have h9 := HLJ.out.2
          rw [List.take_of_length_le (by simp [HNL.out])] at h9
          exact h9
        · have hpr : St (Fp ++ G) wb fun w => Prs w A l := fun w hw hb => ⟨HR.out.cs fun x hx => hb x (List.mem_append_left _ hx), fun x hx => HOK.out x hx wb w hw fun y hy => hb y (List.mem_append_right _ hy)⟩
          exact fun w hw hb => ⟨hpr w hw fun y hy => hb y (by simp at hy ⊢; rcases hy with h | h <;> simp [h]), CsAt.nil _ _⟩
end Go.Proofs.YtloflmcgbbbnjaaDoor
