/-
  ITERATORS: what their methods do, told once for all; impl.pair over any.
  spec.Map: At.
  spec.Map.Walk: where an iterator stands behind calls.
  A REGION THAT DRAWS ITS ORDER, with late operations (T) behind which nothing of what is held need hold any more: each of them waits for whatever is taken first.
  spec.Equal: rows of alike pairs are alike.
-/
import Derived.Test.YtloflmcgbbbnjaaDoorMemM3
import Derived.Test.YtloflmcgbbbnjaaDoorMemM4
import Derived.Laws.ResultCell
import Derived.Test.YtloflmcgbbbnjaaDoorMemM1
import Derived.Deep.RegionHeld3
namespace Go.Proofs.YtloflmcgbbbnjaaDoor
open Go.RowKit Plain
set_option linter.all false

theorem Tryd.info_bool : (Tryd.prog.info? 4).map (fun i => (i.zero, i.size, i.bytes)) = some (some (.bool false), 1, 1) := by kernel_rfl
/-- The methods of an iterator: a function and its receiver each. -/
structure ItM where
  fi : FuncId × Value
  la : FuncId × Value
  ne : FuncId × Value
  pr : FuncId × Value
  se : FuncId × Value
  va : FuncId × Value
  ke : FuncId × Value
  vl : FuncId × Value
def ItBool (n : Nat) (I : Int → List Fr → Prop) (p : Int) (R : List Fr) (w0 : World) (e : Ending) (w' : World) : Prop :=
  e = .returned (.bool (wval n p)) ∧ ∃ F', I p F' ∧ Own (F' ++ R) w0 w'
def ItSl (l : List UInt8) (I : Int → List Fr → Prop) (p : Int) (R : List Fr) (w0 : World) (e : Ending) (w' : World) : Prop :=
  ∃ A c n F', e = .returned (.slice A n c) ∧ n = l.length ∧ n ≤ c ∧ c ≤ maxLen ∧ I p F' ∧ Own (F' ++ R) w0 w' ∧ BsAt w' A l
/-- An iterator over pairs L: I says what it is made of where it stands at a place, D what it reads. -/
structure Iter (T : TypeId) (v : Value) (f : ItM) (L : List KV) (I : Int → List Fr → Prop) (D : List Fr → World → Prop) : Prop where
  mono : ∀ R R' w0, (∀ x ∈ R, x ∈ R') → D R w0 → D R' w0
  mfi : ∀ d w, (method (d + 1) T v "First").run Tryd.prog w = .ok f.fi w
  cfi : ∀ args w, (callFunc f.fi.1 args).run Tryd.prog w = .ok (.enter f.fi.1 args) w
  mla : ∀ d w, (method (d + 1) T v "Last").run Tryd.prog w = .ok f.la w
  cla : ∀ args w, (callFunc f.la.1 args).run Tryd.prog w = .ok (.enter f.la.1 args) w
  mne : ∀ d w, (method (d + 1) T v "Next").run Tryd.prog w = .ok f.ne w
  cne : ∀ args w, (callFunc f.ne.1 args).run Tryd.prog w = .ok (.enter f.ne.1 args) w
  mpr : ∀ d w, (method (d + 1) T v "Prev").run Tryd.prog w = .ok f.pr w
  cpr : ∀ args w, (callFunc f.pr.1 args).run Tryd.prog w = .ok (.enter f.pr.1 args) w
  mse : ∀ d w, (method (d + 1) T v "Seek").run Tryd.prog w = .ok f.se w
  cse : ∀ args w, (callFunc f.se.1 args).run Tryd.prog w = .ok (.enter f.se.1 args) w
  mva : ∀ d w, (method (d + 1) T v "Valid").run Tryd.prog w = .ok f.va w
  cva : ∀ args w, (callFunc f.va.1 args).run Tryd.prog w = .ok (.enter f.va.1 args) w
  mke : ∀ d w, (method (d + 1) T v "Key").run Tryd.prog w = .ok f.ke w
  cke : ∀ args w, (callFunc f.ke.1 args).run Tryd.prog w = .ok (.enter f.ke.1 args) w
  mvl : ∀ d w, (method (d + 1) T v "Value").run Tryd.prog w = .ok f.vl w
  cvl : ∀ args w, (callFunc f.vl.1 args).run Tryd.prog w = .ok (.enter f.vl.1 args) w
  first : ∀ p F R w0 w, Plc L.length p → I p F → D R w0 → Own (F ++ R) w0 w → Calls Tryd.prog f.fi.1 #[f.fi.2] w (ItBool L.length I 0 R w0)
  last : ∀ p F R w0 w, Plc L.length p → I p F → D R w0 → Own (F ++ R) w0 w → Calls Tryd.prog f.la.1 #[f.la.2] w (ItBool L.length I ((L.length : Int) - 1) R w0)
  next : ∀ p F R w0 w, Plc L.length p → I p F → D R w0 → Own (F ++ R) w0 w → Calls Tryd.prog f.ne.1 #[f.ne.2] w (ItBool L.length I (min (p + 1) (L.length : Int)) R w0)
  prev : ∀ p F R w0 w, Plc L.length p → I p F → D R w0 → Own (F ++ R) w0 w → Calls Tryd.prog f.pr.1 #[f.pr.2] w (ItBool L.length I (max (p - 1) (-1)) R w0)
  seek : ∀ p F R w0 w A n c key, Plc L.length p → I p F → D R w0 → Own (F ++ R) w0 w → Rd R w0 A key → n = key.length → n ≤ c → key.length ≤ 2147483647 → Calls Tryd.prog f.se.1 #[f.se.2, .slice A n c] w (ItBool L.length I (mAt Prod.fst L key : Nat) R w0)
  valid : ∀ p F R w0 w, Plc L.length p → I p F → D R w0 → Own (F ++ R) w0 w → Calls Tryd.prog f.va.1 #[f.va.2] w (ItBool L.length I p R w0)
  key : ∀ p F R w0 w, wval L.length p = true → I p F → D R w0 → Own (F ++ R) w0 w → Calls Tryd.prog f.ke.1 #[f.ke.2] w (ItSl (key L p.toNat) I p R w0)
  val : ∀ p F R w0 w, wval L.length p = true → I p F → D R w0 → Own (F ++ R) w0 w → Calls Tryd.prog f.vl.1 #[f.vl.2] w (ItSl (val L p.toNat) I p R w0)
  len : ∀ j, (Plain.key L j).length ≤ 2147483647 ∧ (Plain.val L j).length ≤ 2147483647
def PairOut (L : List KV) (I : Int → List Fr → Prop) (p : Int) (R : List Fr) (w0 : World) (e : Ending) (w' : World) : Prop :=
  ∃ (r : Pr) (kn vn : Nat) (F' G : List Fr), e = .returned (.agg #[.slice r.ka kn r.kc, .slice r.va vn r.vc]) ∧ kn = r.k.length ∧ vn = r.v.length ∧ Hid (r.k = key L p.toNat ∧ r.v = val L p.toNat) ∧ Hid (∀ wb, St G wb fun w => r.Ok w) ∧ Hid (I p F') ∧ Hid (Own (F' ++ (G ++ R)) w0 w')
set_option maxHeartbeats 3200000 in
set_option maxRecDepth 100000 in
theorem pair_any {T : TypeId} {v : Value} {f : ItM} {L : List KV} {I : Int → List Fr → Prop} {D : List Fr → World → Prop} (it : Iter T v f L I D) (p : Int) (F R : List Fr) (w0 w : World) (hp : wval L.length p = true) (hI : I p F) (hD : D R w0) (hO : Own (F ++ R) w0 w) :
    Calls Tryd.prog 97 #[.iface T v] w (PairOut L I p R w0) := by
  obtain ⟨q, hq⟩ : ∃ q, w.heap.size = q := ⟨_, rfl⟩
  have hO1 := hO.alloc' hq 36 [.slice none 0 0, .slice none 0 0]
  have hmk := it.mke
  have hmv := it.mvl
  have hck := it.cke
  have hcv := it.cvl
  have HQ := hid hq
  have HO1 := hid hO1
  have HI := hid hI
  have HDD := hid hD
  have HPV := hid hp
  clear hO hO1 hI hD hp hq
  go_enter Tryd.func97, Tryd.ntmps97
  go_wp2_with fail
  rw [HQ.out]
  refine (it.key p F (fw q 36 [.slice none 0 0, .slice none 0 0] :: R) w0 _ HPV.out HI.out (it.mono _ _ _ (fun _ hx => List.mem_cons_of_mem _ hx) HDD.out) (HO1.out.perm (perm_of fun _ _ z => by simp only [List.count_append, List.count_cons, List.cons_append, List.count_nil, List.nil_append, List.append_nil]; omega))).mono ?_
  rintro e w1 ⟨A1, c1, n1, F1, rfl, hn1, hc1, hm1, hI1, hO2, hb1⟩
  have HI1 := hid hI1
  have HO2 := hid hO2
  have HB1 := hid hb1
  have hl1 := (it.len p.toNat).1
  have hn1' : n1 ≤ 2147483647 := by omega
  have HN1 := hid hn1
  clear hI1 hO2 hb1 HO1 HI hn1 hl1
  go_wp2_with fail
  refine (copied_own A1 n1 c1 (key L p.toNat) (F1 ++ (fw q 36 [.slice none 0 0, .slice none 0 0] :: R)) w0 _ HB1.out HO2.out HN1.out (by rw [← HN1.out]; omega)).mono ?_
  rintro e w2 ⟨A2, c2, F2, n2, hn2, rfl, hr2, hO3⟩
  have HO3 := hid (hO3.out.perm (L' := F1 ++ (F2 ++ (fw q 36 [.slice none 0 0, .slice none 0 0] :: R))) (perm_of fun _ _ z => by simp only [List.count_append, List.count_cons, List.cons_append, List.count_nil, List.nil_append, List.append_nil]; omega))
  clear hO3 HO2 HB1 hc1 hm1
  go_wp2_with fail
  refine (it.val p F1 (F2 ++ (fw q 36 [.slice none 0 0, .slice none 0 0] :: R)) w0 _ HPV.out HI1.out (it.mono _ _ _ (fun _ hx => List.mem_append_right _ (List.mem_cons_of_mem _ hx)) HDD.out) HO3.out).mono ?_
  rintro e w3 ⟨A3, c3, n3, F3, rfl, hn3, hc3, hm3, hI3, hO4, hb3⟩
  have HI3 := hid hI3
  have HO4 := hid hO4
  have HB3 := hid hb3
  have hl3 := (it.len p.toNat).2
  have hn3' : n3 ≤ 2147483647 := by omega
  have HN3 := hid hn3
  clear hI3 hO4 hb3 HO3 HI1 hn3 hl3
  go_wp2_with fail
  refine (copied_own A3 n3 c3 (val L p.toNat) (F3 ++ (F2 ++ (fw q 36 [.slice none 0 0, .slice none 0 0] :: R))) w0 _ HB3.out HO4.out HN3.out (by rw [← HN3.out]; omega)).mono ?_
  rintro e w4 ⟨A4, c4, F4, n4, hn4, rfl, hr4, hO5⟩
  have HO5 := hid (hO5.out.perm (L' := fw q 36 [.slice none 0 0, .slice none 0 0] :: (F3 ++ (F2 ++ (F4 ++ R)))) (perm_of fun _ _ z => by simp only [List.count_append, List.count_cons, List.cons_append, List.count_nil, List.nil_append, List.append_nil]; omega))
  clear hO5 HO4 HB3 hc3 hm3
  go_wp2_with (refine own_store_row rfl 36 (.tmp 2) (.tmp 9) rfl q _ rfl rfl 36 _ HO5.out (by kernel_rfl) (by simp) (by simp [Value.oneCell']) ?_; intro w5 hO6; have qa : w5.cell? ⟨q, 0, none⟩ = some (.slice A2 n2 c2) := hO6.cell 0 rfl (k := 0) 0 rfl (by simp); have qb : w5.cell? ⟨q, 1, none⟩ = some (.slice A4 n4 c4) := hO6.cell 0 rfl (k := 1) 1 rfl (by simp); have HO6 := hid hO6; clear hO6)
  refine bodyPost_ret (v := .agg #[.slice A2 n2 c2, .slice A4 n4 c4]) ?_ rfl ?_
  · simp [results, Tryd.results97, go_sem, qa, qb]
  · refine ⟨⟨A2, c2, key L p.toNat, A4, c4, val L p.toNat⟩, n2, n4, F3, F2 ++ F4, rfl, hn2.out, hn4.out, hid ⟨rfl, rfl⟩, hid fun wb => ?_, HI3, hid ((HO6.out.drop).perm (perm_of fun _ _ z => by simp only [List.count_append, List.count_cons, List.cons_append, List.count_nil, List.nil_append, List.append_nil]; omega))⟩
    have r2 := hr2.out
    have r4 := hr4.out
    have l2 := r2.le
    have l4 := r4.le
    rw [hn2.out] at l2
    rw [hn4.out] at l4
    have t2 : Rd (F2 ++ F4) wb A2 (key L p.toNat) := (r2.rd wb).left F4
    have t4 : Rd (F2 ++ F4) wb A4 (val L p.toNat) := (r4.rd wb).right F2
    exact fun w hw0 hfr => ⟨t2 w hw0 hfr, t4 w hw0 hfr, l2, l4, r2.cap, r4.cap⟩
/-- Bools as values. -/
def cbl (l : List Bool) : List Value := l.map fun x => .bool x
theorem cbl_length (l : List Bool) : (cbl l).length = l.length := by simp [cbl]
def ScrOut (L : List KV) (I : Int → List Fr → Prop) (M : Nat) (ps : List Int) (R : List Fr) (w0 : World) (e : Ending) (w' : World) : Prop :=
  ∃ (A B : Option Addr) (c d : Nat) (l : List Pr) (G F' : List Fr) (p' : Int), e = .returned (.tuple #[.slice A M c, .slice B M d]) ∧ Hid (l.length = M ∧ kvs l = ps.map (wkv L)) ∧ Hid (∀ wb, St G wb fun w => Prs w A l) ∧ Hid (∀ wb, St G wb fun w => CsAt w B (cbl (ps.map (wval L.length)))) ∧
    M ≤ c ∧ M ≤ d ∧ Hid (Plc L.length p' ∧ I p' F') ∧ Hid (Own (F' ++ (G ++ R)) w0 w')
theorem Tryd.info_ipr : (Tryd.prog.info? 36).map (fun i => (i.zero, i.size, i.bytes)) = some (some (.agg #[.slice none 0 0, .slice none 0 0]), 2, 48) := by kernel_rfl
set_option maxHeartbeats 6400000 in
set_option maxRecDepth 100000 in
theorem script_any {T : TypeId} {v : Value} {f : ItM} {L : List KV} {I : Int → List Fr → Prop} {D : List Fr → World → Prop} (it : Iter T v f L I D) (p0 : Int) (F R : List Fr) (w0 w : World) (cA kA : Option Addr) (cn cc kn kc : Nat) (calls key : List UInt8)
    (hplc : Plc L.length p0) (hI : I p0 F) (hD : D R w0) (hO : Own (F ++ R) w0 w) (hcs : Rd R w0 cA calls) (hk : Rd R w0 kA key) (hcn : cn = calls.length) (hkn : kn = key.length) (hkc : kn ≤ kc) (hkl : key.length ≤ 2147483647) (hcl : calls.length ≤ 2147483647) :
    Calls Tryd.prog 51 #[.iface T v, .slice cA cn cc, .slice kA kn kc] w (ScrOut L I cn (wpl L.length (mAt Prod.fst L key : Nat) calls p0) R w0) := by
  obtain ⟨N, hN⟩ : ∃ N, L.length = N := ⟨_, rfl⟩
  have hs := mAt_le Prod.fst L key
  obtain ⟨s, hse⟩ : ∃ s, mAt Prod.fst L key = s := ⟨_, rfl⟩
  rw [hse, hN] at hs
  rw [hse, hN]
  rw [hN] at hplc
  have hs2 : 0 ≤ (s : Int) ∧ (s : Int) ≤ (N : Int) := by omega
  have HSE := hid hse
  have HS2 := hid hs2
  have HN := hid hN
  have HPL := hid hplc
  have HI := hid hI
  have HDD := hid hD
  have HO := hid hO
  have HC := hid hcs
  have HK := hid hk
  have HCN := hid hcn
  have HKN := hid hkn
  have HKL := hid hkl
  have hcn2 : cn ≤ 2147483647 := by omega
  have m1 := it.mfi
  have m2 := it.mla
  have m3 := it.mne
  have m4 := it.mpr
  have m5 := it.mse
  have m6 := it.mva
  have n1 := it.cfi
  have n2 := it.cla
  have n3 := it.cne
  have n4 := it.cpr
  have n5 := it.cse
  have n6 := it.cva
  clear hplc hI hD hO hcs hk hcn hkn hkl hcl hs hs2 hse hN
  go_enter Tryd.func51, Tryd.ntmps51
  go_wp2_with fail
  go_loopw [6, 7, 12] (fun pv vv i wr => ∃ (k : Nat) (A B : Option Addr) (c d : Nat) (l : List Pr) (p : Int) (F' Fp Fv G : List Fr), i = .int .i64 k ∧ k ≤ cn ∧ pv = .slice A k c ∧ vv = .slice B k d ∧
    Hid (p = wend N s (calls.take k) p0 ∧ Plc N p) ∧ Hid (kvs l = (wpl N s (calls.take k) p0).map (wkv L)) ∧ Hid (Row 36 2 A k c (l.flatMap Pr.cells) Fp) ∧ Hid (Row 4 1 B k d (cbl ((wpl N s (calls.take k) p0).map (wval N))) Fv) ∧ Hid (∀ r ∈ l, ∀ wb, St G wb fun w => r.Ok w) ∧ Hid (I p F') ∧ Hid (Own (F' ++ (Fp ++ (Fv ++ (G ++ R)))) w0 wr)) (fun _ _ i _ => cn - (intOf i).toNat)
  case atStart => exact ⟨0, none, none, 0, 0, [], p0, F, [], [], [], rfl, Nat.zero_le _, rfl, rfl, hid ⟨rfl, HPL.out⟩, hid rfl, hid (Row.nil _ _), hid (Row.nil _ _), hid (by simp), HI, HO⟩
  case round =>
    obtain ⟨k, A, B, c, d, l, p, F', Fp, Fv, G, rfl, hk, rfl, rfl, HE, HKV, HRP, HRV, HOK, HI2, HO2⟩ := hrel
    obtain ⟨w2, rfl⟩ : ∃ w2, w2 = wr := ⟨_, rfl⟩
    clear HI HO
    by_cases h4 : k < cn
    · have h4' : (k : Int) < (cn : Int) := by omega
      have hkc' : k < calls.length := by rw [← HCN.out]; exact h4
      obtain ⟨g, o, rfl, hc⟩ := HO2.out.st HC.out (fun x hx => by simp [hx]) k hkc'
      obtain ⟨b, hb⟩ : ∃ b, calls[k] = b := ⟨_, rfl⟩
      have hbz : bz calls k = (b.toNat : Int) := by rw [← hb]; simp [bz, at_, List.getElem?_eq_getElem hkc']
      rw [hbz] at hc
      obtain ⟨r5, hr5⟩ : ∃ r5, b.toNat % 5 = r5 := ⟨_, rfl⟩
      have h5 : (b.toNat : Int) % 5 = (r5 : Int) := by omega
      have hm5 : r5 < 5 := by omega
      have hstep : calls.take (k + 1) = calls.take k ++ [b] := by rw [← hb]; exact List.take_succ_eq_append_getElem hkc'
      obtain ⟨p2, hp2⟩ : ∃ p2, wst N s r5 p = p2 := ⟨_, rfl⟩
      have hplc2 : Plc N p2 := by rw [← hp2]; exact wst_plc HS2.out _ HE.out.2
      obtain ⟨hw1, hw2⟩ := wpl_snoc N s (calls.take k) b p0
      rw [hr5, ← HE.out.1, hp2] at hw1 hw2
      rw [← hstep] at hw1 hw2
      have HW1 := hid hw1
      have HW2 := hid hw2
      have HP2 := hid hp2
      have HPL2 := hid hplc2
      have HPL0 := hid (show Plc L.length p by rw [HN.out]; exact HE.out.2)
      have HDX := hid (fun X : List Fr => it.mono R (X ++ R) w0 (fun _ hx => List.mem_append_right _ hx) HDD.out)
      clear hb hbz hr5 hstep hp2 hkc' hplc2 hw1 hw2
      go_upto_region 3 with fail
      go_cut [9] (fun cv wx => cv = .int .u8 (b.toNat : Int) ∧ w2 = wx)
      case first =>
        go_wp2_with fail
        go_meet
        exact ⟨rfl, rfl⟩
      case rest =>
      obtain ⟨rfl, rfl⟩ := hcut
      go_step
      go_step
      go_cut [] (fun wx => ∃ F2, Hid (I p2 F2) ∧ Hid (Own (F2 ++ (Fp ++ (Fv ++ (G ++ R)))) w0 wx))
      case first =>
        have hX : Fp ++ (Fv ++ (G ++ R)) = (Fp ++ (Fv ++ G)) ++ R := by simp
        have hO3 := HO2.out
        rw [hX] at hO3
        have HO3 := hid hO3
        have HX := hid hX
        clear hO3 hX
        rcases (show r5 = 0 ∨ r5 = 1 ∨ r5 = 2 ∨ r5 = 3 ∨ r5 = 4 by omega) with rfl | rfl | rfl | rfl | rfl
        · have h6 : (b.toNat : Int) % 5 = 0 := h5
          clear h5
          go_wp2_with fail
          refine (it.first p F' _ w0 _ HPL0.out HI2.out (HDX.out _) HO3.out).mono ?_
          rintro e w3 ⟨rfl, F3, hI3, hO4⟩
          have HI3 := hid hI3
          have HO4 := hid hO4
          clear hI3 hO4
          go_wp2_with fail
          go_meet
          exact ⟨F3, by rw [← HP2.out]; exact HI3, by rw [HX.out]; exact HO4⟩
        · have h6 : (b.toNat : Int) % 5 = 1 := h5
          clear h5
          go_wp2_with fail
          refine (it.last p F' _ w0 _ HPL0.out HI2.out (HDX.out _) HO3.out).mono ?_
          rintro e w3 ⟨rfl, F3, hI3, hO4⟩
          have HI3 := hid hI3
          have HO4 := hid hO4
          clear hI3 hO4
          go_wp2_with fail
          go_meet
          exact ⟨F3, by rw [← HP2.out, ← HN.out]; exact HI3, by rw [HX.out]; exact HO4⟩
        · have h6 : (b.toNat : Int) % 5 = 2 := h5
          clear h5
          go_wp2_with fail
          refine (it.next p F' _ w0 _ HPL0.out HI2.out (HDX.out _) HO3.out).mono ?_
          rintro e w3 ⟨rfl, F3, hI3, hO4⟩
          have HI3 := hid hI3
          have HO4 := hid hO4
          clear hI3 hO4
          go_wp2_with fail
          go_meet
          exact ⟨F3, by rw [← HP2.out, ← HN.out]; exact HI3, by rw [HX.out]; exact HO4⟩
        · have h6 : (b.toNat : Int) % 5 = 3 := h5
          clear h5
          go_wp2_with fail
          refine (it.prev p F' _ w0 _ HPL0.out HI2.out (HDX.out _) HO3.out).mono ?_
          rintro e w3 ⟨rfl, F3, hI3, hO4⟩
          have HI3 := hid hI3
          have HO4 := hid hO4
          clear hI3 hO4
          go_wp2_with fail
          go_meet
          exact ⟨F3, by rw [← HP2.out]; exact HI3, by rw [HX.out]; exact HO4⟩
        · have h6 : (b.toNat : Int) % 5 = 4 := h5
          clear h5
          go_wp2_with fail
          refine (it.seek p F' _ w0 _ kA kn kc key HPL0.out HI2.out (HDX.out _) HO3.out (HK.out.right _) HKN.out hkc HKL.out).mono ?_
          rintro e w3 ⟨rfl, F3, hI3, hO4⟩
          have HI3 := hid hI3
          have HO4 := hid hO4
          clear hI3 hO4
          go_wp2_with fail
          go_meet
          exact ⟨F3, by rw [← HP2.out, ← HSE.out]; exact HI3, by rw [HX.out]; exact HO4⟩
      case rest =>
        obtain ⟨F2, HI3, HO3⟩ := hcut
        go_wp2_with fail
        have HPL3 := hid (show Plc L.length p2 by rw [HN.out]; exact HPL2.out)
        refine (it.valid p2 F2 (Fp ++ (Fv ++ (G ++ R))) w0 _ HPL3.out HI3.out (it.mono R _ w0 (fun _ hx => by simp [hx]) HDD.out) HO3.out).mono ?_
        rintro e w3 ⟨rfl, F3, hI4, hO4⟩
        have HI4 := hid hI4
        have HO4 := hid (hO4.perm (L' := Fv ++ (F3 ++ (Fp ++ (G ++ R)))) (perm_of fun _ _ z => by simp only [List.count_append, List.count_cons, List.cons_append, List.count_nil, List.nil_append, List.append_nil]; omega))
        obtain ⟨bv, hbv⟩ : ∃ bv, wval L.length p2 = bv := ⟨_, rfl⟩
        rw [hbv]
        have HBV := hid hbv
        clear hI4 hO4 HI3 HO3 hbv
        go_wp2_with (at_builtin; refine own_append rfl (.tmp 39) (.tmp 42) 53 rfl 4 (.bool false) 1 1 Tryd.underlying53 Tryd.info_bool rfl (by decide) B k d _ Fv rfl HRV.out (R := F3 ++ (Fp ++ (G ++ R))) (HO4.out.skip _) (some ⟨w3.heap.size, 0, none⟩) 1 1 [.bool bv] rfl rfl (csAt_all _ _ _) (by simp [Value.oneCell']) (by simp [maxLen]; omega) (by omega) ?_; intro B2 d2 Fv2 w4 hr4 hO5 _; have HRV2 := hid hr4; have HO5 := hid (hO5.perm (L' := F3 ++ (Fp ++ (Fv2 ++ (G ++ R)))) (perm_of fun _ _ z => by simp only [List.count_append, List.count_cons, List.cons_append, List.count_nil, List.nil_append, List.append_nil]; omega)); clear hr4 hO5)
        refine (it.valid p2 F3 (Fp ++ (Fv2 ++ (G ++ R))) w0 _ HPL3.out HI4.out (it.mono R _ w0 (fun _ hx => by simp [hx]) HDD.out) HO5.out).mono ?_
        rintro e w5 ⟨rfl, F5, hI5, hO6⟩
        have HI5 := hid hI5
        have HO6 := hid hO6
        rw [HBV.out]
        clear hI5 hO6 HI4 HO5
        have hrv : Row 4 1 B2 (k + 1) d2 (cbl ((wpl N s (calls.take (k + 1)) p0).map (wval N))) Fv2 := by
          have h9 := HRV2.out
          rw [HW1.out, List.map_append]
          have h10 := HBV.out
          rw [HN.out] at h10
          simpa [cbl, h10] using h9
        have HRV3 := hid hrv
        clear hrv
        have hwe : wend N s (calls.take (k + 1)) p0 = p2 := HW2.out
        have HWE := hid hwe
        clear hwe
        cases bv with
        | true =>
          go_wp2_with fail
          refine (pair_any it p2 F5 (Fp ++ (Fv2 ++ (G ++ R))) w0 _ HBV.out HI5.out (it.mono R _ w0 (fun _ hx => by simp [hx]) HDD.out) HO6.out).mono ?_
          rintro e w6 ⟨r, rkn, rvn, F6, G6, rfl, hrk, hrv, hkv, hok, hI6, hO7⟩
          have HO7 := hid (hO7.out.perm (L' := Fp ++ (F6 ++ (Fv2 ++ (G6 ++ (G ++ R))))) (perm_of fun _ _ z => by simp only [List.count_append, List.count_cons, List.cons_append, List.count_nil, List.nil_append, List.append_nil]; omega))
          have HRL := hid (show _ ∧ _ from ⟨hrk, hrv⟩)
          clear hO7 hrk hrv HO6 HI5
          go_wp2_with (at_builtin; refine own_append rfl (.tmp 46) (.tmp 49) 22 rfl 36 (.agg #[.slice none 0 0, .slice none 0 0]) 2 48 Tryd.underlying22 Tryd.info_ipr rfl (by decide) A k c _ Fp rfl HRP.out (R := F6 ++ (Fv2 ++ (G6 ++ (G ++ R)))) (HO7.out.skip _) (some ⟨w6.heap.size, 0, none⟩) 1 1 [.slice r.ka rkn r.kc, .slice r.va rvn r.vc] rfl rfl (csAt_all _ _ _) (by simp [Value.oneCell']) (by simp [maxLen]; omega) (by omega) ?_; intro A2 c2 Fp2 w7 hr7 hO8 _; have HRP2 := hid hr7; have HO8 := hid hO8; clear hr7 hO8)
          go_roundw
          case rel =>
            refine ⟨k + 1, A2, B2, c2, d2, l ++ [r], p2, F6, Fp2, Fv2, G6 ++ G, by go_num, by omega, rfl, rfl, hid ⟨HWE.out.symm, HPL2.out⟩, hid ?_, hid ?_, HRV3, hid fun r' hr' wb => ?_, hI6, hid (HO8.out.perm (perm_of fun _ _ z => by simp only [List.count_append, List.count_cons, List.cons_append, List.count_nil, List.nil_append, List.append_nil]; omega))⟩
            · have e1 : kvs (l ++ [r]) = kvs l ++ [(r.k, r.v)] := by simp [kvs]
              rw [e1, HKV.out, HW1.out, List.map_append, hkv.out.1, hkv.out.2]
              simp [wkv, HBV.out]
            · have h9 := HRP2.out
              rw [HRL.out.1, HRL.out.2] at h9
              rw [List.flatMap_append]
              exact h9
            · rcases List.mem_append.1 hr' with hr' | hr'
              · exact (HOK.out r' hr' wb).right G6
              · simp at hr'
                subst hr'
                exact (hok.out wb).left G
          case measure => simp [intOf]; omega
        | false =>
          have HO7 := hid (HO6.out.perm (L' := Fp ++ (F5 ++ (Fv2 ++ (G ++ R)))) (perm_of fun _ _ z => by simp only [List.count_append, List.count_cons, List.cons_append, List.count_nil, List.nil_append, List.append_nil]; omega))
          clear HO6
          go_wp2_with (at_builtin; refine own_append rfl (.tmp 51) (.tmp 53) 22 rfl 36 (.agg #[.slice none 0 0, .slice none 0 0]) 2 48 Tryd.underlying22 Tryd.info_ipr rfl (by decide) A k c _ Fp rfl HRP.out (R := F5 ++ (Fv2 ++ (G ++ R))) (HO7.out.skip _) (some ⟨w5.heap.size, 0, none⟩) 1 1 [.slice none 0 0, .slice none 0 0] rfl rfl (csAt_all _ _ _) (by simp [Value.oneCell']) (by simp [maxLen]; omega) (by omega) ?_; intro A2 c2 Fp2 w7 hr7 hO8 _; have HRP2 := hid hr7; have HO8 := hid hO8; clear hr7 hO8)
          go_roundw
          case rel =>
            refine ⟨k + 1, A2, B2, c2, d2, l ++ [⟨none, 0, [], none, 0, []⟩], p2, F5, Fp2, Fv2, G, by go_num, by omega, rfl, rfl, hid ⟨HWE.out.symm, HPL2.out⟩, hid ?_, hid ?_, HRV3, hid fun r' hr' wb => ?_, HI5, hid (HO8.out.perm (perm_of fun _ _ z => by simp only [List.count_append, List.count_cons, List.cons_append, List.count_nil, List.nil_append, List.append_nil]; omega))⟩
            · have e1 : kvs (l ++ [⟨none, 0, [], none, 0, []⟩]) = kvs l ++ [([], [])] := by simp [kvs]
              rw [e1, HKV.out, HW1.out, List.map_append]
              simp [wkv, HBV.out]
            · rw [List.flatMap_append]
              exact HRP2.out
            · rcases List.mem_append.1 hr' with hr' | hr'
              · exact HOK.out r' hr' wb
              · simp at hr'
                subst hr'
                exact fun w _ _ => ⟨BsAt.nil _ _, BsAt.nil _ _, Nat.le_refl _, Nat.le_refl _, by simp [maxLen], by simp [maxLen]⟩
          case measure => simp [intOf]; omega
    · have h4' : ¬ (k : Int) < (cn : Int) := by omega
      obtain rfl : k = cn := by omega
      go_wp2_with fail
      go_ret2
      have htk : calls.take k = calls := List.take_of_length_le (by rw [← HCN.out]; exact Nat.le_refl _)
      have h1 := HE.out
      have h2 := HKV.out
      have h3 := HRP.out
      have h4 := HRV.out
      rw [htk] at h1 h2 h4
      have hll : l.length = k := by rw [← kvs_length, h2, List.length_map, wpl_length, HCN.out]
      refine ⟨A, B, c, d, l, Fp ++ (Fv ++ G), F', p, rfl, hid ⟨hll, h2⟩, hid fun wb => ?_, hid fun wb => ?_, h3.le, h4.le, hid ⟨by rw [HN.out]; exact h1.2, HI2.out⟩, hid (HO2.out.perm (perm_of fun _ _ z => by simp only [List.count_append, List.count_cons, List.cons_append, List.count_nil, List.nil_append, List.append_nil]; omega))⟩
      · exact fun w hw0 hfr => ⟨h3.cs fun x hx => hfr x (by simp [hx]), fun r hr => HOK.out r hr wb w hw0 fun x hx => hfr x (by simp [hx])⟩
      · rw [HN.out]
        exact fun w hw0 hfr => h4.cs fun x hx => hfr x (by simp [hx])
end Go.Proofs.YtloflmcgbbbnjaaDoor
namespace Go.Proofs.YtloflmcgbbbnjaaDoor
open Go.RowKit Plain
set_option linter.all false

theorem mAt_go {m : List Pr} {key : List UInt8} {k : Nat} {r : Pr} (hk : k ≤ mAt Pr.k m key) (hx : m[k]? = some r) (hc : cmpI r.k key < 0) : k + 1 ≤ mAt Pr.k m key := by
  rcases Nat.lt_or_ge k (mAt Pr.k m key) with h | h
  · exact h
  · obtain rfl : k = mAt Pr.k m key := by omega
    have := mAt_at Pr.k m key r hx; omega
theorem mAt_stop {m : List Pr} {key : List UInt8} {k : Nat} {r : Pr} (hk : k ≤ mAt Pr.k m key) (hx : m[k]? = some r) (hc : ¬ cmpI r.k key < 0) : mAt Pr.k m key = k ∧ mIs Pr.k m key = decide (cmpI r.k key = 0) := by
  have e : mAt Pr.k m key = k := by
    rcases Nat.lt_or_ge k (mAt Pr.k m key) with h | h
    · exact absurd (mAt_below Pr.k m key k r hx h) hc
    · omega
  exact ⟨e, by unfold mIs; rw [e, hx]⟩
theorem mAt_end {m : List Pr} {key : List UInt8} {k : Nat} (hk : k ≤ mAt Pr.k m key) (hl : m.length ≤ k) : mAt Pr.k m key = k ∧ mIs Pr.k m key = false := by
  have h := mAt_le Pr.k m key
  have e : mAt Pr.k m key = k := by omega
  exact ⟨e, by unfold mIs; rw [e, List.getElem?_eq_none hl]⟩
set_option maxHeartbeats 1600000 in
theorem mapAt (A kA : Option Addr) (c kc : Nat) (m : List Pr) (key : List UInt8) (w : World) (hp : Prs w A m) (hk : BsAt w kA key) (hkl : key.length ≤ 140737488351232) (hml : ∀ r ∈ m, r.k.length ≤ 140737488351232) (hl : m.length ≤ 1099511627776) :
    Calls Tryd.prog 25 #[.slice A m.length c, .slice kA key.length kc] w fun e w' => e = .returned (.tuple #[.int .i64 (mAt Pr.k m key), .bool (mIs Pr.k m key)]) ∧ Dr w w' := by
  have HP := hid hp
  have HK := hid hk
  have HM := hid hml
  clear hp hk hml
  go_enter Tryd.func25, Tryd.ntmps25
  go_wp2_with fail
  go_loopw [6] (fun i wr => ∃ k : Nat, i = .int .i64 k ∧ k ≤ m.length ∧ Hid (k ≤ mAt Pr.k m key) ∧ Dr w wr) (fun i _ => m.length - (intOf i).toNat)
  case atStart => exact ⟨0, rfl, Nat.zero_le _, hid (Nat.zero_le _), Dr.refl _⟩
  case round =>
    obtain ⟨k, rfl, hkl2, HKA, hdr⟩ := hrel
    by_cases h1 : k < m.length
    · have hx : m[k]? = some m[k] := List.getElem?_eq_getElem h1
      have hmem := List.getElem_mem h1
      generalize m[k] = r at hx hmem
      have t1 : decide ((k : Int) < (m.length : Int)) = true := decide_eq_true (by omega)
      have hp' := HP.out.keep0 hdr.only
      obtain ⟨g, o, rfl, p0, p1⟩ := hp'.at_ hx
      have hrk := (hp'.ok r hmem).hk
      have hkr := HK.out.dr hdr
      have hrl := HM.out r hmem
      have HD := hid hdr
      have HX := hid hx
      clear hdr hx hmem hp' p1
      by_cases hc : cmpI r.k key < 0
      · have HC := hid hc
        have t2 : decide (cmpI r.k key < 0) = true := decide_eq_true hc
        go_wp2_with fail
        refine (compare_any _ _ _ _ _ _ _ hrk hkr hrl hkl).mono ?_
        rintro e w2 ⟨rfl, hd2⟩
        have HD2 := hid (HD.out.trans hd2)
        clear hd2 hrk hkr p0
        go_wp2_with fail
        go_roundw
        case rel => exact ⟨k + 1, by go_num, by omega, hid (mAt_go HKA.out HX.out HC.out), HD2.out⟩
        case measure => simp [intOf]; omega
      · have hst := mAt_stop HKA.out HX.out hc
        have HST := hid hst
        have t2 : decide (cmpI r.k key < 0) = false := decide_eq_false hc
        clear hst
        go_wp2_with fail
        refine (compare_any _ _ _ _ _ _ _ hrk hkr hrl hkl).mono ?_
        rintro e w2 ⟨rfl, hd2⟩
        have p0' := (hd2.only.cell (p := ⟨g, o + k * 2, none⟩) (cell_lt p0) (by simp)).trans p0
        have hrk2 := hrk.dr hd2
        have hkr2 := hkr.dr hd2
        have HD2 := hid (HD.out.trans hd2)
        clear hd2 hrk hkr p0
        go_wp2_with fail
        refine (compare_any _ _ _ _ _ _ _ hrk2 hkr2 hrl hkl).mono ?_
        rintro e w3 ⟨rfl, hd3⟩
        have HD3 := hid (HD2.out.trans hd3)
        clear hd3 hrk2 hkr2 p0'
        go_wp2_with fail
        go_ret2
        refine ⟨?_, HD3.out⟩
        rw [HST.out.1, HST.out.2]
        simp
        rw [Bool.eq_iff_iff]; simp
    · have hst := mAt_end HKA.out (by omega)
      have HST := hid hst
      have t1 : decide ((k : Int) < (m.length : Int)) = false := decide_eq_false (by omega)
      have HD := hid hdr
      clear hst hdr
      go_wp2_with fail
      go_ret2
      refine ⟨?_, HD.out⟩
      rw [HST.out.1, HST.out.2]
      rfl
end Go.Proofs.YtloflmcgbbbnjaaDoor
namespace Go.Proofs.YtloflmcgbbbnjaaDoor
open Go.RowKit Plain
set_option linter.all false

theorem Tryd.info_int : (Tryd.prog.info? 3).map (fun i => (i.zero, i.size, i.bytes)) = some (some (.int .i64 0), 1, 8) := by kernel_rfl
def ci (l : List Int) : List Value := l.map fun x => .int .i64 x
theorem ci_length (l : List Int) : (ci l).length = l.length := by simp [ci]
def WalkOut (N M : Nat) (ps : List Int) (w : World) (e : Ending) (w' : World) : Prop :=
  ∃ A' c' F', e = .returned (.slice A' M c') ∧ Hid (Row 3 1 A' M c' (ci (ps.map (wat N))) F') ∧ Hid (Own F' w w')
set_option maxHeartbeats 3200000 in
set_option maxRecDepth 100000 in
theorem specWalk (A cA kA : Option Addr) (c cc kc : Nat) (m : List Pr) (calls key : List UInt8) (w : World) (hp : Prs w A m) (hcs : BsAt w cA calls) (hk : BsAt w kA key) (hkl : key.length ≤ 140737488351232) (hml : ∀ r ∈ m, r.k.length ≤ 140737488351232) (hl : m.length ≤ 1099511627776) (hcl : calls.length ≤ 1099511627776) :
    Calls Tryd.prog 53 #[.slice A m.length c, .slice cA calls.length cc, .slice kA key.length kc] w (WalkOut m.length calls.length (wpl m.length (mAt Pr.k m key) calls (-1)) w) := by
  have HP := hid hp
  have HK := hid hk
  have HC := hid hcs
  have HM := hid hml
  have HOS := hid (Own.start w)
  have hs := mAt_le Pr.k m key
  obtain ⟨s, hse⟩ : ∃ s, mAt Pr.k m key = s := ⟨_, rfl⟩
  rw [hse] at hs ⊢
  have HSE := hid hse
  have hs2 : 0 ≤ (s : Int) ∧ (s : Int) ≤ (m.length : Int) := by omega
  have HS2 := hid hs2
  obtain ⟨N, hN⟩ : ∃ N, m.length = N := ⟨_, rfl⟩
  obtain ⟨M, hM⟩ : ∃ M, calls.length = M := ⟨_, rfl⟩
  rw [hN] at hl HS2 ⊢
  rw [hM] at hcl ⊢
  have HN := hid hN
  have HMM := hid hM
  clear hp hk hml hcs hs hs2 hse hN hM
  go_enter Tryd.func53, Tryd.ntmps53
  go_wp2_with fail
  go_loopw [7, 8, 13] (fun pv v i wr => ∃ (k n : Nat) (p : Int) (A' : Option Addr) (c' : Nat) (F' : List Fr), i = .int .i64 k ∧ k ≤ M ∧ pv = .int .i64 p ∧ v = .slice A' n c' ∧ k = n ∧ Hid (p = wend N s (calls.take k) (-1)) ∧ Hid (Row 3 1 A' n c' (ci ((wpl N s (calls.take k) (-1)).map (wat N))) F') ∧ Hid (Own F' w wr)) (fun _ _ i _ => M - (intOf i).toNat)
  case atStart => exact ⟨0, 0, -1, none, 0, [], rfl, Nat.zero_le _, rfl, rfl, rfl, hid rfl, hid (Row.nil _ _), HOS⟩
  case round =>
    obtain ⟨k, n, p, A', c', F', rfl, hk, rfl, rfl, rfl, HE, HR, HO⟩ := hrel
    obtain ⟨w2, rfl⟩ : ∃ w2, w2 = wr := ⟨_, rfl⟩
    by_cases h4 : k < M
    · have h4' : (k : Int) < (M : Int) := by omega
      have hkc : k < calls.length := by rw [HMM.out]; exact h4
      obtain ⟨g, o, rfl, hc⟩ := HC.out.keep0 HO.out.only k hkc
      obtain ⟨b, hb⟩ : ∃ b, calls[k] = b := ⟨_, rfl⟩
      have hbz : bz calls k = (b.toNat : Int) := by rw [← hb]; simp [bz, at_, List.getElem?_eq_getElem hkc]
      rw [hbz] at hc
      have h5 : (b.toNat : Int) % 5 = ((b.toNat % 5 : Nat) : Int) := by omega
      have hm5 : b.toNat % 5 < 5 := Nat.mod_lt _ (by omega)
      obtain ⟨r5, hr5⟩ : ∃ r5, b.toNat % 5 = r5 := ⟨_, rfl⟩
      rw [hr5] at h5 hm5
      have hplc : Plc N p := by
        rw [HE.out]
        exact wend_plc HS2.out _ ⟨by omega, by omega⟩
      have hstep : calls.take (k + 1) = calls.take k ++ [b] := by rw [← hb]; exact List.take_succ_eq_append_getElem hkc
      have HST := hid hstep
      have HR5 := hid hr5
      obtain ⟨p2, hp2⟩ : ∃ p2, wst N s r5 p = p2 := ⟨_, rfl⟩
      have hplc2 : Plc N p2 := by rw [← hp2]; exact wst_plc HS2.out _ hplc
      have HP2 := hid hp2
      clear hb hbz hr5 hstep hp2 hkc
      have hq0 : (N : Int) ≤ 1099511627776 := by omega
      have hpl1 := hplc.1
      have hpl2 := hplc.2
      go_upto_region 5 with fail
      go_cut [10] (fun cv wx => cv = .int .u8 (b.toNat : Int) ∧ w2 = wx)
      case first =>
        go_wp2_with fail
        go_meet
        exact ⟨rfl, rfl⟩
      case rest =>
      obtain ⟨rfl, rfl⟩ := hcut
      go_step
      go_step
      go_cut [7] (fun pv wx => pv = .int .i64 p2 ∧ Hid (Dr w2 wx))
      case first =>
        rcases (show r5 = 0 ∨ r5 = 1 ∨ r5 = 2 ∨ r5 = 3 ∨ r5 = 4 by omega) with rfl | rfl | rfl | rfl | rfl
        · have h6 : (b.toNat : Int) % 5 = 0 := h5
          clear h5
          go_wp2_with fail
          go_meet
          exact ⟨by rw [← HP2.out]; rfl, hid (Dr.refl _)⟩
        · have h6 : (b.toNat : Int) % 5 = 1 := h5
          clear h5
          have e1 : IntKind.i64.wrap ((N : Int) - 1) = (N : Int) - 1 := i64_id (by omega) (by omega)
          go_wp2_with fail
          go_meet
          exact ⟨by rw [← HP2.out]; rfl, hid (Dr.refl _)⟩
        · have h6 : (b.toNat : Int) % 5 = 2 := h5
          clear h5
          have e1 : IntKind.i64.wrap (p + 1) = p + 1 := i64_id (by omega) (by omega)
          by_cases h7 : p + 1 ≤ (N : Int)
          · have h8 : ¬ (N : Int) < p + 1 := by omega
            have h9 : min (p + 1) (N : Int) = p + 1 := by omega
            go_wp2_with fail
            go_meet
            exact ⟨by rw [← HP2.out]; exact congrArg (Value.int .i64) h9.symm, hid (Dr.refl _)⟩
          · have h8 : (N : Int) < p + 1 := by omega
            have h9 : min (p + 1) (N : Int) = N := by omega
            go_wp2_with fail
            go_meet
            exact ⟨by rw [← HP2.out]; exact congrArg (Value.int .i64) h9.symm, hid (Dr.refl _)⟩
        · have h6 : (b.toNat : Int) % 5 = 3 := h5
          clear h5
          have e1 : IntKind.i64.wrap (p - 1) = p - 1 := i64_id (by omega) (by omega)
          by_cases h7 : -1 ≤ p - 1
          · have h8 : ¬ p - 1 < -1 := by omega
            have h9 : max (p - 1) (-1) = p - 1 := by omega
            go_wp2_with fail
            go_meet
            exact ⟨by rw [← HP2.out]; exact congrArg (Value.int .i64) h9.symm, hid (Dr.refl _)⟩
          · have h8 : p - 1 < -1 := by omega
            have h9 : max (p - 1) (-1) = -1 := by omega
            go_wp2_with fail
            go_meet
            exact ⟨by rw [← HP2.out]; exact congrArg (Value.int .i64) h9.symm, hid (Dr.refl _)⟩
        · have h6 : (b.toNat : Int) % 5 = 4 := h5
          clear h5
          have hat := mapAt A kA c kc m key w2 (HP.out.keep0 HO.out.only) (HK.out.keep0 HO.out.only) hkl HM.out (by rw [HN.out]; omega)
          rw [HN.out, HSE.out] at hat
          go_wp2_with fail
          refine hat.mono ?_
          rintro e w3 ⟨rfl, hd3⟩
          have HD3 := hid hd3
          clear hd3 hat
          go_wp2_with fail
          go_meet
          exact ⟨by rw [← HP2.out]; rfl, HD3⟩
      case rest =>
        obtain ⟨rfl, HD⟩ := hcut
        have HO3 := hid (HO.out.dr HD.out)
        obtain ⟨hw1, hw2⟩ := wpl_snoc N s (calls.take k) b (-1)
        rw [HR5.out, ← HE.out, HP2.out] at hw1 hw2
        rw [← HST.out] at hw1 hw2
        have HW1 := hid hw1
        have HW2 := hid hw2
        have q1 := hplc2.1
        have q2 := hplc2.2
        clear hw1 hw2 HO HD
        cases hv : wval N p2 with
        | true =>
          obtain ⟨v1, v2⟩ := wval_iff.1 hv
          have d1 : decide (p2 < 0) = false := decide_eq_false (by omega)
          have d2 : decide ((N : Int) ≤ p2) = false := decide_eq_false (by omega)
          have HV := hid hv
          clear hv
          have hone : Own (F' ++ []) w (wc.alloc (.cells #[.int .i64 p2] 3)) := (HO3.out.skip _).perm (by simp)
          go_wp2_with (at_builtin; refine own_append rfl (.tmp 57) (.tmp 59) 60 rfl 3 (.int .i64 0) 1 8 Tryd.underlying60 Tryd.info_int rfl (by decide) A' k c' _ F' rfl HR.out (R := []) hone (some ⟨wc.heap.size, 0, none⟩) 1 1 [.int .i64 p2] rfl rfl (csAt_new _ _ _) (by simp [Value.oneCell']) (by simp [maxLen]; omega) (by omega) ?_; intro A2 c2 F2 w5 hr2 hO5 _; have HR2 := hid hr2; have HO5 := hid hO5; clear hr2 hO5)
          go_roundw
          case rel =>
            refine ⟨k + 1, k + 1, p2, A2, c2, F2, by go_num, by omega, rfl, rfl, rfl, hid HW2.out.symm, hid ?_, hid (by have := HO5.out; rwa [List.append_nil] at this)⟩
            have h9 := HR2.out
            rw [HW1.out, List.map_append]
            simpa [ci, wat, HV.out] using h9
          case measure => simp [intOf]; omega
        | false =>
          have hor : (decide (p2 < 0) || decide ((N : Int) ≤ p2)) = true := by
            rcases wval_not.1 hv with h | h <;> simp [h]
          have HV := hid hv
          clear hv
          have hone : Own (F' ++ []) w (wc.alloc (.cells #[.int .i64 (-1)] 3)) := (HO3.out.skip _).perm (by simp)
          go_wp2_with (at_builtin; refine own_append rfl (.tmp 54) (.tmp 55) 60 rfl 3 (.int .i64 0) 1 8 Tryd.underlying60 Tryd.info_int rfl (by decide) A' k c' _ F' rfl HR.out (R := []) hone (some ⟨wc.heap.size, 0, none⟩) 1 1 [.int .i64 (-1)] rfl rfl (csAt_new _ _ _) (by simp [Value.oneCell']) (by simp [maxLen]; omega) (by omega) ?_; intro A2 c2 F2 w5 hr2 hO5 _; have HR2 := hid hr2; have HO5 := hid hO5; clear hr2 hO5)
          all_goals (
            go_roundw
            case rel =>
              refine ⟨k + 1, k + 1, p2, A2, c2, F2, by go_num, by omega, rfl, rfl, rfl, hid HW2.out.symm, hid ?_, hid (by have := HO5.out; rwa [List.append_nil] at this)⟩
              have h9 := HR2.out
              rw [HW1.out, List.map_append]
              simpa [ci, wat, HV.out] using h9
            case measure => simp [intOf]; omega)
    · have h4' : ¬ (k : Int) < (M : Int) := by omega
      obtain rfl : k = M := by omega
      go_wp2_with fail
      go_ret
      have h9 := HR.out
      rw [List.take_of_length_le (by rw [HMM.out]; omega)] at h9
      exact ⟨A', c', F', rfl, hid h9, HO⟩
end Go.Proofs.YtloflmcgbbbnjaaDoor
namespace Go.Proofs.YtloflmcgbbbnjaaDoor
open Go Go.RowKit
set_option linter.all false

section
variable {P : Program} {md : Region.Mode} {ops : Array Oper} {Q : Exit → Act → World → Prop} {S : World → Prop} {T : List Nat}
def AnyT (P : Program) (md : Region.Mode) (ops : Array Oper) (Q : Exit → Act → World → Prop) (S : World → Prop) (T : List Nat) : Nat → Array Bool → Act → World → Prop
  | 0, listed, a, w => Region.ready md ops listed = [] ∧ Q .normal a w
  | n + 1, listed, a, w => (Region.ready md ops listed = [] → Q .normal a w) ∧
    ∀ i ∈ Region.ready md ops listed, wpOp P ops Q i (fun a' w' => (i ∉ T → S w') ∧ AnyT P md ops Q S T n (listed.setIfInBounds i true) a' w') a w
theorem AnyT.any : ∀ (n : Nat) (listed : Array Bool) (a : Act) (w : World), AnyT P md ops Q S T n listed a w → wpAny P md ops Q n listed a w
  | 0, _, _, _, h => h
  | n + 1, _, _, _, h => ⟨h.1, fun i hi => wpOp_mono (fun _ _ h' => AnyT.any n _ _ _ h'.2) (h.2 i hi)⟩
/-- Another S, a stronger one. -/
theorem AnyT.strong {S' : World → Prop} (h : ∀ w, S' w → S w) : ∀ (n : Nat) (listed : Array Bool) (a : Act) (w : World), AnyT P md ops Q S' T n listed a w → AnyT P md ops Q S T n listed a w
  | 0, _, _, _, H => H
  | n + 1, _, _, _, H => ⟨H.1, fun i hi => wpOp_mono (fun _ _ h' => ⟨fun hn => h _ (h'.1 hn), AnyT.strong h n _ _ _ h'.2⟩) (H.2 i hi)⟩
theorem AnyT.first {i : Nat} {oi : Oper} {v : Value} (hi : ops[i]? = some oi) (hsel : ∀ (j : Nat) (o : Oper) cs b, ops[j]? = some o → o.op ≠ .select cs b) (hQ : ∀ c a w, Q (.panic c) (a.put oi.dst v) w → Q (.panic c) a w)
    (hT : ∀ j ∈ T, ∀ oj, ops[j]? = some oj → ∃ e ∈ oj.after, Region.binds md e = true ∧ e.on = i) : ∀ (n : Nat) (listed : Array Bool) (a : Act) (w : World),
      (∀ j oj, ops[j]? = some oj → j ≠ i → listed.getD j true = false → (∀ e ∈ oj.after, Region.binds md e = true → e.on ≠ i) → oi.apart ops oj = true) →
      i ∈ Region.ready md ops listed → YieldsIf P ops S oi v a → S w → AnyT P md ops Q S T n (listed.setIfInBounds i true) (a.put oi.dst v) w → AnyT P md ops Q S T (n + 1) listed a w := by
  intro n
  induction n with
  | zero =>
    intro listed a w _ hr hy hS H
    refine ⟨fun h => (by rw [h] at hr; cases hr), fun j hj => ?_⟩
    by_cases e : j = i
    · subst e; exact hy.wpOp hi hS ⟨fun _ => hS, H⟩
    · have h := ready_mono hj e
      rw [H.1] at h
      cases h
  | succ n ih =>
    intro listed a w hfree hr hy hS H
    refine ⟨fun h => (by rw [h] at hr; cases hr), fun j hj => ?_⟩
    by_cases e : j = i
    · subst e; exact hy.wpOp hi hS ⟨fun _ => hS, H⟩
    · obtain ⟨hun, oj, hoj, hall⟩ := mem_ready.1 hj
      -- what may come up now does not wait for i
      have hwait : ∀ x ∈ oj.after, Region.binds md x = true → x.on ≠ i := fun x hx hb hon => by
        have a1 := hall x hx hb
        have a2 := (mem_ready.1 hr).1
        rw [hon] at a1
        rcases Nat.lt_or_ge i listed.size with hl | hl
        · simp [hl] at a1 a2; rw [a2] at a1; cases a1
        · simp [Array.getElem?_eq_none hl] at a1
      have hjT : j ∉ T := fun hm => by
        obtain ⟨x, hx, hb, hon⟩ := hT j hm oj hoj
        exact hwait x hx hb hon
      have hstep := wpOp_putIf hoj (hfree j oj hoj e hun hwait) (fun cs b => hsel i oi cs b hi) (fun cs b => hsel j oj cs b hoj) hQ hy (H.2 j (ready_mono hj e))
      refine wpOp_mono (fun a' w' h3 => ⟨h3.2.1, ih (listed.setIfInBounds j true) a' w' (fun k ok hk hki hun' hno => hfree k ok hk hki ?_ hno) (ready_mono hr (Ne.symm e)) h3.1 (h3.2.1 hjT) ?_⟩) hstep
      · by_cases hjk : j = k
        · subst hjk; exact hun
        · rw [getD_set_ne true hjk] at hun'; exact hun'
      · rw [Array.setIfInBounds_comm _ _ e]
        exact h3.2.2
/-- Each of T waits for number i. -/
def waits (md : Region.Mode) (ops : Array Oper) (T : List Nat) (i : Nat) : Bool := T.all fun j => match ops[j]? with | some o => o.after.any (fun e => Region.binds md e && e.on == i) | none => true
theorem waits_spec {i : Nat} (h : waits md ops T i = true) : ∀ j ∈ T, ∀ oj, ops[j]? = some oj → ∃ e ∈ oj.after, Region.binds md e = true ∧ e.on = i := fun j hj oj ho => by
  have h1 := List.all_eq_true.1 h j hj
  rw [ho] at h1
  obtain ⟨e, he, hb⟩ := Array.any_eq_true'.1 h1
  rw [Bool.and_eq_true, beq_iff_eq] at hb
  exact ⟨e, he, hb.1, hb.2⟩
theorem AnyT.take {i : Nat} {oi : Oper} {v : Value} {n : Nat} {listed : Array Bool} {a : Act} {w : World} (hi : ops[i]? = some oi) (hs : Region.noSelect ops = true) (hf : Region.free md ops listed i = true)
    (hr : (Region.ready md ops listed).contains i = true) (hT : waits md ops T i = true) (hQ : ∀ c a w, Q (.panic c) (a.put oi.dst v) w → Q (.panic c) a w) (hy : YieldsIf P ops S oi v a) (hS : S w)
    (h : AnyT P md ops Q S T n (listed.setIfInBounds i true) (a.put oi.dst v) w) : AnyT P md ops Q S T (n + 1) listed a w :=
  AnyT.first hi (Region.noSelect_spec hs) hQ (waits_spec hT) n listed a w (Region.free_spec hi hf) (by simpa using hr) hy hS h
def AllT (P : Program) (md : Region.Mode) (ops : Array Oper) (Q : Exit → Act → World → Prop) (S : World → Prop) (T : List Nat) (n : Nat) (listed : Array Bool) (a : Act) (w : World) (rs : List Nat) : Prop :=
  ∀ i ∈ rs, wpOp P ops Q i (fun a' w' => (i ∉ T → S w') ∧ AnyT P md ops Q S T n (listed.setIfInBounds i true) a' w') a w
theorem AllT.nil {n : Nat} {listed : Array Bool} {a : Act} {w : World} : AllT P md ops Q S T n listed a w [] := fun _ h => by cases h
theorem AllT.cons {n : Nat} {listed : Array Bool} {a : Act} {w : World} {i : Nat} {o : Oper} {rs : List Nat} (ho : ops[i]? = some o)
    (h : ∀ K' : Act → World → Prop, Shut (∀ a w, S w → (S w → AnyT P md ops Q S T n (listed.setIfInBounds i true) a w) → K' a w) → if Region.wanted o (yielded ops a.tmps) = true then Oper.wp P o a w K' Q else K' (a.put o.dst undef) w)
    (hs : AllT P md ops Q S T n listed a w rs) : AllT P md ops Q S T n listed a w (i :: rs) := fun j hj => by
  rcases List.mem_cons.1 hj with rfl | hj
  · exact wpOp_step ho fun K' hK => h K' fun a w hS hW => hK a w ⟨fun _ => hS, hW hS⟩
  · exact hs j hj
/-- A late one: nothing is held behind it. -/
theorem AllT.late {n : Nat} {listed : Array Bool} {a : Act} {w : World} {i : Nat} {o : Oper} (ho : ops[i]? = some o) (hi : T.contains i = true)
    (h : ∀ K' : Act → World → Prop, Shut (∀ a w, AnyT P md ops Q S T n (listed.setIfInBounds i true) a w → K' a w) → if Region.wanted o (yielded ops a.tmps) = true then Oper.wp P o a w K' Q else K' (a.put o.dst undef) w) : AllT P md ops Q S T n listed a w [i] := fun j hj => by
  obtain rfl := List.mem_singleton.1 hj
  exact wpOp_step ho fun K' hK => h K' fun a w hW => hK a w ⟨fun hn => absurd (by simpa using hi) hn, hW⟩
theorem AnyT.ready {rs : List Nat} {n : Nat} {listed : Array Bool} {a : Act} {w : World} (hr : Region.ready md ops listed = rs) (hne : rs ≠ []) (h : AllT P md ops Q S T n listed a w rs) : AnyT P md ops Q S T (n + 1) listed a w :=
  ⟨fun h0 => absurd (hr ▸ h0) hne, hr ▸ h⟩
theorem AnyT.done {listed : Array Bool} {a : Act} {w : World} (hr : Region.ready md ops listed = []) (h : Q .normal a w) : ∀ n, AnyT P md ops Q S T n listed a w
  | 0 => ⟨hr, h⟩
  | n + 1 => ⟨fun _ => h, by rw [hr]; intro i hi; cases hi⟩
theorem AnyT.start {id : Nat} {a : Act} {w : World} (hm : P.follows .mixedOrders = true) (hS : S w.drew) (h : S w.drew → AnyT P .any ops Q S T ops.size (Array.replicate ops.size false) a w.drew) : (Code.region id ops true).wp P Q a w :=
  wp_region_any hm (AnyT.any _ _ _ _ (h hS))
end
end Go.Proofs.YtloflmcgbbbnjaaDoor
namespace Go.Proofs.YtloflmcgbbbnjaaDoor
open Go.RowKit Plain
set_option linter.all false

theorem runStr {w : World} {A : Option Addr} {k : List UInt8} (h : BsAt w A k) (c n : Nat) (hn : n = k.length) : Sem.run Tryd.prog (convert 25 9 (Value.slice A n c)) w = Result.ok (Value.string (bstr k)) w := by
  subst hn
  exact run_str (P := Tryd.prog) 25 9 5 c Tryd.underlying25 Tryd.underlying5 Tryd.underlying9 h
set_option maxHeartbeats 3200000 in
set_option maxRecDepth 100000 in
theorem equal_true (A B : Option Addr) (c d n m : Nat) (l l' : List Pr) (w : World) (h : Prs w A l) (h' : Prs w B l') (hn : n = l.length) (hm : m = l'.length) (hk : kvs l = kvs l') (hl : l.length ≤ 1099511627776) :
    Calls Tryd.prog 22 #[.slice A n c, .slice B m d] w fun e w' => e = .returned (.bool true) ∧ Dr w w' := by
  have hmn : m = n := by rw [hn, hm, ← kvs_length, ← kvs_length, hk]
  subst hmn
  have HH := hid h
  have HH' := hid h'
  have HN := hid hn
  have HM := hid hm
  have HK := hid hk
  have hnl : m ≤ 1099511627776 := by omega
  clear h h' hn hm hk hl
  go_enter Tryd.func22, Tryd.ntmps22
  go_wp2_with fail
  go_loopw [13] (fun i wr => ∃ k : Nat, i = .int .i64 k ∧ k ≤ m ∧ Hid (Dr w wr)) (fun i _ => m - (intOf i).toNat)
  case atStart => exact ⟨0, rfl, Nat.zero_le _, hid (Dr.refl _)⟩
  case round =>
    obtain ⟨k, rfl, hk2, HD⟩ := hrel
    by_cases h4 : k < m
    · have h4' : (k : Int) < (m : Int) := by omega
      have hx : l[k]? = some (l[k]'(by have := HN.out; omega)) := List.getElem?_eq_getElem _
      have hmx : l[k]'(by have := HN.out; omega) ∈ l := List.getElem_mem _
      generalize l[k]'(by have := HN.out; omega) = x at hx hmx
      have hy : l'[k]? = some (l'[k]'(by have := HM.out; omega)) := List.getElem?_eq_getElem _
      have hmy : l'[k]'(by have := HM.out; omega) ∈ l' := List.getElem_mem _
      generalize l'[k]'(by have := HM.out; omega) = y at hy hmy
      have ek : x.k = y.k := by rw [← key_kvs hx, ← key_kvs hy, HK.out]
      have ev : x.v = y.v := by rw [← val_kvs hx, ← val_kvs hy, HK.out]
      have hp := HH.out.keep0 HD.out.only
      have hp' := HH'.out.keep0 HD.out.only
      obtain ⟨g, o, rfl, p0, p1⟩ := hp.at_ hx
      obtain ⟨g', o', rfl, p2, p3⟩ := hp'.at_ hy
      have ox := hp.ok x hmx
      have oy := hp'.ok y hmy
      rw [ek] at p0
      rw [ev] at p1
      have hdd : Only [] wr wr.drew := (Only.refl [] wr).drew
      have f1 := runStr ((ek ▸ ox.hk : BsAt wr x.ka y.k).keep0 hdd) x.kc y.k.length rfl
      have f2 := runStr (oy.hk.keep0 hdd) y.kc y.k.length rfl
      have f3 := runStr ((ev ▸ ox.hv : BsAt wr x.va y.v).keep0 hdd) x.vc y.v.length rfl
      have f4 := runStr (oy.hv.keep0 hdd) y.vc y.v.length rfl
      clear hdd
      clear hx hmx hy hmy ek ev hp hp' ox oy
      go_wp2_with fail
      refine AnyT.start (S := fun w' => w'.cell? ⟨g, o + k * 2, none⟩ = some (.slice x.ka y.k.length x.kc) ∧ w'.cell? ⟨g, o + k * 2 + 1, none⟩ = some (.slice x.va y.v.length x.vc) ∧ w'.cell? ⟨g', o' + k * 2, none⟩ = some (.slice y.ka y.k.length y.kc) ∧ w'.cell? ⟨g', o' + k * 2 + 1, none⟩ = some (.slice y.va y.v.length y.vc) ∧ Sem.run Tryd.prog (convert 25 9 (Value.slice x.ka y.k.length x.kc)) w' = Result.ok (Value.string (bstr y.k)) w' ∧ Sem.run Tryd.prog (convert 25 9 (Value.slice y.ka y.k.length y.kc)) w' = Result.ok (Value.string (bstr y.k)) w' ∧ Sem.run Tryd.prog (convert 25 9 (Value.slice x.va y.v.length x.vc)) w' = Result.ok (Value.string (bstr y.v)) w' ∧ Sem.run Tryd.prog (convert 25 9 (Value.slice y.va y.v.length y.vc)) w' = Result.ok (Value.string (bstr y.v)) w') (T := []) (by kernel_rfl) (⟨p0, p1, p2, p3, f1, f2, f3, f4⟩) (fun hHeld => ?_)
      refine AnyT.take (i := 0) (v := ?_) (by simp only [List.getElem?_toArray, List.getElem?_cons_succ, List.getElem?_cons_zero]; rfl) (by kernel_rfl) (by kernel_rfl) (by kernel_rfl) (by kernel_rfl) (by intro _ _ _ h; exact h) (Or.inl ⟨by rfl, fun w hSw => ?_⟩) hHeld ?_
      rotate_left
      · ((try dsimp only at hSw); go_simp; first | done | with_reducible rfl | rfl)
      try simp only [Act.put, List.setIfInBounds_toArray, List.set_cons_zero, List.set_cons_succ]
      refine AnyT.take (i := 1) (v := ?_) (by simp only [List.getElem?_toArray, List.getElem?_cons_succ, List.getElem?_cons_zero]; rfl) (by kernel_rfl) (by kernel_rfl) (by kernel_rfl) (by kernel_rfl) (by intro _ _ _ h; exact h) (Or.inl ⟨by rfl, fun w hSw => ?_⟩) hHeld ?_
      rotate_left
      · ((try dsimp only at hSw); go_simp; first | done | with_reducible rfl | rfl)
      try simp only [Act.put, List.setIfInBounds_toArray, List.set_cons_zero, List.set_cons_succ]
      refine AnyT.take (i := 2) (v := ?_) (by simp only [List.getElem?_toArray, List.getElem?_cons_succ, List.getElem?_cons_zero]; rfl) (by kernel_rfl) (by kernel_rfl) (by kernel_rfl) (by kernel_rfl) (by intro _ _ _ h; exact h) (Or.inl ⟨by rfl, fun w hSw => ?_⟩) hHeld ?_
      rotate_left
      · ((try dsimp only at hSw); go_simp; first | done | with_reducible rfl | rfl)
      try simp only [Act.put, List.setIfInBounds_toArray, List.set_cons_zero, List.set_cons_succ]
      refine AnyT.take (i := 3) (v := ?_) (by simp only [List.getElem?_toArray, List.getElem?_cons_succ, List.getElem?_cons_zero]; rfl) (by kernel_rfl) (by kernel_rfl) (by kernel_rfl) (by kernel_rfl) (by intro _ _ _ h; exact h) (Or.inl ⟨by rfl, fun w hSw => ?_⟩) hHeld ?_
      rotate_left
      · ((try dsimp only at hSw); go_simp; first | done | with_reducible rfl | rfl)
      try simp only [Act.put, List.setIfInBounds_toArray, List.set_cons_zero, List.set_cons_succ]
      refine AnyT.take (i := 4) (v := ?_) (by simp only [List.getElem?_toArray, List.getElem?_cons_succ, List.getElem?_cons_zero]; rfl) (by kernel_rfl) (by kernel_rfl) (by kernel_rfl) (by kernel_rfl) (by intro _ _ _ h; exact h) (Or.inl ⟨by rfl, fun w hSw => ?_⟩) hHeld ?_
      rotate_left
      · ((try dsimp only at hSw); go_simp; first | done | with_reducible rfl | rfl)
      try simp only [Act.put, List.setIfInBounds_toArray, List.set_cons_zero, List.set_cons_succ]
      refine AnyT.take (i := 5) (v := ?_) (by simp only [List.getElem?_toArray, List.getElem?_cons_succ, List.getElem?_cons_zero]; rfl) (by kernel_rfl) (by kernel_rfl) (by kernel_rfl) (by kernel_rfl) (by intro _ _ _ h; exact h) (Or.inl ⟨by rfl, fun w hSw => ?_⟩) hHeld ?_
      rotate_left
      · ((try dsimp only at hSw); go_simp; first | done | with_reducible rfl | rfl)
      try simp only [Act.put, List.setIfInBounds_toArray, List.set_cons_zero, List.set_cons_succ]
      refine AnyT.take (i := 6) (v := ?_) (by simp only [List.getElem?_toArray, List.getElem?_cons_succ, List.getElem?_cons_zero]; rfl) (by kernel_rfl) (by kernel_rfl) (by kernel_rfl) (by kernel_rfl) (by intro _ _ _ h; exact h) (Or.inl ⟨by rfl, fun w hSw => ?_⟩) hHeld ?_
      rotate_left
      · ((try dsimp only at hSw); go_simp; first | done | with_reducible rfl | rfl)
      try simp only [Act.put, List.setIfInBounds_toArray, List.set_cons_zero, List.set_cons_succ]
      refine AnyT.take (i := 7) (v := ?_) (by simp only [List.getElem?_toArray, List.getElem?_cons_succ, List.getElem?_cons_zero]; rfl) (by kernel_rfl) (by kernel_rfl) (by kernel_rfl) (by kernel_rfl) (by intro _ _ _ h; exact h) (Or.inl ⟨by rfl, fun w hSw => ?_⟩) hHeld ?_
      rotate_left
      · ((try dsimp only at hSw); go_simp; first | done | with_reducible rfl | rfl)
      try simp only [Act.put, List.setIfInBounds_toArray, List.set_cons_zero, List.set_cons_succ]
      refine AnyT.take (i := 8) (v := ?_) (by simp only [List.getElem?_toArray, List.getElem?_cons_succ, List.getElem?_cons_zero]; rfl) (by kernel_rfl) (by kernel_rfl) (by kernel_rfl) (by kernel_rfl) (by intro _ _ _ h; exact h) (Or.inl ⟨by rfl, fun w hSw => ?_⟩) hHeld ?_
      rotate_left
      · ((try dsimp only at hSw); go_simp; first | done | with_reducible rfl | rfl)
      try simp only [Act.put, List.setIfInBounds_toArray, List.set_cons_zero, List.set_cons_succ]
      refine AnyT.take (i := 9) (v := ?_) (by simp only [List.getElem?_toArray, List.getElem?_cons_succ, List.getElem?_cons_zero]; rfl) (by kernel_rfl) (by kernel_rfl) (by kernel_rfl) (by kernel_rfl) (by intro _ _ _ h; exact h) (Or.inl ⟨by rfl, fun w hSw => ?_⟩) hHeld ?_
      rotate_left
      · ((try dsimp only at hSw); go_simp; first | done | with_reducible rfl | rfl)
      try simp only [Act.put, List.setIfInBounds_toArray, List.set_cons_zero, List.set_cons_succ]
      refine AnyT.take (i := 10) (v := ?_) (by simp only [List.getElem?_toArray, List.getElem?_cons_succ, List.getElem?_cons_zero]; rfl) (by kernel_rfl) (by kernel_rfl) (by kernel_rfl) (by kernel_rfl) (by intro _ _ _ h; exact h) (Or.inl ⟨by rfl, fun w hSw => ?_⟩) hHeld ?_
      rotate_left
      · ((try dsimp only at hSw); go_simp; first | done | with_reducible rfl | rfl)
      try simp only [Act.put, List.setIfInBounds_toArray, List.set_cons_zero, List.set_cons_succ]
      refine AnyT.take (i := 11) (v := ?_) (by simp only [List.getElem?_toArray, List.getElem?_cons_succ, List.getElem?_cons_zero]; rfl) (by kernel_rfl) (by kernel_rfl) (by kernel_rfl) (by kernel_rfl) (by intro _ _ _ h; exact h) (Or.inl ⟨by rfl, fun w hSw => ?_⟩) hHeld ?_
      rotate_left
      · ((try dsimp only at hSw); go_simp; first | done | with_reducible rfl | rfl)
      try simp only [Act.put, List.setIfInBounds_toArray, List.set_cons_zero, List.set_cons_succ]
      refine AnyT.take (i := 12) (v := ?_) (by simp only [List.getElem?_toArray, List.getElem?_cons_succ, List.getElem?_cons_zero]; rfl) (by kernel_rfl) (by kernel_rfl) (by kernel_rfl) (by kernel_rfl) (by intro _ _ _ h; exact h) (Or.inl ⟨by rfl, fun w hSw => ?_⟩) hHeld ?_
      rotate_left
      · ((try dsimp only at hSw); go_simp; first | done | with_reducible rfl | rfl)
      try simp only [Act.put, List.setIfInBounds_toArray, List.set_cons_zero, List.set_cons_succ]
      refine AnyT.take (i := 13) (v := ?_) (by simp only [List.getElem?_toArray, List.getElem?_cons_succ, List.getElem?_cons_zero]; rfl) (by kernel_rfl) (by kernel_rfl) (by kernel_rfl) (by kernel_rfl) (by intro _ _ _ h; exact h) (Or.inl ⟨by rfl, fun w hSw => ?_⟩) hHeld ?_
      rotate_left
      · ((try dsimp only at hSw); go_simp; first | done | with_reducible rfl | rfl)
      try simp only [Act.put, List.setIfInBounds_toArray, List.set_cons_zero, List.set_cons_succ]
      refine AnyT.take (i := 14) (v := ?_) (by simp only [List.getElem?_toArray, List.getElem?_cons_succ, List.getElem?_cons_zero]; rfl) (by kernel_rfl) (by kernel_rfl) (by kernel_rfl) (by kernel_rfl) (by intro _ _ _ h; exact h) (Or.inl ⟨by rfl, fun w hSw => ?_⟩) hHeld ?_
      rotate_left
      · ((try dsimp only at hSw); go_simp; first | done | with_reducible rfl | rfl)
      try simp only [Act.put, List.setIfInBounds_toArray, List.set_cons_zero, List.set_cons_succ]
      refine AnyT.take (i := 15) (v := ?_) (by simp only [List.getElem?_toArray, List.getElem?_cons_succ, List.getElem?_cons_zero]; rfl) (by kernel_rfl) (by kernel_rfl) (by kernel_rfl) (by kernel_rfl) (by intro _ _ _ h; exact h) (Or.inl ⟨by rfl, fun w hSw => ?_⟩) hHeld ?_
      rotate_left
      · ((try dsimp only at hSw); go_simp; first | done | with_reducible rfl | rfl)
      try simp only [Act.put, List.setIfInBounds_toArray, List.set_cons_zero, List.set_cons_succ]
      refine AnyT.take (i := 16) (v := ?_) (by simp only [List.getElem?_toArray, List.getElem?_cons_succ, List.getElem?_cons_zero]; rfl) (by kernel_rfl) (by kernel_rfl) (by kernel_rfl) (by kernel_rfl) (by intro _ _ _ h; exact h) (Or.inl ⟨by rfl, fun w hSw => ?_⟩) hHeld ?_
      rotate_left
      · ((try dsimp only at hSw); go_simp; first | done | with_reducible rfl | rfl)
      try simp only [Act.put, List.setIfInBounds_toArray, List.set_cons_zero, List.set_cons_succ]
      refine AnyT.take (i := 17) (v := ?_) (by simp only [List.getElem?_toArray, List.getElem?_cons_succ, List.getElem?_cons_zero]; rfl) (by kernel_rfl) (by kernel_rfl) (by kernel_rfl) (by kernel_rfl) (by intro _ _ _ h; exact h) (Or.inl ⟨by rfl, fun w hSw => ?_⟩) hHeld ?_
      rotate_left
      · ((try dsimp only at hSw); go_simp; first | done | with_reducible rfl | rfl)
      try simp only [Act.put, List.setIfInBounds_toArray, List.set_cons_zero, List.set_cons_succ]
      refine AnyT.take (i := 18) (v := ?_) (by simp only [List.getElem?_toArray, List.getElem?_cons_succ, List.getElem?_cons_zero]; rfl) (by kernel_rfl) (by kernel_rfl) (by kernel_rfl) (by kernel_rfl) (by intro _ _ _ h; exact h) (Or.inl ⟨by rfl, fun w hSw => ?_⟩) hHeld ?_
      rotate_left
      · ((try dsimp only at hSw); go_simp; first | done | with_reducible rfl | rfl)
      try simp only [Act.put, List.setIfInBounds_toArray, List.set_cons_zero, List.set_cons_succ]
      refine AnyT.take (i := 19) (v := ?_) (by simp only [List.getElem?_toArray, List.getElem?_cons_succ, List.getElem?_cons_zero]; rfl) (by kernel_rfl) (by kernel_rfl) (by kernel_rfl) (by kernel_rfl) (by intro _ _ _ h; exact h) (Or.inl ⟨by rfl, fun w hSw => ?_⟩) hHeld ?_
      rotate_left
      · ((try dsimp only at hSw); go_simp; first | done | with_reducible rfl | rfl)
      try simp only [Act.put, List.setIfInBounds_toArray, List.set_cons_zero, List.set_cons_succ]
      refine AnyT.take (i := 20) (v := ?_) (by simp only [List.getElem?_toArray, List.getElem?_cons_succ, List.getElem?_cons_zero]; rfl) (by kernel_rfl) (by kernel_rfl) (by kernel_rfl) (by kernel_rfl) (by intro _ _ _ h; exact h) (Or.inl ⟨by rfl, fun w hSw => ?_⟩) hHeld ?_
      rotate_left
      · ((try dsimp only at hSw); go_simp; first | done | with_reducible rfl | rfl)
      try simp only [Act.put, List.setIfInBounds_toArray, List.set_cons_zero, List.set_cons_succ]
      refine AnyT.take (i := 21) (v := ?_) (by simp only [List.getElem?_toArray, List.getElem?_cons_succ, List.getElem?_cons_zero]; rfl) (by kernel_rfl) (by kernel_rfl) (by kernel_rfl) (by kernel_rfl) (by intro _ _ _ h; exact h) (Or.inl ⟨by rfl, fun w hSw => ?_⟩) hHeld ?_
      rotate_left
      · ((try dsimp only at hSw); go_simp; first | done | with_reducible rfl | rfl)
      try simp only [Act.put, List.setIfInBounds_toArray, List.set_cons_zero, List.set_cons_succ]
      refine AnyT.take (i := 22) (v := ?_) (by simp only [List.getElem?_toArray, List.getElem?_cons_succ, List.getElem?_cons_zero]; rfl) (by kernel_rfl) (by kernel_rfl) (by kernel_rfl) (by kernel_rfl) (by intro _ _ _ h; exact h) (Or.inl ⟨by rfl, fun w hSw => ?_⟩) hHeld ?_
      rotate_left
      · ((try dsimp only at hSw); go_simp; first | done | with_reducible rfl | rfl)
      try simp only [Act.put, List.setIfInBounds_toArray, List.set_cons_zero, List.set_cons_succ]
      refine AnyT.take (i := 23) (v := ?_) (by simp only [List.getElem?_toArray, List.getElem?_cons_succ, List.getElem?_cons_zero]; rfl) (by kernel_rfl) (by kernel_rfl) (by kernel_rfl) (by kernel_rfl) (by intro _ _ _ h; exact h) (Or.inl ⟨by rfl, fun w hSw => ?_⟩) hHeld ?_
      rotate_left
      · ((try dsimp only at hSw); go_simp; first | done | with_reducible rfl | rfl)
      try simp only [Act.put, List.setIfInBounds_toArray, List.set_cons_zero, List.set_cons_succ]
      refine AnyT.take (i := 24) (v := ?_) (by simp only [List.getElem?_toArray, List.getElem?_cons_succ, List.getElem?_cons_zero]; rfl) (by kernel_rfl) (by kernel_rfl) (by kernel_rfl) (by kernel_rfl) (by intro _ _ _ h; exact h) (Or.inl ⟨by rfl, fun w hSw => ?_⟩) hHeld ?_
      rotate_left
      · ((try dsimp only at hSw); go_simp; first | done | with_reducible rfl | rfl)
      try simp only [Act.put, List.setIfInBounds_toArray, List.set_cons_zero, List.set_cons_succ]
      refine AnyT.take (i := 25) (v := ?_) (by simp only [List.getElem?_toArray, List.getElem?_cons_succ, List.getElem?_cons_zero]; rfl) (by kernel_rfl) (by kernel_rfl) (by kernel_rfl) (by kernel_rfl) (by intro _ _ _ h; exact h) (Or.inl ⟨by rfl, fun w hSw => ?_⟩) hHeld ?_
      rotate_left
      · ((try dsimp only at hSw); go_simp; first | done | with_reducible rfl | rfl)
      try simp only [Act.put, List.setIfInBounds_toArray, List.set_cons_zero, List.set_cons_succ]
      refine AnyT.take (i := 26) (v := ?_) (by simp only [List.getElem?_toArray, List.getElem?_cons_succ, List.getElem?_cons_zero]; rfl) (by kernel_rfl) (by kernel_rfl) (by kernel_rfl) (by kernel_rfl) (by intro _ _ _ h; exact h) (Or.inl ⟨by rfl, fun w hSw => ?_⟩) hHeld ?_
      rotate_left
      · ((try dsimp only at hSw); go_simp; first | done | with_reducible rfl | rfl)
      try simp only [Act.put, List.setIfInBounds_toArray, List.set_cons_zero, List.set_cons_succ]
      refine AnyT.take (i := 27) (v := ?_) (by simp only [List.getElem?_toArray, List.getElem?_cons_succ, List.getElem?_cons_zero]; rfl) (by kernel_rfl) (by kernel_rfl) (by kernel_rfl) (by kernel_rfl) (by intro _ _ _ h; exact h) (Or.inl ⟨by rfl, fun w hSw => ?_⟩) hHeld ?_
      rotate_left
      · ((try dsimp only at hSw); go_simp; first | done | with_reducible rfl | rfl)
      try simp only [Act.put, List.setIfInBounds_toArray, List.set_cons_zero, List.set_cons_succ]
      refine AnyT.done (by kernel_rfl) ?_ _
      clear hHeld p0 p1 p2 p3 f1 f2 f3 f4
      go_wp2_with fail
      exact ⟨⟨k + 1, rfl, h4, hid HD.out.drew⟩, by simp [intOf]; omega⟩
    · have h4' : ¬ (k : Int) < (m : Int) := by omega
      go_wp2_with fail
      go_ret
      exact ⟨rfl, HD.out⟩
end Go.Proofs.YtloflmcgbbbnjaaDoor
