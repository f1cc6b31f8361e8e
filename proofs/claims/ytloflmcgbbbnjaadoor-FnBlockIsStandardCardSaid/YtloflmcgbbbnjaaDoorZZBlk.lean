/-
  table.ZZBlock, impl.Block: what they return.
-/
import Derived.Test.YtloflmcgbbbnjaaDoorBWFin
import Derived.Test.YtloflmcgbbbnjaaDoorLawsP
namespace Go.Proofs.YtloflmcgbbbnjaaDoor
open Go.RowKit Plain
set_option linter.all false

def zBW : List Value := [.int .i64 0] ++ ([.slice none 0 0, .int .i64 0] ++ (List.replicate 64 (.int .u8 0) ++ [.int .i64 0, .slice none 0 0, .slice none 0 0, .slice none 0 0]))
/-- The restarts of a block, as the writer keeps them. -/
def rsts (rs : Nat) (L : List KV) : Nat → List Nat
  | 0 => []
  | j + 1 => bwR rs j (bst rs [] L 0 j).b (rsts rs L j)
theorem bst_nil (rs : Nat) (L : List KV) (j : Nat) : (bst rs [] L 0 (j + 1)).b = (bst rs [] L 0 j).b ++ ent (bwN rs j (key L (j - 1)) (key L j)) (key L j) (val L j) := by
  simp only [bst, bstep, bwN, pick_nil]
  split
  · rfl
  · simp
theorem rsts_tail (rs : Nat) (L : List KV) : ∀ j, (bst rs [] L 0 j).tail = le4s (rsts rs L j) ∧ (bst rs [] L 0 j).many = (rsts rs L j).length
  | 0 => ⟨rfl, rfl⟩
  | j + 1 => by
    obtain ⟨h1, h2⟩ := rsts_tail rs L j
    simp only [bst, bstep, rsts, bwR, pick_nil]
    split
    · simp only [le4s_append, h1, List.length_append, List.length_singleton, h2]
      exact ⟨by simp [le4s], trivial⟩
    · simp [h1, h2]
theorem rsts_bound {rs : Nat} {L : List KV} (hw : kvw L < 34359738368) : ∀ j, j ≤ L.length → (rsts rs L j).length ≤ j ∧ ∀ x ∈ rsts rs L j, x ≤ 16 * kvw L
  | 0, _ => by simp [rsts]
  | j + 1, h => by
    obtain ⟨h1, h2⟩ := rsts_bound (rs := rs) hw j (by omega)
    have h3 := (bst_le (rs := rs) (ns := []) (c0 := 0) hw j (by omega)).1
    have h4 := kvw_take L j
    simp only [rsts, bwR]
    split
    · refine ⟨by simp; omega, fun x hx => ?_⟩
      rcases List.mem_append.1 hx with hx | hx
      · exact h2 x hx
      · simp at hx; omega
    · exact ⟨by omega, h2⟩
/-- What the writer has behind finish is the block. -/
theorem fin_block {rs : Nat} {L : List KV} (h0 : 0 < L.length) (hrs : 0 < rs) : (bst rs [] L 0 L.length).b ++ le4s (finR L.length (rsts rs L L.length) ++ [(finR L.length (rsts rs L L.length)).length]) = blockB rs [] L 0 := by
  obtain ⟨h1, h2⟩ := rsts_tail rs L L.length
  have hne : (bst rs [] L 0 L.length).many ≠ 0 := by
    rw [h2]
    have : ∀ j, 0 < j → 0 < (rsts rs L j).length := by
      intro j hj
      induction j with
      | zero => omega
      | succ j ih =>
        rcases Nat.eq_zero_or_pos j with h | h
        · subst h; simp [rsts, bwR]
        · have := ih h
          simp only [rsts, bwR]; split
          · simp
          · exact this
    have := this L.length h0
    omega
  have hf : finR L.length (rsts rs L L.length) = rsts rs L L.length := if_neg (by omega)
  unfold blockB
  rw [hf, if_neg hne, le4s_append, h1, h2]
  simp [le4s]

theorem bw_new {b t sg : Nat} {v0 v1 v2 : Value} {boot tail4 scr : List Value} {R : List Fr} {w0 w : World} (hb : boot.length = 64) (h : Own (fw b t ([v0] ++ ([v1, v2] ++ (boot ++ tail4))) :: fw sg 5 scr :: R) w0 w) :
    Own (fp b 0 [v0] :: fp b 67 tail4 :: fp b 1 [v1, v2] :: fp b 3 boot :: fp sg 0 scr :: R) w0 w := by
  have h1 := (h.part.split (k := 1) rfl).swap01.split (k := 3) rfl
  have h2 := h1.swap01.split (k := 67) (by rw [hb])
  have h3 := (h2.perm (L' := fw sg 5 scr :: (fp b 0 [v0] :: fp b 67 tail4 :: fp b 1 [v1, v2] :: fp b 3 boot :: R)) (perm_of fun _ _ z => by simp only [List.count_cons]; omega)).part
  exact h3.perm (perm_of fun _ _ z => by simp only [List.count_cons]; omega)
theorem own_mid {x y : Fr} {A B C D : List Fr} {w0 w : World} (h : Own (x :: y :: (A ++ (B ++ C)) ++ D) w0 w) : Own (A ++ (x :: y :: (B ++ C) ++ D)) w0 w :=
  h.perm (perm_of fun _ _ z => by simp only [List.count_append, List.count_cons, List.cons_append]; omega)
def pk (L : List KV) (j : Nat) : List UInt8 := if j = 0 then [] else key L (j - 1)
theorem bwN_pk (rs : Nat) (L : List KV) (j : Nat) (k : List UInt8) : bwN rs j (pk L j) k = bwN rs j (key L (j - 1)) k := by
  unfold pk
  split
  · rename_i h; subst h; simp [bwN]
  · rfl
theorem Own.cs_pb0 {L : List Fr} {w0 w : World} {g t : Nat} {a b : Value} (h : Own L w0 w) (hx : fw g t [a, b] ∈ L) : w.cell? ⟨g, 0, none⟩ = some a := (h.ins _ hx).cell (i := 0) rfl (by simp)
theorem Own.cs_pb1 {L : List Fr} {w0 w : World} {g t : Nat} {a b : Value} (h : Own L w0 w) (hx : fw g t [a, b] ∈ L) : w.cell? ⟨g, 1, none⟩ = some b := (h.ins _ hx).cell (i := 1) rfl (by simp)
def sls (f : Pr → Value) (l : List Pr) : List Value := l.map f
def kSl (r : Pr) : Value := .slice r.ka r.k.length r.kc
def vSl (r : Pr) : Value := .slice r.va r.v.length r.vc

set_option maxHeartbeats 3200000 in
set_option maxRecDepth 100000 in
theorem zzBlock (kA vA : Option Addr) (kc vc rs : Nat) (l : List Pr) (R : List Fr) (w0 w : World) (hk : St R w0 fun w => CsAt w kA (l.map kSl)) (hv : St R w0 fun w => CsAt w vA (l.map vSl)) (hp : ∀ r ∈ l, St R w0 fun w => r.Ok w) (hO : Own R w0 w)
    (hrs : 0 < rs) (hrs2 : rs ≤ 1073741824) (h0 : 0 < l.length) (hl : l.length ≤ 33554432) (hw : wgt l ≤ 33554432) :
    Calls Tryd.prog 36 #[.slice kA l.length kc, .slice vA l.length vc, .int .i64 rs] w fun e w' => ∃ A c F, e = .returned (.slice A (blockB rs [] (kvs l) 0).length c) ∧ Rd F w0 A (blockB rs [] (kvs l) 0) ∧ Own (F ++ R) w0 w' := by
  go_enter Tryd.func36, Tryd.ntmps36
  have hz : ∀ (g : Nat), (((Tryd.zeroCells139.setIfInBounds 0 (.int .i64 (rs : Int))).setIfInBounds 70 (.slice (some ⟨g, 0, none⟩) 30 30)).toList : List Value) = [.int .i64 (rs : Int)] ++ ([.slice none 0 0, .int .i64 0] ++ (List.replicate 64 (.int .u8 0) ++ [.int .i64 0, .slice none 0 0, .slice none 0 0, .slice (some ⟨g, 0, none⟩) 30 30])) := fun g => by kernel_rfl
  have hz1 : ∀ (g : Nat), ((Tryd.zeroCells139.setIfInBounds 0 (.int .i64 (rs : Int))).setIfInBounds 70 (.slice (some ⟨g, 0, none⟩) 30 30)).all (·.oneCell') = true := fun g => by kernel_rfl
  have HZ := hid hz
  have HZ1 := hid hz1
  clear hz hz1
  go_wp2_with (first
    | (at_make; refine own_make rfl _ _ _ rfl 5 (.int .u8 0) 1 Tryd.underlying25 Tryd.info_u8 rfl _ _ _ _ 30 30 rfl rfl rfl rfl (Nat.le_refl _) (by omega) (by omega) hO ?_; intro sg w1 hO1; have HO1 := hid hO1; clear hO1)
    | (refine own_store_row rfl 139 (.tmp 7) (.tmp 11) rfl w1.heap.size _ rfl rfl 139 _ (HO1.out.allocA rfl _ _) (by kernel_rfl) (by kernel_rfl) (HZ1.out sg) ?_; intro w2 hO2; rw [HZ.out sg] at hO2; have HO2 := hid hO2; clear hO2))
  obtain ⟨b, hb⟩ : ∃ b, w1.heap.size = b := ⟨_, rfl⟩
  rw [hb] at HO2 ⊢
  have hO3 := bw_new (by simp) HO2.out
  have hL : kvw (kvs l) ≤ 33554432 := by rw [kvw_kvs]; exact hw
  have HO3 := hid hO3
  clear HO2 HO1 hO3 hb HZ HZ1
  go_loopw [14] (fun i wr => ∃ (j : Nat) (scr : List Value) (F : List Fr), i = .int .i64 j ∧ j ≤ l.length ∧ BW b 0 rs j (bst rs [] (kvs l) 0 j).b (pk (kvs l) j) (rsts rs (kvs l) j) sg 0 F ∧ scr.length = 30 ∧ Own (F ++ (fp sg 0 scr :: R)) w0 wr) (fun i _ => l.length - (intOf i).toNat)
  case atStart =>
    exact ⟨0, List.replicate 30 (.int .u8 0), _, rfl, Nat.zero_le _, ⟨none, 0, none, 0, [fp b 1 [.slice none 0 0, .int .i64 0], fp b 3 (List.replicate 64 (.int .u8 0))], [], [], .inl ⟨rfl, _, by simp, rfl⟩, Row.nil _ _, Row.nil _ _, rfl⟩, by simp, HO3.out⟩
  case round =>
    obtain ⟨j, scr, F, rfl, hj, hB, hs, hO⟩ := hrel
    obtain ⟨hb1, _, _, _, _⟩ := bst_le (rs := rs) (ns := []) (l := kvs l) (c0 := 0) (by omega) j (by rw [kvs_length]; exact hj)
    obtain ⟨hr1, hr2⟩ := rsts_bound (rs := rs) (L := kvs l) (by omega) j (by rw [kvs_length]; exact hj)
    have hkt := kvw_take (kvs l) j
    have HB := hid hB
    have HO := hid hO
    have HR2 := hid hr2
    clear hB hO hr2 HO3
    by_cases h4 : j < l.length
    · have h4' : (j : Int) < (l.length : Int) := by omega
      have hx : l[j]? = some l[j] := List.getElem?_eq_getElem h4
      have hmem : l[j] ∈ l := List.getElem_mem h4
      have kx := key_kvs hx
      have vx := val_kvs hx
      have hck := HO.out.st hk (by intro x hx; simp [hx])
      have hcv := HO.out.st hv (by intro x hx; simp [hx])
      obtain ⟨g, o, rfl, p0⟩ := hck j (by simpa using h4)
      obtain ⟨g', o', rfl, p1⟩ := hcv j (by simpa using h4)
      rw [List.getElem?_map, hx] at p0 p1
      generalize l[j] = r at hx hmem kx vx p0 p1
      have p0' : wr.cell? ⟨g, o + j, none⟩ = some (.slice r.ka r.k.length r.kc) := p0
      have p1' : wr.cell? ⟨g', o' + j, none⟩ = some (.slice r.va r.v.length r.vc) := p1
      have hwm := wgt_mem hmem
      have hok := hp r hmem
      have hok0 := HO.out.st hok (by intro x hx; simp [hx])
      have hkc := hok0.hkc
      have hpk : (pk (kvs l) j).length ≤ 2147483648 := by
        have := kvw_key (kvs l) (j - 1)
        unfold pk; split
        · simp
        · omega
      have KX := hid kx
      have VX := hid vx
      clear hx kx vx hck hcv p0 p1 hok0
      go_wp2_with fail
      go_still_tail 8, (by kernel_rfl)
      go_wp2_with fail
      refine (bw_append b 0 rs j r.kc r.vc sg 0 r.ka r.va (bst rs [] (kvs l) 0 j).b (pk (kvs l) j) r.k r.v (rsts rs (kvs l) j) scr F R w0 _ HB.out HO.out.drew hs (hok.imp fun _ h => h.hk) (hok.imp fun _ h => h.hv) hkc hrs hrs2 (by omega) (by omega) (by omega) (by omega) (by omega) hpk).mono ?_
      rintro e w4 ⟨rfl, F4, scr4, hB4, hs4, hO4⟩
      have HB4 := hid hB4
      have HO4 := hid hO4
      clear hB4 hO4
      go_wp2_with fail
      refine ⟨⟨j + 1, scr4, F4, rfl, by omega, ?_, hs4, HO4.out⟩, by simp [intOf]; omega⟩
      have h9 := HB4.out
      rw [bwN_pk, ← KX.out, ← VX.out, ← bst_nil] at h9
      exact h9
    · have h4' : ¬ (j : Int) < (l.length : Int) := by omega
      have hjl : j = l.length := by omega
      have HJ := hid hjl
      clear hjl
      go_wp2_with fail
      refine (bw_finish b 0 rs j sg 0 _ _ _ F (fp sg 0 scr :: R) w0 _ HB.out HO.out (by omega) (by omega) (fun x hx => by have := HR2.out x hx; omega)).mono ?_
      rintro e w4 ⟨rfl, F4, hB4, hO4⟩
      obtain ⟨pA, pc, rA, rc, Fb, Fp, Fq, hBF, hP, hQ, rfl⟩ := hB4
      have hfb := fin_block (rs := rs) (L := kvs l) (by rw [kvs_length]; exact h0) hrs
      rw [kvs_length] at hfb
      rw [HJ.out, hfb] at hBF
      have HBF := hid hBF
      have HO4 := hid hO4
      clear hBF hO4 hP hQ hfb HB HR2
      go_wp2_with fail
      refine (bytes_buf b (0 + 1) (blockB rs [] (kvs l) 0) Fb _ w0 w4 HBF.out (own_mid HO4.out)).mono ?_
      rintro e w5 ⟨A, c, rfl, hle, hrd, hd⟩
      have HO5 := hid ((own_mid HO4.out).dr hd)
      have HRD := hid hrd
      clear hd hrd
      go_wp2
      go_ret
      exact ⟨A, c, Fb, rfl, HRD.out, HO5.out.sub ((List.Sublist.refl Fb).append ((List.sublist_cons_self _ R).trans (List.sublist_append_right _ _)))⟩

theorem Tryd.info_sl : (Tryd.prog.info? 25).map (fun i => (i.zero, i.size, i.bytes)) = some (some (.slice none 0 0), 1, 24) := by kernel_rfl
set_option maxHeartbeats 3200000 in
set_option maxRecDepth 100000 in
theorem implBlock (A : Option Addr) (c rs : Nat) (l : List Pr) (R : List Fr) (w0 w : World) (hp : St R w0 fun w => Prs w A l) (hO : Own R w0 w)
    (hrs : 0 < rs) (hrs2 : rs ≤ 1073741824) (h0 : 0 < l.length) (hl : l.length ≤ 33554432) (hw : wgt l ≤ 33554432) (hbl : (blockB rs [] (kvs l) 0).length ≤ 1099511627776) :
    Calls Tryd.prog 13 #[.slice A l.length c, .int .i64 rs] w (RetH R w0 (blockB rs [] (kvs l) 0)) := by
  go_enter Tryd.func13, Tryd.ntmps13
  go_wp2
  go_loopw [5, 6, 11] (fun v5 v6 i wr => ∃ (k n m : Nat) (A1 A2 : Option Addr) (c1 c2 : Nat) (F1 F2 : List Fr), i = .int .i64 k ∧ k ≤ l.length ∧ v5 = .slice A1 n c1 ∧ v6 = .slice A2 m c2 ∧ Hid (n = k) ∧ Hid (m = k) ∧ Hid (Row 25 1 A1 n c1 ((l.take k).map kSl) F1) ∧ Hid (Row 25 1 A2 m c2 ((l.take k).map vSl) F2) ∧ Hid (Own (F1 ++ (F2 ++ R)) w0 wr)) (fun _ _ i _ => l.length - (intOf i).toNat)
  case atStart => exact ⟨0, 0, 0, none, none, 0, 0, [], [], rfl, Nat.zero_le _, rfl, rfl, hid rfl, hid rfl, hid (Row.nil _ _), hid (Row.nil _ _), hid hO⟩
  case round =>
    obtain ⟨k, n, m, A1, A2, c1, c2, F1, F2, rfl, hk, rfl, rfl, HN, HM, HR1, HR2, HO⟩ := hrel
    have hn := HN.out
    have hm := HM.out
    have hnb : n ≤ 33554432 := by omega
    have hmb : m ≤ 33554432 := by omega
    clear hn hm hO
    by_cases h4 : k < l.length
    · have h4' : (k : Int) < (l.length : Int) := by omega
      have hx : l[k]? = some l[k] := List.getElem?_eq_getElem h4
      have htk : l.take (k + 1) = l.take k ++ [l[k]] := List.take_succ_eq_append_getElem h4
      have hps := HO.out.st hp (by intro x hx; simp [hx])
      generalize l[k] = r at hx htk
      have HT := hid htk
      obtain ⟨g, o, rfl, p0, p1⟩ := hps.at_ hx
      have hO2 := HO.out.alloc 36 [.slice r.ka r.k.length r.kc, .slice r.va r.v.length r.vc]
      have HO2 := hid hO2
      clear htk hps hx hO2
      go_upto_region 5 with fail
      obtain ⟨pb, hpb⟩ : ∃ pb, wr.heap.size = pb := ⟨_, rfl⟩
      have hO4 := HO2.out
      rw [hpb] at hO4 ⊢
      generalize wr.alloc (Obj.cells #[Value.slice r.ka r.k.length r.kc, Value.slice r.va r.v.length r.vc] 36) = W at hO4 ⊢
      have q0 : W.cell? ⟨pb, 0, none⟩ = some (.slice r.ka r.k.length r.kc) := hO4.cell 0 rfl 0 rfl (by simp)
      have q1 : W.cell? ⟨pb, 1, none⟩ = some (.slice r.va r.v.length r.vc) := hO4.cell 0 rfl 1 rfl (by simp)
      have HO4 := hid (show Own (fw pb 36 [.slice r.ka r.k.length r.kc, .slice r.va r.v.length r.vc] :: (F1 ++ (F2 ++ R))) w0 W from hO4)
      clear hO4 hpb HO2 HO p0 p1
      go_region_held3 (fun w' : World => w'.cell? ⟨pb, 0, none⟩ = some (.slice r.ka r.k.length r.kc) ∧ w'.cell? ⟨pb, 1, none⟩ = some (.slice r.va r.v.length r.vc)) (first | exact ⟨q0, q1⟩ | go_keep) (first
        | (refine own_step_append rfl (.tmp 15) (.tmp 18) 74 rfl 25 (.slice none 0 0) 1 24 Tryd.underlying74 Tryd.info_sl rfl (by decide) A1 n c1 _ F1 rfl HR1.out (R := fw pb 36 [.slice r.ka r.k.length r.kc, .slice r.va r.v.length r.vc] :: (F2 ++ R)) ((HO4.out.drew.skip _).perm (perm_of fun _ _ z => by simp only [List.count_append, List.count_cons, List.cons_append]; omega)) (some ⟨W.heap.size, 0, none⟩) 1 1 [kSl r] rfl rfl (csAt_one _ _ _) (by simp [kSl, vSl, Value.oneCell']) (by simp [maxLen]; omega) (by omega) ?_; intro A3 c3 F3 w3 hrx hOx _; have q0 : w3.cell? ⟨pb, 0, none⟩ = some (.slice r.ka r.k.length r.kc) := hOx.cs_pb0 (t := 36) (b := .slice r.va r.v.length r.vc) (by simp); have q1 : w3.cell? ⟨pb, 1, none⟩ = some (.slice r.va r.v.length r.vc) := hOx.cs_pb1 (t := 36) (a := .slice r.ka r.k.length r.kc) (by simp); have HR3 := hid hrx; have HO3 := hid hOx; clear hrx hOx)
        | (refine own_step_append rfl (.tmp 20) (.tmp 23) 74 rfl 25 (.slice none 0 0) 1 24 Tryd.underlying74 Tryd.info_sl rfl (by decide) A2 m c2 _ F2 rfl HR2.out (R := fw pb 36 [.slice r.ka r.k.length r.kc, .slice r.va r.v.length r.vc] :: (F3 ++ R)) ((HO3.out.skip _).perm (perm_of fun _ _ z => by simp only [List.count_append, List.count_cons, List.cons_append]; omega)) (some ⟨w3.heap.size, 0, none⟩) 1 1 [vSl r] rfl rfl (csAt_one _ _ _) (by simp [kSl, vSl, Value.oneCell']) (by simp [maxLen]; omega) (by omega) ?_; intro A5 c5 F5 w5 hrx hOx _; have q0 : w5.cell? ⟨pb, 0, none⟩ = some (.slice r.ka r.k.length r.kc) := hOx.cs_pb0 (t := 36) (b := .slice r.va r.v.length r.vc) (by simp); have q1 : w5.cell? ⟨pb, 1, none⟩ = some (.slice r.va r.v.length r.vc) := hOx.cs_pb1 (t := 36) (a := .slice r.ka r.k.length r.kc) (by simp); have HR5 := hid hrx; have HO5 := hid hOx; clear hrx hOx)
        | (refine own_step_append rfl (.tmp 15) (.tmp 18) 74 rfl 25 (.slice none 0 0) 1 24 Tryd.underlying74 Tryd.info_sl rfl (by decide) A1 n c1 _ F1 rfl HR1.out (R := fw (W.heap.size + 1) 25 [vSl r] :: fw pb 36 [.slice r.ka r.k.length r.kc, .slice r.va r.v.length r.vc] :: (F2 ++ R)) (((HO4.out.skip _).alloc' (g := W.heap.size + 1) (by simp) 25 [vSl r]).drew.perm (perm_of fun _ _ z => by simp only [List.count_append, List.count_cons, List.cons_append]; omega)) (some ⟨W.heap.size, 0, none⟩) 1 1 [kSl r] rfl rfl ((csAt_one W _ _).keep0 (((Only.refl [] _).alloc _).drew)) (by simp [kSl, vSl, Value.oneCell']) (by simp [maxLen]; omega) (by omega) ?_; intro A3 c3 F3 w3 hrx hOx _; have q0 : w3.cell? ⟨pb, 0, none⟩ = some (.slice r.ka r.k.length r.kc) := hOx.cs_pb0 (t := 36) (b := .slice r.va r.v.length r.vc) (by simp); have q1 : w3.cell? ⟨pb, 1, none⟩ = some (.slice r.va r.v.length r.vc) := hOx.cs_pb1 (t := 36) (a := .slice r.ka r.k.length r.kc) (by simp); have HR3 := hid hrx; have HO3 := hid hOx; clear hrx hOx)
        | (refine own_step_append rfl (.tmp 20) (.tmp 23) 74 rfl 25 (.slice none 0 0) 1 24 Tryd.underlying74 Tryd.info_sl rfl (by decide) A2 m c2 _ F2 rfl HR2.out (R := fw pb 36 [.slice r.ka r.k.length r.kc, .slice r.va r.v.length r.vc] :: (F3 ++ R)) ((HO3.out.perm (L' := fw (W.heap.size + 1) 25 [vSl r] :: (F2 ++ (fw pb 36 [.slice r.ka r.k.length r.kc, .slice r.va r.v.length r.vc] :: (F3 ++ R)))) (perm_of fun _ _ z => by simp only [List.count_append, List.count_cons, List.cons_append]; omega)).drop) (some ⟨W.heap.size + 1, 0, none⟩) 1 1 [vSl r] rfl rfl (HO3.out.cs_fw (t := 25) (by simp)) (by simp [kSl, vSl, Value.oneCell']) (by simp [maxLen]; omega) (by omega) ?_; intro A5 c5 F5 w5 hrx hOx _; have q0 : w5.cell? ⟨pb, 0, none⟩ = some (.slice r.ka r.k.length r.kc) := hOx.cs_pb0 (t := 36) (b := .slice r.va r.v.length r.vc) (by simp); have q1 : w5.cell? ⟨pb, 1, none⟩ = some (.slice r.va r.v.length r.vc) := hOx.cs_pb1 (t := 36) (a := .slice r.ka r.k.length r.kc) (by simp); have HR5 := hid hrx; have HO5 := hid hOx; clear hrx hOx)
        | (refine own_step_append rfl (.tmp 15) (.tmp 18) 74 rfl 25 (.slice none 0 0) 1 24 Tryd.underlying74 Tryd.info_sl rfl (by decide) A1 n c1 _ F1 rfl HR1.out (R := fw W.heap.size 25 [vSl r] :: fw pb 36 [.slice r.ka r.k.length r.kc, .slice r.va r.v.length r.vc] :: (F2 ++ R)) (((HO4.out.alloc' (g := W.heap.size) rfl 25 [vSl r]).skip _).drew.perm (perm_of fun _ _ z => by simp only [List.count_append, List.count_cons, List.cons_append]; omega)) (some ⟨W.heap.size + 1, 0, none⟩) 1 1 [kSl r] rfl rfl ((csAt_new' (w := W.alloc _) (by simp) [kSl r] _).keep0 (Only.refl [] _).drew) (by simp [kSl, vSl, Value.oneCell']) (by simp [maxLen]; omega) (by omega) ?_; intro A3 c3 F3 w3 hrx hOx _; have q0 : w3.cell? ⟨pb, 0, none⟩ = some (.slice r.ka r.k.length r.kc) := hOx.cs_pb0 (t := 36) (b := .slice r.va r.v.length r.vc) (by simp); have q1 : w3.cell? ⟨pb, 1, none⟩ = some (.slice r.va r.v.length r.vc) := hOx.cs_pb1 (t := 36) (a := .slice r.ka r.k.length r.kc) (by simp); have HR3 := hid hrx; have HO3 := hid hOx; clear hrx hOx)
        | (refine own_step_append rfl (.tmp 20) (.tmp 23) 74 rfl 25 (.slice none 0 0) 1 24 Tryd.underlying74 Tryd.info_sl rfl (by decide) A2 m c2 _ F2 rfl HR2.out (R := fw pb 36 [.slice r.ka r.k.length r.kc, .slice r.va r.v.length r.vc] :: (F3 ++ R)) ((HO3.out.perm (L' := fw W.heap.size 25 [vSl r] :: (F2 ++ (fw pb 36 [.slice r.ka r.k.length r.kc, .slice r.va r.v.length r.vc] :: (F3 ++ R)))) (perm_of fun _ _ z => by simp only [List.count_append, List.count_cons, List.cons_append]; omega)).drop) (some ⟨W.heap.size, 0, none⟩) 1 1 [vSl r] rfl rfl (HO3.out.cs_fw (t := 25) (by simp)) (by simp [kSl, vSl, Value.oneCell']) (by simp [maxLen]; omega) (by omega) ?_; intro A5 c5 F5 w5 hrx hOx _; have q0 : w5.cell? ⟨pb, 0, none⟩ = some (.slice r.ka r.k.length r.kc) := hOx.cs_pb0 (t := 36) (b := .slice r.va r.v.length r.vc) (by simp); have q1 : w5.cell? ⟨pb, 1, none⟩ = some (.slice r.va r.v.length r.vc) := hOx.cs_pb1 (t := 36) (a := .slice r.ka r.k.length r.kc) (by simp); have HR5 := hid hrx; have HO5 := hid hOx; clear hrx hOx)
        | (refine own_step_append rfl (.tmp 20) (.tmp 23) 74 rfl 25 (.slice none 0 0) 1 24 Tryd.underlying74 Tryd.info_sl rfl (by decide) A2 m c2 _ F2 rfl HR2.out (R := fw pb 36 [.slice r.ka r.k.length r.kc, .slice r.va r.v.length r.vc] :: (F1 ++ R)) ((HO4.out.drew.skip _).perm (perm_of fun _ _ z => by simp only [List.count_append, List.count_cons, List.cons_append]; omega)) (some ⟨W.heap.size, 0, none⟩) 1 1 [vSl r] rfl rfl (csAt_one _ _ _) (by simp [kSl, vSl, Value.oneCell']) (by simp [maxLen]; omega) (by omega) ?_; intro A5 c5 F5 w5 hrx hOx _; have q0 : w5.cell? ⟨pb, 0, none⟩ = some (.slice r.ka r.k.length r.kc) := hOx.cs_pb0 (t := 36) (b := .slice r.va r.v.length r.vc) (by simp); have q1 : w5.cell? ⟨pb, 1, none⟩ = some (.slice r.va r.v.length r.vc) := hOx.cs_pb1 (t := 36) (a := .slice r.ka r.k.length r.kc) (by simp); have HR5 := hid hrx; have HO5 := hid hOx; clear hrx hOx)
        | (refine own_step_append rfl (.tmp 15) (.tmp 18) 74 rfl 25 (.slice none 0 0) 1 24 Tryd.underlying74 Tryd.info_sl rfl (by decide) A1 n c1 _ F1 rfl HR1.out (R := fw pb 36 [.slice r.ka r.k.length r.kc, .slice r.va r.v.length r.vc] :: (F5 ++ R)) ((HO5.out.skip _).perm (perm_of fun _ _ z => by simp only [List.count_append, List.count_cons, List.cons_append]; omega)) (some ⟨w5.heap.size, 0, none⟩) 1 1 [kSl r] rfl rfl (csAt_one _ _ _) (by simp [kSl, vSl, Value.oneCell']) (by simp [maxLen]; omega) (by omega) ?_; intro A3 c3 F3 w3 hrx hOx _; have q0 : w3.cell? ⟨pb, 0, none⟩ = some (.slice r.ka r.k.length r.kc) := hOx.cs_pb0 (t := 36) (b := .slice r.va r.v.length r.vc) (by simp); have q1 : w3.cell? ⟨pb, 1, none⟩ = some (.slice r.va r.v.length r.vc) := hOx.cs_pb1 (t := 36) (a := .slice r.ka r.k.length r.kc) (by simp); have HR3 := hid hrx; have HO3 := hid hOx; clear hrx hOx)
        | (refine own_step_append rfl (.tmp 20) (.tmp 23) 74 rfl 25 (.slice none 0 0) 1 24 Tryd.underlying74 Tryd.info_sl rfl (by decide) A2 m c2 _ F2 rfl HR2.out (R := fw (W.heap.size + 1) 25 [kSl r] :: fw pb 36 [.slice r.ka r.k.length r.kc, .slice r.va r.v.length r.vc] :: (F1 ++ R)) (((HO4.out.skip _).alloc' (g := W.heap.size + 1) (by simp) 25 [kSl r]).drew.perm (perm_of fun _ _ z => by simp only [List.count_append, List.count_cons, List.cons_append]; omega)) (some ⟨W.heap.size, 0, none⟩) 1 1 [vSl r] rfl rfl ((csAt_one W _ _).keep0 (((Only.refl [] _).alloc _).drew)) (by simp [kSl, vSl, Value.oneCell']) (by simp [maxLen]; omega) (by omega) ?_; intro A5 c5 F5 w5 hrx hOx _; have q0 : w5.cell? ⟨pb, 0, none⟩ = some (.slice r.ka r.k.length r.kc) := hOx.cs_pb0 (t := 36) (b := .slice r.va r.v.length r.vc) (by simp); have q1 : w5.cell? ⟨pb, 1, none⟩ = some (.slice r.va r.v.length r.vc) := hOx.cs_pb1 (t := 36) (a := .slice r.ka r.k.length r.kc) (by simp); have HR5 := hid hrx; have HO5 := hid hOx; clear hrx hOx)
        | (refine own_step_append rfl (.tmp 15) (.tmp 18) 74 rfl 25 (.slice none 0 0) 1 24 Tryd.underlying74 Tryd.info_sl rfl (by decide) A1 n c1 _ F1 rfl HR1.out (R := fw pb 36 [.slice r.ka r.k.length r.kc, .slice r.va r.v.length r.vc] :: (F5 ++ R)) ((HO5.out.perm (L' := fw (W.heap.size + 1) 25 [kSl r] :: (F1 ++ (fw pb 36 [.slice r.ka r.k.length r.kc, .slice r.va r.v.length r.vc] :: (F5 ++ R)))) (perm_of fun _ _ z => by simp only [List.count_append, List.count_cons, List.cons_append]; omega)).drop) (some ⟨W.heap.size + 1, 0, none⟩) 1 1 [kSl r] rfl rfl (HO5.out.cs_fw (t := 25) (by simp)) (by simp [kSl, vSl, Value.oneCell']) (by simp [maxLen]; omega) (by omega) ?_; intro A3 c3 F3 w3 hrx hOx _; have q0 : w3.cell? ⟨pb, 0, none⟩ = some (.slice r.ka r.k.length r.kc) := hOx.cs_pb0 (t := 36) (b := .slice r.va r.v.length r.vc) (by simp); have q1 : w3.cell? ⟨pb, 1, none⟩ = some (.slice r.va r.v.length r.vc) := hOx.cs_pb1 (t := 36) (a := .slice r.ka r.k.length r.kc) (by simp); have HR3 := hid hrx; have HO3 := hid hOx; clear hrx hOx)
        | (refine own_step_append rfl (.tmp 20) (.tmp 23) 74 rfl 25 (.slice none 0 0) 1 24 Tryd.underlying74 Tryd.info_sl rfl (by decide) A2 m c2 _ F2 rfl HR2.out (R := fw W.heap.size 25 [kSl r] :: fw pb 36 [.slice r.ka r.k.length r.kc, .slice r.va r.v.length r.vc] :: (F1 ++ R)) (((HO4.out.alloc' (g := W.heap.size) rfl 25 [kSl r]).skip _).drew.perm (perm_of fun _ _ z => by simp only [List.count_append, List.count_cons, List.cons_append]; omega)) (some ⟨W.heap.size + 1, 0, none⟩) 1 1 [vSl r] rfl rfl ((csAt_new' (w := W.alloc _) (by simp) [vSl r] _).keep0 (Only.refl [] _).drew) (by simp [kSl, vSl, Value.oneCell']) (by simp [maxLen]; omega) (by omega) ?_; intro A5 c5 F5 w5 hrx hOx _; have q0 : w5.cell? ⟨pb, 0, none⟩ = some (.slice r.ka r.k.length r.kc) := hOx.cs_pb0 (t := 36) (b := .slice r.va r.v.length r.vc) (by simp); have q1 : w5.cell? ⟨pb, 1, none⟩ = some (.slice r.va r.v.length r.vc) := hOx.cs_pb1 (t := 36) (a := .slice r.ka r.k.length r.kc) (by simp); have HR5 := hid hrx; have HO5 := hid hOx; clear hrx hOx)
        | (refine own_step_append rfl (.tmp 15) (.tmp 18) 74 rfl 25 (.slice none 0 0) 1 24 Tryd.underlying74 Tryd.info_sl rfl (by decide) A1 n c1 _ F1 rfl HR1.out (R := fw pb 36 [.slice r.ka r.k.length r.kc, .slice r.va r.v.length r.vc] :: (F5 ++ R)) ((HO5.out.perm (L' := fw W.heap.size 25 [kSl r] :: (F1 ++ (fw pb 36 [.slice r.ka r.k.length r.kc, .slice r.va r.v.length r.vc] :: (F5 ++ R)))) (perm_of fun _ _ z => by simp only [List.count_append, List.count_cons, List.cons_append]; omega)).drop) (some ⟨W.heap.size, 0, none⟩) 1 1 [kSl r] rfl rfl (HO5.out.cs_fw (t := 25) (by simp)) (by simp [kSl, vSl, Value.oneCell']) (by simp [maxLen]; omega) (by omega) ?_; intro A3 c3 F3 w3 hrx hOx _; have q0 : w3.cell? ⟨pb, 0, none⟩ = some (.slice r.ka r.k.length r.kc) := hOx.cs_pb0 (t := 36) (b := .slice r.va r.v.length r.vc) (by simp); have q1 : w3.cell? ⟨pb, 1, none⟩ = some (.slice r.va r.v.length r.vc) := hOx.cs_pb1 (t := 36) (a := .slice r.ka r.k.length r.kc) (by simp); have HR3 := hid hrx; have HO3 := hid hOx; clear hrx hOx))
      all_goals
        go_wp2_with fail
        refine ⟨⟨k + 1, n + 1, m + 1, A3, A5, c3, c5, F3, F5, rfl, by omega, rfl, rfl, hid (by rw [HN.out]), hid (by rw [HM.out]), hid (by rw [HT.out, List.map_append]; exact HR3.out), hid (by rw [HT.out, List.map_append]; exact HR5.out), hid ?_⟩, by simp [intOf]; omega⟩
        first
          | exact (HO5.out.perm (L' := fw pb 36 [.slice r.ka r.k.length r.kc, .slice r.va r.v.length r.vc] :: (F3 ++ (F5 ++ R))) (perm_of fun _ _ z => by simp only [List.count_append, List.count_cons, List.cons_append]; omega)).drop
          | exact (HO3.out.perm (L' := fw pb 36 [.slice r.ka r.k.length r.kc, .slice r.va r.v.length r.vc] :: (F3 ++ (F5 ++ R))) (perm_of fun _ _ z => by simp only [List.count_append, List.count_cons, List.cons_append]; omega)).drop
    · have h4' : ¬ (k : Int) < (l.length : Int) := by omega
      have hkl : k = l.length := by omega
      have hr1 := HR1.out
      have hr2 := HR2.out
      rw [hkl, List.take_length] at hr1 hr2
      have hn2 : n = l.length := by rw [HN.out, hkl]
      have hm2 : m = l.length := by rw [HM.out, hkl]
      clear HN HM HR1 HR2 hkl
      subst hn2
      obtain rfl : m = l.length := hm2
      have HR1 := hid hr1
      have HR2 := hid hr2
      clear hr1 hr2
      go_wp2_with fail
      refine (zzBlock A1 A2 c1 c2 rs l (F1 ++ (F2 ++ R)) w0 wr ((HR1.out.st w0).left _) (((HR2.out.st w0).left _).right _) (fun r hr => ((hp.right F2).right F1).imp fun _ h => h.ok r hr) HO.out hrs hrs2 h0 hl hw).mono ?_
      rintro e w3 ⟨A3, c3, F3, rfl, hrd, hO3⟩
      have hbs := hO3.st hrd (by intro x hx; simp [hx])
      have HBS := hid hbs
      have HO3 := hid hO3
      clear hbs hrd hO3
      go_wp2_with fail
      refine (copied_own A3 _ c3 (blockB rs [] (kvs l) 0) _ w0 w3 HBS.out HO3.out rfl (by omega)).mono ?_
      rintro e w4 ⟨A4, c4, F4, n4, hn4, rfl, hr4, hO4⟩
      go_wp2
      go_ret
      exact ⟨A4, c4, F4, n4, hn4, rfl, hr4, hid (hO4.out.sub ((List.Sublist.refl F4).append ((List.sublist_append_right F2 R).trans ((List.sublist_append_right F1 _).trans (List.sublist_append_right F3 _)))))⟩
end Go.Proofs.YtloflmcgbbbnjaaDoor
