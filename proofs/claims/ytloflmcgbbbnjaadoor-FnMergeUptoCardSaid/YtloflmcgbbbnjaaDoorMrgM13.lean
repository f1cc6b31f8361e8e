/-
  table.ZZBlock, impl.Block: what they return.
  NewMergedIterator; impl.Merge.
  copy(dst, src) with elements of several cells, dst in a whole block that is owned.
  spec.Map: Put.
  spec.Merged: lists in order without a key in common become a map.
-/
import Derived.Test.YtloflmcgbbbnjaaDoorMrgM12
import Derived.Test.YtloflmcgbbbnjaaDoorMrgM3
import Derived.Test.YtloflmcgbbbnjaaDoorMrgM11
import Derived.Test.YtloflmcgbbbnjaaDoorMrgM2
import Derived.Lib.SlBuf
import Derived.Test.YtloflmcgbbbnjaaDoorMrgM4
import Derived.Test.YtloflmcgbbbnjaaDoorMrgM1
namespace Go.Proofs.YtloflmcgbbbnjaaDoor
open Go.RowKit Plain
set_option linter.all false

def zBW : List Value := [.int .i64 0] ++ ([.slice none 0 0, .int .i64 0] ++ (List.replicate 64 (.int .u8 0) ++ [.int .i64 0, .slice none 0 0, .slice none 0 0, .slice none 0 0]))
/-- The restarts of a block, as the writer keeps them. -/
def rsts (rs : Nat) (L : List KV) : Nat → List Nat
  | 0 => []
  | j + 1 => bwR rs j (bst rs [] L 0 j).b (rsts rs L j)
theorem bst_nil (rs : Nat) (L : List KV) (j : Nat) : (bst rs [] L 0 (j + 1)).b = (bst rs [] L 0 j).b ++ ent (bwN rs j (key L (j - 1)) (key L j)) (key L j) (val L j) := by
  simp only [bst, bstep, bwN, pick_nil]
  split
  · rfl
  · simp
theorem rsts_tail (rs : Nat) (L : List KV) : ∀ j, (bst rs [] L 0 j).tail = le4s (rsts rs L j) ∧ (bst rs [] L 0 j).many = (rsts rs L j).length
  | 0 => ⟨rfl, rfl⟩
  | j + 1 => by
    obtain ⟨h1, h2⟩ := rsts_tail rs L j
    simp only [bst, bstep, rsts, bwR, pick_nil]
    split
    · simp only [le4s_append, h1, List.length_append, List.length_singleton, h2]
      exact ⟨by simp [le4s], trivial⟩
    · simp [h1, h2]
theorem rsts_bound {rs : Nat} {L : List KV} (hw : kvw L < 34359738368) : ∀ j, j ≤ L.length → (rsts rs L j).length ≤ j ∧ ∀ x ∈ rsts rs L j, x ≤ 16 * kvw L
  | 0, _ => by simp [rsts]
  | j + 1, h => by
    obtain ⟨h1, h2⟩ := rsts_bound (rs := rs) hw j (by omega)
    have h3 := (bst_le (rs := rs) (ns := []) (c0 := 0) hw j (by omega)).1
    have h4 := kvw_take L j
    simp only [rsts, bwR]
    split
    · refine ⟨by simp; omega, fun x hx => ?_⟩
      rcases List.mem_append.1 hx with hx | hx
      · exact h2 x hx
      · simp at hx; omega
    · exact ⟨by omega, h2⟩
/-- What the writer has behind finish is the block. -/
theorem fin_block {rs : Nat} {L : List KV} (h0 : 0 < L.length) (hrs : 0 < rs) : (bst rs [] L 0 L.length).b ++ le4s (finR L.length (rsts rs L L.length) ++ [(finR L.length (rsts rs L L.length)).length]) = blockB rs [] L 0 := by
  obtain ⟨h1, h2⟩ := rsts_tail rs L L.length
  have hne : (bst rs [] L 0 L.length).many ≠ 0 := by
    rw [h2]
    have : ∀ j, 0 < j → 0 < (rsts rs L j).length := by
      intro j hj
      induction j with
      | zero => omega
      | succ j ih =>
        rcases Nat.eq_zero_or_pos j with h | h
        · subst h; simp [rsts, bwR]
        · have := ih h
          simp only [rsts, bwR]; split
          · simp
          · exact this
    have := this L.length h0
    omega
  have hf : finR L.length (rsts rs L L.length) = rsts rs L L.length := if_neg (by omega)
  unfold blockB
  rw [hf, if_neg hne, le4s_append, h1, h2]
  simp [le4s]

theorem bw_new {b t sg : Nat} {v0 v1 v2 : Value} {boot tail4 scr : List Value} {R : List Fr} {w0 w : World} (hb : boot.length = 64) (h : Own (fw b t ([v0] ++ ([v1, v2] ++ (boot ++ tail4))) :: fw sg 5 scr :: R) w0 w) :
    Own (fp b 0 [v0] :: fp b 67 tail4 :: fp b 1 [v1, v2] :: fp b 3 boot :: fp sg 0 scr :: R) w0 w := by
  have h1 := (h.part.split (k := 1) rfl).swap01.split (k := 3) rfl
  have h2 := h1.swap01.split (k := 67) (by rw [hb])
  have h3 := (h2.perm (L' := fw sg 5 scr :: (fp b 0 [v0] :: fp b 67 tail4 :: fp b 1 [v1, v2] :: fp b 3 boot :: R)) (perm_of fun _ _ z => by simp only [List.count_cons]; omega)).part
  exact h3.perm (perm_of fun _ _ z => by simp only [List.count_cons]; omega)
theorem own_mid {x y : Fr} {A B C D : List Fr} {w0 w : World} (h : Own (x :: y :: (A ++ (B ++ C)) ++ D) w0 w) : Own (A ++ (x :: y :: (B ++ C) ++ D)) w0 w :=
  h.perm (perm_of fun _ _ z => by simp only [List.count_append, List.count_cons, List.cons_append]; omega)
def pk (L : List KV) (j : Nat) : List UInt8 := if j = 0 then [] else key L (j - 1)
theorem bwN_pk (rs : Nat) (L : List KV) (j : Nat) (k : List UInt8) : bwN rs j (pk L j) k = bwN rs j (key L (j - 1)) k := by
  unfold pk
  split
  · rename_i h; subst h; simp [bwN]
  · rfl
theorem Own.cs_pb0 {L : List Fr} {w0 w : World} {g t : Nat} {a b : Value} (h : Own L w0 w) (hx : fw g t [a, b] ∈ L) : w.cell? ⟨g, 0, none⟩ = some a := (h.ins _ hx).cell (i := 0) rfl (by simp)
theorem Own.cs_pb1 {L : List Fr} {w0 w : World} {g t : Nat} {a b : Value} (h : Own L w0 w) (hx : fw g t [a, b] ∈ L) : w.cell? ⟨g, 1, none⟩ = some b := (h.ins _ hx).cell (i := 1) rfl (by simp)
def sls (f : Pr → Value) (l : List Pr) : List Value := l.map f
def kSl (r : Pr) : Value := .slice r.ka r.k.length r.kc
def vSl (r : Pr) : Value := .slice r.va r.v.length r.vc

set_option maxHeartbeats 3200000 in
set_option maxRecDepth 100000 in
theorem zzBlock (kA vA : Option Addr) (kc vc rs : Nat) (l : List Pr) (R : List Fr) (w0 w : World) (hk : St R w0 fun w => CsAt w kA (l.map kSl)) (hv : St R w0 fun w => CsAt w vA (l.map vSl)) (hp : ∀ r ∈ l, St R w0 fun w => r.Ok w) (hO : Own R w0 w)
    (hrs : 0 < rs) (hrs2 : rs ≤ 1073741824) (h0 : 0 < l.length) (hl : l.length ≤ 33554432) (hw : wgt l ≤ 33554432) :
    Calls Tryd.prog 36 #[.slice kA l.length kc, .slice vA l.length vc, .int .i64 rs] w fun e w' => ∃ A c F, e = .returned (.slice A (blockB rs [] (kvs l) 0).length c) ∧ Rd F w0 A (blockB rs [] (kvs l) 0) ∧ Own (F ++ R) w0 w' := by
  go_enter Tryd.func36, Tryd.ntmps36
  have hz : ∀ (g : Nat), (((Tryd.zeroCells139.setIfInBounds 0 (.int .i64 (rs : Int))).setIfInBounds 70 (.slice (some ⟨g, 0, none⟩) 30 30)).toList : List Value) = [.int .i64 (rs : Int)] ++ ([.slice none 0 0, .int .i64 0] ++ (List.replicate 64 (.int .u8 0) ++ [.int .i64 0, .slice none 0 0, .slice none 0 0, .slice (some ⟨g, 0, none⟩) 30 30])) := fun g => by kernel_rfl
  have hz1 : ∀ (g : Nat), ((Tryd.zeroCells139.setIfInBounds 0 (.int .i64 (rs : Int))).setIfInBounds 70 (.slice (some ⟨g, 0, none⟩) 30 30)).all (·.oneCell') = true := fun g => by kernel_rfl
  have HZ := hid hz
  have HZ1 := hid hz1
  clear hz hz1
  go_wp2_with (first
    | (at_make; refine own_make rfl _ _ _ rfl 5 (.int .u8 0) 1 Tryd.underlying25 Tryd.info_u8 rfl _ _ _ _ 30 30 rfl rfl rfl rfl (Nat.le_refl _) (by omega) (by omega) hO ?_; intro sg w1 hO1; have HO1 := hid hO1; clear hO1)
    | (refine own_store_row rfl 139 (.tmp 7) (.tmp 11) rfl w1.heap.size _ rfl rfl 139 _ (HO1.out.allocA rfl _ _) (by kernel_rfl) (by kernel_rfl) (HZ1.out sg) ?_; intro w2 hO2; rw [HZ.out sg] at hO2; have HO2 := hid hO2; clear hO2))
  obtain ⟨b, hb⟩ : ∃ b, w1.heap.size = b := ⟨_, rfl⟩
  rw [hb] at HO2 ⊢
  have hO3 := bw_new (by simp) HO2.out
  have hL : kvw (kvs l) ≤ 33554432 := by rw [kvw_kvs]; exact hw
  have HO3 := hid hO3
  clear HO2 HO1 hO3 hb HZ HZ1
  go_loopw [14] (fun i wr => ∃ (j : Nat) (scr : List Value) (F : List Fr), i = .int .i64 j ∧ j ≤ l.length ∧ BW b 0 rs j (bst rs [] (kvs l) 0 j).b (pk (kvs l) j) (rsts rs (kvs l) j) sg 0 F ∧ scr.length = 30 ∧ Own (F ++ (fp sg 0 scr :: R)) w0 wr) (fun i _ => l.length - (intOf i).toNat)
  case atStart =>
    exact ⟨0, List.replicate 30 (.int .u8 0), _, rfl, Nat.zero_le _, ⟨none, 0, none, 0, [fp b 1 [.slice none 0 0, .int .i64 0], fp b 3 (List.replicate 64 (.int .u8 0))], [], [], .inl ⟨rfl, _, ⟨by simp, _, bc_zeros 64⟩, rfl⟩, Row.nil _ _, Row.nil _ _, rfl⟩, by simp, HO3.out⟩
  case round =>
    obtain ⟨j, scr, F, rfl, hj, hB, hs, hO⟩ := hrel
    obtain ⟨hb1, _, _, _, _⟩ := bst_le (rs := rs) (ns := []) (l := kvs l) (c0 := 0) (by omega) j (by rw [kvs_length]; exact hj)
    obtain ⟨hr1, hr2⟩ := rsts_bound (rs := rs) (L := kvs l) (by omega) j (by rw [kvs_length]; exact hj)
    have hkt := kvw_take (kvs l) j
    have HB := hid hB
    have HO := hid hO
    have HR2 := hid hr2
    clear hB hO hr2 HO3
    by_cases h4 : j < l.length
    · have h4' : (j : Int) < (l.length : Int) := by omega
      have hx : l[j]? = some l[j] := List.getElem?_eq_getElem h4
      have hmem : l[j] ∈ l := List.getElem_mem h4
      have kx := key_kvs hx
      have vx := val_kvs hx
      have hck := HO.out.st hk (by intro x hx; simp [hx])
      have hcv := HO.out.st hv (by intro x hx; simp [hx])
      obtain ⟨g, o, rfl, p0⟩ := hck j (by simpa using h4)
      obtain ⟨g', o', rfl, p1⟩ := hcv j (by simpa using h4)
      rw [List.getElem?_map, hx] at p0 p1
      generalize l[j] = r at hx hmem kx vx p0 p1
      have p0' : wr.cell? ⟨g, o + j, none⟩ = some (.slice r.ka r.k.length r.kc) := p0
      have p1' : wr.cell? ⟨g', o' + j, none⟩ = some (.slice r.va r.v.length r.vc) := p1
      have hwm := wgt_mem hmem
      have hok := hp r hmem
      have hok0 := HO.out.st hok (by intro x hx; simp [hx])
      have hkc := hok0.hkc
      have hpk : (pk (kvs l) j).length ≤ 2147483648 := by
        have := kvw_key (kvs l) (j - 1)
        unfold pk; split
        · simp
        · omega
      have KX := hid kx
      have VX := hid vx
      clear hx kx vx hck hcv p0 p1 hok0
      go_wp2_with fail
      go_still_tail 8, (by kernel_rfl)
      go_wp2_with fail
      refine (bw_append b 0 rs j r.kc r.vc sg 0 r.ka r.va (bst rs [] (kvs l) 0 j).b (pk (kvs l) j) r.k r.v (rsts rs (kvs l) j) scr F R w0 _ HB.out HO.out.drew hs (hok.imp fun _ h => h.hk) (hok.imp fun _ h => h.hv) hkc hrs hrs2 (by omega) (by omega) (by omega) (by omega) (by omega) hpk).mono ?_
      rintro e w4 ⟨rfl, F4, scr4, hB4, hs4, hO4⟩
      have HB4 := hid hB4
      have HO4 := hid hO4
      clear hB4 hO4
      go_wp2_with fail
      refine ⟨⟨j + 1, scr4, F4, rfl, by omega, ?_, hs4, HO4.out⟩, by simp [intOf]; omega⟩
      have h9 := HB4.out
      rw [bwN_pk, ← KX.out, ← VX.out, ← bst_nil] at h9
      exact h9
    · have h4' : ¬ (j : Int) < (l.length : Int) := by omega
      have hjl : j = l.length := by omega
      have HJ := hid hjl
      clear hjl
      go_wp2_with fail
      refine (bw_finish b 0 rs j sg 0 _ _ _ F (fp sg 0 scr :: R) w0 _ HB.out HO.out (by omega) (by omega) (fun x hx => by have := HR2.out x hx; omega)).mono ?_
      rintro e w4 ⟨rfl, F4, hB4, hO4⟩
      obtain ⟨pA, pc, rA, rc, Fb, Fp, Fq, hBF, hP, hQ, rfl⟩ := hB4
      have hfb := fin_block (rs := rs) (L := kvs l) (by rw [kvs_length]; exact h0) hrs
      rw [kvs_length] at hfb
      rw [HJ.out, hfb] at hBF
      have HBF := hid hBF
      have HO4 := hid hO4
      clear hBF hO4 hP hQ hfb HB HR2
      go_wp2_with fail
      refine (bytes_buf b (0 + 1) (blockB rs [] (kvs l) 0) Fb _ w0 w4 HBF.out (own_mid HO4.out)).mono ?_
      rintro e w5 ⟨A, c, rfl, hle, hrd, hd⟩
      have HO5 := hid ((own_mid HO4.out).dr hd)
      have HRD := hid hrd
      clear hd hrd
      go_wp2
      go_ret
      exact ⟨A, c, Fb, rfl, HRD.out, HO5.out.sub ((List.Sublist.refl Fb).append ((List.sublist_cons_self _ R).trans (List.sublist_append_right _ _)))⟩

theorem Tryd.info_sl : (Tryd.prog.info? 25).map (fun i => (i.zero, i.size, i.bytes)) = some (some (.slice none 0 0), 1, 24) := by kernel_rfl
set_option maxHeartbeats 3200000 in
set_option maxRecDepth 100000 in
theorem implBlock (A : Option Addr) (c rs : Nat) (l : List Pr) (R : List Fr) (w0 w : World) (hp : St R w0 fun w => Prs w A l) (hO : Own R w0 w)
    (hrs : 0 < rs) (hrs2 : rs ≤ 1073741824) (h0 : 0 < l.length) (hl : l.length ≤ 33554432) (hw : wgt l ≤ 33554432) (hbl : (blockB rs [] (kvs l) 0).length ≤ 1099511627776) :
    Calls Tryd.prog 13 #[.slice A l.length c, .int .i64 rs] w (RetH R w0 (blockB rs [] (kvs l) 0)) := by
  go_enter Tryd.func13, Tryd.ntmps13
  go_wp2
  go_loopw [5, 6, 11] (fun v5 v6 i wr => ∃ (k n m : Nat) (A1 A2 : Option Addr) (c1 c2 : Nat) (F1 F2 : List Fr), i = .int .i64 k ∧ k ≤ l.length ∧ v5 = .slice A1 n c1 ∧ v6 = .slice A2 m c2 ∧ Hid (n = k) ∧ Hid (m = k) ∧ Hid (Row 25 1 A1 n c1 ((l.take k).map kSl) F1) ∧ Hid (Row 25 1 A2 m c2 ((l.take k).map vSl) F2) ∧ Hid (Own (F1 ++ (F2 ++ R)) w0 wr)) (fun _ _ i _ => l.length - (intOf i).toNat)
  case atStart => exact ⟨0, 0, 0, none, none, 0, 0, [], [], rfl, Nat.zero_le _, rfl, rfl, hid rfl, hid rfl, hid (Row.nil _ _), hid (Row.nil _ _), hid hO⟩
  case round =>
    obtain ⟨k, n, m, A1, A2, c1, c2, F1, F2, rfl, hk, rfl, rfl, HN, HM, HR1, HR2, HO⟩ := hrel
    have hn := HN.out
    have hm := HM.out
    have hnb : n ≤ 33554432 := by omega
    have hmb : m ≤ 33554432 := by omega
    clear hn hm hO
    by_cases h4 : k < l.length
    · have h4' : (k : Int) < (l.length : Int) := by omega
      have hx : l[k]? = some l[k] := List.getElem?_eq_getElem h4
      have htk : l.take (k + 1) = l.take k ++ [l[k]] := List.take_succ_eq_append_getElem h4
      have hps := HO.out.st hp (by intro x hx; simp [hx])
      generalize l[k] = r at hx htk
      have HT := hid htk
      obtain ⟨g, o, rfl, p0, p1⟩ := hps.at_ hx
      have hO2 := HO.out.alloc 36 [.slice r.ka r.k.length r.kc, .slice r.va r.v.length r.vc]
      have HO2 := hid hO2
      clear htk hps hx hO2
      go_upto_region 5 with fail
      obtain ⟨pb, hpb⟩ : ∃ pb, wr.heap.size = pb := ⟨_, rfl⟩
      have hO4 := HO2.out
      rw [hpb] at hO4 ⊢
      generalize wr.alloc (Obj.cells #[Value.slice r.ka r.k.length r.kc, Value.slice r.va r.v.length r.vc] 36) = W at hO4 ⊢
      have q0 : W.cell? ⟨pb, 0, none⟩ = some (.slice r.ka r.k.length r.kc) := hO4.cell 0 rfl 0 rfl (by simp)
      have q1 : W.cell? ⟨pb, 1, none⟩ = some (.slice r.va r.v.length r.vc) := hO4.cell 0 rfl 1 rfl (by simp)
      have HO4 := hid (show Own (fw pb 36 [.slice r.ka r.k.length r.kc, .slice r.va r.v.length r.vc] :: (F1 ++ (F2 ++ R))) w0 W from hO4)
      clear hO4 hpb HO2 HO p0 p1
      go_region_held3 (fun w' : World => w'.cell? ⟨pb, 0, none⟩ = some (.slice r.ka r.k.length r.kc) ∧ w'.cell? ⟨pb, 1, none⟩ = some (.slice r.va r.v.length r.vc)) (first | exact ⟨q0, q1⟩ | go_keep) (first
        | (refine own_step_append rfl (.tmp 15) (.tmp 18) 74 rfl 25 (.slice none 0 0) 1 24 Tryd.underlying74 Tryd.info_sl rfl (by decide) A1 n c1 _ F1 rfl HR1.out (R := fw pb 36 [.slice r.ka r.k.length r.kc, .slice r.va r.v.length r.vc] :: (F2 ++ R)) ((HO4.out.drew.skip _).perm (perm_of fun _ _ z => by simp only [List.count_append, List.count_cons, List.cons_append]; omega)) (some ⟨W.heap.size, 0, none⟩) 1 1 [kSl r] rfl rfl (csAt_one _ _ _) (by simp [kSl, vSl, Value.oneCell']) (by simp [maxLen]; omega) (by omega) ?_; intro A3 c3 F3 w3 hrx hOx _; have q0 : w3.cell? ⟨pb, 0, none⟩ = some (.slice r.ka r.k.length r.kc) := hOx.cs_pb0 (t := 36) (b := .slice r.va r.v.length r.vc) (by simp); have q1 : w3.cell? ⟨pb, 1, none⟩ = some (.slice r.va r.v.length r.vc) := hOx.cs_pb1 (t := 36) (a := .slice r.ka r.k.length r.kc) (by simp); have HR3 := hid hrx; have HO3 := hid hOx; clear hrx hOx)
        | (refine own_step_append rfl (.tmp 20) (.tmp 23) 74 rfl 25 (.slice none 0 0) 1 24 Tryd.underlying74 Tryd.info_sl rfl (by decide) A2 m c2 _ F2 rfl HR2.out (R := fw pb 36 [.slice r.ka r.k.length r.kc, .slice r.va r.v.length r.vc] :: (F3 ++ R)) ((HO3.out.skip _).perm (perm_of fun _ _ z => by simp only [List.count_append, List.count_cons, List.cons_append]; omega)) (some ⟨w3.heap.size, 0, none⟩) 1 1 [vSl r] rfl rfl (csAt_one _ _ _) (by simp [kSl, vSl, Value.oneCell']) (by simp [maxLen]; omega) (by omega) ?_; intro A5 c5 F5 w5 hrx hOx _; have q0 : w5.cell? ⟨pb, 0, none⟩ = some (.slice r.ka r.k.length r.kc) := hOx.cs_pb0 (t := 36) (b := .slice r.va r.v.length r.vc) (by simp); have q1 : w5.cell? ⟨pb, 1, none⟩ = some (.slice r.va r.v.length r.vc) := hOx.cs_pb1 (t := 36) (a := .slice r.ka r.k.length r.kc) (by simp); have HR5 := hid hrx; have HO5 := hid hOx; clear hrx hOx)
        | (refine own_step_append rfl (.tmp 15) (.tmp 18) 74 rfl 25 (.slice none 0 0) 1 24 Tryd.underlying74 Tryd.info_sl rfl (by decide) A1 n c1 _ F1 rfl HR1.out (R := fw (W.heap.size + 1) 25 [vSl r] :: fw pb 36 [.slice r.ka r.k.length r.kc, .slice r.va r.v.length r.vc] :: (F2 ++ R)) (((HO4.out.skip _).alloc' (g := W.heap.size + 1) (by simp) 25 [vSl r]).drew.perm (perm_of fun _ _ z => by simp only [List.count_append, List.count_cons, List.cons_append]; omega)) (some ⟨W.heap.size, 0, none⟩) 1 1 [kSl r] rfl rfl ((csAt_one W _ _).keep0 (((Only.refl [] _).alloc _).drew)) (by simp [kSl, vSl, Value.oneCell']) (by simp [maxLen]; omega) (by omega) ?_; intro A3 c3 F3 w3 hrx hOx _; have q0 : w3.cell? ⟨pb, 0, none⟩ = some (.slice r.ka r.k.length r.kc) := hOx.cs_pb0 (t := 36) (b := .slice r.va r.v.length r.vc) (by simp); have q1 : w3.cell? ⟨pb, 1, none⟩ = some (.slice r.va r.v.length r.vc) := hOx.cs_pb1 (t := 36) (a := .slice r.ka r.k.length r.kc) (by simp); have HR3 := hid hrx; have HO3 := hid hOx; clear hrx hOx)
        | (refine own_step_append rfl (.tmp 20) (.tmp 23) 74 rfl 25 (.slice none 0 0) 1 24 Tryd.underlying74 Tryd.info_sl rfl (by decide) A2 m c2 _ F2 rfl HR2.out (R := fw pb 36 [.slice r.ka r.k.length r.kc, .slice r.va r.v.length r.vc] :: (F3 ++ R)) ((HO3.out.perm (L' := fw (W.heap.size + 1) 25 [vSl r] :: (F2 ++ (fw pb 36 [.slice r.ka r.k.length r.kc, .slice r.va r.v.length r.vc] :: (F3 ++ R)))) (perm_of fun _ _ z => by simp only [List.count_append, List.count_cons, List.cons_append]; omega)).drop) (some ⟨W.heap.size + 1, 0, none⟩) 1 1 [vSl r] rfl rfl (HO3.out.cs_fw (t := 25) (by simp)) (by simp [kSl, vSl, Value.oneCell']) (by simp [maxLen]; omega) (by omega) ?_; intro A5 c5 F5 w5 hrx hOx _; have q0 : w5.cell? ⟨pb, 0, none⟩ = some (.slice r.ka r.k.length r.kc) := hOx.cs_pb0 (t := 36) (b := .slice r.va r.v.length r.vc) (by simp); have q1 : w5.cell? ⟨pb, 1, none⟩ = some (.slice r.va r.v.length r.vc) := hOx.cs_pb1 (t := 36) (a := .slice r.ka r.k.length r.kc) (by simp); have HR5 := hid hrx; have HO5 := hid hOx; clear hrx hOx)
        | (refine own_step_append rfl (.tmp 15) (.tmp 18) 74 rfl 25 (.slice none 0 0) 1 24 Tryd.underlying74 Tryd.info_sl rfl (by decide) A1 n c1 _ F1 rfl HR1.out (R := fw W.heap.size 25 [vSl r] :: fw pb 36 [.slice r.ka r.k.length r.kc, .slice r.va r.v.length r.vc] :: (F2 ++ R)) (((HO4.out.alloc' (g := W.heap.size) rfl 25 [vSl r]).skip _).drew.perm (perm_of fun _ _ z => by simp only [List.count_append, List.count_cons, List.cons_append]; omega)) (some ⟨W.heap.size + 1, 0, none⟩) 1 1 [kSl r] rfl rfl ((csAt_new' (w := W.alloc _) (by simp) [kSl r] _).keep0 (Only.refl [] _).drew) (by simp [kSl, vSl, Value.oneCell']) (by simp [maxLen]; omega) (by omega) ?_; intro A3 c3 F3 w3 hrx hOx _; have q0 : w3.cell? ⟨pb, 0, none⟩ = some (.slice r.ka r.k.length r.kc) := hOx.cs_pb0 (t := 36) (b := .slice r.va r.v.length r.vc) (by simp); have q1 : w3.cell? ⟨pb, 1, none⟩ = some (.slice r.va r.v.length r.vc) := hOx.cs_pb1 (t := 36) (a := .slice r.ka r.k.length r.kc) (by simp); have HR3 := hid hrx; have HO3 := hid hOx; clear hrx hOx)
        | (refine own_step_append rfl (.tmp 20) (.tmp 23) 74 rfl 25 (.slice none 0 0) 1 24 Tryd.underlying74 Tryd.info_sl rfl (by decide) A2 m c2 _ F2 rfl HR2.out (R := fw pb 36 [.slice r.ka r.k.length r.kc, .slice r.va r.v.length r.vc] :: (F3 ++ R)) ((HO3.out.perm (L' := fw W.heap.size 25 [vSl r] :: (F2 ++ (fw pb 36 [.slice r.ka r.k.length r.kc, .slice r.va r.v.length r.vc] :: (F3 ++ R)))) (perm_of fun _ _ z => by simp only [List.count_append, List.count_cons, List.cons_append]; omega)).drop) (some ⟨W.heap.size, 0, none⟩) 1 1 [vSl r] rfl rfl (HO3.out.cs_fw (t := 25) (by simp)) (by simp [kSl, vSl, Value.oneCell']) (by simp [maxLen]; omega) (by omega) ?_; intro A5 c5 F5 w5 hrx hOx _; have q0 : w5.cell? ⟨pb, 0, none⟩ = some (.slice r.ka r.k.length r.kc) := hOx.cs_pb0 (t := 36) (b := .slice r.va r.v.length r.vc) (by simp); have q1 : w5.cell? ⟨pb, 1, none⟩ = some (.slice r.va r.v.length r.vc) := hOx.cs_pb1 (t := 36) (a := .slice r.ka r.k.length r.kc) (by simp); have HR5 := hid hrx; have HO5 := hid hOx; clear hrx hOx)
        | (refine own_step_append rfl (.tmp 20) (.tmp 23) 74 rfl 25 (.slice none 0 0) 1 24 Tryd.underlying74 Tryd.info_sl rfl (by decide) A2 m c2 _ F2 rfl HR2.out (R := fw pb 36 [.slice r.ka r.k.length r.kc, .slice r.va r.v.length r.vc] :: (F1 ++ R)) ((HO4.out.drew.skip _).perm (perm_of fun _ _ z => by simp only [List.count_append, List.count_cons, List.cons_append]; omega)) (some ⟨W.heap.size, 0, none⟩) 1 1 [vSl r] rfl rfl (csAt_one _ _ _) (by simp [kSl, vSl, Value.oneCell']) (by simp [maxLen]; omega) (by omega) ?_; intro A5 c5 F5 w5 hrx hOx _; have q0 : w5.cell? ⟨pb, 0, none⟩ = some (.slice r.ka r.k.length r.kc) := hOx.cs_pb0 (t := 36) (b := .slice r.va r.v.length r.vc) (by simp); have q1 : w5.cell? ⟨pb, 1, none⟩ = some (.slice r.va r.v.length r.vc) := hOx.cs_pb1 (t := 36) (a := .slice r.ka r.k.length r.kc) (by simp); have HR5 := hid hrx; have HO5 := hid hOx; clear hrx hOx)
        | (refine own_step_append rfl (.tmp 15) (.tmp 18) 74 rfl 25 (.slice none 0 0) 1 24 Tryd.underlying74 Tryd.info_sl rfl (by decide) A1 n c1 _ F1 rfl HR1.out (R := fw pb 36 [.slice r.ka r.k.length r.kc, .slice r.va r.v.length r.vc] :: (F5 ++ R)) ((HO5.out.skip _).perm (perm_of fun _ _ z => by simp only [List.count_append, List.count_cons, List.cons_append]; omega)) (some ⟨w5.heap.size, 0, none⟩) 1 1 [kSl r] rfl rfl (csAt_one _ _ _) (by simp [kSl, vSl, Value.oneCell']) (by simp [maxLen]; omega) (by omega) ?_; intro A3 c3 F3 w3 hrx hOx _; have q0 : w3.cell? ⟨pb, 0, none⟩ = some (.slice r.ka r.k.length r.kc) := hOx.cs_pb0 (t := 36) (b := .slice r.va r.v.length r.vc) (by simp); have q1 : w3.cell? ⟨pb, 1, none⟩ = some (.slice r.va r.v.length r.vc) := hOx.cs_pb1 (t := 36) (a := .slice r.ka r.k.length r.kc) (by simp); have HR3 := hid hrx; have HO3 := hid hOx; clear hrx hOx)
        | (refine own_step_append rfl (.tmp 20) (.tmp 23) 74 rfl 25 (.slice none 0 0) 1 24 Tryd.underlying74 Tryd.info_sl rfl (by decide) A2 m c2 _ F2 rfl HR2.out (R := fw (W.heap.size + 1) 25 [kSl r] :: fw pb 36 [.slice r.ka r.k.length r.kc, .slice r.va r.v.length r.vc] :: (F1 ++ R)) (((HO4.out.skip _).alloc' (g := W.heap.size + 1) (by simp) 25 [kSl r]).drew.perm (perm_of fun _ _ z => by simp only [List.count_append, List.count_cons, List.cons_append]; omega)) (some ⟨W.heap.size, 0, none⟩) 1 1 [vSl r] rfl rfl ((csAt_one W _ _).keep0 (((Only.refl [] _).alloc _).drew)) (by simp [kSl, vSl, Value.oneCell']) (by simp [maxLen]; omega) (by omega) ?_; intro A5 c5 F5 w5 hrx hOx _; have q0 : w5.cell? ⟨pb, 0, none⟩ = some (.slice r.ka r.k.length r.kc) := hOx.cs_pb0 (t := 36) (b := .slice r.va r.v.length r.vc) (by simp); have q1 : w5.cell? ⟨pb, 1, none⟩ = some (.slice r.va r.v.length r.vc) := hOx.cs_pb1 (t := 36) (a := .slice r.ka r.k.length r.kc) (by simp); have HR5 := hid hrx; have HO5 := hid hOx; clear hrx hOx)
        | (refine own_step_append rfl (.tmp 15) (.tmp 18) 74 rfl 25 (.slice none 0 0) 1 24 Tryd.underlying74 Tryd.info_sl rfl (by decide) A1 n c1 _ F1 rfl HR1.out (R := fw pb 36 [.slice r.ka r.k.length r.kc, .slice r.va r.v.length r.vc] :: (F5 ++ R)) ((HO5.out.perm (L' := fw (W.heap.size + 1) 25 [kSl r] :: (F1 ++ (fw pb 36 [.slice r.ka r.k.length r.kc, .slice r.va r.v.length r.vc] :: (F5 ++ R)))) (perm_of fun _ _ z => by simp only [List.count_append, List.count_cons, List.cons_append]; omega)).drop) (some ⟨W.heap.size + 1, 0, none⟩) 1 1 [kSl r] rfl rfl (HO5.out.cs_fw (t := 25) (by simp)) (by simp [kSl, vSl, Value.oneCell']) (by simp [maxLen]; omega) (by omega) ?_; intro A3 c3 F3 w3 hrx hOx _; have q0 : w3.cell? ⟨pb, 0, none⟩ = some (.slice r.ka r.k.length r.kc) := hOx.cs_pb0 (t := 36) (b := .slice r.va r.v.length r.vc) (by simp); have q1 : w3.cell? ⟨pb, 1, none⟩ = some (.slice r.va r.v.length r.vc) := hOx.cs_pb1 (t := 36) (a := .slice r.ka r.k.length r.kc) (by simp); have HR3 := hid hrx; have HO3 := hid hOx; clear hrx hOx)
        | (refine own_step_append rfl (.tmp 20) (.tmp 23) 74 rfl 25 (.slice none 0 0) 1 24 Tryd.underlying74 Tryd.info_sl rfl (by decide) A2 m c2 _ F2 rfl HR2.out (R := fw W.heap.size 25 [kSl r] :: fw pb 36 [.slice r.ka r.k.length r.kc, .slice r.va r.v.length r.vc] :: (F1 ++ R)) (((HO4.out.alloc' (g := W.heap.size) rfl 25 [kSl r]).skip _).drew.perm (perm_of fun _ _ z => by simp only [List.count_append, List.count_cons, List.cons_append]; omega)) (some ⟨W.heap.size + 1, 0, none⟩) 1 1 [vSl r] rfl rfl ((csAt_new' (w := W.alloc _) (by simp) [vSl r] _).keep0 (Only.refl [] _).drew) (by simp [kSl, vSl, Value.oneCell']) (by simp [maxLen]; omega) (by omega) ?_; intro A5 c5 F5 w5 hrx hOx _; have q0 : w5.cell? ⟨pb, 0, none⟩ = some (.slice r.ka r.k.length r.kc) := hOx.cs_pb0 (t := 36) (b := .slice r.va r.v.length r.vc) (by simp); have q1 : w5.cell? ⟨pb, 1, none⟩ = some (.slice r.va r.v.length r.vc) := hOx.cs_pb1 (t := 36) (a := .slice r.ka r.k.length r.kc) (by simp); have HR5 := hid hrx; have HO5 := hid hOx; clear hrx hOx)
        | (refine own_step_append rfl (.tmp 15) (.tmp 18) 74 rfl 25 (.slice none 0 0) 1 24 Tryd.underlying74 Tryd.info_sl rfl (by decide) A1 n c1 _ F1 rfl HR1.out (R := fw pb 36 [.slice r.ka r.k.length r.kc, .slice r.va r.v.length r.vc] :: (F5 ++ R)) ((HO5.out.perm (L' := fw W.heap.size 25 [kSl r] :: (F1 ++ (fw pb 36 [.slice r.ka r.k.length r.kc, .slice r.va r.v.length r.vc] :: (F5 ++ R)))) (perm_of fun _ _ z => by simp only [List.count_append, List.count_cons, List.cons_append]; omega)).drop) (some ⟨W.heap.size, 0, none⟩) 1 1 [kSl r] rfl rfl (HO5.out.cs_fw (t := 25) (by simp)) (by simp [kSl, vSl, Value.oneCell']) (by simp [maxLen]; omega) (by omega) ?_; intro A3 c3 F3 w3 hrx hOx _; have q0 : w3.cell? ⟨pb, 0, none⟩ = some (.slice r.ka r.k.length r.kc) := hOx.cs_pb0 (t := 36) (b := .slice r.va r.v.length r.vc) (by simp); have q1 : w3.cell? ⟨pb, 1, none⟩ = some (.slice r.va r.v.length r.vc) := hOx.cs_pb1 (t := 36) (a := .slice r.ka r.k.length r.kc) (by simp); have HR3 := hid hrx; have HO3 := hid hOx; clear hrx hOx))
      all_goals
        go_wp2_with fail
        refine ⟨⟨k + 1, n + 1, m + 1, A3, A5, c3, c5, F3, F5, rfl, by omega, rfl, rfl, hid (by rw [HN.out]), hid (by rw [HM.out]), hid (by rw [HT.out, List.map_append]; exact HR3.out), hid (by rw [HT.out, List.map_append]; exact HR5.out), hid ?_⟩, by simp [intOf]; omega⟩
        first
          | exact (HO5.out.perm (L' := fw pb 36 [.slice r.ka r.k.length r.kc, .slice r.va r.v.length r.vc] :: (F3 ++ (F5 ++ R))) (perm_of fun _ _ z => by simp only [List.count_append, List.count_cons, List.cons_append]; omega)).drop
          | exact (HO3.out.perm (L' := fw pb 36 [.slice r.ka r.k.length r.kc, .slice r.va r.v.length r.vc] :: (F3 ++ (F5 ++ R))) (perm_of fun _ _ z => by simp only [List.count_append, List.count_cons, List.cons_append]; omega)).drop
    · have h4' : ¬ (k : Int) < (l.length : Int) := by omega
      have hkl : k = l.length := by omega
      have hr1 := HR1.out
      have hr2 := HR2.out
      rw [hkl, List.take_length] at hr1 hr2
      have hn2 : n = l.length := by rw [HN.out, hkl]
      have hm2 : m = l.length := by rw [HM.out, hkl]
      clear HN HM HR1 HR2 hkl
      subst hn2
      obtain rfl : m = l.length := hm2
      have HR1 := hid hr1
      have HR2 := hid hr2
      clear hr1 hr2
      go_wp2_with fail
      refine (zzBlock A1 A2 c1 c2 rs l (F1 ++ (F2 ++ R)) w0 wr ((HR1.out.st w0).left _) (((HR2.out.st w0).left _).right _) (fun r hr => ((hp.right F2).right F1).imp fun _ h => h.ok r hr) HO.out hrs hrs2 h0 hl hw).mono ?_
      rintro e w3 ⟨A3, c3, F3, rfl, hrd, hO3⟩
      have hbs := hO3.st hrd (by intro x hx; simp [hx])
      have HBS := hid hbs
      have HO3 := hid hO3
      clear hbs hrd hO3
      go_wp2_with fail
      refine (copied_own A3 _ c3 (blockB rs [] (kvs l) 0) _ w0 w3 HBS.out HO3.out rfl (by omega)).mono ?_
      rintro e w4 ⟨A4, c4, F4, n4, hn4, rfl, hr4, hO4⟩
      go_wp2
      go_ret
      exact ⟨A4, c4, F4, n4, hn4, rfl, hr4, hid (hO4.out.sub ((List.Sublist.refl F4).append ((List.sublist_append_right F2 R).trans ((List.sublist_append_right F1 _).trans (List.sublist_append_right F3 _)))))⟩
end Go.Proofs.YtloflmcgbbbnjaaDoor
namespace Go.Proofs.YtloflmcgbbbnjaaDoor
open Go.RowKit Plain
set_option linter.all false

def MNew (iA : Option Addr) (n ic : Nat) (R : List Fr) (w0 : World) (e : Ending) (w' : World) : Prop :=
  ∃ mp kg, e = .returned (.iface 200 (.pointer (some ⟨mp, 0, none⟩))) ∧ Own (mFr mp iA n ic kg 0 0 :: fw kg 25 (List.replicate n (.slice none 0 0)) :: R) w0 w'
set_option maxHeartbeats 1600000 in
set_option maxRecDepth 100000 in
theorem mNewIt (iA : Option Addr) (n ic : Nat) (R : List Fr) (w0 w : World) (hO : Own R w0 w) (hn : n ≤ 2147483647) :
    Calls Tryd.prog 52 #[.slice iA n ic, .iface 112 (.agg #[]), .bool true] w (MNew iA n ic R w0) := by
  have HO := hid hO
  clear hO
  go_enter Tryd.func52, Tryd.ntmps52
  go_wp2_with (at_make; refine own_make rfl (.tmp 11) (.tmp 11) 74 rfl 25 (.slice none 0 0) 24 Tryd.underlying74 Tryd.info_sl rfl .i64 .i64 (n : Int) (n : Int) n n rfl rfl rfl rfl (Nat.le_refl _) (by omega) (by omega) HO.out ?_; intro kg w2 hO2; have HO2 := hid hO2; clear hO2)
  obtain ⟨mp, hmp⟩ : ∃ mp, w2.heap.size = mp := ⟨_, rfl⟩
  go_ret
  have hO3 : Own (mFr w2.heap.size iA n ic kg 0 0 :: fw kg 25 (List.replicate n (.slice none 0 0)) :: R) w0 _ := HO2.out.alloc 204 [.iface 112 (.agg #[]), .slice iA n ic, .bool true, .slice (some ⟨kg, 0, none⟩) n n, .int .i64 0, .int .i64 0, .nilIface, .nilFunc, .nilIface]
  exact ⟨w2.heap.size, kg, rfl, hO3⟩
/-- The iterators over lists, none moved yet. -/
def itOf (q : Nat) (x : PL) : It := ⟨q, x.A, x.c, x.l, -1, -1⟩
theorem itOf_kv (q : Nat) (x : PL) : (itOf q x).kv = .slice none 0 0 := aKey_not (wval_not.2 (.inl (by show (-1 : Int) < 0; omega)))
theorem itOf_fr (q : Nat) (x : PL) : (itOf q x).fr = aFr q (arrV x.A x.l.length x.c) (-1) (-1) (.slice none 0 0) (.slice none 0 0) := by
  have h1 : aKey x.l (-1) = .slice none 0 0 := aKey_not (wval_not.2 (.inl (by omega)))
  have h2 : aVal x.l (-1) = .slice none 0 0 := by unfold aVal; rw [if_neg (by rw [wval_not.2 (.inl (by omega))]; simp)]
  show aFr q (arrV x.A x.l.length x.c) (-1) (-1) (aKey x.l (-1)) (aVal x.l (-1)) = _
  rw [h1, h2]
def Fresh (its : List It) (ls : List PL) : Prop := its.length = ls.length ∧ ∀ (i : Nat) (x : PL), ls[i]? = some x → ∃ q, its[i]? = some (itOf q x)
theorem Fresh.mem {its : List It} {ls : List PL} (h : Fresh its ls) {it : It} (hi : it ∈ its) : ∃ q x, x ∈ ls ∧ it = itOf q x := by
  obtain ⟨i, hl, rfl⟩ := List.getElem_of_mem hi
  have hl2 : i < ls.length := by rw [← h.1]; exact hl
  obtain ⟨q, hq⟩ := h.2 i ls[i] (List.getElem?_eq_getElem hl2)
  rw [List.getElem?_eq_getElem hl] at hq
  exact ⟨q, ls[i], List.getElem_mem hl2, Option.some.inj hq⟩
theorem Fresh.ls {its : List It} {ls : List PL} (h : Fresh its ls) : its.map It.l = ls.map PL.l := by
  apply List.ext_getElem?
  intro i
  rw [List.getElem?_map, List.getElem?_map]
  cases hi : ls[i]? with
  | none => rw [List.getElem?_eq_none (by rw [h.1]; exact List.getElem?_eq_none_iff.1 hi)]; rfl
  | some x =>
    obtain ⟨q, hq⟩ := h.2 i x hi
    rw [hq]; rfl
theorem Fresh.kv {its : List It} {ls : List PL} (h : Fresh its ls) : its.map It.kv = List.replicate its.length (.slice none 0 0) := by
  rw [List.eq_replicate_iff]
  refine ⟨by simp, fun v hv => ?_⟩
  obtain ⟨it, hit, rfl⟩ := List.mem_map.1 hv
  obtain ⟨q, x, _, rfl⟩ := h.mem hit
  exact itOf_kv q x
theorem Fresh.snoc {its : List It} {ls : List PL} {k : Nat} {x : PL} (h : Fresh its (ls.take k)) (hx : ls[k]? = some x) (q : Nat) : Fresh (its ++ [itOf q x]) (ls.take (k + 1)) := by
  obtain ⟨hl, rfl⟩ := List.getElem?_eq_some_iff.1 hx
  have e := List.take_succ_eq_append_getElem hl
  refine ⟨by rw [e, List.length_append, List.length_append, h.1]; rfl, fun i y hy => ?_⟩
  rw [e] at hy
  rcases Nat.lt_or_ge i (ls.take k).length with h1 | h1
  · rw [List.getElem?_append_left h1] at hy
    obtain ⟨q', hq'⟩ := h.2 i y hy
    exact ⟨q', by rw [List.getElem?_append_left (by rw [h.1]; exact h1)]; exact hq'⟩
  · rw [List.getElem?_append_right h1] at hy
    have h0 : i - (ls.take k).length = 0 := by
      have := (List.getElem?_eq_some_iff.1 hy).1
      simp at this ⊢; omega
    rw [h0] at hy
    have hy : ls[k] = y := Option.some.inj hy
    exact ⟨q, by rw [List.getElem?_append_right (by rw [h.1]; exact h1), h.1, h0, hy]; rfl⟩
theorem Tryd.info_iter : (Tryd.prog.info? 106).map (fun i => (i.zero, i.size, i.bytes)) = some (some .nilIface, 1, 16) := by kernel_rfl
def IMOut (m : List Pr) (calls key : List UInt8) (M : Nat) (R : List Fr) (w0 : World) (e : Ending) (w' : World) : Prop :=
  ∃ (A B : Option Addr) (c d : Nat) (l : List Pr) (G : List Fr), e = .returned (.tuple #[.slice A M c, .slice B M d]) ∧ Hid (l.length = M ∧ kvs l = (wpl m.length (mAt Pr.k m key : Nat) calls (-1)).map (wkv (kvs m))) ∧ Hid (∀ wb, St G wb fun w => Prs w A l) ∧ Hid (∀ wb, St G wb fun w => CsAt w B (cbl ((wpl m.length (mAt Pr.k m key : Nat) calls (-1)).map (wval m.length)))) ∧ Hid (Own (G ++ R) w0 w')
set_option maxHeartbeats 3200000 in
set_option maxRecDepth 100000 in
theorem implMerge (A cA kA : Option Addr) (n c cn cc kn kc : Nat) (ls : List PL) (m : List Pr) (calls key : List UInt8) (R : List Fr) (w0 w : World) (hp : St R w0 fun w => PLs w A ls) (hn : n = ls.length) (hnl : n ≤ 2147483647) (hM : Mgd Pr.k (ls.map PL.l) m) (hkm : ∀ r ∈ m, r.k.length ≤ 2147483647 ∧ r.v.length ≤ 2147483647) (hne : ∀ r ∈ m, r.k ≠ [])
    (hll : ∀ x ∈ ls, x.l.length ≤ 1099511627776) (hcs : Rd R w0 cA calls) (hk : Rd R w0 kA key) (hcn : cn = calls.length) (hkn : kn = key.length) (hkc : kn ≤ kc) (hkl : key.length ≤ 2147483647) (hcl : calls.length ≤ 2147483647) (hO : Own R w0 w) :
    Calls Tryd.prog 26 #[.slice A n c, .slice cA cn cc, .slice kA kn kc] w (IMOut m calls key cn R w0) := by
  have HP := hid hp
  have HN := hid hn
  have HM := hid hM
  have HB := hid (show _ ∧ _ ∧ _ from ⟨hkm, hne, hll⟩)
  have HC := hid (show _ ∧ _ ∧ _ ∧ _ ∧ _ ∧ _ from ⟨hcs, hk, hcn, hkn, hkl, hcl⟩)
  have HO := hid hO
  clear hp hn hM hkm hne hll hcs hk hcn hkn hkl hcl hO
  go_enter Tryd.func26, Tryd.ntmps26
  go_wp2_with fail
  go_loopw [8, 13] (fun lv i wr => ∃ (k k' : Nat) (lA : Option Addr) (lc : Nat) (its : List It) (Fl : List Fr), i = .int .i64 k ∧ lv = .slice lA k' lc ∧ k = k' ∧ k ≤ n ∧ Hid (Fresh its (ls.take k)) ∧ Hid (Row 106 1 lA k' lc (its.map It.iv) Fl) ∧ Hid (Own (Fl ++ (its.map It.fr ++ R)) w0 wr)) (fun _ i _ => n - (intOf i).toNat)
  case atStart => exact ⟨0, 0, none, 0, [], [], rfl, rfl, rfl, Nat.zero_le _, hid ⟨rfl, fun i x hx => by simp at hx⟩, hid (Row.nil _ _), HO⟩
  case round =>
    clear HO
    obtain ⟨k, k', lA, lc, its, Fl, rfl, rfl, rfl, hk, HF, HR, HO⟩ := hrel
    obtain ⟨w2, rfl⟩ : ∃ w2, w2 = wr := ⟨_, rfl⟩
    by_cases h4 : k < n
    · have h4' : (k : Int) < (n : Int) := by omega
      have hkl : k < ls.length := by rw [← HN.out]; exact h4
      have hx : ls[k]? = some ls[k] := List.getElem?_eq_getElem hkl
      have hps := HO.out.st HP.out (fun y hy => by simp [hy])
      generalize ls[k] = x at hx
      obtain ⟨g, o, rfl, p0⟩ := hps.at_ hx
      have HX := hid hx
      clear hps hx
      go_wp2_with fail
      refine (aNew x.A x.l.length x.c (Fl ++ (its.map It.fr ++ R)) w0 _ HO.out).mono ?_
      rintro e w3 ⟨q, rfl, hO3⟩
      rw [← itOf_fr] at hO3
      have HO3 := hid (hO3.perm (L' := Fl ++ ((its ++ [itOf q x]).map It.fr ++ R)) (by rw [List.map_append]; show ((itOf q x).fr :: (Fl ++ (its.map It.fr ++ R))).Perm (Fl ++ ((its.map It.fr ++ [(itOf q x).fr]) ++ R)); exact (perm_of fun _ _ z => by simp only [List.count_append, List.count_cons, List.cons_append, List.count_nil, List.nil_append, List.append_nil]; omega)))
      clear hO3 p0
      go_wp2_with (at_builtin; refine own_append rfl (.tmp 17) (.tmp 21) 104 rfl 106 .nilIface 1 16 Tryd.underlying104 Tryd.info_iter rfl (by decide) lA k lc (its.map It.iv) Fl rfl HR.out (R := (its ++ [itOf q x]).map It.fr ++ R) (HO3.out.skip _) (some ⟨w3.heap.size, 0, none⟩) 1 1 [(itOf q x).iv] rfl rfl (csAt_all _ _ _) (by simp [Value.oneCell', It.iv]) (by simp [maxLen]; omega) (by omega) ?_; intro lA2 lc2 Fl2 w4 hr4 hO4 _; have HR4 := hid hr4; have HO4 := hid hO4; clear hr4 hO4)
      go_roundw
      case rel => exact ⟨k + 1, k + 1, lA2, lc2, its ++ [itOf q x], Fl2, by go_num, rfl, rfl, by omega, hid (HF.out.snoc HX.out q), hid (by rw [List.map_append]; exact HR4.out), HO4⟩
      case measure => simp [intOf]; omega
    · have h4' : ¬ (k : Int) < (n : Int) := by omega
      obtain rfl : n = k := by omega
      have hfr := HF.out
      rw [List.take_of_length_le (by rw [← HN.out]; exact Nat.le_refl _)] at hfr
      have HFR := hid hfr
      clear hfr h4
      go_wp2_with fail
      refine (mNewIt lA n lc (Fl ++ (its.map It.fr ++ R)) w0 _ HO.out hnl).mono ?_
      rintro e w3 ⟨mp, kg, rfl, hO3⟩
      obtain ⟨hkm, hne, hll⟩ := HB.out
      obtain ⟨hcs, hk, hcn, hkn, hkl, hcl⟩ := HC.out
      have hlen : n = its.length := by rw [HFR.out.1]; exact HN.out
      have hO4 : Own ((mFr mp lA n lc kg 0 0 :: fw kg 25 (its.map It.kv) :: (Fl ++ its.map It.fr)) ++ R) w0 w3 := by
        rw [HFR.out.kv, ← hlen]
        simpa using hO3
      have hMB : MBd its m := ⟨by rw [HFR.out.ls]; exact HM.out, fun it hit => by
          obtain ⟨q, x, hx, rfl⟩ := HFR.out.mem hit
          exact hll x hx, hkm⟩
      have hI : MIx mp its m (-1) (mFr mp lA n lc kg 0 0 :: fw kg 25 (its.map It.kv) :: (Fl ++ its.map It.fr)) :=
        ⟨lA, n, lc, kg, 0, 0, its, Fl, rfl, HR.out, hlen, hnl, rfl, rfl, fun it hit => by
          obtain ⟨q, x, hx, rfl⟩ := HFR.out.mem hit
          exact ⟨by show (-1 : Int) ≤ -1; omega, by show (-1 : Int) ≤ _; omega⟩, .inl ⟨rfl, rfl⟩⟩
      have hDat : St R w0 (MData its) := HP.out.imp fun w hw it hit => by
        obtain ⟨q, x, hx, rfl⟩ := HFR.out.mem hit
        exact ⟨(hw.ok x hx).hp, fun r hr => hne r (HM.out.sub x.l (List.mem_map.2 ⟨x, hx, rfl⟩) r hr)⟩
      have hs := script_any (mergedIter mp its m hMB) (-1) _ R w0 w3 cA kA cn cc kn kc calls key ⟨by omega, by omega⟩ hI hDat hO4 hcs hk hcn hkn hkc hkl hcl
      rw [kvs_length, mAt_kvs] at hs
      have HSC := hid hs
      clear hs hI hDat hO4 hMB hlen hkm hne hll hcs hk hcn hkn hkl hcl hO3
      go_wp2_with fail
      refine HSC.out.mono ?_
      rintro e w4 ⟨A4, B4, c4, d4, l4, G4, F4, p4, rfl, h1, h2, h3, _, _, _, h7⟩
      have H1 := hid h1.out
      have H2 := hid h2.out
      have H3 := hid h3.out
      have H7 := hid h7.out
      clear h1 h2 h3 h7
      go_wp2_with fail
      go_ret2
      refine ⟨A4, B4, c4, d4, l4, G4, rfl, H1, H2, ?_, hid (H7.out.right)⟩
      have h3 := H3.out
      rw [kvs_length] at h3
      exact hid h3
end Go.Proofs.YtloflmcgbbbnjaaDoor
namespace Go.Proofs.YtloflmcgbbbnjaaDoor
open Go.RowKit Plain
set_option linter.all false

theorem Own.cellE {L : List Fr} {w0 w : World} {x : Fr} (h : Own L w0 w) (n : Nat) (hn : L[n]? = some x) {k : Nat} (i : Nat) (hk : k = x.off + i) (hi : i < x.cs.length) : ∃ v, w.cell? ⟨x.g, k, none⟩ = some v :=
  ⟨_, (h.cell n hn i hk hi).trans (List.getElem?_eq_getElem hi)⟩
section
variable {P : Program} {ops : Array Oper} {o : Oper} {a : Act} {w0 w : World} {R : List Fr} {K : Act → World → Prop} {Q : Exit → Act → World → Prop} {E : Prop}
theorem run_copy_rows (w : World) (dT sT ty elem : TypeId) (S g o dLen dCap : Nat) (a : Addr) (sLen sCap : Nat) (cur : Array Value) (t : TypeId) (cs : List Value)
    (hu : P.underlying dT = some (.slice elem)) (hs : (P.info? elem).map (·.size) = some S)
    (hg : w.heap[g]? = some (.cells cur t (0, 0))) (hn : cs.length = Nat.min sLen dLen * S)
    (hsrc : ∀ j v, cs[j]? = some v → w.cell? (a.add j) = some v) (hfit : o + cs.length ≤ cur.size) (h1 : ∀ v ∈ cs, v.oneCell' = true) :
    (Builtin.copy_ #[dT, sT] ty #[.slice (some ⟨g, o, none⟩) dLen dCap, .slice (some a) sLen sCap]).run P w =
      .ok (goInt (Nat.min sLen dLen)) (w.setRow g (cur.toList.take o ++ cs ++ cur.toList.drop (o + cs.length)).toArray) := by
  have hl := run_loadCells_list (P := P) w a cs hsrc
  have hst := run_storeCells_at P g o t cs 0 cur w hg (by simpa using hfit) h1
  cases hq : P.info? elem with
  | none => simp [hq] at hs
  | some i =>
    have hi : i.size = S := by simpa [hq] using hs
    simp [Builtin.copy_, run_underlying hu, Builtin.lenOf, Builtin.firstCells, sizeOf, typeInfo, hq, hi, ← hn, hl, hst]
theorem run_copy_rows_none (w : World) (dT sT ty elem : TypeId) (S : Nat) (d a : Option Addr) (dLen dCap sLen sCap : Nat) (hu : P.underlying dT = some (.slice elem)) (hs : (P.info? elem).map (·.size) = some S) (hn : Nat.min sLen dLen = 0) :
    (Builtin.copy_ #[dT, sT] ty #[.slice d dLen dCap, .slice a sLen sCap]).run P w = .ok (goInt 0) w := by
  cases hq : P.info? elem with
  | none => simp [hq] at hs
  | some i =>
    have hl : ∀ (x : Addr), (loadCells x 0).run P w = .ok #[] w := fun x => by simpa using run_loadCells_list (P := P) w x [] (by simp)
    cases d <;> cases a <;> simp [Builtin.copy_, run_underlying hu, Builtin.lenOf, Builtin.firstCells, sizeOf, typeInfo, hq, hn, storeCells, hl]
theorem own_step_copyN (hgd : o.guard = none) (d s : Operand) (dT sT : TypeId) (ho : o.op = .call { callee := .builtin .copy, args := #[d, s], argTypes := #[dT, sT] }) (elem : TypeId) (hu : P.underlying dT = some (.slice elem))
    (S : Nat) (hS : 0 < S) (hsz : (P.info? elem).map (·.size) = some S) (dp sp : Option Addr) (dLen dCap sLen sCap : Nat) (hd : a.eval d = .slice dp dLen dCap) (hs : a.eval s = .slice sp sLen sCap)
    (g off t : Nat) (cur : List Value) (hO : Own (fw g t cur :: R) w0 w) (cs : List Value) (hn : cs.length = Nat.min sLen dLen * S) (hpos : 0 < cs.length → dp = some ⟨g, off, none⟩ ∧ CsAt w sp cs)
    (hfit : off + cs.length ≤ cur.length) (h1 : ∀ v ∈ cs, v.oneCell' = true)
    (h : ∀ w', Own (fw g t (splice cur off cs) :: R) w0 w' → K (a.put o.dst (goInt (Nat.min sLen dLen))) w') :
    if Region.wanted o (yielded ops a.tmps) = true then Oper.wp P o a w K Q else E := by
  rw [if_pos (by simp [Region.wanted, hgd])]
  have hb : Blk w g t cur := hO.head.blk
  by_cases h0 : cs.length = 0
  · obtain rfl : cs = [] := List.eq_nil_of_length_eq_zero h0
    have hm : Nat.min sLen dLen = 0 := by
      rcases Nat.eq_zero_or_pos (Nat.min sLen dLen) with h' | h'
      · exact h'
      · have := Nat.mul_pos h' hS; simp at hn; omega
    refine Lib.wp_copy_run w d s dT sT ho _ _ hd hs (run_copy_rows_none (P := P) w dT sT o.type elem S dp sp dLen dCap sLen sCap hu hsz hm) ?_
    have := h w (by simpa [splice] using hO)
    rwa [hm] at this
  · obtain ⟨rfl, hsrc⟩ := hpos (by omega)
    obtain ⟨g', o', rfl, _, hc⟩ := hsrc.addr (by omega)
    refine Lib.wp_copy_run w d s dT sT ho _ _ hd hs (run_copy_rows (P := P) w dT sT o.type elem S g off dLen dCap ⟨g', o', none⟩ sLen sCap cur.toArray t cs hu hsz hb hn (fun j v hj => ?_) (by simpa using hfit) h1) ?_
    · rw [add_none, hc j (List.getElem?_eq_some_iff.1 hj).1, hj]
    · refine h _ (Own.swap (M := [fw g t cur]) (M' := [fw g t (splice cur off cs)]) (R := R) hO (by simp) ?_ ?_ (by simp) (by simp))
      · exact ⟨rfl, rfl, rfl, by simp [World.setRow], fun k _ hk => setRow_other w g k _ (by simpa using hk)⟩
      · have hb' : Blk (w.setRow g (cur.toArray.toList.take off ++ cs ++ cur.toArray.toList.drop (off + cs.length)).toArray) g t (splice cur off cs) := by
          have := setRow_heap w g cur.toArray (cur.toArray.toList.take off ++ cs ++ cur.toArray.toList.drop (off + cs.length)).toArray t _ hb
          simpa [Blk, splice] using this
        simpa using Fr.in_fw hb'
end
end Go.Proofs.YtloflmcgbbbnjaaDoor
namespace Go.Proofs.YtloflmcgbbbnjaaDoor
open Go.RowKit Plain
set_option linter.all false

def kSl0 (r : Pr) : Value := .slice r.ka r.k.length r.kc
def vSl0 (r : Pr) : Value := .slice r.va r.v.length r.vc
theorem pr_flat_len (l : List Pr) : (l.flatMap Pr.cells).length = l.length * 2 := flat_length Pr.cells 2 Pr.cells_length l
theorem pr_flat_take (l : List Pr) (i : Nat) : (l.take i).flatMap Pr.cells = (l.flatMap Pr.cells).take (i * 2) := by
  induction l generalizing i with
  | nil => simp
  | cons x l ih =>
    cases i with
    | zero => simp
    | succ i => rw [List.take_succ_cons, List.flatMap_cons, List.flatMap_cons, ih, show (i + 1) * 2 = (i * 2 + 1) + 1 by omega]; simp [Pr.cells]
theorem pr_flat_drop (l : List Pr) (i : Nat) : (l.drop i).flatMap Pr.cells = (l.flatMap Pr.cells).drop (i * 2) := by
  induction l generalizing i with
  | nil => simp
  | cons x l ih =>
    cases i with
    | zero => simp
    | succ i => rw [List.drop_succ_cons, List.flatMap_cons, ih, show (i + 1) * 2 = (i * 2 + 1) + 1 by omega]; simp [Pr.cells]
theorem pr_flat_set (l : List Pr) (i : Nat) (x : Pr) (h : i < l.length) : (l.set i x).flatMap Pr.cells = ((l.flatMap Pr.cells).set (i * 2) (kSl0 x)).set (i * 2 + 1) (vSl0 x) := by
  induction l generalizing i with
  | nil => simp at h
  | cons y l ih =>
    cases i with
    | zero => simp [Pr.cells, kSl0, vSl0]
    | succ i =>
      rw [List.set_cons_succ, List.flatMap_cons, List.flatMap_cons, ih i (by simpa using h), show (i + 1) * 2 = (i * 2 + 1) + 1 by omega]
      simp [Pr.cells]
theorem put_cells {cur cs : List Value} {n i : Nat} {a b z : Value} (hcs : cs.length = n * 2) (hi : i ≤ n) (hc : cur.take ((n + 1) * 2) = cs ++ [z, z]) :
    (((splice cur ((i + 1) * 2) ((cur.drop (i * 2)).take ((n - i) * 2))).set (i * 2) a).set (i * 2 + 1) b).take ((n + 1) * 2) = cs.take (i * 2) ++ ([a, b] ++ cs.drop (i * 2)) := by
  have hl : (n + 1) * 2 ≤ cur.length := by
    have := congrArg List.length hc
    rw [List.length_take, List.length_append, hcs] at this
    simp at this; omega
  have hget : ∀ j, j < n * 2 → cur[j]? = cs[j]? := fun j hj => by
    have := congrArg (·[j]?) hc
    simp only [List.getElem?_take, if_pos (show j < (n + 1) * 2 by omega), List.getElem?_append_left (show j < cs.length by omega)] at this
    exact this
  have hml : ((cur.drop (i * 2)).take ((n - i) * 2)).length = (n - i) * 2 := by rw [List.length_take, List.length_drop]; omega
  have hsl : (splice cur ((i + 1) * 2) ((cur.drop (i * 2)).take ((n - i) * 2))).length = cur.length := length_splice _ _ _ (by rw [hml]; omega)
  apply List.ext_getElem?
  intro j
  rw [List.getElem?_take]
  by_cases hj : j < (n + 1) * 2
  · rw [if_pos hj]
    by_cases h1 : j < i * 2
    · rw [List.getElem?_set_ne (by omega), List.getElem?_set_ne (by omega), splice_get _ _ _ (by rw [hml]; omega), if_pos (.inl (by omega)), hget j (by omega), List.getElem?_append_left (by rw [List.length_take]; omega), List.getElem?_take, if_pos h1]
    · by_cases h2 : j = i * 2
      · subst h2
        rw [List.getElem?_set_ne (by omega), List.getElem?_set_self (by rw [hsl]; omega), List.getElem?_append_right (by rw [List.length_take]; omega)]
        rw [show i * 2 - (cs.take (i * 2)).length = 0 by rw [List.length_take]; omega]; rfl
      · by_cases h3 : j = i * 2 + 1
        · subst h3
          rw [List.getElem?_set_self (by rw [List.length_set, hsl]; omega), List.getElem?_append_right (by rw [List.length_take]; omega)]
          rw [show i * 2 + 1 - (cs.take (i * 2)).length = 1 by rw [List.length_take]; omega]; rfl
        · rw [List.getElem?_set_ne (by omega), List.getElem?_set_ne (by omega), splice_get _ _ _ (by rw [hml]; omega), hml, if_neg (by omega), List.getElem?_take, if_pos (by omega), List.getElem?_drop, hget _ (by omega),
            List.getElem?_append_right (by rw [List.length_take]; omega), List.getElem?_append_right (by rw [List.length_take]; simp; omega), List.getElem?_drop]
          congr 1
          rw [List.length_take]; simp; omega
  · rw [if_neg hj, List.getElem?_eq_none]
    rw [List.length_append, List.length_append, List.length_take, List.length_drop]; simp; omega
theorem Row.shape {e size n c : Nat} {A : Option Addr} {xs : List Value} {F : List Fr} (h : Row e size A n c xs F) (hn : 0 < n) : ∃ g cur, A = some ⟨g, 0, none⟩ ∧ F = [fw g e cur] ∧ n ≤ c ∧ c ≤ maxLen ∧ cur.length = c * size ∧ cur.take (n * size) = xs := by
  rcases h.2 with ⟨_, h1, _⟩ | h1
  · omega
  · exact h1
theorem mIs_lt {m : List Pr} {k : List UInt8} (h : mIs Pr.k m k = true) : mAt Pr.k m k < m.length := by
  unfold mIs at h
  rcases Nat.lt_or_ge (mAt Pr.k m k) m.length with h' | h'
  · exact h'
  · rw [List.getElem?_eq_none h'] at h; cases h
set_option maxHeartbeats 3200000 in
set_option maxRecDepth 100000 in
theorem mapPut (A : Option Addr) (c : Nat) (m : List Pr) (x : Pr) (R : List Fr) (w0 w : World) (hp : St R w0 fun w => Prs w A m) (hx : St R w0 fun w => x.Ok w) (hO : Own R w0 w) (hkl : x.k.length ≤ 140737488351232) (hml : ∀ r ∈ m, r.k.length ≤ 140737488351232) (hl : m.length ≤ 1073741824) :
    Calls Tryd.prog 18 #[.slice A m.length c, .slice x.ka x.k.length x.kc, .slice x.va x.v.length x.vc] w (RetP R w0 (mPut Pr.k m x)) := by
  have HP := hid hp
  have HX := hid hx
  have HO := hid hO
  have hps := hO.st hp (by simp)
  have hxs := hO.st hx (by simp)
  have hxk := hxs.hk
  clear hp hx hO hxs
  have hle := mAt_le Pr.k m x.k
  go_enter Tryd.func18, Tryd.ntmps18
  go_wp2_with fail
  refine (mapAt _ _ _ _ _ _ _ hps hxk hkl hml (by omega)).mono ?_
  rintro e w1 ⟨rfl, hd1⟩
  have hO1 := HO.out.dr hd1
  have hps1 := hO1.st HP.out (by simp)
  have HO1 := hid hO1
  clear hd1 hO1 hps hxk HO
  obtain ⟨i, hi⟩ : ∃ i, mAt Pr.k m x.k = i := ⟨_, rfl⟩
  obtain ⟨b, hb⟩ : ∃ b, mIs Pr.k m x.k = b := ⟨_, rfl⟩
  rw [hi] at hle ⊢
  rw [hb]
  have HI := hid (show _ ∧ _ from ⟨hi, hb⟩)
  have hcs := hps1.row
  obtain ⟨n, hn⟩ : ∃ n, m.length = n := ⟨_, rfl⟩
  have HN := hid hn
  have hfl := pr_flat_len m
  rw [hn] at hle hl hfl ⊢
  have hlt : b = true → i < n := fun h => by rw [← hb] at h; have := mIs_lt h; omega
  clear hi hb hps1 hn
  cases b with
  | true =>
    have hi0 := hlt rfl
    clear hlt
    go_wp2_with (at_builtin; refine own_append rfl (.const (.slice none 0 0)) (.tmp 16) 34 rfl 38 (.agg #[.slice none 0 0, .slice none 0 0]) 2 48 Tryd.underlying34 Tryd.info_pair rfl (by decide) none 0 0 [] [] rfl (Row.nil _ _) (R := R) HO1.out A n c (m.flatMap Pr.cells) rfl hfl hcs pr_one (by simp [maxLen]; omega) (by omega) ?_; intro A2 c2 F2 w2 hr2 hO2 hnil; simp only [Nat.zero_add, List.nil_append] at hr2; obtain ⟨g, cur, rfl, rfl, hnc, hcm, hcl, hct⟩ := hr2.shape (by omega); obtain ⟨v1, z1⟩ := hO2.cellE 0 rfl (k := i * 2) (i * 2) (by simp) (by simp only; omega); obtain ⟨v2, z2⟩ := hO2.cellE 0 rfl (k := i * 2 + 1) (i * 2 + 1) (by simp) (by simp only; omega); have f0 := fun k => hO2.frozen 0 rfl k; have HCT := hid (show _ ∧ _ from ⟨hcl, hct⟩); have HO2 := hid hO2; clear hr2 hO2 hnil hcs hfl HO1 hcl hct)
    go_ret
    obtain ⟨hcl, hct⟩ := HCT.out
    have hO3 := (HO2.out.set (k := i * 2) (i * 2) (by simp) (by simp only; omega) (kSl0 x)).set (k := i * 2 + 1) (i * 2 + 1) (by simp) (by simp only [List.length_set]; omega) (vSl0 x)
    have hm : mPut Pr.k m x = m.set i x := by unfold mPut; rw [HI.out.2, HI.out.1]; rfl
    have hml2 : (m.set i x).length = n := by rw [List.length_set, HN.out]
    rw [hm]
    refine ⟨some ⟨g, 0, none⟩, c2, [fw g 38 ((cur.set (i * 2) (kSl0 x)).set (i * 2 + 1) (vSl0 x))], by rw [hml2]; rfl, hid ?_, hid hO3⟩
    have hr := Row.made 38 (g := g) (n := n) (c := c2) (size := 2) (cur := (cur.set (i * 2) (kSl0 x)).set (i * 2 + 1) (vSl0 x)) hnc hcm (by rw [List.length_set, List.length_set, hcl])
    rw [hml2]
    rw [pr_flat_set m i x (by rw [HN.out]; exact hi0), ← hct, ← List.take_set, ← List.take_set]
    exact hr
  | false =>
    clear hlt
    go_wp2_with (first
      | (at_builtin; refine own_append rfl (.const (.slice none 0 0)) (.tmp 16) 34 rfl 38 (.agg #[.slice none 0 0, .slice none 0 0]) 2 48 Tryd.underlying34 Tryd.info_pair rfl (by decide) none 0 0 [] [] rfl (Row.nil _ _) (R := R) HO1.out A n c (m.flatMap Pr.cells) rfl hfl hcs pr_one (by simp [maxLen]; omega) (by omega) ?_; intro A2 c2 F2 w2 hr2 hO2 hnil; simp only [Nat.zero_add, List.nil_append] at hr2; have HR2 := hid hr2; obtain ⟨q, hq⟩ : ∃ q, w2.heap.size = q := ⟨_, rfl⟩; have hO3 := hO2.alloc' hq 38 [.slice none 0 0, .slice none 0 0]; have HO3 := hid hO3; have hq2 := hO3.cs_fw (List.mem_cons_self ..); clear hr2 hO2 hnil hcs hfl HO1 hO3)
      | (at_builtin; refine own_append rfl (.tmp 26) (.tmp 28) 34 rfl 38 (.agg #[.slice none 0 0, .slice none 0 0]) 2 48 Tryd.underlying34 Tryd.info_pair rfl (by decide) A2 n c2 (m.flatMap Pr.cells) F2 rfl HR2.out (R := fw q 38 [.slice none 0 0, .slice none 0 0] :: R) (HO3.out.perm (perm_of fun _ _ z => by simp only [List.count_append, List.count_cons, List.cons_append, List.count_nil, List.nil_append, List.append_nil]; omega)) (some ⟨q, 0, none⟩) 1 1 [.slice none 0 0, .slice none 0 0] rfl rfl hq2 (by decide) (by simp [maxLen]; omega) (by omega) ?_; intro A4 c4 F4 w4 hr4 hO4 hnil; obtain ⟨g, cur, rfl, rfl, hnc, hcm, hcl, hct⟩ := hr4.shape (by omega); have HCT := hid (show _ ∧ _ from ⟨hcl, hct⟩); have HO4 := hid hO4; clear hr4 hO4 hnil hq2 HO3))
    have e1 : IntKind.i64.wrap ((i : Int) + 1) = (i : Int) + 1 := i64_id (by omega) (by omega)
    have y1 : (i : Int) ≤ (n : Int) := by omega
    have y2 : (i : Int) + 1 ≤ (n : Int) + 1 := by omega
    have y3 : ((i : Int) + 1).toNat = i + 1 := by omega
    have y4 : (i : Int) ≤ (n : Int) + 1 := by omega
    have y5 : ¬ c4 = i := by omega
    refine AnyT.start (S := fun _ => True) (T := []) (by kernel_rfl) (trivial) (fun hHeld => ?_)
    refine AnyT.take (i := 0) (v := ?_) (by simp only [List.getElem?_toArray, List.getElem?_cons_succ, List.getElem?_cons_zero]; rfl) (by kernel_rfl) (by kernel_rfl) (by kernel_rfl) (by kernel_rfl) (by intro _ _ _ h; exact h) (Or.inl ⟨by rfl, fun w hSw => ?_⟩) hHeld ?_
    rotate_left
    · ((try dsimp only at hSw); go_simp; first | done | with_reducible rfl | rfl)
    try simp only [Act.put, List.setIfInBounds_toArray, List.set_cons_zero, List.set_cons_succ]
    refine AnyT.take (i := 1) (v := ?_) (by simp only [List.getElem?_toArray, List.getElem?_cons_succ, List.getElem?_cons_zero]; rfl) (by kernel_rfl) (by kernel_rfl) (by kernel_rfl) (by kernel_rfl) (by intro _ _ _ h; exact h) (Or.inl ⟨by rfl, fun w hSw => ?_⟩) hHeld ?_
    rotate_left
    · ((try dsimp only at hSw); go_simp; first | done | with_reducible rfl | rfl)
    try simp only [Act.put, List.setIfInBounds_toArray, List.set_cons_zero, List.set_cons_succ]
    refine AnyT.take (i := 2) (v := ?_) (by simp only [List.getElem?_toArray, List.getElem?_cons_succ, List.getElem?_cons_zero]; rfl) (by kernel_rfl) (by kernel_rfl) (by kernel_rfl) (by kernel_rfl) (by intro _ _ _ h; exact h) (Or.inl ⟨by rfl, fun w hSw => ?_⟩) hHeld ?_
    rotate_left
    · ((try dsimp only at hSw); go_simp; first | done | with_reducible rfl | rfl)
    try simp only [Act.put, List.setIfInBounds_toArray, List.set_cons_zero, List.set_cons_succ]
    refine AnyT.take (i := 3) (v := ?_) (by simp only [List.getElem?_toArray, List.getElem?_cons_succ, List.getElem?_cons_zero]; rfl) (by kernel_rfl) (by kernel_rfl) (by kernel_rfl) (by kernel_rfl) (by intro _ _ _ h; exact h) (Or.inl ⟨by rfl, fun w hSw => ?_⟩) hHeld ?_
    rotate_left
    · ((try dsimp only at hSw); go_simp; first | done | with_reducible rfl | rfl)
    try simp only [Act.put, List.setIfInBounds_toArray, List.set_cons_zero, List.set_cons_succ]
    refine AnyT.take (i := 4) (v := ?_) (by simp only [List.getElem?_toArray, List.getElem?_cons_succ, List.getElem?_cons_zero]; rfl) (by kernel_rfl) (by kernel_rfl) (by kernel_rfl) (by kernel_rfl) (by intro _ _ _ h; exact h) (Or.inl ⟨by rfl, fun w hSw => ?_⟩) hHeld ?_
    rotate_left
    · ((try dsimp only at hSw); go_simp; first | done | with_reducible rfl | rfl)
    try simp only [Act.put, List.setIfInBounds_toArray, List.set_cons_zero, List.set_cons_succ]
    refine AnyT.take (i := 5) (v := ?_) (by simp only [List.getElem?_toArray, List.getElem?_cons_succ, List.getElem?_cons_zero]; rfl) (by kernel_rfl) (by kernel_rfl) (by kernel_rfl) (by kernel_rfl) (by intro _ _ _ h; exact h) (Or.inl ⟨by rfl, fun w hSw => ?_⟩) hHeld ?_
    rotate_left
    · ((try dsimp only at hSw); go_simp; first | done | with_reducible rfl | rfl)
    try simp only [Act.put, List.setIfInBounds_toArray, List.set_cons_zero, List.set_cons_succ]
    refine AnyT.take (i := 6) (v := ?_) (by simp only [List.getElem?_toArray, List.getElem?_cons_succ, List.getElem?_cons_zero]; rfl) (by kernel_rfl) (by kernel_rfl) (by kernel_rfl) (by kernel_rfl) (by intro _ _ _ h; exact h) (Or.inl ⟨by rfl, fun w hSw => ?_⟩) hHeld ?_
    rotate_left
    · ((try dsimp only at hSw); go_simp; first | done | with_reducible rfl | rfl)
    try simp only [Act.put, List.setIfInBounds_toArray, List.set_cons_zero, List.set_cons_succ]
    refine AnyT.ready (rs := [7]) (by kernel_rfl) (by simp) ?_
    refine AllT.cons (by simp only [List.getElem?_toArray, List.getElem?_cons_succ, List.getElem?_cons_zero]; rfl) (fun K hK => ?_) AllT.nil
    obtain ⟨hcl, hct⟩ := HCT.out
    have hmln : (m.flatMap Pr.cells).length = n * 2 := by rw [pr_flat_len, HN.out]
    have hc2l : ((cur.drop (i * 2)).take ((n - i) * 2)).length = (n - i) * 2 := by rw [List.length_take, List.length_drop]; omega
    have hone : ∀ v ∈ (cur.drop (i * 2)).take ((n - i) * 2), v.oneCell' = true := fun v hv => by
      obtain ⟨j, hj⟩ := List.mem_iff_getElem?.1 hv
      have hjl : j < (n - i) * 2 := by have := (List.getElem?_eq_some_iff.1 hj).1; omega
      rw [List.getElem?_take, if_pos hjl, List.getElem?_drop] at hj
      have h3 := congrArg (·[i * 2 + j]?) hct
      simp only [List.getElem?_take, if_pos (show i * 2 + j < (n + 1) * 2 by omega)] at h3
      rw [hj, List.getElem?_append_left (by omega)] at h3
      exact pr_one v (List.mem_of_getElem? h3.symm)
    have hput := put_cells (a := kSl0 x) (b := vSl0 x) (z := .slice none 0 0) hmln hle hct
    refine own_step_copyN rfl (.tmp 33) (.tmp 36) 34 34 rfl 38 Tryd.underlying34 2 (by decide) (by kernel_rfl) _ _ (n - i) (c4 - (i + 1)) (n + 1 - i) (c4 - i) rfl rfl g ((i + 1) * 2) 38 cur HO4.out.drew ((cur.drop (i * 2)).take ((n - i) * 2)) ?_ ?_ ?_ hone ?_
    · rw [hc2l]; congr 1; show n - i = min (n + 1 - i) (n - i); omega
    · intro h0
      rw [hc2l] at h0
      refine ⟨by rw [if_neg (by omega)], ?_⟩
      exact CsAt.of_blk HO4.out.drew.head.blk (i * 2) ((n - i) * 2)
    · rw [hc2l]; omega
    intro w5 hO5
    have hsl : (splice cur ((i + 1) * 2) ((cur.drop (i * 2)).take ((n - i) * 2))).length = cur.length := length_splice _ _ _ (by rw [hc2l]; omega)
    obtain ⟨cur5, hc5⟩ : ∃ cur5, splice cur ((i + 1) * 2) ((cur.drop (i * 2)).take ((n - i) * 2)) = cur5 := ⟨_, rfl⟩
    rw [hc5] at hO5 hsl hput
    have HPUT := hid hput
    obtain ⟨v1, z1⟩ := hO5.cellE 0 rfl (k := i * 2) (i * 2) (by simp) (by simp only; omega)
    obtain ⟨v2, z2⟩ := hO5.cellE 0 rfl (k := i * 2 + 1) (i * 2 + 1) (by simp) (by simp only; omega)
    have f0 := fun k => hO5.frozen 0 rfl k
    have HO5 := hid hO5
    have HSL := hid (show cur5.length = c4 * 2 by omega)
    clear hO5 hc5 hput hone hc2l hmln hcl hct hsl HO4
    refine hK.out _ _ ?_ (fun hHeld => ?_)
    · trivial
    clear hK
    try simp only [Act.put, List.setIfInBounds_toArray, List.set_cons_zero, List.set_cons_succ]
    refine AnyT.done (by kernel_rfl) ?_ _
    go_wp2_with fail
    all_goals
      go_ret
      have hO6 := (HO5.out.set (k := i * 2) (i * 2) (by simp) (by simp only; have := HSL.out; omega) (kSl0 x)).set (k := i * 2 + 1) (i * 2 + 1) (by simp) (by simp only [List.length_set]; have := HSL.out; omega) (vSl0 x)
      have hm : mPut Pr.k m x = m.take i ++ x :: m.drop i := by unfold mPut; rw [HI.out.2, HI.out.1]; rfl
      have hml2 : (m.take i ++ x :: m.drop i).length = n + 1 := by rw [List.length_append, List.length_take, List.length_cons, List.length_drop, HN.out]; omega
      rw [hm]
      refine ⟨some ⟨g, 0, none⟩, _, [fw g 38 ((cur5.set (i * 2) (kSl0 x)).set (i * 2 + 1) (vSl0 x))], by rw [hml2]; rfl, hid ?_, hid (hO6.sub (by simp))⟩
      have hr := Row.made 38 (g := g) (n := n + 1) (size := 2) (cur := (cur5.set (i * 2) (kSl0 x)).set (i * 2 + 1) (vSl0 x)) hnc hcm (by rw [List.length_set, List.length_set, HSL.out])
      rw [hml2]
      rw [HPUT.out] at hr
      rw [List.flatMap_append, List.flatMap_cons, pr_flat_take, pr_flat_drop]
      first
        | exact hr
        | (have hce : c4 = i + 1 := by assumption
           rw [hce] at hr
           exact hr)
end Go.Proofs.YtloflmcgbbbnjaaDoor
namespace Go.Proofs.YtloflmcgbbbnjaaDoor
open Go.RowKit Plain
set_option linter.all false

/-- What has been put: m has just these pairs, no key twice. -/
structure MP (m dl : List Pr) : Prop where
  asc : Asc Pr.k m
  mem : ∀ x, x ∈ m ↔ x ∈ dl
  dist : dl.Pairwise fun x y => x.k ≠ y.k
  len : m.length = dl.length
theorem MP.nil : MP [] [] := ⟨List.Pairwise.nil, fun x => Iff.rfl, List.Pairwise.nil, rfl⟩
theorem MP.put {m dl : List Pr} (h : MP m dl) {x : Pr} (hx : mIs Pr.k m x.k = false) : MP (mPut Pr.k m x) (dl ++ [x]) := by
  refine ⟨asc_put Pr.k h.asc x, fun y => ?_, ?_, ?_⟩
  · have e : mPut Pr.k m x = m.take (mAt Pr.k m x.k) ++ x :: m.drop (mAt Pr.k m x.k) := by unfold mPut; rw [hx]; rfl
    rw [e, List.mem_append, List.mem_append, List.mem_cons, List.mem_singleton, ← h.mem y]
    constructor
    · rintro (h1 | h1 | h1)
      · exact .inl (List.mem_of_mem_take h1)
      · exact .inr h1
      · exact .inl (List.mem_of_mem_drop h1)
    · rintro (h1 | h1)
      · rw [← List.take_append_drop (mAt Pr.k m x.k) m, List.mem_append] at h1
        rcases h1 with h1 | h1
        · exact .inl h1
        · exact .inr (.inr h1)
      · exact .inr (.inl h1)
  · rw [List.pairwise_append]
    refine ⟨h.dist, List.pairwise_singleton _ _, fun y hy z hz => ?_⟩
    rw [List.mem_singleton] at hz
    subst hz
    intro e
    have := (mIs_iff Pr.k h.asc z.k).2 ⟨y, (h.mem y).2 hy, e⟩
    rw [hx] at this; cases this
  · rw [mPut_len, hx, List.length_append, h.len]; rfl
theorem take_total (ls : List PL) (k : Nat) : ((ls.take k).flatMap PL.l).length ≤ (ls.flatMap PL.l).length := by
  conv => rhs; rw [← List.take_append_drop k ls]
  rw [List.flatMap_append, List.length_append]; omega
theorem ord_asc {l : List Pr} (h : ordB (kvs l) = true) : Asc Pr.k l := by
  have h1 := ordB_iff.1 h
  rw [kvs_length] at h1
  have key : ∀ (d i : Nat) (x y : Pr), l[i]? = some x → l[i + d + 1]? = some y → cmpI x.k y.k < 0 := by
    intro d
    induction d with
    | zero =>
      intro i x y hx hy
      have h2 := h1 i (by have := (List.getElem?_eq_some_iff.1 hy).1; omega)
      rw [key_kvs hx, key_kvs hy] at h2
      exact h2
    | succ d ih =>
      intro i x y hx hy
      have hl := (List.getElem?_eq_some_iff.1 hy).1
      have hz := List.getElem?_eq_getElem (show i + d + 1 < l.length by omega)
      have h2 := ih i x _ hx hz
      have h3 := h1 (i + d + 1) (by omega)
      have hy' : l[i + d + 1 + 1]? = some y := by rw [show i + d + 1 + 1 = i + (d + 1) + 1 by omega]; exact hy
      rw [key_kvs hz, key_kvs hy'] at h3
      exact cmpI_trans h2 h3
  refine List.pairwise_iff_getElem.2 fun i j hi hj hij => ?_
  exact key (j - i - 1) i _ _ (List.getElem?_eq_getElem hi) (by rw [show i + (j - i - 1) + 1 = j by omega]; exact List.getElem?_eq_getElem hj)
theorem mp_mgd {m : List Pr} {ls : List PL} (h : MP m (ls.flatMap PL.l)) (ho : ∀ x ∈ ls, ordB (kvs x.l) = true) : Mgd Pr.k (ls.map PL.l) m := by
  have hd := List.pairwise_flatMap.1 h.dist
  refine ⟨h.asc, fun L hL => ?_, fun L hL x hx => ?_, fun x hx => ?_, fun i j L L' x y hi hj hx hy e => ?_⟩
  · obtain ⟨y, hy, rfl⟩ := List.mem_map.1 hL
    exact ord_asc (ho y hy)
  · obtain ⟨y, hy, rfl⟩ := List.mem_map.1 hL
    exact (h.mem x).2 (List.mem_flatMap.2 ⟨y, hy, hx⟩)
  · obtain ⟨y, hy, hxy⟩ := List.mem_flatMap.1 ((h.mem x).1 hx)
    exact ⟨y.l, List.mem_map.2 ⟨y, hy, rfl⟩, hxy⟩
  · rw [List.getElem?_map] at hi hj
    cases hi1 : ls[i]? with
    | none => rw [hi1] at hi; cases hi
    | some a =>
      cases hj1 : ls[j]? with
      | none => rw [hj1] at hj; cases hj
      | some b =>
        rw [hi1] at hi; rw [hj1] at hj
        obtain rfl : a.l = L := Option.some.inj hi
        obtain rfl : b.l = L' := Option.some.inj hj
        obtain ⟨hil, rfl⟩ := List.getElem?_eq_some_iff.1 hi1
        obtain ⟨hjl, rfl⟩ := List.getElem?_eq_some_iff.1 hj1
        rcases Nat.lt_trichotomy i j with h1 | h1 | h1
        · exact absurd e (List.pairwise_iff_getElem.1 hd.2 i j hil hjl h1 x hx y hy)
        · exact h1
        · exact absurd e.symm (List.pairwise_iff_getElem.1 hd.2 j i hjl hil h1 y hy x hx)
def MgOut (ls : List PL) (w : World) (e : Ending) (w' : World) : Prop :=
  (e = .returned (.tuple #[.slice none 0 0, .bool false]) ∧ Only [] w w') ∨
  ∃ (m : List Pr) (A : Option Addr) (c n : Nat), e = .returned (.tuple #[.slice A n c, .bool true]) ∧ n = m.length ∧ Hid (Mgd Pr.k (ls.map PL.l) m ∧ MP m (ls.flatMap PL.l)) ∧ Hid (Prs w' A m) ∧ Hid (Only [] w w')
set_option maxHeartbeats 6400000 in
set_option maxRecDepth 100000 in
theorem specMerged (A : Option Addr) (c n : Nat) (ls : List PL) (w : World) (h : PLs w A ls) (hn : n = ls.length) (ht : (ls.flatMap PL.l).length ≤ 1073741824) (hnl : n ≤ 1099511627776) (hk : ∀ x ∈ ls, ∀ r ∈ x.l, r.k.length ≤ 2147483647) (hll : ∀ x ∈ ls, x.l.length ≤ 1099511627776) :
    Calls Tryd.prog 24 #[.slice A n c] w (MgOut ls w) := by
  have HH := hid h
  have HN := hid hn
  have HT := hid ht
  have HK := hid hk
  have HLL := hid hll
  have HOS := hid (Own.start w)
  clear h hn ht hk hll
  go_enter Tryd.func24, Tryd.ntmps24
  go_wp2_with fail
  go_loopw [4, 13] (fun mv i wr => ∃ (k mn mc : Nat) (mA : Option Addr) (m : List Pr) (Fm : List Fr), i = .int .i64 k ∧ mv = .slice mA mn mc ∧ mn = m.length ∧ k ≤ n ∧ Hid (MP m ((ls.take k).flatMap PL.l)) ∧ Hid (∀ x ∈ ls.take k, ordB (kvs x.l) = true) ∧ Hid (Row 38 2 mA mn mc (m.flatMap Pr.cells) Fm) ∧ Hid (Own Fm w wr)) (fun _ i _ => n - (intOf i).toNat)
  case atStart => exact ⟨0, 0, 0, none, [], [], rfl, rfl, rfl, Nat.zero_le _, hid MP.nil, hid (by simp), hid (Row.nil _ _), HOS⟩
  case round =>
    clear HOS
    obtain ⟨k, mn, mc, mA, m, Fm, rfl, rfl, rfl, hk, HMP, HORD, HR, HO⟩ := hrel
    obtain ⟨w2, rfl⟩ : ∃ w2, w2 = wr := ⟨_, rfl⟩
    by_cases h4 : k < n
    · have h4' : (k : Int) < (n : Int) := by omega
      have hkl : k < ls.length := by rw [← HN.out]; exact h4
      have hx : ls[k]? = some ls[k] := List.getElem?_eq_getElem hkl
      have hxm : ls[k] ∈ ls := List.getElem_mem hkl
      have htk : ls.take (k + 1) = ls.take k ++ [ls[k]] := List.take_succ_eq_append_getElem hkl
      have hps := HH.out.keep0 HO.out.only
      generalize ls[k] = x at hx hxm htk
      obtain ⟨g, o, rfl, p0⟩ := hps.at_ hx
      have HX := hid (HH.out.ok x hxm)
      have HXM := hid hxm
      have HTK := hid htk
      have hxl := HLL.out x hxm
      have hxk := HK.out x hxm
      have HXK := hid hxk
      clear hps hx hxm htk hxk
      cases ho : ordB (kvs x.l) with
      | false =>
        have HOR := hid ho
        go_wp2_with fail
        refine (ordered_any x.A x.c x.l _ (HX.out.hp.keep0 HO.out.only) hxl (fun r hr => by have := HXK.out r hr; omega)).mono ?_
        rintro e w3 ⟨rfl, hd3⟩
        rw [HOR.out]
        have HO3 := hid (HO.out.only.dr hd3)
        clear hd3 p0
        go_wp2_with fail
        go_ret2
        exact .inl ⟨rfl, HO3.out⟩
      | true =>
        have HOR := hid ho
        go_wp2_with fail
        refine (ordered_any x.A x.c x.l _ (HX.out.hp.keep0 HO.out.only) hxl (fun r hr => by have := HXK.out r hr; omega)).mono ?_
        rintro e w3 ⟨rfl, hd3⟩
        rw [HOR.out]
        have HO3 := hid (HO.out.dr hd3)
        clear hd3 p0 HO
        go_wp2_with fail
        go_loopw [4, 22] (fun mv i wr => ∃ (j mn mc : Nat) (mA : Option Addr) (m : List Pr) (Fm : List Fr), i = .int .i64 j ∧ mv = .slice mA mn mc ∧ mn = m.length ∧ j ≤ x.l.length ∧ Hid (MP m ((ls.take k).flatMap PL.l ++ x.l.take j)) ∧ Hid (Row 38 2 mA mn mc (m.flatMap Pr.cells) Fm) ∧ Hid (Own Fm w wr)) (fun _ i _ => x.l.length - (intOf i).toNat)
        case atStart => exact ⟨0, m.length, mc, mA, m, Fm, rfl, rfl, rfl, Nat.zero_le _, by simpa using HMP, HR, HO3⟩
        case round =>
          clear HO3 HR HMP
          obtain ⟨j, mn, mc, mA, m, Fm, rfl, rfl, rfl, hj, HMP, HR, HO⟩ := hrel
          obtain ⟨w4, rfl⟩ : ∃ w4, w4 = wr := ⟨_, rfl⟩
          by_cases h5 : j < x.l.length
          · have h5' : (j : Int) < (x.l.length : Int) := by omega
            have hrx : x.l[j]? = some x.l[j] := List.getElem?_eq_getElem h5
            have hrm : x.l[j] ∈ x.l := List.getElem_mem h5
            have htj : x.l.take (j + 1) = x.l.take j ++ [x.l[j]] := List.take_succ_eq_append_getElem h5
            generalize x.l[j] = r at hrx hrm htj
            have hp4 := HX.out.hp.keep0 HO.out.only
            obtain ⟨xg, xo, hxA, q0, q1⟩ := hp4.at_ hrx
            rw [hxA]
            have hro := HX.out.hp.ok r hrm
            obtain ⟨pb, hpb⟩ : ∃ pb, w4.heap.size = pb := ⟨_, rfl⟩
            have hO6 := HO.out.alloc' hpb 38 r.cells
            have z0 : (w4.alloc (.cells #[.slice r.ka r.k.length r.kc, .slice r.va r.v.length r.vc] 38)).cell? ⟨pb, 0, none⟩ = some (.slice r.ka r.k.length r.kc) := hO6.cell 0 rfl (k := 0) 0 rfl (by simp [Pr.cells])
            have hml : m.length ≤ 1073741824 := by
              have h1 := HMP.out.len
              have h2 := take_total ls (k + 1)
              rw [HTK.out, List.flatMap_append, List.length_append, show [x].flatMap PL.l = x.l from by simp] at h2
              rw [List.length_append, List.length_take] at h1
              have h3 := HT.out
              omega
            have hmk : ∀ y ∈ m, y ∈ ls.flatMap PL.l := fun y hy => by
              rcases List.mem_append.1 ((HMP.out.mem y).1 hy) with h1 | h1
              · obtain ⟨z, hz, hyz⟩ := List.mem_flatMap.1 h1
                exact List.mem_flatMap.2 ⟨z, List.mem_of_mem_take hz, hyz⟩
              · exact List.mem_flatMap.2 ⟨x, HXM.out, List.mem_of_mem_take h1⟩
            have hmo : ∀ y ∈ m, y.Ok w := fun y hy => by
              obtain ⟨z, hz, hyz⟩ := List.mem_flatMap.1 (hmk y hy)
              exact (HH.out.ok z hz).hp.ok y hyz
            have hmkl : ∀ y ∈ m, y.k.length ≤ 140737488351232 := fun y hy => by
              obtain ⟨z, hz, hyz⟩ := List.mem_flatMap.1 (hmk y hy)
              have := HK.out z hz y hyz
              omega
            have hrk := HXK.out r hrm
            have HRO := hid hro
            have HMO := hid hmo
            have HMKL := hid hmkl
            have HTJ := hid htj
            have HO6 := hid (show Own (fw pb 38 r.cells :: Fm) w (w4.alloc (.cells #[.slice r.ka r.k.length r.kc, .slice r.va r.v.length r.vc] 38)) from hO6)
            have HPB := hid hpb
            clear hrx hrm htj hp4 hro hmk hmo hmkl hO6 hpb
            go_wp2_with fail
            rw [HPB.out]
            have hps6 : Prs (w4.alloc (.cells #[.slice r.ka r.k.length r.kc, .slice r.va r.v.length r.vc] 38)) mA m := ⟨HR.out.csO (HO6.out.perm (L' := Fm ++ [fw pb 38 r.cells]) (perm_of fun _ _ z => by simp only [List.count_append, List.count_cons, List.cons_append, List.count_nil, List.nil_append, List.append_nil]; omega)), fun y hy => (HMO.out y hy).keep0 HO6.out.only⟩
            have hma := mapAt mA r.ka mc r.kc m r.k _ hps6 (HRO.out.hk.keep0 HO6.out.only) (by omega) HMKL.out (by omega)
            have HMA := hid hma
            clear hps6 hma
            generalize World.alloc w4 _ = w5 at z0 HO6 HMA ⊢
            refine HMA.out.mono ?_
            rintro e w6 ⟨rfl, hd6⟩
            have HO7 := hid (HO6.out.dr hd6)
            have z0' := (hd6.only.cell (p := ⟨pb, 0, none⟩) (cell_lt z0) (by simp)).trans z0
            have z1' : w6.cell? ⟨pb, 1, none⟩ = some (.slice r.va r.v.length r.vc) := HO7.out.cell 0 rfl (k := 1) 1 rfl (by simp [Pr.cells])
            obtain ⟨aa, haa⟩ : ∃ aa, mAt Pr.k m r.k = aa := ⟨_, rfl⟩
            rw [haa]
            clear hd6 z0 HMA haa
            cases his : mIs Pr.k m r.k with
            | true =>
              go_wp2_with fail
              go_ret2
              exact .inl ⟨rfl, HO7.out.only⟩
            | false =>
              have HIS := hid his
              clear his
              go_wp2_with fail
              have hpm : St (Fm ++ [fw pb 38 r.cells]) w fun w => Prs w mA m := fun w' ho hb => ⟨HR.out.cs fun y hy => hb y (List.mem_append_left _ hy), fun y hy => (HMO.out y hy).keep0 ho⟩
              refine (mapPut mA mc m r (Fm ++ [fw pb 38 r.cells]) w _ hpm (fun w' ho _ => HRO.out.keep0 ho) (HO7.out.perm (perm_of fun _ _ z => by simp only [List.count_append, List.count_cons, List.cons_append, List.count_nil, List.nil_append, List.append_nil]; omega)) (by omega) HMKL.out hml).mono ?_
              rintro e w7 ⟨A7, c7, F7, rfl, hr7, hO7⟩
              have HR7 := hid hr7.out
              have HO8 := hid hO7.out.left
              obtain ⟨n7, hn7⟩ : ∃ n7, (mPut Pr.k m r).length = n7 := ⟨_, rfl⟩
              rw [hn7] at HR7 ⊢
              have HN7 := hid hn7
              clear hr7 hO7 hpm hn7 z0' z1'
              go_wp2_with fail
              go_roundw
              case rel =>
                refine ⟨j + 1, n7, c7, A7, mPut Pr.k m r, F7, by go_num, rfl, HN7.out.symm, by omega, hid ?_, HR7, HO8⟩
                rw [HTJ.out, ← List.append_assoc]
                exact HMP.out.put HIS.out
              case measure => simp [intOf]; omega
          · have h5' : ¬ (j : Int) < (x.l.length : Int) := by omega
            have hjx : j = x.l.length := by omega
            go_wp2_with fail
            go_roundw
            case rel =>
              refine ⟨k + 1, m.length, mc, mA, m, Fm, by go_num, rfl, rfl, by omega, hid ?_, hid fun y hy => ?_, HR, HO⟩
              · have h6 := HMP.out
                rw [hjx, List.take_length] at h6
                rw [HTK.out, List.flatMap_append]
                simpa using h6
              · rw [HTK.out] at hy
                rcases List.mem_append.1 hy with hy | hy
                · exact HORD.out y hy
                · simp at hy; rw [hy]; exact HOR.out
            case measure => simp [intOf]; omega
    · have h4' : ¬ (k : Int) < (n : Int) := by omega
      obtain rfl : n = k := by omega
      have h6 := HMP.out
      have h7 := HORD.out
      rw [List.take_of_length_le (by rw [← HN.out]; exact Nat.le_refl _)] at h6 h7
      have H6 := hid h6
      have H7 := hid h7
      clear h6 h7
      go_wp2_with fail
      go_ret2
      refine .inr ⟨m, mA, mc, m.length, rfl, rfl, hid ⟨mp_mgd H6.out H7.out, H6.out⟩, hid ⟨HR.out.csO (by have := HO.out; rwa [← List.append_nil Fm] at this), fun r hr => ?_⟩, hid HO.out.only⟩
      obtain ⟨y, hy, hry⟩ := List.mem_flatMap.1 ((H6.out.mem r).1 hr)
      exact ((HH.out.ok y hy).hp.ok r hry).keep0 HO.out.only
end Go.Proofs.YtloflmcgbbbnjaaDoor
