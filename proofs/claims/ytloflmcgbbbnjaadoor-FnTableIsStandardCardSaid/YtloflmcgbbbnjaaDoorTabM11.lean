/-
  table.Writer: Close.
-/
import Derived.Test.YtloflmcgbbbnjaaDoorTabM10
namespace Go.Proofs.YtloflmcgbbbnjaaDoor
open Go.RowKit Plain
set_option linter.all false

def fOff (s : TS) (fdata : List UInt8) : Nat := if fdata = [] then s.off else s.off + fdata.length + 5
def fOut (s : TS) (fdata : List UInt8) : List UInt8 := if fdata = [] then s.out else s.out ++ (fdata ++ trail fdata)
def fPos (s : TS) (fdata : List UInt8) : Nat := if fdata = [] then 0 else s.off
def mN (fd : List UInt8) : Nat := if fd = [] then 0 else 1
def mD (fd : List UInt8) (ps fl : Nat) (key : List UInt8) : List UInt8 := if fd = [] then [] else ent 0 key (handle ps fl)
def mR (fd : List UInt8) : List Nat := if fd = [] then [] else [0]
theorem mD_len (fd : List UInt8) {ps fl : Nat} {key : List UInt8} (h1 : ps < 18446744073709551616) (h2 : fl < 18446744073709551616) (h3 : key.length ≤ 200) : (mD fd ps fl key).length ≤ 1000 := by
  unfold mD
  split
  · simp
  · have a := uv_len10 h1
    have b := uv_len10 h2
    have c := uv_len10 (x := 0) (by omega)
    have d := uv_len10 (x := key.length) (by omega)
    have hl : (handle ps fl).length = (uv ps).length + (uv fl).length := List.length_append
    have e := uv_len10 (x := (handle ps fl).length) (by omega)
    simp only [ent, List.length_append, List.length_drop, Nat.sub_zero]
    omega
theorem mR_len (fd : List UInt8) : (mR fd).length ≤ 1 := by unfold mR; split <;> simp
theorem mR_lt (fd : List UInt8) : ∀ x ∈ mR fd, x < 4294967296 := by unfold mR; split <;> simp
/-- A block's bytes: its data, its restarts and how many they are. -/
def blkOf (n : Nat) (d : List UInt8) (r : List Nat) : List UInt8 := d ++ le4s (finR n r ++ [(finR n r).length])
theorem blkOf_len (n : Nat) (d : List UInt8) (r : List Nat) : (blkOf n d r).length ≤ d.length + 4 * (r.length + 2) := by
  unfold blkOf finR
  rw [List.length_append, le4s_length, List.length_append]
  split <;> simp <;> omega
def tCl (s : TS) : TS := if 0 < s.nE ∨ s.nAll = 0 then tFin s else s
/-- The table, where s is the writer's state behind the last block's entry in the index, and fd the filter's block. -/
def tTable (s : TS) (fd key : List UInt8) : List UInt8 :=
  fOut s fd ++ (blkOf (mN fd) (mD fd (fPos s fd) fd.length key) (mR fd) ++ trail (blkOf (mN fd) (mD fd (fPos s fd) fd.length key) (mR fd))) ++ (blkOf s.nI s.idata s.irst ++ trail (blkOf s.nI s.idata s.irst)) ++
    footB (handle (fOff s fd) (blkOf (mN fd) (mD fd (fPos s fd) fd.length key) (mR fd)).length ++ handle (fOff s fd + (blkOf (mN fd) (mD fd (fPos s fd) fd.length key) (mR fd)).length + 5) (blkOf s.nI s.idata s.irst).length)
def ClOut (g B Q : Nat) (on : Bool) (s : TS) (R : List Fr) (w0 : World) (e : Ending) (w' : World) : Prop :=
  e = .returned .nilIface ∧ ∃ (fd key : List UInt8) (G' : List Fr), (fd = [] ↔ on = false) ∧ fd.length ≤ B + 4 * (Q + 2) + 1 ∧ key.length ≤ 200 ∧ OB g (tTable s fd key) G' ∧ Own (G' ++ R) w0 w'
set_option maxHeartbeats 6400000 in
set_option maxRecDepth 100000 in
theorem close_any (wp bs rs g nb B Q : Nat) (on : Bool) (s : TS) (F R : List Fr) (w0 w : World) (h : WS wp bs rs g on nb B Q .nilIface s F) (hO : Own (F ++ R) w0 w) (hT : TB s) (hT2 : TB (tCl s)) (hrs : 0 < rs) (hrs1 : rs ≤ 1000) (hB : B ≤ 26000000) (hQ : Q ≤ 1000000)
    (hoq : (s.off + (tBlk s).length + 5) / 2048 ≤ Q) (hz0 : (tCl s).nE = 0 ∧ (tCl s).data = [] ∧ (tCl s).rst = []) (hix : (∀ x ∈ (tFlush (tCl s) []).irst, x < 4294967296) ∧ (tFlush (tCl s) []).idata.length ≤ 536870912 ∧ (tFlush (tCl s) []).irst.length ≤ 536870912) :
    Calls Tryd.prog 45 #[.pointer (some ⟨wp, 0, none⟩)] w (ClOut g B Q on (tFlush (tCl s) []) R w0) := by
  obtain ⟨pA, pc, Fp, c1, c2, c4, c5, c217, c218, c219, c220, c73, c74, f0, bl, hP, hPF⟩ := h.hdr hO
  have HO := hid hO
  have H := hid h
  have HT := hid hT
  have HT2 := hid hT2
  have HZ := hid hz0
  have HIX := hid hix
  clear hz0 hix hO h hT hP hPF hT2
  go_enter Tryd.func45, Tryd.ntmps45
  obtain ⟨cb, hcb⟩ : ∃ cb : Bool, cb = decide (0 < s.nE ∨ s.nAll = 0) := ⟨_, rfl⟩
  have HCB := hid hcb
  clear hcb
  go_upto_region 3 with fail
  go_cut [37] (fun s37 wx => s37 = .bool cb ∧ wx = w)
  case first => as_aux_lemma =>
    by_cases h1 : 0 < s.nE
    · have t1 : decide ((s.nE : Int) > 0) = true := decide_eq_true (by omega)
      have HD := hid (show decide (0 < s.nE ∨ s.nAll = 0) = true from decide_eq_true (.inl h1))
      go_wp2_with fail
      go_meet
      exact ⟨by rw [HCB.out, HD.out], rfl⟩
    · have cz : w.cell? ⟨wp, 73, none⟩ = some (.int .i64 0) := by rw [c73, show s.nE = 0 by omega]; rfl
      by_cases h2 : s.nAll = 0
      · have cz2 : w.cell? ⟨wp, 220, none⟩ = some (.int .i64 0) := by rw [c220, h2]; rfl
        have HD := hid (show decide (0 < s.nE ∨ s.nAll = 0) = true from decide_eq_true (.inr h2))
        clear c73 c220 h1 h2
        go_wp2_with fail
        go_meet
        exact ⟨by rw [HCB.out, HD.out], rfl⟩
      · have HD := hid (show decide (0 < s.nE ∨ s.nAll = 0) = false from decide_eq_false (by omega))
        have t2 : ((s.nAll : Int) == 0) = false := by rw [beq_eq_false_iff_ne]; omega
        clear c73 h1
        go_wp2_with fail
        go_meet
        first | exact ⟨by rw [HCB.out, HD.out], rfl⟩ | exact ⟨by rw [HCB.out, HD.out]; simp [h2], rfl⟩
  case rest =>
    obtain ⟨rfl, rfl⟩ := hcut
    have hb1 := HT.out.prev
    have hb2 := HT.out.idata
    have hb3 := HT.out.nI
    have hb4 := HT.out.irst
    have hb5 := HT.out.pO
    have hb6 := HT.out.pL
    have hb7 := HT.out.iprev
    have hb8 := HT.out.data
    have hb9 := HT.out.nE
    have hb10 := HT.out.rst
    have hb11 := HT.out.out
    have hb12 := HT.out.off
    have hb13 := HT.out.nAll
    go_upto_if 37 with fail
    go_cut [] (fun wx => ∃ F', WS wp bs rs g on nb B Q .nilIface (tCl s) F' ∧ Own (F' ++ R) w0 wx)
    case first => as_aux_lemma =>
      cases cb with
      | true =>
        have h1 : 0 < s.nE ∨ s.nAll = 0 := of_decide_eq_true HCB.out.symm
        have HC := hid (show tCl s = tFin s by unfold tCl; rw [if_pos h1])
        clear h1
        go_wp2_with fail
        refine (finishBlk wp bs rs g nb B Q on .nilIface s F R w0 _ H.out HO.out (by omega) (by omega) HT.out.rx (by omega) (by omega) hB hQ hoq).mono ?_
        rintro e w5 ⟨rfl, F8, hW8, hO8⟩
        have HW8 := hid hW8
        have HO8 := hid hO8
        clear hW8 hO8
        go_wp2_with fail
        go_meet
        exact ⟨F8, by rw [HC.out]; exact HW8.out, HO8.out⟩
      | false =>
        have h1 : ¬ (0 < s.nE ∨ s.nAll = 0) := of_decide_eq_false HCB.out.symm
        have HC := hid (show tCl s = s by unfold tCl; rw [if_neg h1])
        clear h1
        go_wp2_with fail
        go_meet
        exact ⟨F, by rw [HC.out]; exact H.out, HO.out⟩
    case rest =>
      obtain ⟨F1, hW1, hO1⟩ := hcut
      have hd1 := HT2.out.prev
      have hd2 := HT2.out.idata
      have hd3 := HT2.out.nI
      have hd4 := HT2.out.irst
      have hd5 := HT2.out.pO
      have hd6 := HT2.out.pL
      have hd7 := HT2.out.iprev
      have HW1 := hid hW1
      have HO1 := hid hO1
      clear c1 c2 c4 c5 c217 c218 c219 c220 c73 c74 f0 bl HO H hW1 hO1
      go_wp2_with fail
      refine (flushBH wp bs rs g nb B Q 0 0 on .nilIface (tCl s) [] none F1 R w0 _ HW1.out HO1.out (Rd.nil _ _ _) rfl (by simp) (by simp) (by omega) (by omega) (by omega) (by omega) (by omega) (by omega) (by omega)).mono ?_
      rintro e w1 ⟨rfl, F2', hW2, hO2⟩
      obtain ⟨s1, hs1⟩ : ∃ s1, tFlush (tCl s) [] = s1 := ⟨_, rfl⟩
      rw [hs1] at hW2
      have HS1 := hid hs1
      obtain ⟨fv, cA, pA, rA, cc, pc, rc, cl, scr20, scr30, Fb, Fp, Fq, F2, F3, G, Fc, hfv, hB1, hP1, hQ1, h2, h3, hG, hs20, hs30, hC, rfl⟩ := hW2
      have HFV := hid hfv
      have HB1 := hid hB1
      have HP1 := hid hP1
      have HQ1 := hid hQ1
      have H2 := hid h2
      have H3 := hid h3
      have HG := hid hG
      have HC := hid hC
      obtain ⟨q, hq⟩ : ∃ q, w1.heap.size = q := ⟨_, rfl⟩
      have hwq : wp < q := by rw [← hq]; exact hO2.head.lt
      have hne1 : ¬ wp = q := by omega
      have hne2 : ¬ q = wp := by omega
      have HO2 := hid ((hO2.alloc' hq 157 [.int .u64 0, .int .u64 0]).perm (L' := F3 ++ (fw q 157 [.int .u64 0, .int .u64 0] :: G ++ (fp wp 0 [.iface 91 (.pointer (some ⟨g, 0, none⟩))] :: fp wp 219 [.int .u64 s1.off] :: (fp wp 1 [.nilIface] :: fp wp 2 [.iface 112 (.agg #[]), fv, .int .u64 1, .int .i64 bs] :: fp wp 217 [.int .u64 s1.pO, .int .u64 s1.pL] :: fp wp 220 [.int .i64 s1.nAll] :: fp wp 221 scr20 :: fp wp 241 scr30 :: fp wp 271 [.slice cA cl.length cc] :: fp wp 6 [.int .i64 rs] :: fp wp (6 + 67) [.int .i64 s1.nE, .slice pA s1.prev.length pc, .slice rA s1.rst.length rc, .slice (some ⟨wp, 241, none⟩) 30 30] :: (Fb ++ (Fp ++ (Fq ++ (F2 ++ (Fc ++ R))))))))) (perm_of fun _ _ z => by simp only [List.count_append, List.count_cons, List.cons_append, List.count_nil, List.nil_append, List.append_nil]; omega))
      clear hfv hB1 hP1 hQ1 h2 h3 hG hC hO2 hs1 HW1 HO1
      go_wp2_with fail
      refine (fwb_finish wp 148 nb B Q on F3 _ w0 _ H3.out HO2.out hB hQ).mono ?_
      rintro e w2 ⟨rfl, fdata, Fx, hBx, hfo, hfl, hO3⟩
      obtain ⟨c0, c1, c2, c3, c4, c5, c217, c218, c219, c220, c271, c73, c74, f0, bl⟩ := tw_hdr (hO3.perm (L' := fp wp 0 [.iface 91 (.pointer (some ⟨g, 0, none⟩))] :: fp wp 1 [.nilIface] :: fp wp 2 [.iface 112 (.agg #[]), fv, .int .u64 1, .int .i64 bs] :: fp wp 217 [.int .u64 s1.pO, .int .u64 s1.pL] :: fp wp 219 [.int .u64 s1.off] :: fp wp 220 [.int .i64 s1.nAll] :: fp wp 221 scr20 :: fp wp 241 scr30 :: fp wp 271 [.slice cA cl.length cc] :: fp wp 6 [.int .i64 rs] :: fp wp (6 + 67) [.int .i64 s1.nE, .slice pA s1.prev.length pc, .slice rA s1.rst.length rc, .slice (some ⟨wp, 241, none⟩) 30 30] :: (Fx ++ (fw q 157 [.int .u64 0, .int .u64 0] :: G ++ (Fb ++ (Fp ++ (Fq ++ (F2 ++ (Fc ++ R)))))))) (perm_of fun _ _ z => by simp only [List.count_append, List.count_cons, List.cons_append, List.count_nil, List.nil_append, List.append_nil]; omega))
      have HBX := hid hBx
      have HFO := hid hfo
      have HO3 := hid hO3
      obtain ⟨fl, hfl2⟩ : ∃ fl, fdata.length = fl := ⟨_, rfl⟩
      have HFL := hid hfl2
      rw [hfl2] at hfl
      clear hBx hfo hO3 HO2 hfl2 H3
      go_wp2_with fail
      have hcx : fl ≤ 4398046511104 := by omega
      go_upto_if 62 with (go_at_call 92; refine (len_buf wp 149 fdata Fx _ w0 _ HBX.out HO3.out (by rw [HFL.out]; exact hcx)).mono ?_; rintro e w3 ⟨rfl, hd3⟩; rw [HFL.out]; have HO4 := hid (HO3.out.dr hd3); clear hd3 HO3 c0 c1 c2 c3 c4 c5 c217 c218 c219 c220 c271 c73 c74 f0 bl)
      have hfo1 : (tCl s).out.length ≤ 536870912 ∧ (tCl s).off ≤ 536870912 := ⟨HT2.out.out, HT2.out.off⟩
      have hsame := tFlush_same (tCl s) []
      rw [HS1.out] at hsame
      obtain ⟨_, _, _, g4, g5, _, _⟩ := hsame
      rw [← g4, ← g5] at hfo1
      obtain ⟨hfo1, hfo2⟩ := hfo1
      clear g4 g5
      obtain ⟨c0, c1, c2, c3, c4, c5, c217, c218, c219, c220, c271, c73, c74, f0, bl⟩ := tw_hdr (HO4.out.perm (L' := fp wp 0 [.iface 91 (.pointer (some ⟨g, 0, none⟩))] :: fp wp 1 [.nilIface] :: fp wp 2 [.iface 112 (.agg #[]), fv, .int .u64 1, .int .i64 bs] :: fp wp 217 [.int .u64 s1.pO, .int .u64 s1.pL] :: fp wp 219 [.int .u64 s1.off] :: fp wp 220 [.int .i64 s1.nAll] :: fp wp 221 scr20 :: fp wp 241 scr30 :: fp wp 271 [.slice cA cl.length cc] :: fp wp 6 [.int .i64 rs] :: fp wp (6 + 67) [.int .i64 s1.nE, .slice pA s1.prev.length pc, .slice rA s1.rst.length rc, .slice (some ⟨wp, 241, none⟩) 30 30] :: (Fx ++ (fw q 157 [.int .u64 0, .int .u64 0] :: G ++ (Fb ++ (Fp ++ (Fq ++ (F2 ++ (Fc ++ R)))))))) (perm_of fun _ _ z => by simp only [List.count_append, List.count_cons, List.cons_append, List.count_nil, List.nil_append, List.append_nil]; omega))
      go_cut [] (fun wx => ∃ G', OB g (fOut s1 fdata) G' ∧ Own (fw q 157 [.int .u64 (fPos s1 fdata), .int .u64 fl] :: (G' ++ (fp wp 0 [.iface 91 (.pointer (some ⟨g, 0, none⟩))] :: fp wp 219 [.int .u64 ((fOff s1 fdata : Nat) : Int)] :: (fp wp 1 [.nilIface] :: fp wp 2 [.iface 112 (.agg #[]), fv, .int .u64 1, .int .i64 bs] :: fp wp 217 [.int .u64 s1.pO, .int .u64 s1.pL] :: fp wp 220 [.int .i64 s1.nAll] :: fp wp 221 scr20 :: fp wp 241 scr30 :: fp wp 271 [.slice cA cl.length cc] :: fp wp 6 [.int .i64 rs] :: fp wp (6 + 67) [.int .i64 s1.nE, .slice pA s1.prev.length pc, .slice rA s1.rst.length rc, .slice (some ⟨wp, 241, none⟩) 30 30] :: (Fb ++ (Fp ++ (Fq ++ (F2 ++ (Fc ++ R))))))))) w0 wx)
      case first => as_aux_lemma =>
        by_cases hz : fdata = []
        · have hl0 : fl = 0 := by rw [← HFL.out, hz]; rfl
          have t1 : ¬ 0 < fl := by omega
          have e1 : fOut s1 fdata = s1.out := by unfold fOut; rw [if_pos hz]
          have e2 : fOff s1 fdata = s1.off := by unfold fOff; rw [if_pos hz]
          have e3 : fPos s1 fdata = 0 := by unfold fPos; rw [if_pos hz]
          have HE := hid (show _ ∧ _ ∧ _ ∧ _ from ⟨e1, e2, e3, hl0⟩)
          clear e1 e2 e3 hl0 hz
          go_wp2_with fail
          go_meet
          obtain ⟨e1, e2, e3, e4⟩ := HE.out
          refine ⟨G, by rw [e1]; exact HG.out, ?_⟩
          rw [e2, e3, e4]
          exact HO4.out.right
        · have hl0 : 0 < fl := by rw [← HFL.out]; exact List.length_pos_iff.2 hz
          have t1 : decide ((fl : Int) > 0) = true := decide_eq_true (by omega)
          have e1 : fOut s1 fdata = s1.out ++ (fdata ++ trail fdata) := by unfold fOut; rw [if_neg hz]
          have e2 : fOff s1 fdata = s1.off + fdata.length + 5 := by unfold fOff; rw [if_neg hz]
          have e3 : fPos s1 fdata = s1.off := by unfold fPos; rw [if_neg hz]
          have HE := hid (show _ ∧ _ ∧ _ from ⟨e1, e2, e3⟩)
          clear e1 e2 e3 hz
          go_wp2_with fail
          refine (writeBlock_any wp 149 wp s1.off g fdata s1.out Fx G (fw q 157 [.int .u64 0, .int .u64 0] :: fp wp 1 [.nilIface] :: fp wp 2 [.iface 112 (.agg #[]), fv, .int .u64 1, .int .i64 bs] :: fp wp 217 [.int .u64 s1.pO, .int .u64 s1.pL] :: fp wp 220 [.int .i64 s1.nAll] :: fp wp 221 scr20 :: fp wp 241 scr30 :: fp wp 271 [.slice cA cl.length cc] :: fp wp 6 [.int .i64 rs] :: fp wp (6 + 67) [.int .i64 s1.nE, .slice pA s1.prev.length pc, .slice rA s1.rst.length rc, .slice (some ⟨wp, 241, none⟩) 30 30] :: (Fb ++ (Fp ++ (Fq ++ (F2 ++ (Fc ++ R)))))) w0 _ HBX.out HG.out (HO4.out.perm (perm_of fun _ _ z => by simp only [List.count_append, List.count_cons, List.cons_append, List.count_nil, List.nil_append, List.append_nil]; omega)) (by rw [HFL.out]; omega) (by omega) (by omega)).mono ?_
          rintro e w5 ⟨rfl, FB', G', hB', hG', hO5⟩
          have hO6 : Own (fw q 157 [.int .u64 0, .int .u64 0] :: fp wp 1 [.nilIface] :: fp wp 0 [.iface 91 (.pointer (some ⟨g, 0, none⟩))] :: fp wp 219 [.int .u64 ((s1.off + fdata.length + 5 : Nat) : Int)] :: fp wp 2 [.iface 112 (.agg #[]), fv, .int .u64 1, .int .i64 bs] :: fp wp 217 [.int .u64 s1.pO, .int .u64 s1.pL] :: fp wp 220 [.int .i64 s1.nAll] :: fp wp 221 scr20 :: fp wp 241 scr30 :: fp wp 271 [.slice cA cl.length cc] :: fp wp 6 [.int .i64 rs] :: fp wp (6 + 67) [.int .i64 s1.nE, .slice pA s1.prev.length pc, .slice rA s1.rst.length rc, .slice (some ⟨wp, 241, none⟩) 30 30] :: (Fb ++ (Fp ++ (Fq ++ (F2 ++ (Fc ++ (FB' ++ (G' ++ R)))))))) w0 w5 := hO5.perm (perm_of fun _ _ z => by simp only [List.count_append, List.count_cons, List.cons_append, List.count_nil, List.nil_append, List.append_nil]; omega)
          have q0 := hO6.cell 0 rfl (k := 0) 0 rfl (by simp)
          have q1 := hO6.cell 0 rfl (k := 1) 1 rfl (by simp)
          have qf := fun k => hO6.frozen 0 rfl k
          clear c0 c1 c2 c3 c4 c5 c217 c218 c219 c220 c271 c73 c74 f0 bl
          have c1 := hO6.cell 1 rfl (k := 1) 0 rfl (by simp)
          have f0 := fun k => hO6.frozen 1 rfl k
          have bl : wp < w5.heap.size := hO6.drop.head.lt
          rw [HFL.out]
          have HO6 := hid hO6
          have HG' := hid hG'
          clear hO5 hO6 hB' hG' HO4
          go_wp2_with fail
          have hfin : ∀ W, Own (fw q 157 [.int .u64 s1.off, .int .u64 fl] :: fp wp 1 [.nilIface] :: fp wp 0 [.iface 91 (.pointer (some ⟨g, 0, none⟩))] :: fp wp 219 [.int .u64 ((s1.off + fdata.length + 5 : Nat) : Int)] :: fp wp 2 [.iface 112 (.agg #[]), fv, .int .u64 1, .int .i64 bs] :: fp wp 217 [.int .u64 s1.pO, .int .u64 s1.pL] :: fp wp 220 [.int .i64 s1.nAll] :: fp wp 221 scr20 :: fp wp 241 scr30 :: fp wp 271 [.slice cA cl.length cc] :: fp wp 6 [.int .i64 rs] :: fp wp (6 + 67) [.int .i64 s1.nE, .slice pA s1.prev.length pc, .slice rA s1.rst.length rc, .slice (some ⟨wp, 241, none⟩) 30 30] :: (Fb ++ (Fp ++ (Fq ++ (F2 ++ (Fc ++ (FB' ++ (G' ++ R)))))))) w0 W → ∃ G', OB g (fOut s1 fdata) G' ∧ Own (fw q 157 [.int .u64 (fPos s1 fdata), .int .u64 fl] :: (G' ++ (fp wp 0 [.iface 91 (.pointer (some ⟨g, 0, none⟩))] :: fp wp 219 [.int .u64 ((fOff s1 fdata : Nat) : Int)] :: (fp wp 1 [.nilIface] :: fp wp 2 [.iface 112 (.agg #[]), fv, .int .u64 1, .int .i64 bs] :: fp wp 217 [.int .u64 s1.pO, .int .u64 s1.pL] :: fp wp 220 [.int .i64 s1.nAll] :: fp wp 221 scr20 :: fp wp 241 scr30 :: fp wp 271 [.slice cA cl.length cc] :: fp wp 6 [.int .i64 rs] :: fp wp (6 + 67) [.int .i64 s1.nE, .slice pA s1.prev.length pc, .slice rA s1.rst.length rc, .slice (some ⟨wp, 241, none⟩) 30 30] :: (Fb ++ (Fp ++ (Fq ++ (F2 ++ (Fc ++ R))))))))) w0 W := fun W hW => by
            obtain ⟨e1, e2, e3⟩ := HE.out
            refine ⟨G', by rw [e1]; exact HG'.out, ?_⟩
            rw [e2, e3]
            exact (hW.perm (L' := FB' ++ (fw q 157 [.int .u64 s1.off, .int .u64 fl] :: (G' ++ (fp wp 0 [.iface 91 (.pointer (some ⟨g, 0, none⟩))] :: fp wp 219 [.int .u64 ((s1.off + fdata.length + 5 : Nat) : Int)] :: (fp wp 1 [.nilIface] :: fp wp 2 [.iface 112 (.agg #[]), fv, .int .u64 1, .int .i64 bs] :: fp wp 217 [.int .u64 s1.pO, .int .u64 s1.pL] :: fp wp 220 [.int .i64 s1.nAll] :: fp wp 221 scr20 :: fp wp 241 scr30 :: fp wp 271 [.slice cA cl.length cc] :: fp wp 6 [.int .i64 rs] :: fp wp (6 + 67) [.int .i64 s1.nE, .slice pA s1.prev.length pc, .slice rA s1.rst.length rc, .slice (some ⟨wp, 241, none⟩) 30 30] :: (Fb ++ (Fp ++ (Fq ++ (F2 ++ (Fc ++ R)))))))))) (perm_of fun _ _ z => by simp only [List.count_append, List.count_cons, List.cons_append, List.count_nil, List.nil_append, List.append_nil]; omega)).right
          all_goals
            go_meet
            apply hfin
            have hA := ((HO6.out.set (k := 0) 0 rfl (by simp) (.int .u64 s1.off)).set (k := 1) 1 rfl (by simp) (.int .u64 fl)).swap01.set (k := 1) 0 rfl (by simp) .nilIface
            have hB := ((HO6.out.swap01.set (k := 1) 0 rfl (by simp) .nilIface).swap01.set (k := 0) 0 rfl (by simp) (.int .u64 s1.off)).set (k := 1) 1 rfl (by simp) (.int .u64 fl)
            first
              | exact hA.swap01
              | exact hB
      case rest =>
        obtain ⟨G', hG', hO5⟩ := hcut
        clear c0 c1 c2 c3 c4 c5 c217 c218 c219 c220 c271 c73 c74 f0 bl HO4 HG HBX
        obtain ⟨c0, c1, c2, c3, c4, c5, c217, c218, c219, c220, c271, c73, c74, f0, bl⟩ := tw_hdr (hO5.perm (L' := fp wp 0 [.iface 91 (.pointer (some ⟨g, 0, none⟩))] :: fp wp 1 [.nilIface] :: fp wp 2 [.iface 112 (.agg #[]), fv, .int .u64 1, .int .i64 bs] :: fp wp 217 [.int .u64 s1.pO, .int .u64 s1.pL] :: fp wp 219 [.int .u64 ((fOff s1 fdata : Nat) : Int)] :: fp wp 220 [.int .i64 s1.nAll] :: fp wp 221 scr20 :: fp wp 241 scr30 :: fp wp 271 [.slice cA cl.length cc] :: fp wp 6 [.int .i64 rs] :: fp wp (6 + 67) [.int .i64 s1.nE, .slice pA s1.prev.length pc, .slice rA s1.rst.length rc, .slice (some ⟨wp, 241, none⟩) 30 30] :: (fw q 157 [.int .u64 (fPos s1 fdata), .int .u64 fl] :: G' ++ (Fb ++ (Fp ++ (Fq ++ (F2 ++ (Fc ++ R))))))) (perm_of fun _ _ z => by simp only [List.count_append, List.count_cons, List.cons_append, List.count_nil, List.nil_append, List.append_nil]; omega))
        have q0 := hO5.cell 0 rfl (k := 0) 0 rfl (by simp)
        have q1 := hO5.cell 0 rfl (k := 1) 1 rfl (by simp)
        have HO5 := hid hO5
        have HG' := hid hG'
        clear hO5 hG'
        have hposle : fPos s1 fdata ≤ 1073741824 := by unfold fPos; split <;> omega
        obtain ⟨ps, hps⟩ : ∃ ps, fPos s1 fdata = ps := ⟨_, rfl⟩
        rw [hps] at q0 HO5 hposle
        have HPS := hid hps
        clear hps
        have hsz := tFlush_same (tCl s) []
        rw [HS1.out] at hsz
        obtain ⟨z1, z2, z3, _, _, _, z7⟩ := hsz
        rw [HZ.out.2.1] at z1
        rw [HZ.out.1] at z2
        rw [HZ.out.2.2] at z3
        have HZ1 := hid (show s1.data = [] ∧ s1.nE = 0 ∧ s1.rst = [] from ⟨z1, z2, z3⟩)
        have hpl : s1.prev.length ≤ 1073741824 := by have := HT2.out.prev; omega
        clear z1 z2 z3 z7
        go_upto_if 83 with fail
        go_cut [] (fun wx => ∃ (key prev' : List UInt8) (FD : List Fr) (sa sb : List Value), sa.length = 20 ∧ sb.length = 30 ∧ key.length ≤ 200 ∧ prev'.length ≤ 1073741824 ∧ BW wp 6 rs (mN fdata) (mD fdata ps fl key) prev' (mR fdata) wp 241 FD ∧
          Own (FD ++ (fp wp 0 [.iface 91 (.pointer (some ⟨g, 0, none⟩))] :: fp wp 1 [.nilIface] :: fp wp 2 [.iface 112 (.agg #[]), fv, .int .u64 1, .int .i64 bs] :: fp wp 217 [.int .u64 s1.pO, .int .u64 s1.pL] :: fp wp 219 [.int .u64 ((fOff s1 fdata : Nat) : Int)] :: fp wp 220 [.int .i64 s1.nAll] :: fp wp 221 sa :: fp wp 241 sb :: fp wp 271 [.slice cA cl.length cc] :: (G' ++ (F2 ++ (Fc ++ R))))) w0 wx)
        case first => as_aux_lemma =>
          by_cases hz : fdata = []
          · have hl0 : fl = 0 := by rw [← HFL.out, hz]; rfl
            have t1 : ¬ 0 < fl := by omega
            have HE := hid hz
            clear hl0 hz
            go_wp2_with fail
            go_meet
            have h6 : Own ((fp wp 6 [.int .i64 rs] :: fp wp (6 + 67) [.int .i64 s1.nE, .slice pA s1.prev.length pc, .slice rA s1.rst.length rc, .slice (some ⟨wp, 241, none⟩) 30 30] :: (Fb ++ (Fp ++ Fq))) ++ (fp wp 0 [.iface 91 (.pointer (some ⟨g, 0, none⟩))] :: fp wp 1 [.nilIface] :: fp wp 2 [.iface 112 (.agg #[]), fv, .int .u64 1, .int .i64 bs] :: fp wp 217 [.int .u64 s1.pO, .int .u64 s1.pL] :: fp wp 219 [.int .u64 ((fOff s1 fdata : Nat) : Int)] :: fp wp 220 [.int .i64 s1.nAll] :: fp wp 221 scr20 :: fp wp 241 scr30 :: fp wp 271 [.slice cA cl.length cc] :: (G' ++ (F2 ++ (Fc ++ R))))) w0 wc := HO5.out.drop.perm (perm_of fun _ _ z => by simp only [List.count_append, List.count_cons, List.cons_append, List.count_nil, List.nil_append, List.append_nil]; omega)
            refine ⟨[], s1.prev, fp wp 6 [.int .i64 rs] :: fp wp (6 + 67) [.int .i64 s1.nE, .slice pA s1.prev.length pc, .slice rA s1.rst.length rc, .slice (some ⟨wp, 241, none⟩) 30 30] :: (Fb ++ (Fp ++ Fq)), scr20, scr30, hs20, hs30, by simp, hpl, ?_, h6⟩
            unfold mN mD mR; rw [if_pos HE.out, if_pos HE.out, if_pos HE.out]
            have h5 := BW.of (o := 6) (sg := wp) (so := 241) (rs := rs) (nE := s1.nE) HB1.out HP1.out HQ1.out
            rw [HZ1.out.1] at h5
            rw [HZ1.out.2.1, HZ1.out.2.2] at h5 ⊢
            exact h5
          · have hon : on = true := by
              cases on with
              | true => rfl
              | false => exact absurd (HFO.out.2 rfl) hz
            have hfe : fv = .iface 240 (.int .i64 nb) := by rw [HFV.out, if_pos hon]
            have hl0 : 0 < fl := by rw [← HFL.out]; exact List.length_pos_iff.2 hz
            have t1 : decide ((fl : Int) > 0) = true := decide_eq_true (by omega)
            have HE := hid hz
            have HFE := hid hfe
            rw [hfe] at c3
            have hm1 := method_name
            have hcv := fun W s => Lib.run_convert_string_bytes (P := Tryd.prog) W 9 25 5 s Tryd.underlying9 Tryd.underlying25 Tryd.underlying5
            have t2 : 0 < fl := hl0
            clear hon hfe hz hl0 t1
            go_wp2_with fail
            refine (bloomName _ _).mono ?_
            rintro e w5 ⟨⟨str, hstr, rfl⟩, rfl⟩
            go_wp2_with fail
            have hKO := own_bytesRow HO5.out 5 ((⟨#[102, 105, 108, 116, 101, 114, 46]⟩ : ByteArray) ++ str)
            have hkt := bytes_take wc 5 ((⟨#[102, 105, 108, 116, 101, 114, 46]⟩ : ByteArray) ++ str)
            obtain ⟨KB, hKB⟩ : ∃ KB, (⟨#[102, 105, 108, 116, 101, 114, 46]⟩ : ByteArray) ++ str = KB := ⟨_, rfl⟩
            have hksz : KB.data.toList.length = 7 + str.size := by rw [← hKB]; exact add_bytes _ _
            rw [hKB] at hKO hkt ⊢
            obtain ⟨W5, hW5⟩ : ∃ W5, Lib.bytesWorld wc 5 KB = W5 := ⟨_, rfl⟩
            rw [hW5] at hKO ⊢
            obtain ⟨key, hkey⟩ : ∃ key, KB.data.toList = key := ⟨_, rfl⟩
            rw [hkey] at hkt hksz
            have hkcap : 7 + str.size ≤ grownCap wc (7 + str.size) 0 5 := grownCap_ge wc _ 0 _
            obtain ⟨kc, hkc⟩ : ∃ kc, grownCap wc (7 + str.size) 0 5 = kc := ⟨_, rfl⟩
            rw [hkc] at hkcap ⊢
            rw [← hksz] at hkcap ⊢
            obtain ⟨kb, hkb⟩ : ∃ kb, wc.heap.size = kb := ⟨_, rfl⟩
            rw [hkb] at hKO ⊢
            have hkr : ∀ M, Rd (fk kb (.cells (Lib.bytesCells wc 5 KB) 5 ((Lib.bytesCells wc 5 KB).size, (Lib.bytesCells wc 5 KB).size + 1)) :: M) w0 (some ⟨kb, 0, none⟩) key := fun M => Rd.kept (List.mem_cons_self ..) hkt
            generalize Obj.cells (Lib.bytesCells wc 5 KB) 5 ((Lib.bytesCells wc 5 KB).size, (Lib.bytesCells wc 5 KB).size + 1) = KOb at hKO hkr
            have hkl : key.length ≤ 200 := by omega
            clear hkt hKB hW5 hkey hkc hksz hkb hcv hm1
            clear c0 c1 c2 c3 c4 c5 c217 c218 c219 c220 c271 c73 c74 f0 bl q0 q1 HO5
            have hKP := hKO.perm (L' := fp wp 0 [.iface 91 (.pointer (some ⟨g, 0, none⟩))] :: fp wp 1 [.nilIface] :: fp wp 2 [.iface 112 (.agg #[]), fv, .int .u64 1, .int .i64 bs] :: fp wp 217 [.int .u64 s1.pO, .int .u64 s1.pL] :: fp wp 219 [.int .u64 ((fOff s1 fdata : Nat) : Int)] :: fp wp 220 [.int .i64 s1.nAll] :: fp wp 221 scr20 :: fp wp 241 scr30 :: fp wp 271 [.slice cA cl.length cc] :: fp wp 6 [.int .i64 rs] :: fp wp (6 + 67) [.int .i64 s1.nE, .slice pA s1.prev.length pc, .slice rA s1.rst.length rc, .slice (some ⟨wp, 241, none⟩) 30 30] :: (fw q 157 [.int .u64 ps, .int .u64 fl] :: fk kb KOb :: (G' ++ (Fb ++ (Fp ++ (Fq ++ (F2 ++ (Fc ++ R)))))))) (perm_of fun _ _ z => by simp only [List.count_append, List.count_cons, List.cons_append, List.count_nil, List.nil_append, List.append_nil]; omega)
            have q0 := hKO.cell 1 rfl (k := 0) 0 rfl (by simp)
            have q1 := hKO.cell 1 rfl (k := 1) 1 rfl (by simp)
            obtain ⟨c0, c1, c2, c3, c4, c5, c217, c218, c219, c220, c271, c73, c74, f0, bl⟩ := tw_hdr hKP
            have HO5 := hid (hKP.perm (L' := fp wp 221 scr20 :: fp wp 0 [.iface 91 (.pointer (some ⟨g, 0, none⟩))] :: fp wp 1 [.nilIface] :: fp wp 2 [.iface 112 (.agg #[]), fv, .int .u64 1, .int .i64 bs] :: fp wp 217 [.int .u64 s1.pO, .int .u64 s1.pL] :: fp wp 219 [.int .u64 ((fOff s1 fdata : Nat) : Int)] :: fp wp 220 [.int .i64 s1.nAll] :: fp wp 241 scr30 :: fp wp 271 [.slice cA cl.length cc] :: fp wp 6 [.int .i64 rs] :: fp wp (6 + 67) [.int .i64 s1.nE, .slice pA s1.prev.length pc, .slice rA s1.rst.length rc, .slice (some ⟨wp, 241, none⟩) 30 30] :: (fw q 157 [.int .u64 ps, .int .u64 fl] :: fk kb KOb :: (G' ++ (Fb ++ (Fp ++ (Fq ++ (F2 ++ (Fc ++ R)))))))) (perm_of fun _ _ z => by simp only [List.count_append, List.count_cons, List.cons_append, List.count_nil, List.nil_append, List.append_nil]; omega))
            have HKR := hid hkr
            clear hKO hKP hkr
            have hho := uv_len10 (x := ps) (by omega)
            have hhl := uv_len10 (x := fl) (by omega)
            refine AnyT.start (S := fun w' => w'.cell? ⟨q, 0, none⟩ = some (.int .u64 ps) ∧ w'.cell? ⟨q, 1, none⟩ = some (.int .u64 fl)) (T := []) (by kernel_rfl) (⟨q0, q1⟩) (fun hHeld => ?_)
            refine AnyT.take (i := 0) (v := ?_) (by simp only [List.getElem?_toArray, List.getElem?_cons_succ, List.getElem?_cons_zero]; rfl) (by kernel_rfl) (by kernel_rfl) (by kernel_rfl) (by kernel_rfl) (by intro _ _ _ h; exact h) (Or.inl ⟨by rfl, fun w hSw => ?_⟩) hHeld ?_
            rotate_left
            · ((try dsimp only at hSw); go_simp; first | done | with_reducible rfl | rfl)
            try simp only [Act.put, List.setIfInBounds_toArray, List.set_cons_zero, List.set_cons_succ]
            refine AnyT.take (i := 1) (v := ?_) (by simp only [List.getElem?_toArray, List.getElem?_cons_succ, List.getElem?_cons_zero]; rfl) (by kernel_rfl) (by kernel_rfl) (by kernel_rfl) (by kernel_rfl) (by intro _ _ _ h; exact h) (Or.inl ⟨by rfl, fun w hSw => ?_⟩) hHeld ?_
            rotate_left
            · ((try dsimp only at hSw); go_simp; first | done | with_reducible rfl | rfl)
            try simp only [Act.put, List.setIfInBounds_toArray, List.set_cons_zero, List.set_cons_succ]
            refine AnyT.take (i := 2) (v := ?_) (by simp only [List.getElem?_toArray, List.getElem?_cons_succ, List.getElem?_cons_zero]; rfl) (by kernel_rfl) (by kernel_rfl) (by kernel_rfl) (by kernel_rfl) (by intro _ _ _ h; exact h) (Or.inl ⟨by rfl, fun w hSw => ?_⟩) hHeld ?_
            rotate_left
            · ((try dsimp only at hSw); go_simp; first | done | with_reducible rfl | rfl)
            try simp only [Act.put, List.setIfInBounds_toArray, List.set_cons_zero, List.set_cons_succ]
            refine AnyT.take (i := 3) (v := ?_) (by simp only [List.getElem?_toArray, List.getElem?_cons_succ, List.getElem?_cons_zero]; rfl) (by kernel_rfl) (by kernel_rfl) (by kernel_rfl) (by kernel_rfl) (by intro _ _ _ h; exact h) (Or.inl ⟨by rfl, fun w hSw => ?_⟩) hHeld ?_
            rotate_left
            · ((try dsimp only at hSw); go_simp; first | done | with_reducible rfl | rfl)
            try simp only [Act.put, List.setIfInBounds_toArray, List.set_cons_zero, List.set_cons_succ]
            refine AnyT.take (i := 4) (v := ?_) (by simp only [List.getElem?_toArray, List.getElem?_cons_succ, List.getElem?_cons_zero]; rfl) (by kernel_rfl) (by kernel_rfl) (by kernel_rfl) (by kernel_rfl) (by intro _ _ _ h; exact h) (Or.inl ⟨by rfl, fun w hSw => ?_⟩) hHeld ?_
            rotate_left
            · ((try dsimp only at hSw); go_simp; first | done | with_reducible rfl | rfl)
            try simp only [Act.put, List.setIfInBounds_toArray, List.set_cons_zero, List.set_cons_succ]
            refine AnyT.ready (rs := [5]) (by kernel_rfl) (by simp) ?_
            refine AllT.cons (by simp only [List.getElem?_toArray, List.getElem?_cons_succ, List.getElem?_cons_zero]; rfl) (fun K hK => ?_) AllT.nil
            go_simp
            refine (encHandle (fp wp 221 scr20) 0 221 20 50 ps fl _ w0 _ rfl HO5.out.drew (by show 0 + 20 ≤ scr20.length; omega) (by omega) (by omega) (by omega) (by omega) (by omega)).mono ?_
            rintro e w1 ⟨rfl, hO2⟩
            have hO3 : Own (fp wp 221 (splice scr20 0 (bc (handle ps fl))) :: fp wp 0 [.iface 91 (.pointer (some ⟨g, 0, none⟩))] :: fp wp 1 [.nilIface] :: fp wp 2 [.iface 112 (.agg #[]), fv, .int .u64 1, .int .i64 bs] :: fp wp 217 [.int .u64 s1.pO, .int .u64 s1.pL] :: fp wp 219 [.int .u64 ((fOff s1 fdata : Nat) : Int)] :: fp wp 220 [.int .i64 s1.nAll] :: fp wp 241 scr30 :: fp wp 271 [.slice cA cl.length cc] :: fp wp 6 [.int .i64 rs] :: fp wp (6 + 67) [.int .i64 s1.nE, .slice pA s1.prev.length pc, .slice rA s1.rst.length rc, .slice (some ⟨wp, 241, none⟩) 30 30] :: (fw q 157 [.int .u64 ps, .int .u64 fl] :: fk kb KOb :: (G' ++ (Fb ++ (Fp ++ (Fq ++ (F2 ++ (Fc ++ R)))))))) w0 w1 := hO2
            have hlh : (handle ps fl).length = (uv ps).length + (uv fl).length := List.length_append
            obtain ⟨hd, hhd⟩ : ∃ hd, handle ps fl = hd := ⟨_, rfl⟩
            have HHD := hid hhd
            rw [hhd] at hO3 hlh ⊢
            obtain ⟨hn, hhn⟩ : ∃ hn, hd.length = hn := ⟨_, rfl⟩
            rw [hhn] at hlh ⊢
            have HHN := hid hhn
            have hs20' : (splice scr20 0 (bc hd)).length = 20 := by rw [length_splice _ _ _ (by rw [bc_length, hhn]; omega), hs20]
            have hhr : ∀ M, Rd (fp wp 221 (splice scr20 0 (bc hd)) :: M) w0 (some ⟨wp, 221, none⟩) hd := fun M => Rd.fr (x := fp wp 221 (splice scr20 0 (bc hd))) (by simp) (i := 0) rfl (by show 0 + hd.length ≤ (splice scr20 0 (bc hd)).length; omega) (by
              rw [List.drop_zero]
              have := splice_take0 scr20 (bc hd) (by rw [bc_length, hhn]; omega)
              rwa [bc_length] at this)
            obtain ⟨sc2, hsc2⟩ : ∃ sc2, splice scr20 0 (bc hd) = sc2 := ⟨_, rfl⟩
            rw [hsc2] at hO3 hs20' hhr
            clear c0 c1 c2 c3 c4 c5 c217 c218 c219 c220 c271 c73 c74 f0 bl q0 q1
            obtain ⟨c0, c1, c2, c3, c4, c5, c217, c218, c219, c220, c271, c73, c74, f0, bl⟩ := tw_hdr (hO3.perm (L' := fp wp 0 [.iface 91 (.pointer (some ⟨g, 0, none⟩))] :: fp wp 1 [.nilIface] :: fp wp 2 [.iface 112 (.agg #[]), fv, .int .u64 1, .int .i64 bs] :: fp wp 217 [.int .u64 s1.pO, .int .u64 s1.pL] :: fp wp 219 [.int .u64 ((fOff s1 fdata : Nat) : Int)] :: fp wp 220 [.int .i64 s1.nAll] :: fp wp 221 sc2 :: fp wp 241 scr30 :: fp wp 271 [.slice cA cl.length cc] :: fp wp 6 [.int .i64 rs] :: fp wp (6 + 67) [.int .i64 s1.nE, .slice pA s1.prev.length pc, .slice rA s1.rst.length rc, .slice (some ⟨wp, 241, none⟩) 30 30] :: (fw q 157 [.int .u64 ps, .int .u64 fl] :: fk kb KOb :: (G' ++ (Fb ++ (Fp ++ (Fq ++ (F2 ++ (Fc ++ R)))))))) (perm_of fun _ _ z => by simp only [List.count_append, List.count_cons, List.cons_append, List.count_nil, List.nil_append, List.append_nil]; omega))
            have q0 := hO3.cell 11 rfl (k := 0) 0 rfl (by simp)
            have q1 := hO3.cell 11 rfl (k := 1) 1 rfl (by simp)
            have HO3 := hid (hO3.perm (L' := (fp wp 6 [.int .i64 rs] :: fp wp (6 + 67) [.int .i64 s1.nE, .slice pA s1.prev.length pc, .slice rA s1.rst.length rc, .slice (some ⟨wp, 241, none⟩) 30 30] :: (Fb ++ (Fp ++ Fq))) ++ (fp wp 241 scr30 :: (fk kb KOb :: fp wp 221 sc2 :: fp wp 0 [.iface 91 (.pointer (some ⟨g, 0, none⟩))] :: fp wp 1 [.nilIface] :: fp wp 2 [.iface 112 (.agg #[]), fv, .int .u64 1, .int .i64 bs] :: fp wp 217 [.int .u64 s1.pO, .int .u64 s1.pL] :: fp wp 219 [.int .u64 ((fOff s1 fdata : Nat) : Int)] :: fp wp 220 [.int .i64 s1.nAll] :: fp wp 271 [.slice cA cl.length cc] :: (fw q 157 [.int .u64 ps, .int .u64 fl] :: (G' ++ (F2 ++ (Fc ++ R))))))) (perm_of fun _ _ z => by simp only [List.count_append, List.count_cons, List.cons_append, List.count_nil, List.nil_append, List.append_nil]; omega))
            have HHR := hid hhr
            have hnle : hn ≤ 20 := by omega
            have hn0 : 0 ≤ (hn : Int) := by omega
            clear hO2 hO3 hhr HO5 hhd hsc2 hlh hhn
            try go_wp2_with fail
            refine hK.out _ _ ?_ (fun hHeld => ?_)
            · exact ⟨q0, q1⟩
            clear hK
            try simp only [Act.put, List.setIfInBounds_toArray, List.set_cons_zero, List.set_cons_succ]
            refine AnyT.take (i := 6) (v := ?_) (by simp only [List.getElem?_toArray, List.getElem?_cons_succ, List.getElem?_cons_zero]; rfl) (by kernel_rfl) (by kernel_rfl) (by kernel_rfl) (by kernel_rfl) (by intro _ _ _ h; exact h) (Or.inl ⟨by rfl, fun w hSw => ?_⟩) hHeld ?_
            rotate_left
            · ((try dsimp only at hSw); go_simp; first | done | with_reducible rfl | rfl)
            try simp only [Act.put, List.setIfInBounds_toArray, List.set_cons_zero, List.set_cons_succ]
            refine AnyT.done (by kernel_rfl) ?_ _
            have z1 : (hn : Int) ≤ 50 := by omega
            go_wp2_with fail
            refine AnyT.start (S := fun _ => True) (T := []) (by kernel_rfl) (trivial) (fun hHeld => ?_)
            refine AnyT.take (i := 0) (v := ?_) (by simp only [List.getElem?_toArray, List.getElem?_cons_succ, List.getElem?_cons_zero]; rfl) (by kernel_rfl) (by kernel_rfl) (by kernel_rfl) (by kernel_rfl) (by intro _ _ _ h; exact h) (Or.inl ⟨by rfl, fun w hSw => ?_⟩) hHeld ?_
            rotate_left
            · ((try dsimp only at hSw); go_simp; first | done | with_reducible rfl | rfl)
            try simp only [Act.put, List.setIfInBounds_toArray, List.set_cons_zero, List.set_cons_succ]
            refine AnyT.take (i := 1) (v := ?_) (by simp only [List.getElem?_toArray, List.getElem?_cons_succ, List.getElem?_cons_zero]; rfl) (by kernel_rfl) (by kernel_rfl) (by kernel_rfl) (by kernel_rfl) (by intro _ _ _ h; exact h) (Or.inl ⟨by rfl, fun w hSw => ?_⟩) hHeld ?_
            rotate_left
            · ((try dsimp only at hSw); go_simp; first | done | with_reducible rfl | rfl)
            try simp only [Act.put, List.setIfInBounds_toArray, List.set_cons_zero, List.set_cons_succ]
            refine AnyT.take (i := 2) (v := ?_) (by simp only [List.getElem?_toArray, List.getElem?_cons_succ, List.getElem?_cons_zero]; rfl) (by kernel_rfl) (by kernel_rfl) (by kernel_rfl) (by kernel_rfl) (by intro _ _ _ h; exact h) (Or.inl ⟨by rfl, fun w hSw => ?_⟩) hHeld ?_
            rotate_left
            · ((try dsimp only at hSw); go_simp; first | done | with_reducible rfl | rfl)
            try simp only [Act.put, List.setIfInBounds_toArray, List.set_cons_zero, List.set_cons_succ]
            refine AnyT.take (i := 3) (v := ?_) (by simp only [List.getElem?_toArray, List.getElem?_cons_succ, List.getElem?_cons_zero]; rfl) (by kernel_rfl) (by kernel_rfl) (by kernel_rfl) (by kernel_rfl) (by intro _ _ _ h; exact h) (Or.inl ⟨by rfl, fun w hSw => ?_⟩) hHeld ?_
            rotate_left
            · ((try dsimp only at hSw); go_simp; first | done | with_reducible rfl | rfl)
            try simp only [Act.put, List.setIfInBounds_toArray, List.set_cons_zero, List.set_cons_succ]
            refine AnyT.take (i := 4) (v := ?_) (by simp only [List.getElem?_toArray, List.getElem?_cons_succ, List.getElem?_cons_zero]; rfl) (by kernel_rfl) (by kernel_rfl) (by kernel_rfl) (by kernel_rfl) (by intro _ _ _ h; exact h) (Or.inl ⟨by rfl, fun w hSw => ?_⟩) hHeld ?_
            rotate_left
            · ((try dsimp only at hSw); go_simp; first | done | with_reducible rfl | rfl)
            try simp only [Act.put, List.setIfInBounds_toArray, List.set_cons_zero, List.set_cons_succ]
            refine AnyT.take (i := 5) (v := ?_) (by simp only [List.getElem?_toArray, List.getElem?_cons_succ, List.getElem?_cons_zero]; rfl) (by kernel_rfl) (by kernel_rfl) (by kernel_rfl) (by kernel_rfl) (by intro _ _ _ h; exact h) (Or.inl ⟨by rfl, fun w hSw => ?_⟩) hHeld ?_
            rotate_left
            · ((try dsimp only at hSw); go_simp; first | done | with_reducible rfl | rfl)
            try simp only [Act.put, List.setIfInBounds_toArray, List.set_cons_zero, List.set_cons_succ]
            refine AnyT.take (i := 6) (v := ?_) (by simp only [List.getElem?_toArray, List.getElem?_cons_succ, List.getElem?_cons_zero]; rfl) (by kernel_rfl) (by kernel_rfl) (by kernel_rfl) (by kernel_rfl) (by intro _ _ _ h; exact h) (Or.inl ⟨by rfl, fun w hSw => ?_⟩) hHeld ?_
            rotate_left
            · ((try dsimp only at hSw); go_simp; first | done | with_reducible rfl | rfl)
            try simp only [Act.put, List.setIfInBounds_toArray, List.set_cons_zero, List.set_cons_succ]
            refine AnyT.take (i := 7) (v := ?_) (by simp only [List.getElem?_toArray, List.getElem?_cons_succ, List.getElem?_cons_zero]; rfl) (by kernel_rfl) (by kernel_rfl) (by kernel_rfl) (by kernel_rfl) (by intro _ _ _ h; exact h) (Or.inl ⟨by rfl, fun w hSw => ?_⟩) hHeld ?_
            rotate_left
            · ((try dsimp only at hSw); go_simp; first | done | with_reducible rfl | rfl)
            try simp only [Act.put, List.setIfInBounds_toArray, List.set_cons_zero, List.set_cons_succ]
            refine AnyT.take (i := 8) (v := ?_) (by simp only [List.getElem?_toArray, List.getElem?_cons_succ, List.getElem?_cons_zero]; rfl) (by kernel_rfl) (by kernel_rfl) (by kernel_rfl) (by kernel_rfl) (by intro _ _ _ h; exact h) (Or.inl ⟨by rfl, fun w hSw => ?_⟩) hHeld ?_
            rotate_left
            · ((try dsimp only at hSw); go_simp; first | done | with_reducible rfl | rfl)
            try simp only [Act.put, List.setIfInBounds_toArray, List.set_cons_zero, List.set_cons_succ]
            refine AnyT.ready (rs := [9]) (by kernel_rfl) (by simp) ?_
            refine AllT.cons (by simp only [List.getElem?_toArray, List.getElem?_cons_succ, List.getElem?_cons_zero]; rfl) (fun K hK => ?_) AllT.nil
            go_simp
            have HA := bw_append wp 6 rs s1.nE kc 50 wp 241 (some ⟨kb, 0, none⟩) (some ⟨wp, 221, none⟩) s1.data s1.prev key hd s1.rst scr30 (fp wp 6 [.int .i64 rs] :: fp wp (6 + 67) [.int .i64 s1.nE, .slice pA s1.prev.length pc, .slice rA s1.rst.length rc, .slice (some ⟨wp, 241, none⟩) 30 30] :: (Fb ++ (Fp ++ Fq))) (fk kb KOb :: fp wp 221 sc2 :: fp wp 0 [.iface 91 (.pointer (some ⟨g, 0, none⟩))] :: fp wp 1 [.nilIface] :: fp wp 2 [.iface 112 (.agg #[]), fv, .int .u64 1, .int .i64 bs] :: fp wp 217 [.int .u64 s1.pO, .int .u64 s1.pL] :: fp wp 219 [.int .u64 ((fOff s1 fdata : Nat) : Int)] :: fp wp 220 [.int .i64 s1.nAll] :: fp wp 271 [.slice cA cl.length cc] :: (fw q 157 [.int .u64 ps, .int .u64 fl] :: (G' ++ (F2 ++ (Fc ++ R))))) w0 _
              (BW.of HB1.out HP1.out HQ1.out) HO3.out.drew hs30 (HKR.out _) ((HHR.out (fk kb KOb :: fp wp 0 [.iface 91 (.pointer (some ⟨g, 0, none⟩))] :: fp wp 1 [.nilIface] :: fp wp 2 [.iface 112 (.agg #[]), fv, .int .u64 1, .int .i64 bs] :: fp wp 217 [.int .u64 s1.pO, .int .u64 s1.pL] :: fp wp 219 [.int .u64 ((fOff s1 fdata : Nat) : Int)] :: fp wp 220 [.int .i64 s1.nAll] :: fp wp 271 [.slice cA cl.length cc] :: (fw q 157 [.int .u64 ps, .int .u64 fl] :: (G' ++ (F2 ++ (Fc ++ R)))))).mono (by intro x hx; simp only [List.mem_cons] at hx ⊢; rcases hx with h | h | h <;> first | exact .inr (.inl h) | exact .inl h | exact .inr (.inr h))) hkcap hrs (by omega) (by rw [HZ1.out.1]; simp) (by omega) (by rw [HHN.out]; omega) (by rw [HZ1.out.2.1]; omega) (by rw [HZ1.out.2.2]; simp) (by omega)
            rw [HHN.out] at HA
            refine HA.mono ?_
            rintro e w2 ⟨rfl, FD, sb, hW2, hsb, hO4⟩
            have hO5 : Own (FD ++ (fp wp 0 [.iface 91 (.pointer (some ⟨g, 0, none⟩))] :: fp wp 1 [.nilIface] :: fp wp 2 [.iface 112 (.agg #[]), fv, .int .u64 1, .int .i64 bs] :: fp wp 217 [.int .u64 s1.pO, .int .u64 s1.pL] :: fp wp 219 [.int .u64 ((fOff s1 fdata : Nat) : Int)] :: fp wp 220 [.int .i64 s1.nAll] :: fp wp 221 sc2 :: fp wp 241 sb :: fp wp 271 [.slice cA cl.length cc] :: (G' ++ (F2 ++ (Fc ++ (fw q 157 [.int .u64 ps, .int .u64 fl] :: fk kb KOb :: R)))))) w0 w2 := hO4.perm (perm_of fun _ _ z => by simp only [List.count_append, List.count_cons, List.cons_append, List.count_nil, List.nil_append, List.append_nil]; omega)
            have hfin : Own (FD ++ (fp wp 0 [.iface 91 (.pointer (some ⟨g, 0, none⟩))] :: fp wp 1 [.nilIface] :: fp wp 2 [.iface 112 (.agg #[]), fv, .int .u64 1, .int .i64 bs] :: fp wp 217 [.int .u64 s1.pO, .int .u64 s1.pL] :: fp wp 219 [.int .u64 ((fOff s1 fdata : Nat) : Int)] :: fp wp 220 [.int .i64 s1.nAll] :: fp wp 221 sc2 :: fp wp 241 sb :: fp wp 271 [.slice cA cl.length cc] :: (G' ++ (F2 ++ (Fc ++ R))))) w0 w2 := (hO4.perm (L' := [fw q 157 [.int .u64 ps, .int .u64 fl], fk kb KOb] ++ (FD ++ (fp wp 0 [.iface 91 (.pointer (some ⟨g, 0, none⟩))] :: fp wp 1 [.nilIface] :: fp wp 2 [.iface 112 (.agg #[]), fv, .int .u64 1, .int .i64 bs] :: fp wp 217 [.int .u64 s1.pO, .int .u64 s1.pL] :: fp wp 219 [.int .u64 ((fOff s1 fdata : Nat) : Int)] :: fp wp 220 [.int .i64 s1.nAll] :: fp wp 221 sc2 :: fp wp 241 sb :: fp wp 271 [.slice cA cl.length cc] :: (G' ++ (F2 ++ (Fc ++ R)))))) (perm_of fun _ _ z => by simp only [List.count_append, List.count_cons, List.cons_append, List.count_nil, List.nil_append, List.append_nil]; omega)).right
            have HFN := hid hfin
            have HW2 := hid hW2
            clear c0 c1 c2 c3 c4 c5 c217 c218 c219 c220 c271 c73 c74 f0 bl q0 q1
            clear hO4 hO5 hW2 hfin HO3
            try go_wp2_with fail
            refine hK.out _ _ ?_ (fun hHeld => ?_)
            · trivial
            clear hK
            try simp only [Act.put, List.setIfInBounds_toArray, List.set_cons_zero, List.set_cons_succ]
            refine AnyT.done (by kernel_rfl) ?_ _
            go_wp2_with fail
            go_meet
            refine ⟨key, key, FD, sc2, sb, hs20', hsb, hkl, by omega, ?_, HFN.out⟩
            have h5 := HW2.out
            rw [HZ1.out.1] at h5
            rw [HZ1.out.2.1, HZ1.out.2.2] at h5
            unfold mN mD mR; rw [if_neg HE.out, if_neg HE.out, if_neg HE.out, HHD.out]
            simp only [bwN, bwR, Nat.zero_mod, if_true, List.nil_append, List.length_nil, Nat.zero_add] at h5
            exact h5
        case rest =>
          obtain ⟨key, prev', FD, sa, sb, hsa, hsb, hkl, hpl', hBW, hO6⟩ := hcut
          have hmd := mD_len fdata (ps := ps) (fl := fl) (key := key) (by omega) (by omega) hkl
          have hmr := mR_len fdata
          have hmx := mR_lt fdata
          have hmb := blkOf_len (mN fdata) (mD fdata ps fl key) (mR fdata)
          obtain ⟨mn, hmn⟩ : ∃ mn, mN fdata = mn := ⟨_, rfl⟩
          obtain ⟨md, hmdd⟩ : ∃ md, mD fdata ps fl key = md := ⟨_, rfl⟩
          obtain ⟨mr, hmrr⟩ : ∃ mr, mR fdata = mr := ⟨_, rfl⟩
          rw [hmn, hmdd, hmrr] at hBW hmb
          rw [hmdd] at hmd
          rw [hmrr] at hmr hmx
          have HMX := hid hmx
          have HMN := hid (show _ ∧ _ ∧ _ from ⟨hmn, hmdd, hmrr⟩)
          have HBW := hid hBW
          have HO6 := hid hO6
          clear hmx hmn hmdd hmrr hBW hO6
          clear c0 c1 c2 c3 c4 c5 c217 c218 c219 c220 c271 c73 c74 f0 bl q0 q1 HO5 HB1 HP1 HQ1
          go_wp2_with fail
          refine (bw_finish wp 6 rs mn wp 241 md prev' mr FD _ w0 _ HBW.out HO6.out (by omega) (by omega) HMX.out).mono ?_
          rintro e w1 ⟨rfl, FD', ⟨pA2, pc2, rA2, rc2, Fb2, Fp2, Fq2, hB2, hP2, hQ2, rfl⟩, hO7⟩
          obtain ⟨rm2, hrm2⟩ : ∃ rm2, finR mn mr ++ [(finR mn mr).length] = rm2 := ⟨_, rfl⟩
          rw [hrm2] at hO7 hQ2
          have hO8 : Own (Fb2 ++ (G' ++ (fp wp 0 [.iface 91 (.pointer (some ⟨g, 0, none⟩))] :: fp wp 219 [.int .u64 ((fOff s1 fdata : Nat) : Int)] :: (fp wp 1 [.nilIface] :: fp wp 2 [.iface 112 (.agg #[]), fv, .int .u64 1, .int .i64 bs] :: fp wp 217 [.int .u64 s1.pO, .int .u64 s1.pL] :: fp wp 220 [.int .i64 s1.nAll] :: fp wp 221 sa :: fp wp 241 sb :: fp wp 271 [.slice cA cl.length cc] :: (fp wp 6 [.int .i64 rs] :: fp wp (6 + 67) [.int .i64 mn, .slice pA2 prev'.length pc2, .slice rA2 rm2.length rc2, .slice (some ⟨wp, 241, none⟩) 30 30] :: (Fp2 ++ (Fq2 ++ (F2 ++ (Fc ++ R))))))))) w0 w1 := hO7.perm (perm_of fun _ _ z => by simp only [List.count_append, List.count_cons, List.cons_append, List.count_nil, List.nil_append, List.append_nil]; omega)
          have hmbd : md ++ le4s (finR mn mr ++ [(finR mn mr).length]) = blkOf mn md mr := rfl
          rw [hmbd] at hB2
          obtain ⟨mb, hmbb⟩ : ∃ mb, blkOf mn md mr = mb := ⟨_, rfl⟩
          rw [hmbb] at hB2 hmb
          have HMB := hid hmbb
          have hout1 : (fOut s1 fdata).length ≤ 700000000 := by
            unfold fOut
            split
            · omega
            · rw [List.length_append, List.length_append, trail_length, HFL.out]; omega
          have hoff1 : fOff s1 fdata ≤ 700000000 := by
            unfold fOff
            split
            · omega
            · rw [HFL.out]; omega
          obtain ⟨out1, hou1⟩ : ∃ out1, fOut s1 fdata = out1 := ⟨_, rfl⟩
          obtain ⟨off1, hof1⟩ : ∃ off1, fOff s1 fdata = off1 := ⟨_, rfl⟩
          rw [hou1] at hout1
          rw [hof1] at hoff1 hO8
          have hgw := HG'.out
          rw [hou1] at hgw
          have HGW := hid hgw
          have HOU1 := hid (show _ ∧ _ from ⟨hou1, hof1⟩)
          obtain ⟨c1, c4, c5, c217, c218, c219, c220, f0, bl⟩ := tw_hdr2 (L := Fb2 ++ G') (hO8.perm (L' := (Fb2 ++ G') ++ (fp wp 0 [.iface 91 (.pointer (some ⟨g, 0, none⟩))] :: fp wp 219 [.int .u64 (off1 : Nat)] :: (fp wp 1 [.nilIface] :: fp wp 2 [.iface 112 (.agg #[]), fv, .int .u64 1, .int .i64 bs] :: fp wp 217 [.int .u64 s1.pO, .int .u64 s1.pL] :: fp wp 220 [.int .i64 s1.nAll] :: fp wp 221 sa :: fp wp 241 sb :: fp wp 271 [.slice cA cl.length cc] :: (fp wp 6 [.int .i64 rs] :: fp wp (6 + 67) [.int .i64 mn, .slice pA2 prev'.length pc2, .slice rA2 rm2.length rc2, .slice (some ⟨wp, 241, none⟩) 30 30] :: (Fp2 ++ (Fq2 ++ (F2 ++ (Fc ++ R)))))))) (perm_of fun _ _ z => by simp only [List.count_append, List.count_cons, List.cons_append, List.count_nil, List.nil_append, List.append_nil]; omega))
          have HWB := hid hB2
          have HOW := hid hO8
          have hsub1 : ∀ (q8 : Nat) (FB' GN : List Fr) (W : World), Own (fw q8 157 [.int .u64 (off1 : Nat), .int .u64 mb.length] :: (FB' ++ (GN ++ (fp wp 0 [.iface 91 (.pointer (some ⟨g, 0, none⟩))] :: fp wp 219 [.int .u64 ((off1 + mb.length + 5 : Nat) : Int)] :: (fp wp 1 [.nilIface] :: fp wp 2 [.iface 112 (.agg #[]), fv, .int .u64 1, .int .i64 bs] :: fp wp 217 [.int .u64 s1.pO, .int .u64 s1.pL] :: fp wp 220 [.int .i64 s1.nAll] :: fp wp 221 sa :: fp wp 241 sb :: fp wp 271 [.slice cA cl.length cc] :: (fp wp 6 [.int .i64 rs] :: fp wp (6 + 67) [.int .i64 mn, .slice pA2 prev'.length pc2, .slice rA2 rm2.length rc2, .slice (some ⟨wp, 241, none⟩) 30 30] :: (Fp2 ++ (Fq2 ++ (F2 ++ (Fc ++ R)))))))))) w0 W → Own (fw q8 157 [.int .u64 (off1 : Nat), .int .u64 mb.length] :: (GN ++ (fp wp 0 [.iface 91 (.pointer (some ⟨g, 0, none⟩))] :: fp wp 219 [.int .u64 ((off1 + mb.length + 5 : Nat) : Int)] :: (fp wp 1 [.nilIface] :: fp wp 2 [.iface 112 (.agg #[]), fv, .int .u64 1, .int .i64 bs] :: fp wp 217 [.int .u64 s1.pO, .int .u64 s1.pL] :: fp wp 220 [.int .i64 s1.nAll] :: fp wp 221 sa :: fp wp 241 sb :: fp wp 271 [.slice cA cl.length cc] :: (F2 ++ (Fc ++ R)))))) w0 W := fun q8 FB' GN W h =>
            (h.perm (L' := (FB' ++ (fp wp 6 [.int .i64 rs] :: fp wp (6 + 67) [.int .i64 mn, .slice pA2 prev'.length pc2, .slice rA2 rm2.length rc2, .slice (some ⟨wp, 241, none⟩) 30 30] :: (Fp2 ++ Fq2))) ++ (fw q8 157 [.int .u64 (off1 : Nat), .int .u64 mb.length] :: (GN ++ (fp wp 0 [.iface 91 (.pointer (some ⟨g, 0, none⟩))] :: fp wp 219 [.int .u64 ((off1 + mb.length + 5 : Nat) : Int)] :: (fp wp 1 [.nilIface] :: fp wp 2 [.iface 112 (.agg #[]), fv, .int .u64 1, .int .i64 bs] :: fp wp 217 [.int .u64 s1.pO, .int .u64 s1.pL] :: fp wp 220 [.int .i64 s1.nAll] :: fp wp 221 sa :: fp wp 241 sb :: fp wp 271 [.slice cA cl.length cc] :: (F2 ++ (Fc ++ R))))))) (perm_of fun _ _ z => by simp only [List.count_append, List.count_cons, List.cons_append, List.count_nil, List.nil_append, List.append_nil]; omega)).right
          clear hB2 hO7 hO8 hP2 hQ2 hgw hou1 hof1 hmbb hmbd hrm2 HG' HBW HO6
          go_upto_region 21 with fail
          go_cut [8, 9] (fun s8 s9 wx => s9 = .nilIface ∧ ∃ (q8 : Nat) (GN : List Fr), s8 = .pointer (some ⟨q8, 0, none⟩) ∧ OB g (out1 ++ (mb ++ trail mb)) GN ∧ Own (fw q8 157 [.int .u64 (off1 : Nat), .int .u64 mb.length] :: (GN ++ (fp wp 0 [.iface 91 (.pointer (some ⟨g, 0, none⟩))] :: fp wp 219 [.int .u64 ((off1 + mb.length + 5 : Nat) : Int)] :: (fp wp 1 [.nilIface] :: fp wp 2 [.iface 112 (.agg #[]), fv, .int .u64 1, .int .i64 bs] :: fp wp 217 [.int .u64 s1.pO, .int .u64 s1.pL] :: fp wp 220 [.int .i64 s1.nAll] :: fp wp 221 sa :: fp wp 241 sb :: fp wp 271 [.slice cA cl.length cc] :: (F2 ++ (Fc ++ R)))))) w0 wx)
          case first => as_aux_lemma =>
            refine AnyT.start (S := fun w' => w'.cell? ⟨wp, 4, none⟩ = some (.int .u64 1)) (T := []) (by kernel_rfl) (c4) (fun hHeld => ?_)
            refine AnyT.take (i := 0) (v := ?_) (by simp only [List.getElem?_toArray, List.getElem?_cons_succ, List.getElem?_cons_zero]; rfl) (by kernel_rfl) (by kernel_rfl) (by kernel_rfl) (by kernel_rfl) (by intro _ _ _ h; exact h) (Or.inl ⟨by rfl, fun w hSw => ?_⟩) hHeld ?_
            rotate_left
            · ((try dsimp only at hSw); go_simp; first | done | with_reducible rfl | rfl)
            try simp only [Act.put, List.setIfInBounds_toArray, List.set_cons_zero, List.set_cons_succ]
            refine AnyT.take (i := 1) (v := ?_) (by simp only [List.getElem?_toArray, List.getElem?_cons_succ, List.getElem?_cons_zero]; rfl) (by kernel_rfl) (by kernel_rfl) (by kernel_rfl) (by kernel_rfl) (by intro _ _ _ h; exact h) (Or.inl ⟨by rfl, fun w hSw => ?_⟩) hHeld ?_
            rotate_left
            · ((try dsimp only at hSw); go_simp; first | done | with_reducible rfl | rfl)
            try simp only [Act.put, List.setIfInBounds_toArray, List.set_cons_zero, List.set_cons_succ]
            refine AnyT.take (i := 2) (v := ?_) (by simp only [List.getElem?_toArray, List.getElem?_cons_succ, List.getElem?_cons_zero]; rfl) (by kernel_rfl) (by kernel_rfl) (by kernel_rfl) (by kernel_rfl) (by intro _ _ _ h; exact h) (Or.inl ⟨by rfl, fun w hSw => ?_⟩) hHeld ?_
            rotate_left
            · ((try dsimp only at hSw); go_simp; first | done | with_reducible rfl | rfl)
            try simp only [Act.put, List.setIfInBounds_toArray, List.set_cons_zero, List.set_cons_succ]
            refine AnyT.take (i := 3) (v := ?_) (by simp only [List.getElem?_toArray, List.getElem?_cons_succ, List.getElem?_cons_zero]; rfl) (by kernel_rfl) (by kernel_rfl) (by kernel_rfl) (by kernel_rfl) (by intro _ _ _ h; exact h) (Or.inl ⟨by rfl, fun w hSw => ?_⟩) hHeld ?_
            rotate_left
            · ((try dsimp only at hSw); go_simp; first | done | with_reducible rfl | rfl)
            try simp only [Act.put, List.setIfInBounds_toArray, List.set_cons_zero, List.set_cons_succ]
            refine AnyT.take (i := 4) (v := ?_) (by simp only [List.getElem?_toArray, List.getElem?_cons_succ, List.getElem?_cons_zero]; rfl) (by kernel_rfl) (by kernel_rfl) (by kernel_rfl) (by kernel_rfl) (by intro _ _ _ h; exact h) (Or.inl ⟨by rfl, fun w hSw => ?_⟩) hHeld ?_
            rotate_left
            · ((try dsimp only at hSw); go_simp; first | done | with_reducible rfl | rfl)
            try simp only [Act.put, List.setIfInBounds_toArray, List.set_cons_zero, List.set_cons_succ]
            refine AnyT.take (i := 5) (v := ?_) (by simp only [List.getElem?_toArray, List.getElem?_cons_succ, List.getElem?_cons_zero]; rfl) (by kernel_rfl) (by kernel_rfl) (by kernel_rfl) (by kernel_rfl) (by intro _ _ _ h; exact h) (Or.inl ⟨by rfl, fun w hSw => ?_⟩) hHeld ?_
            rotate_left
            · ((try dsimp only at hSw); go_simp; first | done | with_reducible rfl | rfl)
            try simp only [Act.put, List.setIfInBounds_toArray, List.set_cons_zero, List.set_cons_succ]
            refine AnyT.take (i := 6) (v := ?_) (by simp only [List.getElem?_toArray, List.getElem?_cons_succ, List.getElem?_cons_zero]; rfl) (by kernel_rfl) (by kernel_rfl) (by kernel_rfl) (by kernel_rfl) (by intro _ _ _ h; exact h) (Or.inl ⟨by rfl, fun w hSw => ?_⟩) hHeld ?_
            rotate_left
            · ((try dsimp only at hSw); go_simp; first | done | with_reducible rfl | rfl)
            try simp only [Act.put, List.setIfInBounds_toArray, List.set_cons_zero, List.set_cons_succ]
            refine AnyT.take (i := 7) (v := ?_) (by simp only [List.getElem?_toArray, List.getElem?_cons_succ, List.getElem?_cons_zero]; rfl) (by kernel_rfl) (by kernel_rfl) (by kernel_rfl) (by kernel_rfl) (by intro _ _ _ h; exact h) (Or.inl ⟨by rfl, fun w hSw => ?_⟩) hHeld ?_
            rotate_left
            · ((try dsimp only at hSw); go_simp; first | done | with_reducible rfl | rfl)
            try simp only [Act.put, List.setIfInBounds_toArray, List.set_cons_zero, List.set_cons_succ]
            refine AnyT.take (i := 8) (v := ?_) (by simp only [List.getElem?_toArray, List.getElem?_cons_succ, List.getElem?_cons_zero]; rfl) (by kernel_rfl) (by kernel_rfl) (by kernel_rfl) (by kernel_rfl) (by intro _ _ _ h; exact h) (Or.inl ⟨by rfl, fun w hSw => ?_⟩) hHeld ?_
            rotate_left
            · ((try dsimp only at hSw); go_simp; first | done | with_reducible rfl | rfl)
            try simp only [Act.put, List.setIfInBounds_toArray, List.set_cons_zero, List.set_cons_succ]
            refine AnyT.ready (rs := [9, 13]) (by kernel_rfl) (by simp) ?_
            refine AllT.cons (by simp only [List.getElem?_toArray, List.getElem?_cons_succ, List.getElem?_cons_zero]; rfl) (fun K hK => ?_) (AllT.cons (by simp only [List.getElem?_toArray, List.getElem?_cons_succ, List.getElem?_cons_zero]; rfl) (fun K hK => ?_) AllT.nil)
            · go_simp
              refine (writeBlock_any wp 7 wp (off1) g mb (out1) Fb2 G' (fp wp 1 [.nilIface] :: fp wp 2 [.iface 112 (.agg #[]), fv, .int .u64 1, .int .i64 bs] :: fp wp 217 [.int .u64 s1.pO, .int .u64 s1.pL] :: fp wp 220 [.int .i64 s1.nAll] :: fp wp 221 sa :: fp wp 241 sb :: fp wp 271 [.slice cA cl.length cc] :: (fp wp 6 [.int .i64 rs] :: fp wp (6 + 67) [.int .i64 mn, .slice pA2 prev'.length pc2, .slice rA2 rm2.length rc2, .slice (some ⟨wp, 241, none⟩) 30 30] :: (Fp2 ++ (Fq2 ++ (F2 ++ (Fc ++ R)))))) w0 _ HWB.out HGW.out HOW.out.drew (by omega) (by omega) (by omega)).mono ?_
              rintro e w3 ⟨rfl, FB', GN, hB', hGN, hO3⟩
              clear c1 c4 c5 c217 c218 c219 c220 f0 bl
              obtain ⟨c1, c4, c5, c217, c218, c219, c220, f0, bl⟩ := tw_hdr2 (L := FB' ++ GN) (hO3.perm (L' := (FB' ++ GN) ++ (fp wp 0 [.iface 91 (.pointer (some ⟨g, 0, none⟩))] :: fp wp 219 [.int .u64 ((off1 + mb.length + 5 : Nat) : Int)] :: (fp wp 1 [.nilIface] :: fp wp 2 [.iface 112 (.agg #[]), fv, .int .u64 1, .int .i64 bs] :: fp wp 217 [.int .u64 s1.pO, .int .u64 s1.pL] :: fp wp 220 [.int .i64 s1.nAll] :: fp wp 221 sa :: fp wp 241 sb :: fp wp 271 [.slice cA cl.length cc] :: (fp wp 6 [.int .i64 rs] :: fp wp (6 + 67) [.int .i64 mn, .slice pA2 prev'.length pc2, .slice rA2 rm2.length rc2, .slice (some ⟨wp, 241, none⟩) 30 30] :: (Fp2 ++ (Fq2 ++ (F2 ++ (Fc ++ R)))))))) (perm_of fun _ _ z => by simp only [List.count_append, List.count_cons, List.cons_append, List.count_nil, List.nil_append, List.append_nil]; omega))
              have HO3 := hid hO3
              have HGN := hid hGN
              clear hO3 hB' hGN
              try go_wp2_with fail
              refine hK.out _ _ ?_ (fun hHeld => ?_)
              · exact c4
              clear hK
              try simp only [Act.put, List.setIfInBounds_toArray, List.set_cons_zero, List.set_cons_succ]
              refine AnyT.take (i := 10) (v := ?_) (by simp only [List.getElem?_toArray, List.getElem?_cons_succ, List.getElem?_cons_zero]; rfl) (by kernel_rfl) (by kernel_rfl) (by kernel_rfl) (by kernel_rfl) (by intro _ _ _ h; exact h) (Or.inl ⟨by rfl, fun w hSw => ?_⟩) hHeld ?_
              rotate_left
              · ((try dsimp only at hSw); go_simp; first | done | with_reducible rfl | rfl)
              try simp only [Act.put, List.setIfInBounds_toArray, List.set_cons_zero, List.set_cons_succ]
              refine AnyT.take (i := 11) (v := ?_) (by simp only [List.getElem?_toArray, List.getElem?_cons_succ, List.getElem?_cons_zero]; rfl) (by kernel_rfl) (by kernel_rfl) (by kernel_rfl) (by kernel_rfl) (by intro _ _ _ h; exact h) (Or.inl ⟨by rfl, fun w hSw => ?_⟩) hHeld ?_
              rotate_left
              · ((try dsimp only at hSw); go_simp; first | done | with_reducible rfl | rfl)
              try simp only [Act.put, List.setIfInBounds_toArray, List.set_cons_zero, List.set_cons_succ]
              refine AnyT.take (i := 12) (v := ?_) (by simp only [List.getElem?_toArray, List.getElem?_cons_succ, List.getElem?_cons_zero]; rfl) (by kernel_rfl) (by kernel_rfl) (by kernel_rfl) (by kernel_rfl) (by intro _ _ _ h; exact h) (Or.inl ⟨by rfl, fun w hSw => ?_⟩) hHeld ?_
              rotate_left
              · ((try dsimp only at hSw); go_simp; first | done | with_reducible rfl | rfl)
              try simp only [Act.put, List.setIfInBounds_toArray, List.set_cons_zero, List.set_cons_succ]
              refine AnyT.ready (rs := [13]) (by kernel_rfl) (by simp) ?_
              refine AllT.cons (by simp only [List.getElem?_toArray, List.getElem?_cons_succ, List.getElem?_cons_zero]; rfl) (fun K hK => ?_) AllT.nil
              go_simp
              obtain ⟨q8, hq8⟩ : ∃ q8, w3.heap.size = q8 := ⟨_, rfl⟩
              try rw [hq8]
              have hO4 := HO3.out.alloc' hq8 157 [.int .u64 0, .int .u64 0]
              clear c1 c4 c5 c217 c218 c219 c220 f0 bl hq8 HO3
              obtain ⟨c1, c4, c5, c217, c218, c219, c220, f0, bl⟩ := tw_hdr2 (L := FB' ++ GN) (hO4.drop.perm (L' := (FB' ++ GN) ++ (fp wp 0 [.iface 91 (.pointer (some ⟨g, 0, none⟩))] :: fp wp 219 [.int .u64 ((off1 + mb.length + 5 : Nat) : Int)] :: (fp wp 1 [.nilIface] :: fp wp 2 [.iface 112 (.agg #[]), fv, .int .u64 1, .int .i64 bs] :: fp wp 217 [.int .u64 s1.pO, .int .u64 s1.pL] :: fp wp 220 [.int .i64 s1.nAll] :: fp wp 221 sa :: fp wp 241 sb :: fp wp 271 [.slice cA cl.length cc] :: (fp wp 6 [.int .i64 rs] :: fp wp (6 + 67) [.int .i64 mn, .slice pA2 prev'.length pc2, .slice rA2 rm2.length rc2, .slice (some ⟨wp, 241, none⟩) 30 30] :: (Fp2 ++ (Fq2 ++ (F2 ++ (Fc ++ R)))))))) (perm_of fun _ _ z => by simp only [List.count_append, List.count_cons, List.cons_append, List.count_nil, List.nil_append, List.append_nil]; omega))
              have q0 := hO4.cell 0 rfl 0 rfl (by simp)
              have q1 := hO4.cell 0 rfl 1 rfl (by simp)
              have qf := fun k => hO4.frozen 0 rfl k
              have HO4 := hid hO4
              clear hO4
              refine hK.out _ _ ?_ (fun hHeld => ?_)
              · go_simp
              clear hK
              try simp only [Act.put, List.setIfInBounds_toArray, List.set_cons_zero, List.set_cons_succ]
              refine AnyT.ready (rs := [14]) (by kernel_rfl) (by simp) ?_
              refine AllT.cons (by simp only [List.getElem?_toArray, List.getElem?_cons_succ, List.getElem?_cons_zero]; rfl) (fun K hK => ?_) AllT.nil
              go_simp
              have hO5 : Own (fw q8 157 [.int .u64 (off1 : Nat), .int .u64 mb.length] :: (FB' ++ (GN ++ (fp wp 0 [.iface 91 (.pointer (some ⟨g, 0, none⟩))] :: fp wp 219 [.int .u64 ((off1 + mb.length + 5 : Nat) : Int)] :: (fp wp 1 [.nilIface] :: fp wp 2 [.iface 112 (.agg #[]), fv, .int .u64 1, .int .i64 bs] :: fp wp 217 [.int .u64 s1.pO, .int .u64 s1.pL] :: fp wp 220 [.int .i64 s1.nAll] :: fp wp 221 sa :: fp wp 241 sb :: fp wp 271 [.slice cA cl.length cc] :: (fp wp 6 [.int .i64 rs] :: fp wp (6 + 67) [.int .i64 mn, .slice pA2 prev'.length pc2, .slice rA2 rm2.length rc2, .slice (some ⟨wp, 241, none⟩) 30 30] :: (Fp2 ++ (Fq2 ++ (F2 ++ (Fc ++ R)))))))))) w0 _ := (HO4.out.set (k := 0) 0 rfl (by simp) (.int .u64 (off1 : Nat))).set (k := 1) 1 rfl (by simp) (.int .u64 mb.length)
              clear c1 c4 c5 c217 c218 c219 c220 f0 bl
              obtain ⟨c1, c4, c5, c217, c218, c219, c220, f0, bl⟩ := tw_hdr2 (L := FB' ++ GN) (hO5.drop.perm (L' := (FB' ++ GN) ++ (fp wp 0 [.iface 91 (.pointer (some ⟨g, 0, none⟩))] :: fp wp 219 [.int .u64 ((off1 + mb.length + 5 : Nat) : Int)] :: (fp wp 1 [.nilIface] :: fp wp 2 [.iface 112 (.agg #[]), fv, .int .u64 1, .int .i64 bs] :: fp wp 217 [.int .u64 s1.pO, .int .u64 s1.pL] :: fp wp 220 [.int .i64 s1.nAll] :: fp wp 221 sa :: fp wp 241 sb :: fp wp 271 [.slice cA cl.length cc] :: (fp wp 6 [.int .i64 rs] :: fp wp (6 + 67) [.int .i64 mn, .slice pA2 prev'.length pc2, .slice rA2 rm2.length rc2, .slice (some ⟨wp, 241, none⟩) 30 30] :: (Fp2 ++ (Fq2 ++ (F2 ++ (Fc ++ R)))))))) (perm_of fun _ _ z => by simp only [List.count_append, List.count_cons, List.cons_append, List.count_nil, List.nil_append, List.append_nil]; omega))
              have HO5 := hid hO5
              clear hO5
              refine hK.out _ _ ?_ (fun hHeld => ?_)
              · exact c4
              clear hK
              try simp only [Act.put, List.setIfInBounds_toArray, List.set_cons_zero, List.set_cons_succ]
              refine AnyT.take (i := 15) (v := ?_) (by simp only [List.getElem?_toArray, List.getElem?_cons_succ, List.getElem?_cons_zero]; rfl) (by kernel_rfl) (by kernel_rfl) (by kernel_rfl) (by kernel_rfl) (by intro _ _ _ h; exact h) (Or.inl ⟨by rfl, fun w hSw => ?_⟩) hHeld ?_
              rotate_left
              · ((try dsimp only at hSw); go_simp; first | done | with_reducible rfl | rfl)
              try simp only [Act.put, List.setIfInBounds_toArray, List.set_cons_zero, List.set_cons_succ]
              refine AnyT.done (by kernel_rfl) ?_ _
              go_wp2_with fail
              go_meet
              first
                | exact ⟨rfl, q8, GN, rfl, HGN.out, hsub1 _ _ _ _ HO5.out⟩
                | exact ⟨rfl, q8, GN, rfl, HGN.out, hsub1 _ _ _ _ HO5.out.drew⟩
            · go_simp
              obtain ⟨q8, hq8⟩ : ∃ q8, w1.heap.size = q8 := ⟨_, rfl⟩
              try rw [hq8]
              have hO4 := HOW.out.alloc' hq8 157 [.int .u64 0, .int .u64 0]
              clear c1 c4 c5 c217 c218 c219 c220 f0 bl hq8 HOW
              obtain ⟨c1, c4, c5, c217, c218, c219, c220, f0, bl⟩ := tw_hdr2 (L := Fb2 ++ G') (hO4.drop.perm (L' := (Fb2 ++ G') ++ (fp wp 0 [.iface 91 (.pointer (some ⟨g, 0, none⟩))] :: fp wp 219 [.int .u64 (off1 : Nat)] :: (fp wp 1 [.nilIface] :: fp wp 2 [.iface 112 (.agg #[]), fv, .int .u64 1, .int .i64 bs] :: fp wp 217 [.int .u64 s1.pO, .int .u64 s1.pL] :: fp wp 220 [.int .i64 s1.nAll] :: fp wp 221 sa :: fp wp 241 sb :: fp wp 271 [.slice cA cl.length cc] :: (fp wp 6 [.int .i64 rs] :: fp wp (6 + 67) [.int .i64 mn, .slice pA2 prev'.length pc2, .slice rA2 rm2.length rc2, .slice (some ⟨wp, 241, none⟩) 30 30] :: (Fp2 ++ (Fq2 ++ (F2 ++ (Fc ++ R)))))))) (perm_of fun _ _ z => by simp only [List.count_append, List.count_cons, List.cons_append, List.count_nil, List.nil_append, List.append_nil]; omega))
              have HO4 := hid (hO4.drew.perm (L' := Fb2 ++ (G' ++ (fp wp 0 [.iface 91 (.pointer (some ⟨g, 0, none⟩))] :: fp wp 219 [.int .u64 (off1 : Nat)] :: (fw q8 157 [.int .u64 0, .int .u64 0] :: fp wp 1 [.nilIface] :: fp wp 2 [.iface 112 (.agg #[]), fv, .int .u64 1, .int .i64 bs] :: fp wp 217 [.int .u64 s1.pO, .int .u64 s1.pL] :: fp wp 220 [.int .i64 s1.nAll] :: fp wp 221 sa :: fp wp 241 sb :: fp wp 271 [.slice cA cl.length cc] :: (fp wp 6 [.int .i64 rs] :: fp wp (6 + 67) [.int .i64 mn, .slice pA2 prev'.length pc2, .slice rA2 rm2.length rc2, .slice (some ⟨wp, 241, none⟩) 30 30] :: (Fp2 ++ (Fq2 ++ (F2 ++ (Fc ++ R))))))))) (perm_of fun _ _ z => by simp only [List.count_append, List.count_cons, List.cons_append, List.count_nil, List.nil_append, List.append_nil]; omega))
              clear hO4
              refine hK.out _ _ ?_ (fun hHeld => ?_)
              · exact c4
              clear hK
              try simp only [Act.put, List.setIfInBounds_toArray, List.set_cons_zero, List.set_cons_succ]
              refine AnyT.ready (rs := [9]) (by kernel_rfl) (by simp) ?_
              refine AllT.cons (by simp only [List.getElem?_toArray, List.getElem?_cons_succ, List.getElem?_cons_zero]; rfl) (fun K hK => ?_) AllT.nil
              go_simp
              refine (writeBlock_any wp 7 wp (off1) g mb (out1) Fb2 G' (fw q8 157 [.int .u64 0, .int .u64 0] :: fp wp 1 [.nilIface] :: fp wp 2 [.iface 112 (.agg #[]), fv, .int .u64 1, .int .i64 bs] :: fp wp 217 [.int .u64 s1.pO, .int .u64 s1.pL] :: fp wp 220 [.int .i64 s1.nAll] :: fp wp 221 sa :: fp wp 241 sb :: fp wp 271 [.slice cA cl.length cc] :: (fp wp 6 [.int .i64 rs] :: fp wp (6 + 67) [.int .i64 mn, .slice pA2 prev'.length pc2, .slice rA2 rm2.length rc2, .slice (some ⟨wp, 241, none⟩) 30 30] :: (Fp2 ++ (Fq2 ++ (F2 ++ (Fc ++ R)))))) w0 _ HWB.out HGW.out HO4.out (by omega) (by omega) (by omega)).mono ?_
              rintro e w3 ⟨rfl, FB', GN, hB', hGN, hO3⟩
              clear c1 c4 c5 c217 c218 c219 c220 f0 bl HO4
              have hO4 : Own (fw q8 157 [.int .u64 0, .int .u64 0] :: (FB' ++ (GN ++ (fp wp 0 [.iface 91 (.pointer (some ⟨g, 0, none⟩))] :: fp wp 219 [.int .u64 ((off1 + mb.length + 5 : Nat) : Int)] :: (fp wp 1 [.nilIface] :: fp wp 2 [.iface 112 (.agg #[]), fv, .int .u64 1, .int .i64 bs] :: fp wp 217 [.int .u64 s1.pO, .int .u64 s1.pL] :: fp wp 220 [.int .i64 s1.nAll] :: fp wp 221 sa :: fp wp 241 sb :: fp wp 271 [.slice cA cl.length cc] :: (fp wp 6 [.int .i64 rs] :: fp wp (6 + 67) [.int .i64 mn, .slice pA2 prev'.length pc2, .slice rA2 rm2.length rc2, .slice (some ⟨wp, 241, none⟩) 30 30] :: (Fp2 ++ (Fq2 ++ (F2 ++ (Fc ++ R)))))))))) w0 w3 := hO3.perm (perm_of fun _ _ z => by simp only [List.count_append, List.count_cons, List.cons_append, List.count_nil, List.nil_append, List.append_nil]; omega)
              obtain ⟨c1, c4, c5, c217, c218, c219, c220, f0, bl⟩ := tw_hdr2 (L := FB' ++ GN) (hO4.drop.perm (L' := (FB' ++ GN) ++ (fp wp 0 [.iface 91 (.pointer (some ⟨g, 0, none⟩))] :: fp wp 219 [.int .u64 ((off1 + mb.length + 5 : Nat) : Int)] :: (fp wp 1 [.nilIface] :: fp wp 2 [.iface 112 (.agg #[]), fv, .int .u64 1, .int .i64 bs] :: fp wp 217 [.int .u64 s1.pO, .int .u64 s1.pL] :: fp wp 220 [.int .i64 s1.nAll] :: fp wp 221 sa :: fp wp 241 sb :: fp wp 271 [.slice cA cl.length cc] :: (fp wp 6 [.int .i64 rs] :: fp wp (6 + 67) [.int .i64 mn, .slice pA2 prev'.length pc2, .slice rA2 rm2.length rc2, .slice (some ⟨wp, 241, none⟩) 30 30] :: (Fp2 ++ (Fq2 ++ (F2 ++ (Fc ++ R)))))))) (perm_of fun _ _ z => by simp only [List.count_append, List.count_cons, List.cons_append, List.count_nil, List.nil_append, List.append_nil]; omega))
              have q0 := hO4.cell 0 rfl 0 rfl (by simp)
              have q1 := hO4.cell 0 rfl 1 rfl (by simp)
              have qf := fun k => hO4.frozen 0 rfl k
              have HO4 := hid hO4
              have HGN := hid hGN
              clear hO3 hO4 hB' hGN
              try go_wp2_with fail
              refine hK.out _ _ ?_ (fun hHeld => ?_)
              · exact c4
              clear hK
              try simp only [Act.put, List.setIfInBounds_toArray, List.set_cons_zero, List.set_cons_succ]
              refine AnyT.take (i := 10) (v := ?_) (by simp only [List.getElem?_toArray, List.getElem?_cons_succ, List.getElem?_cons_zero]; rfl) (by kernel_rfl) (by kernel_rfl) (by kernel_rfl) (by kernel_rfl) (by intro _ _ _ h; exact h) (Or.inl ⟨by rfl, fun w hSw => ?_⟩) hHeld ?_
              rotate_left
              · ((try dsimp only at hSw); go_simp; first | done | with_reducible rfl | rfl)
              try simp only [Act.put, List.setIfInBounds_toArray, List.set_cons_zero, List.set_cons_succ]
              refine AnyT.take (i := 11) (v := ?_) (by simp only [List.getElem?_toArray, List.getElem?_cons_succ, List.getElem?_cons_zero]; rfl) (by kernel_rfl) (by kernel_rfl) (by kernel_rfl) (by kernel_rfl) (by intro _ _ _ h; exact h) (Or.inl ⟨by rfl, fun w hSw => ?_⟩) hHeld ?_
              rotate_left
              · ((try dsimp only at hSw); go_simp; first | done | with_reducible rfl | rfl)
              try simp only [Act.put, List.setIfInBounds_toArray, List.set_cons_zero, List.set_cons_succ]
              refine AnyT.take (i := 12) (v := ?_) (by simp only [List.getElem?_toArray, List.getElem?_cons_succ, List.getElem?_cons_zero]; rfl) (by kernel_rfl) (by kernel_rfl) (by kernel_rfl) (by kernel_rfl) (by intro _ _ _ h; exact h) (Or.inl ⟨by rfl, fun w hSw => ?_⟩) hHeld ?_
              rotate_left
              · ((try dsimp only at hSw); go_simp; first | done | with_reducible rfl | rfl)
              try simp only [Act.put, List.setIfInBounds_toArray, List.set_cons_zero, List.set_cons_succ]
              refine AnyT.ready (rs := [14]) (by kernel_rfl) (by simp) ?_
              refine AllT.cons (by simp only [List.getElem?_toArray, List.getElem?_cons_succ, List.getElem?_cons_zero]; rfl) (fun K hK => ?_) AllT.nil
              go_simp
              have hO5 : Own (fw q8 157 [.int .u64 (off1 : Nat), .int .u64 mb.length] :: (FB' ++ (GN ++ (fp wp 0 [.iface 91 (.pointer (some ⟨g, 0, none⟩))] :: fp wp 219 [.int .u64 ((off1 + mb.length + 5 : Nat) : Int)] :: (fp wp 1 [.nilIface] :: fp wp 2 [.iface 112 (.agg #[]), fv, .int .u64 1, .int .i64 bs] :: fp wp 217 [.int .u64 s1.pO, .int .u64 s1.pL] :: fp wp 220 [.int .i64 s1.nAll] :: fp wp 221 sa :: fp wp 241 sb :: fp wp 271 [.slice cA cl.length cc] :: (fp wp 6 [.int .i64 rs] :: fp wp (6 + 67) [.int .i64 mn, .slice pA2 prev'.length pc2, .slice rA2 rm2.length rc2, .slice (some ⟨wp, 241, none⟩) 30 30] :: (Fp2 ++ (Fq2 ++ (F2 ++ (Fc ++ R)))))))))) w0 _ := (HO4.out.set (k := 0) 0 rfl (by simp) (.int .u64 (off1 : Nat))).set (k := 1) 1 rfl (by simp) (.int .u64 mb.length)
              clear c1 c4 c5 c217 c218 c219 c220 f0 bl
              obtain ⟨c1, c4, c5, c217, c218, c219, c220, f0, bl⟩ := tw_hdr2 (L := FB' ++ GN) (hO5.drop.perm (L' := (FB' ++ GN) ++ (fp wp 0 [.iface 91 (.pointer (some ⟨g, 0, none⟩))] :: fp wp 219 [.int .u64 ((off1 + mb.length + 5 : Nat) : Int)] :: (fp wp 1 [.nilIface] :: fp wp 2 [.iface 112 (.agg #[]), fv, .int .u64 1, .int .i64 bs] :: fp wp 217 [.int .u64 s1.pO, .int .u64 s1.pL] :: fp wp 220 [.int .i64 s1.nAll] :: fp wp 221 sa :: fp wp 241 sb :: fp wp 271 [.slice cA cl.length cc] :: (fp wp 6 [.int .i64 rs] :: fp wp (6 + 67) [.int .i64 mn, .slice pA2 prev'.length pc2, .slice rA2 rm2.length rc2, .slice (some ⟨wp, 241, none⟩) 30 30] :: (Fp2 ++ (Fq2 ++ (F2 ++ (Fc ++ R)))))))) (perm_of fun _ _ z => by simp only [List.count_append, List.count_cons, List.cons_append, List.count_nil, List.nil_append, List.append_nil]; omega))
              have HO5 := hid hO5
              clear hO5
              refine hK.out _ _ ?_ (fun hHeld => ?_)
              · exact c4
              clear hK
              try simp only [Act.put, List.setIfInBounds_toArray, List.set_cons_zero, List.set_cons_succ]
              refine AnyT.take (i := 15) (v := ?_) (by simp only [List.getElem?_toArray, List.getElem?_cons_succ, List.getElem?_cons_zero]; rfl) (by kernel_rfl) (by kernel_rfl) (by kernel_rfl) (by kernel_rfl) (by intro _ _ _ h; exact h) (Or.inl ⟨by rfl, fun w hSw => ?_⟩) hHeld ?_
              rotate_left
              · ((try dsimp only at hSw); go_simp; first | done | with_reducible rfl | rfl)
              try simp only [Act.put, List.setIfInBounds_toArray, List.set_cons_zero, List.set_cons_succ]
              refine AnyT.done (by kernel_rfl) ?_ _
              go_wp2_with fail
              go_meet
              first
                | exact ⟨rfl, q8, GN, rfl, HGN.out, hsub1 _ _ _ _ HO5.out⟩
                | exact ⟨rfl, q8, GN, rfl, HGN.out, hsub1 _ _ _ _ HO5.out.drew⟩
          case rest =>
            obtain ⟨rfl, q8, GN, rfl, hGN, hO9⟩ := hcut
            have hix1 := HIX.out
            rw [HS1.out] at hix1
            obtain ⟨hx1, hx2, hx3⟩ := hix1
            have HX1 := hid hx1
            have hmbl : mb.length ≤ 1100 := by omega
            have HO9 := hid (hO9.perm (L' := F2 ++ (fw q8 157 [.int .u64 (off1 : Nat), .int .u64 mb.length] :: (GN ++ (fp wp 0 [.iface 91 (.pointer (some ⟨g, 0, none⟩))] :: fp wp 219 [.int .u64 ((off1 + mb.length + 5 : Nat) : Int)] :: (fp wp 1 [.nilIface] :: fp wp 2 [.iface 112 (.agg #[]), fv, .int .u64 1, .int .i64 bs] :: fp wp 217 [.int .u64 s1.pO, .int .u64 s1.pL] :: fp wp 220 [.int .i64 s1.nAll] :: fp wp 221 sa :: fp wp 241 sb :: fp wp 271 [.slice cA cl.length cc] :: (Fc ++ R)))))) (perm_of fun _ _ z => by simp only [List.count_append, List.count_cons, List.cons_append, List.count_nil, List.nil_append, List.append_nil]; omega))
            have HGN := hid hGN
            clear hx1 hO9 hGN HOW HGW HWB c1 c4 c5 c217 c218 c219 c220 f0 bl
            go_wp2_with fail
            refine (bw_finish wp 77 1 s1.nI wp 241 s1.idata s1.iprev s1.irst F2 _ w0 _ H2.out HO9.out (by omega) (by omega) HX1.out).mono ?_
            rintro e w4 ⟨rfl, FD2, ⟨pA3, pc3, rA3, rc3, Fb3, Fp3, Fq3, hB3, hP3, hQ3, rfl⟩, hO10⟩
            have hibb := blkOf_len s1.nI s1.idata s1.irst
            obtain ⟨ri2, hri2⟩ : ∃ ri2, finR s1.nI s1.irst ++ [(finR s1.nI s1.irst).length] = ri2 := ⟨_, rfl⟩
            have hibd : s1.idata ++ le4s (finR s1.nI s1.irst ++ [(finR s1.nI s1.irst).length]) = blkOf s1.nI s1.idata s1.irst := rfl
            rw [hibd] at hB3
            rw [hri2] at hO10 hQ3
            obtain ⟨ib, hib⟩ : ∃ ib, blkOf s1.nI s1.idata s1.irst = ib := ⟨_, rfl⟩
            rw [hib] at hB3 hibb
            have HIB := hid hib
            have hO11 : Own (Fb3 ++ (GN ++ (fp wp 0 [.iface 91 (.pointer (some ⟨g, 0, none⟩))] :: fp wp 219 [.int .u64 ((off1 + mb.length + 5 : Nat) : Int)] :: (fp wp 1 [.nilIface] :: fp wp 2 [.iface 112 (.agg #[]), fv, .int .u64 1, .int .i64 bs] :: fp wp 217 [.int .u64 s1.pO, .int .u64 s1.pL] :: fp wp 220 [.int .i64 s1.nAll] :: fp wp 221 sa :: fp wp 241 sb :: fp wp 271 [.slice cA cl.length cc] :: (fw q8 157 [.int .u64 (off1 : Nat), .int .u64 mb.length] :: fp wp 77 [.int .i64 ((1 : Nat) : Int)] :: fp wp (77 + 67) [.int .i64 s1.nI, .slice pA3 s1.iprev.length pc3, .slice rA3 ri2.length rc3, .slice (some ⟨wp, 241, none⟩) 30 30] :: (Fp3 ++ (Fq3 ++ (Fc ++ R)))))))) w0 w4 := hO10.perm (perm_of fun _ _ z => by simp only [List.count_append, List.count_cons, List.cons_append, List.count_nil, List.nil_append, List.append_nil]; omega)
            obtain ⟨off2, hof2⟩ : ∃ off2, off1 + mb.length + 5 = off2 := ⟨_, rfl⟩
            rw [hof2] at hO11
            have hgw2 := HGN.out
            obtain ⟨out2, hou2⟩ : ∃ out2, out1 ++ (mb ++ trail mb) = out2 := ⟨_, rfl⟩
            have hout2 : out2.length ≤ 800000000 := by rw [← hou2, List.length_append, List.length_append, trail_length]; omega
            have hoff2 : off2 ≤ 800000000 := by omega
            rw [hou2] at hgw2
            have HOU2 := hid (show _ ∧ _ from ⟨hou2, hof2⟩)
            obtain ⟨c1, c4, c5, c217, c218, c219, c220, f0, bl⟩ := tw_hdr2 (L := Fb3 ++ GN) (hO11.perm (L' := (Fb3 ++ GN) ++ (fp wp 0 [.iface 91 (.pointer (some ⟨g, 0, none⟩))] :: fp wp 219 [.int .u64 (off2 : Nat)] :: (fp wp 1 [.nilIface] :: fp wp 2 [.iface 112 (.agg #[]), fv, .int .u64 1, .int .i64 bs] :: fp wp 217 [.int .u64 s1.pO, .int .u64 s1.pL] :: fp wp 220 [.int .i64 s1.nAll] :: fp wp 221 sa :: fp wp 241 sb :: fp wp 271 [.slice cA cl.length cc] :: (fw q8 157 [.int .u64 (off1 : Nat), .int .u64 mb.length] :: fp wp 77 [.int .i64 ((1 : Nat) : Int)] :: fp wp (77 + 67) [.int .i64 s1.nI, .slice pA3 s1.iprev.length pc3, .slice rA3 ri2.length rc3, .slice (some ⟨wp, 241, none⟩) 30 30] :: (Fp3 ++ (Fq3 ++ (Fc ++ R))))))) (perm_of fun _ _ z => by simp only [List.count_append, List.count_cons, List.cons_append, List.count_nil, List.nil_append, List.append_nil]; omega))
            have HWB := hid hB3
            have HGW := hid hgw2
            have HOW := hid hO11
            have hsub2 : ∀ (q9 : Nat) (FB' GM : List Fr) (W : World), Own (fw q9 157 [.int .u64 (off2 : Nat), .int .u64 ib.length] :: (FB' ++ (GM ++ (fp wp 0 [.iface 91 (.pointer (some ⟨g, 0, none⟩))] :: fp wp 219 [.int .u64 ((off2 + ib.length + 5 : Nat) : Int)] :: (fp wp 1 [.nilIface] :: fp wp 2 [.iface 112 (.agg #[]), fv, .int .u64 1, .int .i64 bs] :: fp wp 217 [.int .u64 s1.pO, .int .u64 s1.pL] :: fp wp 220 [.int .i64 s1.nAll] :: fp wp 221 sa :: fp wp 241 sb :: fp wp 271 [.slice cA cl.length cc] :: (fw q8 157 [.int .u64 (off1 : Nat), .int .u64 mb.length] :: fp wp 77 [.int .i64 ((1 : Nat) : Int)] :: fp wp (77 + 67) [.int .i64 s1.nI, .slice pA3 s1.iprev.length pc3, .slice rA3 ri2.length rc3, .slice (some ⟨wp, 241, none⟩) 30 30] :: (Fp3 ++ (Fq3 ++ (Fc ++ R))))))))) w0 W → Own (fw q9 157 [.int .u64 (off2 : Nat), .int .u64 ib.length] :: fw q8 157 [.int .u64 (off1 : Nat), .int .u64 mb.length] :: (GM ++ (fp wp 0 [.iface 91 (.pointer (some ⟨g, 0, none⟩))] :: fp wp 219 [.int .u64 ((off2 + ib.length + 5 : Nat) : Int)] :: (fp wp 1 [.nilIface] :: fp wp 2 [.iface 112 (.agg #[]), fv, .int .u64 1, .int .i64 bs] :: fp wp 217 [.int .u64 s1.pO, .int .u64 s1.pL] :: fp wp 220 [.int .i64 s1.nAll] :: fp wp 221 sa :: fp wp 241 sb :: fp wp 271 [.slice cA cl.length cc] :: (Fc ++ R))))) w0 W := fun q9 FB' GM W h =>
              (h.perm (L' := (FB' ++ (fp wp 77 [.int .i64 ((1 : Nat) : Int)] :: fp wp (77 + 67) [.int .i64 s1.nI, .slice pA3 s1.iprev.length pc3, .slice rA3 ri2.length rc3, .slice (some ⟨wp, 241, none⟩) 30 30] :: (Fp3 ++ Fq3))) ++ (fw q9 157 [.int .u64 (off2 : Nat), .int .u64 ib.length] :: fw q8 157 [.int .u64 (off1 : Nat), .int .u64 mb.length] :: (GM ++ (fp wp 0 [.iface 91 (.pointer (some ⟨g, 0, none⟩))] :: fp wp 219 [.int .u64 ((off2 + ib.length + 5 : Nat) : Int)] :: (fp wp 1 [.nilIface] :: fp wp 2 [.iface 112 (.agg #[]), fv, .int .u64 1, .int .i64 bs] :: fp wp 217 [.int .u64 s1.pO, .int .u64 s1.pL] :: fp wp 220 [.int .i64 s1.nAll] :: fp wp 221 sa :: fp wp 241 sb :: fp wp 271 [.slice cA cl.length cc] :: (Fc ++ R)))))) (perm_of fun _ _ z => by simp only [List.count_append, List.count_cons, List.cons_append, List.count_nil, List.nil_append, List.append_nil]; omega)).right
            clear hB3 hO10 hO11 hP3 hQ3 hgw2 hou2 hof2 hib hibd hri2 HGN HO9 hsub1
            go_upto_region 26 with fail
            go_cut [9, 10] (fun s9 s10 wx => s9 = .nilIface ∧ ∃ (q9 : Nat) (GM : List Fr), s10 = .pointer (some ⟨q9, 0, none⟩) ∧ OB g (out2 ++ (ib ++ trail ib)) GM ∧ Own (fw q9 157 [.int .u64 (off2 : Nat), .int .u64 ib.length] :: fw q8 157 [.int .u64 (off1 : Nat), .int .u64 mb.length] :: (GM ++ (fp wp 0 [.iface 91 (.pointer (some ⟨g, 0, none⟩))] :: fp wp 219 [.int .u64 ((off2 + ib.length + 5 : Nat) : Int)] :: (fp wp 1 [.nilIface] :: fp wp 2 [.iface 112 (.agg #[]), fv, .int .u64 1, .int .i64 bs] :: fp wp 217 [.int .u64 s1.pO, .int .u64 s1.pL] :: fp wp 220 [.int .i64 s1.nAll] :: fp wp 221 sa :: fp wp 241 sb :: fp wp 271 [.slice cA cl.length cc] :: (Fc ++ R))))) w0 wx)
            case first => as_aux_lemma =>
              refine AnyT.start (S := fun w' => w'.cell? ⟨wp, 4, none⟩ = some (.int .u64 1)) (T := []) (by kernel_rfl) (c4) (fun hHeld => ?_)
              refine AnyT.take (i := 0) (v := ?_) (by simp only [List.getElem?_toArray, List.getElem?_cons_succ, List.getElem?_cons_zero]; rfl) (by kernel_rfl) (by kernel_rfl) (by kernel_rfl) (by kernel_rfl) (by intro _ _ _ h; exact h) (Or.inl ⟨by rfl, fun w hSw => ?_⟩) hHeld ?_
              rotate_left
              · ((try dsimp only at hSw); go_simp; first | done | with_reducible rfl | rfl)
              try simp only [Act.put, List.setIfInBounds_toArray, List.set_cons_zero, List.set_cons_succ]
              refine AnyT.take (i := 1) (v := ?_) (by simp only [List.getElem?_toArray, List.getElem?_cons_succ, List.getElem?_cons_zero]; rfl) (by kernel_rfl) (by kernel_rfl) (by kernel_rfl) (by kernel_rfl) (by intro _ _ _ h; exact h) (Or.inl ⟨by rfl, fun w hSw => ?_⟩) hHeld ?_
              rotate_left
              · ((try dsimp only at hSw); go_simp; first | done | with_reducible rfl | rfl)
              try simp only [Act.put, List.setIfInBounds_toArray, List.set_cons_zero, List.set_cons_succ]
              refine AnyT.take (i := 2) (v := ?_) (by simp only [List.getElem?_toArray, List.getElem?_cons_succ, List.getElem?_cons_zero]; rfl) (by kernel_rfl) (by kernel_rfl) (by kernel_rfl) (by kernel_rfl) (by intro _ _ _ h; exact h) (Or.inl ⟨by rfl, fun w hSw => ?_⟩) hHeld ?_
              rotate_left
              · ((try dsimp only at hSw); go_simp; first | done | with_reducible rfl | rfl)
              try simp only [Act.put, List.setIfInBounds_toArray, List.set_cons_zero, List.set_cons_succ]
              refine AnyT.take (i := 3) (v := ?_) (by simp only [List.getElem?_toArray, List.getElem?_cons_succ, List.getElem?_cons_zero]; rfl) (by kernel_rfl) (by kernel_rfl) (by kernel_rfl) (by kernel_rfl) (by intro _ _ _ h; exact h) (Or.inl ⟨by rfl, fun w hSw => ?_⟩) hHeld ?_
              rotate_left
              · ((try dsimp only at hSw); go_simp; first | done | with_reducible rfl | rfl)
              try simp only [Act.put, List.setIfInBounds_toArray, List.set_cons_zero, List.set_cons_succ]
              refine AnyT.take (i := 4) (v := ?_) (by simp only [List.getElem?_toArray, List.getElem?_cons_succ, List.getElem?_cons_zero]; rfl) (by kernel_rfl) (by kernel_rfl) (by kernel_rfl) (by kernel_rfl) (by intro _ _ _ h; exact h) (Or.inl ⟨by rfl, fun w hSw => ?_⟩) hHeld ?_
              rotate_left
              · ((try dsimp only at hSw); go_simp; first | done | with_reducible rfl | rfl)
              try simp only [Act.put, List.setIfInBounds_toArray, List.set_cons_zero, List.set_cons_succ]
              refine AnyT.take (i := 5) (v := ?_) (by simp only [List.getElem?_toArray, List.getElem?_cons_succ, List.getElem?_cons_zero]; rfl) (by kernel_rfl) (by kernel_rfl) (by kernel_rfl) (by kernel_rfl) (by intro _ _ _ h; exact h) (Or.inl ⟨by rfl, fun w hSw => ?_⟩) hHeld ?_
              rotate_left
              · ((try dsimp only at hSw); go_simp; first | done | with_reducible rfl | rfl)
              try simp only [Act.put, List.setIfInBounds_toArray, List.set_cons_zero, List.set_cons_succ]
              refine AnyT.take (i := 6) (v := ?_) (by simp only [List.getElem?_toArray, List.getElem?_cons_succ, List.getElem?_cons_zero]; rfl) (by kernel_rfl) (by kernel_rfl) (by kernel_rfl) (by kernel_rfl) (by intro _ _ _ h; exact h) (Or.inl ⟨by rfl, fun w hSw => ?_⟩) hHeld ?_
              rotate_left
              · ((try dsimp only at hSw); go_simp; first | done | with_reducible rfl | rfl)
              try simp only [Act.put, List.setIfInBounds_toArray, List.set_cons_zero, List.set_cons_succ]
              refine AnyT.take (i := 7) (v := ?_) (by simp only [List.getElem?_toArray, List.getElem?_cons_succ, List.getElem?_cons_zero]; rfl) (by kernel_rfl) (by kernel_rfl) (by kernel_rfl) (by kernel_rfl) (by intro _ _ _ h; exact h) (Or.inl ⟨by rfl, fun w hSw => ?_⟩) hHeld ?_
              rotate_left
              · ((try dsimp only at hSw); go_simp; first | done | with_reducible rfl | rfl)
              try simp only [Act.put, List.setIfInBounds_toArray, List.set_cons_zero, List.set_cons_succ]
              refine AnyT.take (i := 8) (v := ?_) (by simp only [List.getElem?_toArray, List.getElem?_cons_succ, List.getElem?_cons_zero]; rfl) (by kernel_rfl) (by kernel_rfl) (by kernel_rfl) (by kernel_rfl) (by intro _ _ _ h; exact h) (Or.inl ⟨by rfl, fun w hSw => ?_⟩) hHeld ?_
              rotate_left
              · ((try dsimp only at hSw); go_simp; first | done | with_reducible rfl | rfl)
              try simp only [Act.put, List.setIfInBounds_toArray, List.set_cons_zero, List.set_cons_succ]
              refine AnyT.ready (rs := [9, 13]) (by kernel_rfl) (by simp) ?_
              refine AllT.cons (by simp only [List.getElem?_toArray, List.getElem?_cons_succ, List.getElem?_cons_zero]; rfl) (fun K hK => ?_) (AllT.cons (by simp only [List.getElem?_toArray, List.getElem?_cons_succ, List.getElem?_cons_zero]; rfl) (fun K hK => ?_) AllT.nil)
              · go_simp
                refine (writeBlock_any wp 78 wp (off2) g ib (out2) Fb3 GN (fp wp 1 [.nilIface] :: fp wp 2 [.iface 112 (.agg #[]), fv, .int .u64 1, .int .i64 bs] :: fp wp 217 [.int .u64 s1.pO, .int .u64 s1.pL] :: fp wp 220 [.int .i64 s1.nAll] :: fp wp 221 sa :: fp wp 241 sb :: fp wp 271 [.slice cA cl.length cc] :: (fw q8 157 [.int .u64 (off1 : Nat), .int .u64 mb.length] :: fp wp 77 [.int .i64 ((1 : Nat) : Int)] :: fp wp (77 + 67) [.int .i64 s1.nI, .slice pA3 s1.iprev.length pc3, .slice rA3 ri2.length rc3, .slice (some ⟨wp, 241, none⟩) 30 30] :: (Fp3 ++ (Fq3 ++ (Fc ++ R))))) w0 _ HWB.out HGW.out HOW.out.drew (by omega) (by omega) (by omega)).mono ?_
                rintro e w3 ⟨rfl, FB', GN, hB', hGN, hO3⟩
                clear c1 c4 c5 c217 c218 c219 c220 f0 bl
                obtain ⟨c1, c4, c5, c217, c218, c219, c220, f0, bl⟩ := tw_hdr2 (L := FB' ++ GN) (hO3.perm (L' := (FB' ++ GN) ++ (fp wp 0 [.iface 91 (.pointer (some ⟨g, 0, none⟩))] :: fp wp 219 [.int .u64 ((off2 + ib.length + 5 : Nat) : Int)] :: (fp wp 1 [.nilIface] :: fp wp 2 [.iface 112 (.agg #[]), fv, .int .u64 1, .int .i64 bs] :: fp wp 217 [.int .u64 s1.pO, .int .u64 s1.pL] :: fp wp 220 [.int .i64 s1.nAll] :: fp wp 221 sa :: fp wp 241 sb :: fp wp 271 [.slice cA cl.length cc] :: (fw q8 157 [.int .u64 (off1 : Nat), .int .u64 mb.length] :: fp wp 77 [.int .i64 ((1 : Nat) : Int)] :: fp wp (77 + 67) [.int .i64 s1.nI, .slice pA3 s1.iprev.length pc3, .slice rA3 ri2.length rc3, .slice (some ⟨wp, 241, none⟩) 30 30] :: (Fp3 ++ (Fq3 ++ (Fc ++ R))))))) (perm_of fun _ _ z => by simp only [List.count_append, List.count_cons, List.cons_append, List.count_nil, List.nil_append, List.append_nil]; omega))
                have HO3 := hid hO3
                have HGN := hid hGN
                clear hO3 hB' hGN
                try go_wp2_with fail
                refine hK.out _ _ ?_ (fun hHeld => ?_)
                · exact c4
                clear hK
                try simp only [Act.put, List.setIfInBounds_toArray, List.set_cons_zero, List.set_cons_succ]
                refine AnyT.take (i := 10) (v := ?_) (by simp only [List.getElem?_toArray, List.getElem?_cons_succ, List.getElem?_cons_zero]; rfl) (by kernel_rfl) (by kernel_rfl) (by kernel_rfl) (by kernel_rfl) (by intro _ _ _ h; exact h) (Or.inl ⟨by rfl, fun w hSw => ?_⟩) hHeld ?_
                rotate_left
                · ((try dsimp only at hSw); go_simp; first | done | with_reducible rfl | rfl)
                try simp only [Act.put, List.setIfInBounds_toArray, List.set_cons_zero, List.set_cons_succ]
                refine AnyT.take (i := 11) (v := ?_) (by simp only [List.getElem?_toArray, List.getElem?_cons_succ, List.getElem?_cons_zero]; rfl) (by kernel_rfl) (by kernel_rfl) (by kernel_rfl) (by kernel_rfl) (by intro _ _ _ h; exact h) (Or.inl ⟨by rfl, fun w hSw => ?_⟩) hHeld ?_
                rotate_left
                · ((try dsimp only at hSw); go_simp; first | done | with_reducible rfl | rfl)
                try simp only [Act.put, List.setIfInBounds_toArray, List.set_cons_zero, List.set_cons_succ]
                refine AnyT.take (i := 12) (v := ?_) (by simp only [List.getElem?_toArray, List.getElem?_cons_succ, List.getElem?_cons_zero]; rfl) (by kernel_rfl) (by kernel_rfl) (by kernel_rfl) (by kernel_rfl) (by intro _ _ _ h; exact h) (Or.inl ⟨by rfl, fun w hSw => ?_⟩) hHeld ?_
                rotate_left
                · ((try dsimp only at hSw); go_simp; first | done | with_reducible rfl | rfl)
                try simp only [Act.put, List.setIfInBounds_toArray, List.set_cons_zero, List.set_cons_succ]
                refine AnyT.ready (rs := [13]) (by kernel_rfl) (by simp) ?_
                refine AllT.cons (by simp only [List.getElem?_toArray, List.getElem?_cons_succ, List.getElem?_cons_zero]; rfl) (fun K hK => ?_) AllT.nil
                go_simp
                obtain ⟨q9, hq9⟩ : ∃ q9, w3.heap.size = q9 := ⟨_, rfl⟩
                try rw [hq9]
                have hO4 := HO3.out.alloc' hq9 157 [.int .u64 0, .int .u64 0]
                clear c1 c4 c5 c217 c218 c219 c220 f0 bl hq9 HO3
                obtain ⟨c1, c4, c5, c217, c218, c219, c220, f0, bl⟩ := tw_hdr2 (L := FB' ++ GN) (hO4.drop.perm (L' := (FB' ++ GN) ++ (fp wp 0 [.iface 91 (.pointer (some ⟨g, 0, none⟩))] :: fp wp 219 [.int .u64 ((off2 + ib.length + 5 : Nat) : Int)] :: (fp wp 1 [.nilIface] :: fp wp 2 [.iface 112 (.agg #[]), fv, .int .u64 1, .int .i64 bs] :: fp wp 217 [.int .u64 s1.pO, .int .u64 s1.pL] :: fp wp 220 [.int .i64 s1.nAll] :: fp wp 221 sa :: fp wp 241 sb :: fp wp 271 [.slice cA cl.length cc] :: (fw q8 157 [.int .u64 (off1 : Nat), .int .u64 mb.length] :: fp wp 77 [.int .i64 ((1 : Nat) : Int)] :: fp wp (77 + 67) [.int .i64 s1.nI, .slice pA3 s1.iprev.length pc3, .slice rA3 ri2.length rc3, .slice (some ⟨wp, 241, none⟩) 30 30] :: (Fp3 ++ (Fq3 ++ (Fc ++ R))))))) (perm_of fun _ _ z => by simp only [List.count_append, List.count_cons, List.cons_append, List.count_nil, List.nil_append, List.append_nil]; omega))
                have q0 := hO4.cell 0 rfl 0 rfl (by simp)
                have q1 := hO4.cell 0 rfl 1 rfl (by simp)
                have qf := fun k => hO4.frozen 0 rfl k
                have HO4 := hid hO4
                clear hO4
                refine hK.out _ _ ?_ (fun hHeld => ?_)
                · go_simp
                clear hK
                try simp only [Act.put, List.setIfInBounds_toArray, List.set_cons_zero, List.set_cons_succ]
                refine AnyT.ready (rs := [14]) (by kernel_rfl) (by simp) ?_
                refine AllT.cons (by simp only [List.getElem?_toArray, List.getElem?_cons_succ, List.getElem?_cons_zero]; rfl) (fun K hK => ?_) AllT.nil
                go_simp
                have hO5 : Own (fw q9 157 [.int .u64 (off2 : Nat), .int .u64 ib.length] :: (FB' ++ (GN ++ (fp wp 0 [.iface 91 (.pointer (some ⟨g, 0, none⟩))] :: fp wp 219 [.int .u64 ((off2 + ib.length + 5 : Nat) : Int)] :: (fp wp 1 [.nilIface] :: fp wp 2 [.iface 112 (.agg #[]), fv, .int .u64 1, .int .i64 bs] :: fp wp 217 [.int .u64 s1.pO, .int .u64 s1.pL] :: fp wp 220 [.int .i64 s1.nAll] :: fp wp 221 sa :: fp wp 241 sb :: fp wp 271 [.slice cA cl.length cc] :: (fw q8 157 [.int .u64 (off1 : Nat), .int .u64 mb.length] :: fp wp 77 [.int .i64 ((1 : Nat) : Int)] :: fp wp (77 + 67) [.int .i64 s1.nI, .slice pA3 s1.iprev.length pc3, .slice rA3 ri2.length rc3, .slice (some ⟨wp, 241, none⟩) 30 30] :: (Fp3 ++ (Fq3 ++ (Fc ++ R))))))))) w0 _ := (HO4.out.set (k := 0) 0 rfl (by simp) (.int .u64 (off2 : Nat))).set (k := 1) 1 rfl (by simp) (.int .u64 ib.length)
                clear c1 c4 c5 c217 c218 c219 c220 f0 bl
                obtain ⟨c1, c4, c5, c217, c218, c219, c220, f0, bl⟩ := tw_hdr2 (L := FB' ++ GN) (hO5.drop.perm (L' := (FB' ++ GN) ++ (fp wp 0 [.iface 91 (.pointer (some ⟨g, 0, none⟩))] :: fp wp 219 [.int .u64 ((off2 + ib.length + 5 : Nat) : Int)] :: (fp wp 1 [.nilIface] :: fp wp 2 [.iface 112 (.agg #[]), fv, .int .u64 1, .int .i64 bs] :: fp wp 217 [.int .u64 s1.pO, .int .u64 s1.pL] :: fp wp 220 [.int .i64 s1.nAll] :: fp wp 221 sa :: fp wp 241 sb :: fp wp 271 [.slice cA cl.length cc] :: (fw q8 157 [.int .u64 (off1 : Nat), .int .u64 mb.length] :: fp wp 77 [.int .i64 ((1 : Nat) : Int)] :: fp wp (77 + 67) [.int .i64 s1.nI, .slice pA3 s1.iprev.length pc3, .slice rA3 ri2.length rc3, .slice (some ⟨wp, 241, none⟩) 30 30] :: (Fp3 ++ (Fq3 ++ (Fc ++ R))))))) (perm_of fun _ _ z => by simp only [List.count_append, List.count_cons, List.cons_append, List.count_nil, List.nil_append, List.append_nil]; omega))
                have HO5 := hid hO5
                clear hO5
                refine hK.out _ _ ?_ (fun hHeld => ?_)
                · exact c4
                clear hK
                try simp only [Act.put, List.setIfInBounds_toArray, List.set_cons_zero, List.set_cons_succ]
                refine AnyT.take (i := 15) (v := ?_) (by simp only [List.getElem?_toArray, List.getElem?_cons_succ, List.getElem?_cons_zero]; rfl) (by kernel_rfl) (by kernel_rfl) (by kernel_rfl) (by kernel_rfl) (by intro _ _ _ h; exact h) (Or.inl ⟨by rfl, fun w hSw => ?_⟩) hHeld ?_
                rotate_left
                · ((try dsimp only at hSw); go_simp; first | done | with_reducible rfl | rfl)
                try simp only [Act.put, List.setIfInBounds_toArray, List.set_cons_zero, List.set_cons_succ]
                refine AnyT.done (by kernel_rfl) ?_ _
                go_wp2_with fail
                go_meet
                first
                  | exact ⟨rfl, q9, GN, rfl, HGN.out, hsub2 _ _ _ _ HO5.out⟩
                  | exact ⟨rfl, q9, GN, rfl, HGN.out, hsub2 _ _ _ _ HO5.out.drew⟩
              · go_simp
                obtain ⟨q9, hq9⟩ : ∃ q9, w4.heap.size = q9 := ⟨_, rfl⟩
                try rw [hq9]
                have hO4 := HOW.out.alloc' hq9 157 [.int .u64 0, .int .u64 0]
                clear c1 c4 c5 c217 c218 c219 c220 f0 bl hq9 HOW
                obtain ⟨c1, c4, c5, c217, c218, c219, c220, f0, bl⟩ := tw_hdr2 (L := Fb3 ++ GN) (hO4.drop.perm (L' := (Fb3 ++ GN) ++ (fp wp 0 [.iface 91 (.pointer (some ⟨g, 0, none⟩))] :: fp wp 219 [.int .u64 (off2 : Nat)] :: (fp wp 1 [.nilIface] :: fp wp 2 [.iface 112 (.agg #[]), fv, .int .u64 1, .int .i64 bs] :: fp wp 217 [.int .u64 s1.pO, .int .u64 s1.pL] :: fp wp 220 [.int .i64 s1.nAll] :: fp wp 221 sa :: fp wp 241 sb :: fp wp 271 [.slice cA cl.length cc] :: (fw q8 157 [.int .u64 (off1 : Nat), .int .u64 mb.length] :: fp wp 77 [.int .i64 ((1 : Nat) : Int)] :: fp wp (77 + 67) [.int .i64 s1.nI, .slice pA3 s1.iprev.length pc3, .slice rA3 ri2.length rc3, .slice (some ⟨wp, 241, none⟩) 30 30] :: (Fp3 ++ (Fq3 ++ (Fc ++ R))))))) (perm_of fun _ _ z => by simp only [List.count_append, List.count_cons, List.cons_append, List.count_nil, List.nil_append, List.append_nil]; omega))
                have HO4 := hid (hO4.drew.perm (L' := Fb3 ++ (GN ++ (fp wp 0 [.iface 91 (.pointer (some ⟨g, 0, none⟩))] :: fp wp 219 [.int .u64 (off2 : Nat)] :: (fw q9 157 [.int .u64 0, .int .u64 0] :: fp wp 1 [.nilIface] :: fp wp 2 [.iface 112 (.agg #[]), fv, .int .u64 1, .int .i64 bs] :: fp wp 217 [.int .u64 s1.pO, .int .u64 s1.pL] :: fp wp 220 [.int .i64 s1.nAll] :: fp wp 221 sa :: fp wp 241 sb :: fp wp 271 [.slice cA cl.length cc] :: (fw q8 157 [.int .u64 (off1 : Nat), .int .u64 mb.length] :: fp wp 77 [.int .i64 ((1 : Nat) : Int)] :: fp wp (77 + 67) [.int .i64 s1.nI, .slice pA3 s1.iprev.length pc3, .slice rA3 ri2.length rc3, .slice (some ⟨wp, 241, none⟩) 30 30] :: (Fp3 ++ (Fq3 ++ (Fc ++ R)))))))) (perm_of fun _ _ z => by simp only [List.count_append, List.count_cons, List.cons_append, List.count_nil, List.nil_append, List.append_nil]; omega))
                clear hO4
                refine hK.out _ _ ?_ (fun hHeld => ?_)
                · exact c4
                clear hK
                try simp only [Act.put, List.setIfInBounds_toArray, List.set_cons_zero, List.set_cons_succ]
                refine AnyT.ready (rs := [9]) (by kernel_rfl) (by simp) ?_
                refine AllT.cons (by simp only [List.getElem?_toArray, List.getElem?_cons_succ, List.getElem?_cons_zero]; rfl) (fun K hK => ?_) AllT.nil
                go_simp
                refine (writeBlock_any wp 78 wp (off2) g ib (out2) Fb3 GN (fw q9 157 [.int .u64 0, .int .u64 0] :: fp wp 1 [.nilIface] :: fp wp 2 [.iface 112 (.agg #[]), fv, .int .u64 1, .int .i64 bs] :: fp wp 217 [.int .u64 s1.pO, .int .u64 s1.pL] :: fp wp 220 [.int .i64 s1.nAll] :: fp wp 221 sa :: fp wp 241 sb :: fp wp 271 [.slice cA cl.length cc] :: (fw q8 157 [.int .u64 (off1 : Nat), .int .u64 mb.length] :: fp wp 77 [.int .i64 ((1 : Nat) : Int)] :: fp wp (77 + 67) [.int .i64 s1.nI, .slice pA3 s1.iprev.length pc3, .slice rA3 ri2.length rc3, .slice (some ⟨wp, 241, none⟩) 30 30] :: (Fp3 ++ (Fq3 ++ (Fc ++ R))))) w0 _ HWB.out HGW.out HO4.out (by omega) (by omega) (by omega)).mono ?_
                rintro e w3 ⟨rfl, FB', GN, hB', hGN, hO3⟩
                clear c1 c4 c5 c217 c218 c219 c220 f0 bl HO4
                have hO4 : Own (fw q9 157 [.int .u64 0, .int .u64 0] :: (FB' ++ (GN ++ (fp wp 0 [.iface 91 (.pointer (some ⟨g, 0, none⟩))] :: fp wp 219 [.int .u64 ((off2 + ib.length + 5 : Nat) : Int)] :: (fp wp 1 [.nilIface] :: fp wp 2 [.iface 112 (.agg #[]), fv, .int .u64 1, .int .i64 bs] :: fp wp 217 [.int .u64 s1.pO, .int .u64 s1.pL] :: fp wp 220 [.int .i64 s1.nAll] :: fp wp 221 sa :: fp wp 241 sb :: fp wp 271 [.slice cA cl.length cc] :: (fw q8 157 [.int .u64 (off1 : Nat), .int .u64 mb.length] :: fp wp 77 [.int .i64 ((1 : Nat) : Int)] :: fp wp (77 + 67) [.int .i64 s1.nI, .slice pA3 s1.iprev.length pc3, .slice rA3 ri2.length rc3, .slice (some ⟨wp, 241, none⟩) 30 30] :: (Fp3 ++ (Fq3 ++ (Fc ++ R))))))))) w0 w3 := hO3.perm (perm_of fun _ _ z => by simp only [List.count_append, List.count_cons, List.cons_append, List.count_nil, List.nil_append, List.append_nil]; omega)
                obtain ⟨c1, c4, c5, c217, c218, c219, c220, f0, bl⟩ := tw_hdr2 (L := FB' ++ GN) (hO4.drop.perm (L' := (FB' ++ GN) ++ (fp wp 0 [.iface 91 (.pointer (some ⟨g, 0, none⟩))] :: fp wp 219 [.int .u64 ((off2 + ib.length + 5 : Nat) : Int)] :: (fp wp 1 [.nilIface] :: fp wp 2 [.iface 112 (.agg #[]), fv, .int .u64 1, .int .i64 bs] :: fp wp 217 [.int .u64 s1.pO, .int .u64 s1.pL] :: fp wp 220 [.int .i64 s1.nAll] :: fp wp 221 sa :: fp wp 241 sb :: fp wp 271 [.slice cA cl.length cc] :: (fw q8 157 [.int .u64 (off1 : Nat), .int .u64 mb.length] :: fp wp 77 [.int .i64 ((1 : Nat) : Int)] :: fp wp (77 + 67) [.int .i64 s1.nI, .slice pA3 s1.iprev.length pc3, .slice rA3 ri2.length rc3, .slice (some ⟨wp, 241, none⟩) 30 30] :: (Fp3 ++ (Fq3 ++ (Fc ++ R))))))) (perm_of fun _ _ z => by simp only [List.count_append, List.count_cons, List.cons_append, List.count_nil, List.nil_append, List.append_nil]; omega))
                have q0 := hO4.cell 0 rfl 0 rfl (by simp)
                have q1 := hO4.cell 0 rfl 1 rfl (by simp)
                have qf := fun k => hO4.frozen 0 rfl k
                have HO4 := hid hO4
                have HGN := hid hGN
                clear hO3 hO4 hB' hGN
                try go_wp2_with fail
                refine hK.out _ _ ?_ (fun hHeld => ?_)
                · exact c4
                clear hK
                try simp only [Act.put, List.setIfInBounds_toArray, List.set_cons_zero, List.set_cons_succ]
                refine AnyT.take (i := 10) (v := ?_) (by simp only [List.getElem?_toArray, List.getElem?_cons_succ, List.getElem?_cons_zero]; rfl) (by kernel_rfl) (by kernel_rfl) (by kernel_rfl) (by kernel_rfl) (by intro _ _ _ h; exact h) (Or.inl ⟨by rfl, fun w hSw => ?_⟩) hHeld ?_
                rotate_left
                · ((try dsimp only at hSw); go_simp; first | done | with_reducible rfl | rfl)
                try simp only [Act.put, List.setIfInBounds_toArray, List.set_cons_zero, List.set_cons_succ]
                refine AnyT.take (i := 11) (v := ?_) (by simp only [List.getElem?_toArray, List.getElem?_cons_succ, List.getElem?_cons_zero]; rfl) (by kernel_rfl) (by kernel_rfl) (by kernel_rfl) (by kernel_rfl) (by intro _ _ _ h; exact h) (Or.inl ⟨by rfl, fun w hSw => ?_⟩) hHeld ?_
                rotate_left
                · ((try dsimp only at hSw); go_simp; first | done | with_reducible rfl | rfl)
                try simp only [Act.put, List.setIfInBounds_toArray, List.set_cons_zero, List.set_cons_succ]
                refine AnyT.take (i := 12) (v := ?_) (by simp only [List.getElem?_toArray, List.getElem?_cons_succ, List.getElem?_cons_zero]; rfl) (by kernel_rfl) (by kernel_rfl) (by kernel_rfl) (by kernel_rfl) (by intro _ _ _ h; exact h) (Or.inl ⟨by rfl, fun w hSw => ?_⟩) hHeld ?_
                rotate_left
                · ((try dsimp only at hSw); go_simp; first | done | with_reducible rfl | rfl)
                try simp only [Act.put, List.setIfInBounds_toArray, List.set_cons_zero, List.set_cons_succ]
                refine AnyT.ready (rs := [14]) (by kernel_rfl) (by simp) ?_
                refine AllT.cons (by simp only [List.getElem?_toArray, List.getElem?_cons_succ, List.getElem?_cons_zero]; rfl) (fun K hK => ?_) AllT.nil
                go_simp
                have hO5 : Own (fw q9 157 [.int .u64 (off2 : Nat), .int .u64 ib.length] :: (FB' ++ (GN ++ (fp wp 0 [.iface 91 (.pointer (some ⟨g, 0, none⟩))] :: fp wp 219 [.int .u64 ((off2 + ib.length + 5 : Nat) : Int)] :: (fp wp 1 [.nilIface] :: fp wp 2 [.iface 112 (.agg #[]), fv, .int .u64 1, .int .i64 bs] :: fp wp 217 [.int .u64 s1.pO, .int .u64 s1.pL] :: fp wp 220 [.int .i64 s1.nAll] :: fp wp 221 sa :: fp wp 241 sb :: fp wp 271 [.slice cA cl.length cc] :: (fw q8 157 [.int .u64 (off1 : Nat), .int .u64 mb.length] :: fp wp 77 [.int .i64 ((1 : Nat) : Int)] :: fp wp (77 + 67) [.int .i64 s1.nI, .slice pA3 s1.iprev.length pc3, .slice rA3 ri2.length rc3, .slice (some ⟨wp, 241, none⟩) 30 30] :: (Fp3 ++ (Fq3 ++ (Fc ++ R))))))))) w0 _ := (HO4.out.set (k := 0) 0 rfl (by simp) (.int .u64 (off2 : Nat))).set (k := 1) 1 rfl (by simp) (.int .u64 ib.length)
                clear c1 c4 c5 c217 c218 c219 c220 f0 bl
                obtain ⟨c1, c4, c5, c217, c218, c219, c220, f0, bl⟩ := tw_hdr2 (L := FB' ++ GN) (hO5.drop.perm (L' := (FB' ++ GN) ++ (fp wp 0 [.iface 91 (.pointer (some ⟨g, 0, none⟩))] :: fp wp 219 [.int .u64 ((off2 + ib.length + 5 : Nat) : Int)] :: (fp wp 1 [.nilIface] :: fp wp 2 [.iface 112 (.agg #[]), fv, .int .u64 1, .int .i64 bs] :: fp wp 217 [.int .u64 s1.pO, .int .u64 s1.pL] :: fp wp 220 [.int .i64 s1.nAll] :: fp wp 221 sa :: fp wp 241 sb :: fp wp 271 [.slice cA cl.length cc] :: (fw q8 157 [.int .u64 (off1 : Nat), .int .u64 mb.length] :: fp wp 77 [.int .i64 ((1 : Nat) : Int)] :: fp wp (77 + 67) [.int .i64 s1.nI, .slice pA3 s1.iprev.length pc3, .slice rA3 ri2.length rc3, .slice (some ⟨wp, 241, none⟩) 30 30] :: (Fp3 ++ (Fq3 ++ (Fc ++ R))))))) (perm_of fun _ _ z => by simp only [List.count_append, List.count_cons, List.cons_append, List.count_nil, List.nil_append, List.append_nil]; omega))
                have HO5 := hid hO5
                clear hO5
                refine hK.out _ _ ?_ (fun hHeld => ?_)
                · exact c4
                clear hK
                try simp only [Act.put, List.setIfInBounds_toArray, List.set_cons_zero, List.set_cons_succ]
                refine AnyT.take (i := 15) (v := ?_) (by simp only [List.getElem?_toArray, List.getElem?_cons_succ, List.getElem?_cons_zero]; rfl) (by kernel_rfl) (by kernel_rfl) (by kernel_rfl) (by kernel_rfl) (by intro _ _ _ h; exact h) (Or.inl ⟨by rfl, fun w hSw => ?_⟩) hHeld ?_
                rotate_left
                · ((try dsimp only at hSw); go_simp; first | done | with_reducible rfl | rfl)
                try simp only [Act.put, List.setIfInBounds_toArray, List.set_cons_zero, List.set_cons_succ]
                refine AnyT.done (by kernel_rfl) ?_ _
                go_wp2_with fail
                go_meet
                first
                  | exact ⟨rfl, q9, GN, rfl, HGN.out, hsub2 _ _ _ _ HO5.out⟩
                  | exact ⟨rfl, q9, GN, rfl, HGN.out, hsub2 _ _ _ _ HO5.out.drew⟩
            case rest =>
              obtain ⟨rfl, q9, GM, rfl, hGM, hO12⟩ := hcut
              have hibl : ib.length ≤ 2700000000 := by omega
              have hO13 : Own (fp wp 221 (sa ++ sb) :: fw q9 157 [.int .u64 (off2 : Nat), .int .u64 ib.length] :: fw q8 157 [.int .u64 (off1 : Nat), .int .u64 mb.length] :: (GM ++ (fp wp 0 [.iface 91 (.pointer (some ⟨g, 0, none⟩))] :: fp wp 219 [.int .u64 ((off2 + ib.length + 5 : Nat) : Int)] :: (fp wp 1 [.nilIface] :: fp wp 2 [.iface 112 (.agg #[]), fv, .int .u64 1, .int .i64 bs] :: fp wp 217 [.int .u64 s1.pO, .int .u64 s1.pL] :: fp wp 220 [.int .i64 s1.nAll] :: fp wp 271 [.slice cA cl.length cc] :: (Fc ++ R))))) w0 wc :=
                (hO12.perm (L' := fp wp 221 sa :: fp wp 241 sb :: (fw q9 157 [.int .u64 (off2 : Nat), .int .u64 ib.length] :: fw q8 157 [.int .u64 (off1 : Nat), .int .u64 mb.length] :: (GM ++ (fp wp 0 [.iface 91 (.pointer (some ⟨g, 0, none⟩))] :: fp wp 219 [.int .u64 ((off2 + ib.length + 5 : Nat) : Int)] :: (fp wp 1 [.nilIface] :: fp wp 2 [.iface 112 (.agg #[]), fv, .int .u64 1, .int .i64 bs] :: fp wp 217 [.int .u64 s1.pO, .int .u64 s1.pL] :: fp wp 220 [.int .i64 s1.nAll] :: fp wp 271 [.slice cA cl.length cc] :: (Fc ++ R)))))) (perm_of fun _ _ z => by simp only [List.count_append, List.count_cons, List.cons_append, List.count_nil, List.nil_append, List.append_nil]; omega)).glue (by rw [hsa])
              have hsab : (sa ++ sb).length = 50 := by rw [List.length_append, hsa, hsb]
              obtain ⟨sc, hsc⟩ : ∃ sc, sa ++ sb = sc := ⟨_, rfl⟩
              rw [hsc] at hO13 hsab
              have HO13 := hid hO13
              have HGM := hid hGM
              clear hO12 hO13 hsc hGM HOW HGW HWB c1 c4 c5 c217 c218 c219 c220 f0 bl
              go_wp2_with fail
              go_loopw [12, 167] (fun _ i wr => ∃ (k : Nat) (cs : List Value), i = .int .i64 k ∧ k ≤ 48 ∧ cs.length = 50 ∧ cs.take k = List.replicate k (.int .u8 0) ∧ Own (fp wp 221 cs :: fw q9 157 [.int .u64 (off2 : Nat), .int .u64 ib.length] :: fw q8 157 [.int .u64 (off1 : Nat), .int .u64 mb.length] :: (GM ++ (fp wp 0 [.iface 91 (.pointer (some ⟨g, 0, none⟩))] :: fp wp 219 [.int .u64 ((off2 + ib.length + 5 : Nat) : Int)] :: (fp wp 1 [.nilIface] :: fp wp 2 [.iface 112 (.agg #[]), fv, .int .u64 1, .int .i64 bs] :: fp wp 217 [.int .u64 s1.pO, .int .u64 s1.pL] :: fp wp 220 [.int .i64 s1.nAll] :: fp wp 271 [.slice cA cl.length cc] :: (Fc ++ R))))) w0 wr) (fun _ i _ => 48 - (intOf i).toNat)
              case atStart => exact ⟨0, sc, rfl, by omega, hsab, rfl, HO13.out⟩
              case round =>
                obtain ⟨k, cs, rfl, hk, hcs, htk, hOr⟩ := hrel
                by_cases hlt : k < 48
                · have hkl : k < cs.length := by omega
                  have ck := (hOr.cell 0 rfl (k := 221 + k) k rfl hkl).trans (List.getElem?_eq_getElem hkl)
                  have fk0 := fun j => hOr.frozen 0 rfl j
                  generalize cs[k] = vk at ck
                  have HOr := hid hOr
                  have HTK := hid (show cs.length = 50 ∧ _ from ⟨hcs, htk⟩)
                  have e1 : IntKind.i64.wrap ((k : Int) + 1) = (k : Int) + 1 := i64_id (by omega) (by omega)
                  clear hOr hcs htk
                  simp only at ck fk0
                  go_wp2_with fail
                  go_roundw
                  case rel =>
                    refine ⟨k + 1, cs.set k (.int .u8 0), by go_num, by omega, by rw [List.length_set]; exact HTK.out.1, ?_, HOr.out.set (k := 221 + k) k rfl hkl _⟩
                    obtain ⟨hcs, htk⟩ := HTK.out
                    rw [List.take_succ_eq_append_getElem (by rw [List.length_set]; omega), List.take_set_of_le (by omega), htk, List.getElem_set_self, List.replicate_succ']
                  case measure => simp [intOf]; omega
                · obtain rfl : k = 48 := by omega
                  clear hlt
                  have HOr := hid hOr
                  have HTK := hid (show cs.length = 50 ∧ _ from ⟨hcs, htk⟩)
                  have q0 := hOr.cell 2 rfl (k := 0) 0 rfl (by simp)
                  have q1 := hOr.cell 2 rfl (k := 1) 1 rfl (by simp)
                  have hcs0 : 48 ≤ cs.length := by omega
                  clear hOr hcs htk
                  go_wp2_with fail
                  have hl1 : (handle off1 mb.length).length = (uv off1).length + (uv mb.length).length := List.length_append
                  have hl2 : (handle off2 ib.length).length = (uv off2).length + (uv ib.length).length := List.length_append
                  have u1 := uv_len10 (x := off1) (by omega)
                  have u2 := uv_len10 (x := mb.length) (by omega)
                  have u3 := uv_len10 (x := off2) (by omega)
                  have u4 := uv_len10 (x := ib.length) (by omega)
                  refine (encHandle (fp wp 221 cs) 0 221 48 50 off1 mb.length _ w0 _ rfl HOr.out (by show 0 + 48 ≤ cs.length; omega) (by omega) (by omega) (by omega) (by omega) (by omega)).mono ?_
                  rintro e w5 ⟨rfl, hO14⟩
                  have hO15 : Own (fp wp 221 (splice cs 0 (bc (handle off1 mb.length))) :: fw q9 157 [.int .u64 (off2 : Nat), .int .u64 ib.length] :: fw q8 157 [.int .u64 (off1 : Nat), .int .u64 mb.length] :: (GM ++ (fp wp 0 [.iface 91 (.pointer (some ⟨g, 0, none⟩))] :: fp wp 219 [.int .u64 ((off2 + ib.length + 5 : Nat) : Int)] :: (fp wp 1 [.nilIface] :: fp wp 2 [.iface 112 (.agg #[]), fv, .int .u64 1, .int .i64 bs] :: fp wp 217 [.int .u64 s1.pO, .int .u64 s1.pL] :: fp wp 220 [.int .i64 s1.nAll] :: fp wp 271 [.slice cA cl.length cc] :: (Fc ++ R))))) w0 w5 := hO14
                  obtain ⟨H1, hH1⟩ : ∃ H1, handle off1 mb.length = H1 := ⟨_, rfl⟩
                  obtain ⟨H2b, hH2⟩ : ∃ H2, handle off2 ib.length = H2 := ⟨_, rfl⟩
                  rw [hH1] at hl1 hO15 ⊢
                  have HH1 := hid hH1
                  have HH2 := hid hH2
                  obtain ⟨n1, hn1⟩ : ∃ n1, H1.length = n1 := ⟨_, rfl⟩
                  rw [hn1] at hl1 ⊢
                  have HN1 := hid hn1
                  have HHL := hid hl2
                  have hn1' : n1 ≤ 20 := by omega
                  have z1 : (0 : Int) ≤ n1 := by omega
                  have z2 : (n1 : Int) ≤ 48 := by omega
                  have z3 : (n1 : Int) ≤ 50 := by omega
                  have z0 : ¬ 50 = n1 := by omega
                  have hs1 : (splice cs 0 (bc H1)).length = cs.length := length_splice _ _ _ (by rw [bc_length, hn1]; omega)
                  clear q0 q1
                  have q0 := hO15.cell 1 rfl (k := 0) 0 rfl (by simp)
                  have q1 := hO15.cell 1 rfl (k := 1) 1 rfl (by simp)
                  have HO15 := hid hO15
                  have HS1L := hid hs1
                  clear hO14 hO15 HOr hH1 hH2 hn1 hl1 hl2 hs1
                  go_wp2_with fail
                  refine AnyT.start (S := fun w' => w'.cell? ⟨q9, 0, none⟩ = some (.int .u64 off2) ∧ w'.cell? ⟨q9, 1, none⟩ = some (.int .u64 ib.length)) (T := []) (by kernel_rfl) (⟨q0, q1⟩) (fun hHeld => ?_)
                  refine AnyT.take (i := 0) (v := ?_) (by simp only [List.getElem?_toArray, List.getElem?_cons_succ, List.getElem?_cons_zero]; rfl) (by kernel_rfl) (by kernel_rfl) (by kernel_rfl) (by kernel_rfl) (by intro _ _ _ h; exact h) (Or.inl ⟨by rfl, fun w hSw => ?_⟩) hHeld ?_
                  rotate_left
                  · ((try dsimp only at hSw); go_simp; first | done | with_reducible rfl | rfl)
                  try simp only [Act.put, List.setIfInBounds_toArray, List.set_cons_zero, List.set_cons_succ]
                  refine AnyT.take (i := 1) (v := ?_) (by simp only [List.getElem?_toArray, List.getElem?_cons_succ, List.getElem?_cons_zero]; rfl) (by kernel_rfl) (by kernel_rfl) (by kernel_rfl) (by kernel_rfl) (by intro _ _ _ h; exact h) (Or.inl ⟨by rfl, fun w hSw => ?_⟩) hHeld ?_
                  rotate_left
                  · ((try dsimp only at hSw); go_simp; first | done | with_reducible rfl | rfl)
                  try simp only [Act.put, List.setIfInBounds_toArray, List.set_cons_zero, List.set_cons_succ]
                  refine AnyT.take (i := 2) (v := ?_) (by simp only [List.getElem?_toArray, List.getElem?_cons_succ, List.getElem?_cons_zero]; rfl) (by kernel_rfl) (by kernel_rfl) (by kernel_rfl) (by kernel_rfl) (by intro _ _ _ h; exact h) (Or.inl ⟨by rfl, fun w hSw => ?_⟩) hHeld ?_
                  rotate_left
                  · ((try dsimp only at hSw); go_simp; first | done | with_reducible rfl | rfl)
                  try simp only [Act.put, List.setIfInBounds_toArray, List.set_cons_zero, List.set_cons_succ]
                  refine AnyT.take (i := 3) (v := ?_) (by simp only [List.getElem?_toArray, List.getElem?_cons_succ, List.getElem?_cons_zero]; rfl) (by kernel_rfl) (by kernel_rfl) (by kernel_rfl) (by kernel_rfl) (by intro _ _ _ h; exact h) (Or.inl ⟨by rfl, fun w hSw => ?_⟩) hHeld ?_
                  rotate_left
                  · ((try dsimp only at hSw); go_simp; first | done | with_reducible rfl | rfl)
                  try simp only [Act.put, List.setIfInBounds_toArray, List.set_cons_zero, List.set_cons_succ]
                  refine AnyT.ready (rs := [4]) (by kernel_rfl) (by simp) ?_
                  refine AllT.cons (by simp only [List.getElem?_toArray, List.getElem?_cons_succ, List.getElem?_cons_zero]; rfl) (fun K hK => ?_) AllT.nil
                  go_simp
                  refine (encHandle (fp wp 221 (splice cs 0 (bc H1))) n1 (221 + n1) (48 - n1) (50 - n1) off2 ib.length _ w0 _ rfl HO15.out.drew (by show n1 + (48 - n1) ≤ (splice cs 0 (bc H1)).length; rw [HS1L.out]; omega) (by omega) (by omega) (by omega) (by omega) (by omega)).mono ?_
                  rintro e w6 ⟨rfl, hO16⟩
                  have hmore : splice (splice cs 0 (bc H1)) n1 (bc (handle off2 ib.length)) = splice cs 0 (bc (H1 ++ H2b)) := by
                    have h := splice_more cs 0 (bc H1) (bc H2b) (by rw [bc_length, bc_length, HN1.out, ← HH2.out, HHL.out]; omega)
                    rw [bc_length, HN1.out, Nat.zero_add, ← bc_append] at h
                    rw [HH2.out]; exact h
                  have hO17 : Own (fp wp 221 (splice (splice cs 0 (bc H1)) n1 (bc (handle off2 ib.length))) :: fw q9 157 [.int .u64 (off2 : Nat), .int .u64 ib.length] :: fw q8 157 [.int .u64 (off1 : Nat), .int .u64 mb.length] :: (GM ++ (fp wp 0 [.iface 91 (.pointer (some ⟨g, 0, none⟩))] :: fp wp 219 [.int .u64 ((off2 + ib.length + 5 : Nat) : Int)] :: (fp wp 1 [.nilIface] :: fp wp 2 [.iface 112 (.agg #[]), fv, .int .u64 1, .int .i64 bs] :: fp wp 217 [.int .u64 s1.pO, .int .u64 s1.pL] :: fp wp 220 [.int .i64 s1.nAll] :: fp wp 271 [.slice cA cl.length cc] :: (Fc ++ R))))) w0 w6 := hO16
                  rw [hmore] at hO17
                  obtain ⟨ft, hft⟩ : ∃ ft, H1 ++ H2b = ft := ⟨_, rfl⟩
                  have hftl : ft.length ≤ 40 := by rw [← hft, List.length_append, HN1.out, ← HH2.out, HHL.out]; omega
                  have hcsl : (splice cs 0 (bc ft)).length = 50 := by rw [length_splice _ _ _ (by rw [bc_length]; omega), HTK.out.1]
                  rw [hft] at hO17
                  have hfc := foot_cells hftl HTK.out.1 HTK.out.2
                  have hmg : (bc magicB).length = 8 := rfl
                  have hfl2 : (splice (splice cs 0 (bc ft)) 40 (bc magicB)).length = 50 := by rw [length_splice _ _ _ (by rw [hmg]; omega), hcsl]
                  clear q0 q1
                  have q0 := hO17.cell 1 rfl (k := 0) 0 rfl (by simp)
                  have q1 := hO17.cell 1 rfl (k := 1) 1 rfl (by simp)
                  have HO17 := hid hO17
                  have HFT := hid hft
                  have HFC := hid hfc
                  have HCSL := hid hcsl
                  have HFL2 := hid hfl2
                  clear hO16 hO17 hmore HO15 hft hfc hmg hcsl hfl2
                  try go_wp2_with fail
                  refine hK.out _ _ ?_ (fun hHeld => ?_)
                  · exact ⟨q0, q1⟩
                  clear hK
                  try simp only [Act.put, List.setIfInBounds_toArray, List.set_cons_zero, List.set_cons_succ]
                  refine AnyT.done (by kernel_rfl) ?_ _
                  have m1 := method_owrite
                  go_wp2_with (refine own_copy_str rfl (.tmp 183) (.const (.string ⟨#[87, 251, 128, 139, 36, 117, 71, 219]⟩)) 25 9 rfl 5 Tryd.underlying25 Tryd.size_u8 (fp wp 221 (splice cs 0 (bc ft))) 40 261 8 10 ⟨#[87, 251, 128, 139, 36, 117, 71, 219]⟩ magicB rfl (by rfl) (by rfl) HO17.out rfl (by decide) (by decide) (by show 40 + magicB.length ≤ (splice cs 0 (bc ft)).length; rw [HCSL.out]; decide) ?_; intro w7 hO18; have hOx := hO18.drop.drop.drop.right; have c0 := hOx.cell 0 rfl (k := 0) 0 rfl (by simp); have c219 := hOx.cell 1 rfl (k := 219) 0 rfl (by simp); have c1 := hOx.cell 2 rfl (k := 1) 0 rfl (by simp); have f0 := fun k => hOx.frozen 0 rfl k; have bl := hOx.head.lt; have HO18 := hid hO18; clear hO18 HO17 q0 q1 hOx)
                  have hfbl := footB_length hftl
                  obtain ⟨fb, hfb⟩ : ∃ fb, footB ft = fb := ⟨_, rfl⟩
                  have hrf : ∀ M, Rd (fp wp 221 (splice (splice cs 0 (bc ft)) 40 (bc magicB)) :: M) w0 (some ⟨wp, 221, none⟩) (footB ft) := fun M => Rd.fr (x := fp wp 221 (splice (splice cs 0 (bc ft)) 40 (bc magicB))) (by simp) (i := 0) rfl (by show 0 + (footB ft).length ≤ (splice (splice cs 0 (bc ft)) 40 (bc magicB)).length; rw [HFL2.out, hfbl]; decide) (by
                    rw [List.drop_zero, hfbl]; exact HFC.out)
                  rw [hfb] at hrf hfbl
                  have HFB := hid hfb
                  obtain ⟨out3, hou3⟩ : ∃ out3, out2 ++ (ib ++ trail ib) = out3 := ⟨_, rfl⟩
                  have hout3 : out3.length ≤ 3600000000 := by rw [← hou3, List.length_append, List.length_append, trail_length]; omega
                  have hgm2 := HGM.out
                  rw [hou3] at hgm2
                  have HOU3 := hid hou3
                  have hP18 := HO18.out
                  obtain ⟨sc9, hsc9⟩ : ∃ sc9, splice (splice cs 0 (bc ft)) 40 (bc magicB) = sc9 := ⟨_, rfl⟩
                  have hP18' : Own (fp wp 221 (splice (splice cs 0 (bc ft)) 40 (bc magicB)) :: fw q9 157 [.int .u64 (off2 : Nat), .int .u64 ib.length] :: fw q8 157 [.int .u64 (off1 : Nat), .int .u64 mb.length] :: (GM ++ (fp wp 0 [.iface 91 (.pointer (some ⟨g, 0, none⟩))] :: fp wp 219 [.int .u64 ((off2 + ib.length + 5 : Nat) : Int)] :: (fp wp 1 [.nilIface] :: fp wp 2 [.iface 112 (.agg #[]), fv, .int .u64 1, .int .i64 bs] :: fp wp 217 [.int .u64 s1.pO, .int .u64 s1.pL] :: fp wp 220 [.int .i64 s1.nAll] :: fp wp 271 [.slice cA cl.length cc] :: (Fc ++ R))))) w0 w7 := hP18
                  rw [hsc9] at hP18' hrf
                  clear hP18 hfb hou3 hsc9 m1
                  refine (write_ob g 48 50 _ out3 fb GM (fp wp 221 sc9 :: fw q9 157 [.int .u64 (off2 : Nat), .int .u64 ib.length] :: fw q8 157 [.int .u64 (off1 : Nat), .int .u64 mb.length] :: (fp wp 0 [.iface 91 (.pointer (some ⟨g, 0, none⟩))] :: fp wp 219 [.int .u64 ((off2 + ib.length + 5 : Nat) : Int)] :: (fp wp 1 [.nilIface] :: fp wp 2 [.iface 112 (.agg #[]), fv, .int .u64 1, .int .i64 bs] :: fp wp 217 [.int .u64 s1.pO, .int .u64 s1.pL] :: fp wp 220 [.int .i64 s1.nAll] :: fp wp 271 [.slice cA cl.length cc] :: (Fc ++ R)))) w0 _ hgm2 (hP18'.perm (perm_of fun _ _ z => by simp only [List.count_append, List.count_cons, List.cons_append, List.count_nil, List.nil_append, List.append_nil]; omega)) (hrf _) hfbl (by decide) (by decide) (by omega)).mono ?_
                  rintro e w8 ⟨rfl, GF, hGF, hO19⟩
                  have hO20 : Own (fp wp 219 [.int .u64 ((off2 + ib.length + 5 : Nat) : Int)] :: fp wp 0 [.iface 91 (.pointer (some ⟨g, 0, none⟩))] :: fp wp 1 [.nilIface] :: (GF ++ (fp wp 221 sc9 :: fw q9 157 [.int .u64 (off2 : Nat), .int .u64 ib.length] :: fw q8 157 [.int .u64 (off1 : Nat), .int .u64 mb.length] :: fp wp 2 [.iface 112 (.agg #[]), fv, .int .u64 1, .int .i64 bs] :: fp wp 217 [.int .u64 s1.pO, .int .u64 s1.pL] :: fp wp 220 [.int .i64 s1.nAll] :: fp wp 271 [.slice cA cl.length cc] :: (Fc ++ R)))) w0 w8 := hO19.perm (perm_of fun _ _ z => by simp only [List.count_append, List.count_cons, List.cons_append, List.count_nil, List.nil_append, List.append_nil]; omega)
                  clear c0 c1 c219 f0 bl
                  have c219 := hO20.cell 0 rfl (k := 219) 0 rfl (by simp)
                  have c1 := hO20.cell 2 rfl (k := 1) 0 rfl (by simp)
                  have f0 := fun k => hO20.frozen 0 rfl k
                  have bl := hO20.head.lt
                  have HO20 := hid hO20
                  have HGF := hid hGF
                  clear hO19 hO20 hGF hgm2 hP18' hrf HO18 hfbl
                  go_wp2_with fail
                  have hO21 := (HO20.out.set (k := 219) 0 rfl (by simp) (.int .u64 ((off2 : Int) + (ib.length : Int) + 5 + 48))).drop
                  have HO21 := hid hO21
                  clear hO21 HO20
                  refine (errNew _ _ w0 _ HO21.out).mono ?_
                  rintro e w9 ⟨⟨qe, rfl⟩, hO22⟩
                  clear c1 c219 f0 bl
                  have c1 := hO22.cell 1 rfl (k := 1) 0 rfl (by simp)
                  have f0 := fun k => hO22.frozen 1 rfl k
                  have bl := hO22.drop.head.lt
                  have HO22 := hid hO22
                  clear hO22 HO21
                  go_wp2_with fail
                  go_ret
                  have hO23 := (HO22.out.drop.set (k := 1) 0 rfl (by simp) (.iface 241 (.pointer (some ⟨qe, 0, none⟩)))).drop
                  have hO24 : Own (GF ++ R) w0 _ := (hO23.perm (L' := (fp wp 221 sc9 :: fw q9 157 [.int .u64 (off2 : Nat), .int .u64 ib.length] :: fw q8 157 [.int .u64 (off1 : Nat), .int .u64 mb.length] :: fp wp 2 [.iface 112 (.agg #[]), fv, .int .u64 1, .int .i64 bs] :: fp wp 217 [.int .u64 s1.pO, .int .u64 s1.pL] :: fp wp 220 [.int .i64 s1.nAll] :: fp wp 271 [.slice cA cl.length cc] :: Fc) ++ (GF ++ R)) (perm_of fun _ _ z => by simp only [List.count_append, List.count_cons, List.cons_append, List.count_nil, List.nil_append, List.append_nil]; omega)).right
                  refine ⟨rfl, fdata, key, GF, HFO.out, by rw [HFL.out]; exact hfl, hkl, ?_, hO24⟩
                  have hG := HGF.out
                  obtain ⟨e1, e2⟩ := HOU1.out
                  obtain ⟨e3, e4⟩ := HOU2.out
                  obtain ⟨e5, e6, e7⟩ := HMN.out
                  have e8 := HPS.out
                  have hfinal : tTable s1 fdata key = out3 ++ fb := by
                    unfold tTable
                    rw [e8, HFL.out, e5, e6, e7, HMB.out, HIB.out, e1, e2, e3, e4, HOU3.out, HH1.out, HH2.out, HFT.out, HFB.out]
                  rw [HS1.out, hfinal]
                  exact hG
end Go.Proofs.YtloflmcgbbbnjaaDoor
