/-
  table.blockWriter: append.
-/
import Derived.Test.YtloflmcgbbbnjaaDoorBuf2
import Derived.Test.YtloflmcgbbbnjaaDoorPutF
import Derived.Test.YtloflmcgbbbnjaaDoorShared
import Derived.Test.YtloflmcgbbbnjaaDoorOwnStep
import Derived.Test.YtloflmcgbbbnjaaDoorPlainBlock
namespace Go.Proofs.YtloflmcgbbbnjaaDoor
open Go.RowKit Plain
set_option linter.all false

theorem Tryd.info_u32 : (Tryd.prog.info? 181).map (fun i => (i.zero, i.size, i.bytes)) = some (some (.int .u32 0), 1, 4) := by kernel_rfl
def c32 (l : List Nat) : List Value := l.map fun x : Nat => .int .u32 (x : Int)
theorem c32_length (l : List Nat) : (c32 l).length = l.length := by simp [c32]
theorem c32_append (a b : List Nat) : c32 (a ++ b) = c32 a ++ c32 b := by simp [c32]
theorem c32_one (l : List Nat) : ∀ v ∈ c32 l, v.oneCell' = true := by
  intro v hv
  obtain ⟨b, _, rfl⟩ := List.mem_map.1 hv
  rfl
/-- A block's writer at ⟨b, o⟩: every rs pairs a restart; nE pairs taken; data, the last key, the restarts; its scratch at ⟨sg, so⟩. -/
def BW (b o rs nE : Nat) (data prev : List UInt8) (rst : List Nat) (sg so : Nat) (F : List Fr) : Prop :=
  ∃ pA pc rA rc Fb Fp Fq, BufF b (o + 1) data Fb ∧ Row 5 1 pA prev.length pc (bc prev) Fp ∧ Row 181 1 rA rst.length rc (c32 rst) Fq ∧
    F = fp b o [.int .i64 rs] :: fp b (o + 67) [.int .i64 nE, .slice pA prev.length pc, .slice rA rst.length rc, .slice (some ⟨sg, so, none⟩) 30 30] :: (Fb ++ (Fp ++ Fq))

theorem bw_hdr {b o : Nat} {v0 v1 v2 v3 v4 : Value} {L : List Fr} {w0 w : World} (hO : Own (fp b o [v0] :: fp b (o + 67) [v1, v2, v3, v4] :: L) w0 w) :
    w.cell? ⟨b, o, none⟩ = some v0 ∧ w.cell? ⟨b, o + 67, none⟩ = some v1 ∧ w.cell? ⟨b, o + 68, none⟩ = some v2 ∧ w.cell? ⟨b, o + 69, none⟩ = some v3 ∧ w.cell? ⟨b, o + 70, none⟩ = some v4 ∧ (∀ k, w.frozen? ⟨b, k, none⟩ = false) ∧ b < w.heap.size :=
  ⟨hO.cell 0 rfl 0 rfl (by simp), hO.cell 1 rfl 0 rfl (by simp), hO.cell 1 rfl 1 (by simp) (by simp), hO.cell 1 rfl 2 (by simp) (by simp), hO.cell 1 rfl 3 (by simp) (by simp), fun k => hO.frozen 0 rfl k, hO.lt (x := fp b o [v0]) (by simp)⟩
def bwN (rs nE : Nat) (prev k : List UInt8) : Nat := if nE % rs = 0 then 0 else shared prev k
def bwR (rs nE : Nat) (data : List UInt8) (rst : List Nat) : List Nat := if nE % rs = 0 then rst ++ [data.length] else rst
set_option maxHeartbeats 3200000 in
set_option maxRecDepth 100000 in
theorem bw_append (b o rs nE kc vc sg so : Nat) (kA vA : Option Addr) (data prev k v : List UInt8) (rst : List Nat) (scr : List Value) (F R : List Fr) (w0 w : World) (h : BW b o rs nE data prev rst sg so F)
    (hO : Own (F ++ (fp sg so scr :: R)) w0 w) (hs : scr.length = 30) (hk : Rd R w0 kA k) (hv : Rd R w0 vA v) (hkc : k.length ≤ kc) (hrs : 0 < rs) (h0 : rs ≤ 1073741824) (h1 : data.length ≤ 1073741824) (h2 : k.length ≤ 2147483648) (h3 : v.length ≤ 2147483648) (h4 : nE ≤ 1073741824) (h5 : rst.length ≤ 1073741824) (h6 : prev.length ≤ 2147483648) :
    Calls Tryd.prog 76 #[.pointer (some ⟨b, o, none⟩), .slice kA k.length kc, .slice vA v.length vc] w fun e w' => e = .returned (.tuple #[]) ∧
      ∃ F' scr', BW b o rs (nE + 1) (data ++ ent (bwN rs nE prev k) k v) k (bwR rs nE data rst) sg so F' ∧ scr'.length = 30 ∧ Own (F' ++ (fp sg so scr' :: R)) w0 w' := by
  obtain ⟨pA, pc, rA, rc, Fb, Fp, Fq, hB, hP, hQ, rfl⟩ := h
  obtain ⟨c0, c1, c2, c3, c4, f0, bl⟩ := bw_hdr hO
  have r1 : ¬ (rs : Int) = 0 := by omega
  have HO := hid hO
  have HB := hid hB
  have HP := hid hP
  have HQ := hid hQ
  clear hO hB hP hQ
  go_enter Tryd.func76, Tryd.ntmps76
  go_wp2
  go_quiet (fail)
  have hO1 := HO.out.drewN nq
  generalize w.drewN nq = W at hO1 ⊢
  clear c0 c1 c2 c3 c4 f0 bl HO
  have HO := hid hO1
  clear hO1
  go_upto_if 17 with fail
  go_cut [6] (fun s6 wx => ∃ rA' rc' Fq', s6 = .int .i64 (bwN rs nE prev k) ∧ Row 181 1 rA' (bwR rs nE data rst).length rc' (c32 (bwR rs nE data rst)) Fq' ∧
    Own (fp b o [.int .i64 rs] :: fp b (o + 67) [.int .i64 nE, .slice pA prev.length pc, .slice rA' (bwR rs nE data rst).length rc', .slice (some ⟨sg, so, none⟩) 30 30] :: (Fb ++ (Fp ++ Fq')) ++ (fp sg so scr :: R)) w0 wx)
  case first =>
    obtain ⟨c0, c1, c2, c3, c4, f0, bl⟩ := bw_hdr HO.out
    by_cases hm : nE % rs = 0
    · have r2 : (((nE : Int).tmod (rs : Int)) == 0) = true := by
        rw [show (nE : Int).tmod (rs : Int) = ((nE % rs : Nat) : Int) by rw [Int.tmod_eq_emod_of_nonneg (by omega)]; omega, hm]; rfl
      have r3 : (((nE : Int) % (rs : Int)) == 0) = true := by
        rw [show (nE : Int) % (rs : Int) = ((nE % rs : Nat) : Int) by omega, hm]; rfl
      have HM := hid hm
      clear hm
      have e5 : IntKind.u32.wrap (data.length : Int) = (data.length : Int) := by simp [IntKind.wrap, IntKind.bits, IntKind.signed]; omega
      have e6 : (data.length : Int) % 4294967296 = (data.length : Int) := by omega
      go_wp2
      go_region_law (first
        | (go_simp; go_at_call 92; refine (len_buf b (o + 1) data Fb (fp b o [.int .i64 rs] :: fp b (o + 67) [.int .i64 nE, .slice pA prev.length pc, .slice rA rst.length rc, .slice (some ⟨sg, so, none⟩) 30 30] :: (Fp ++ Fq) ++ (fp sg so scr :: R)) w0 _ HB.out (HO.out.drew.perm (perm_of fun _ _ z => by simp only [List.count_append, List.count_cons, List.cons_append]; omega)) (by omega)).mono ?_; rintro e w1 ⟨rfl, hd⟩; have hO1 := HO.out.drew.dr hd; clear hd c0 c1 c2 c3 c4 f0 bl; obtain ⟨c0, c1, c2, c3, c4, f0, bl⟩ := bw_hdr hO1; have HO1 := hid hO1; clear hO1)
        | (refine own_step_append rfl (.tmp 22) (.tmp 28) 137 rfl 181 (.int .u32 0) 1 4 Tryd.underlying137 Tryd.info_u32 rfl (by decide) rA rst.length rc (c32 rst) Fq rfl HQ.out (R := fp b o [.int .i64 rs] :: fp b (o + 67) [.int .i64 nE, .slice pA prev.length pc, .slice rA rst.length rc, .slice (some ⟨sg, so, none⟩) 30 30] :: (Fb ++ Fp ++ (fp sg so scr :: R))) ((HO1.out.skip _).perm (perm_of fun _ _ z => by simp only [List.count_append, List.count_cons, List.cons_append]; omega)) (some ⟨w1.heap.size, 0, none⟩) 1 1 [.int .u32 (data.length : Int)] rfl rfl (csAt_one _ _ _) (by simp [Value.oneCell']) (by simp [maxLen]; omega) (by omega) ?_; intro rA' rc' Fq' w2 hQ2 hO2 _; clear c0 c1 c2 c3 c4 f0 bl HO1; obtain ⟨c0, c1, c2, c3, c4, f0, bl⟩ := bw_hdr hO2.right; have HO := hid hO2; have HQ := hid hQ2; clear hO2 hQ2))
      all_goals
        go_wp2_with fail
        go_meet
        have e1 : bwR rs nE data rst = rst ++ [data.length] := if_pos HM.out
        have e2 : bwN rs nE prev k = 0 := if_pos HM.out
        refine ⟨rA', rc', Fq', by rw [e2]; rfl, ?_, ?_⟩
        · rw [e1]; simpa [c32] using HQ.out
        · rw [e1]
          have h8 : Own (fp b (o + 67) [.int .i64 nE, .slice pA prev.length pc, .slice rA' (rst.length + 1) rc', .slice (some ⟨sg, so, none⟩) 30 30] :: (fp b o [.int .i64 rs] :: (Fq' ++ (Fb ++ Fp ++ (fp sg so scr :: R))))) w0 _ := (HO.out.perm (L' := fp b (o + 67) [.int .i64 nE, .slice pA prev.length pc, .slice rA rst.length rc, .slice (some ⟨sg, so, none⟩) 30 30] :: (fp b o [.int .i64 rs] :: (Fq' ++ (Fb ++ Fp ++ (fp sg so scr :: R))))) (perm_of fun _ _ z => by simp only [List.count_append, List.count_cons, List.cons_append]; omega)).set (k := o + 69) 2 (by simp) (by simp) (.slice rA' (rst.length + 1) rc')
          rw [List.length_append, List.length_singleton]
          exact h8.perm (perm_of fun _ _ z => by simp only [List.count_append, List.count_cons, List.cons_append]; omega)
    · have hm' : ¬ ((nE % rs : Nat) : Int) = 0 := by omega
      have r2 : (((nE : Int).tmod (rs : Int)) == 0) = false := by
        rw [show (nE : Int).tmod (rs : Int) = ((nE % rs : Nat) : Int) by rw [Int.tmod_eq_emod_of_nonneg (by omega)]; omega]; simpa using hm'
      have r3 : (((nE : Int) % (rs : Int)) == 0) = false := by
        rw [show (nE : Int) % (rs : Int) = ((nE % rs : Nat) : Int) by omega]; simpa using hm'
      have HM := hid hm
      clear hm hm'
      have hbp : BsAt W pA prev := HO.out.st (HP.out.rd w0) (by intro x hx; simp [hx])
      have hbk : BsAt W kA k := HO.out.st hk (by intro x hx; simp [hx])
      go_wp2_with (go_at_call 102; refine (spl_any pA kA _ _ pc kc prev k _ hbp hbk rfl rfl (by omega) (by omega)).mono ?_; rintro e w1 ⟨rfl, hd⟩; have HD := hid hd; clear hd)
      go_meet
      have e1 : bwR rs nE data rst = rst := if_neg HM.out
      have e2 : bwN rs nE prev k = shared prev k := if_neg HM.out
      refine ⟨rA, rc, Fq, by rw [e2], ?_, ?_⟩
      · rw [e1]; exact HQ.out
      · rw [e1]; exact HO.out.dr HD.out
  case rest =>
    obtain ⟨rA', rc', Fq', rfl, hQ2, hO⟩ := hcut
    obtain ⟨c0, c1, c2, c3, c4, f0, bl⟩ := bw_hdr hO
    have hnk : bwN rs nE prev k ≤ k.length := by unfold bwN; split <;> have := shared_le prev k <;> omega
    obtain ⟨n, hn⟩ : ∃ n, bwN rs nE prev k = n := ⟨_, rfl⟩
    obtain ⟨rst', hr'⟩ : ∃ r, bwR rs nE data rst = r := ⟨_, rfl⟩
    rw [hn] at hnk ⊢
    rw [hr'] at hQ2 hO c3
    have HN := hid hn
    have HR := hid hr'
    have lu1 := uv_len5 (x := n) (by omega)
    have lu2 := uv_len5 (x := k.length - n) (by omega)
    have lu3 := uv_len5 (x := v.length) (by omega)
    have lv1 := uv_pos n
    have lv2 := uv_pos (k.length - n)
    have lv3 := uv_pos v.length
    have HQ := hid hQ2
    have HO := hid hO
    clear hQ2 hO hn hr'
    have ee1 : ∀ x : Nat, IntKind.u64.wrap (x : Int) = if x < 18446744073709551616 then (x : Int) else IntKind.u64.wrap (x : Int) := fun x => by split <;> simp [IntKind.wrap, IntKind.bits, IntKind.signed]; omega
    have ka : IntKind.u64.wrap (n : Int) = (n : Int) := by rw [ee1, if_pos (by omega)]
    have kb : IntKind.i64.wrap ((k.length : Int) - (n : Int)) = (k.length : Int) - (n : Int) := i64_id (by omega) (by omega)
    have kc1 : IntKind.u64.wrap ((k.length : Int) - (n : Int)) = (k.length : Int) - (n : Int) := by
      have := ee1 (k.length - n)
      rw [if_pos (by omega), Int.ofNat_sub hnk] at this
      exact this
    have kd : IntKind.u64.wrap (v.length : Int) = (v.length : Int) := by rw [ee1, if_pos (by omega)]
    clear ee1
    go_wp2_with fail
    refine (putUv_n (fp sg so scr) 0 so 30 30 n _ (fp b o [.int .i64 rs] :: fp b (o + 67) [.int .i64 nE, .slice pA prev.length pc, .slice rA' rst'.length rc', .slice (some ⟨sg, so, none⟩) 30 30] :: (Fb ++ (Fp ++ Fq')) ++ R) w0 _ rfl rfl (HO.out.perm (perm_of fun _ _ z => by simp only [List.count_append, List.count_cons, List.cons_append]; omega)) (by simp [hs]) (by omega) (by omega) (by omega)).mono ?_
    rintro e w1 ⟨rfl, hO1⟩
    clear c0 c1 c2 c3 c4 f0 bl HO
    obtain ⟨c0, c1, c2, c3, c4, f0, bl⟩ := bw_hdr hO1.drop
    have HO := hid hO1
    clear hO1
    obtain ⟨l1, hl1⟩ : ∃ l, (uv n).length = l := ⟨_, rfl⟩
    obtain ⟨l2, hl2⟩ : ∃ l, (uv (k.length - n)).length = l := ⟨_, rfl⟩
    obtain ⟨l3, hl3⟩ : ∃ l, (uv v.length).length = l := ⟨_, rfl⟩
    rw [hl1] at lu1 lv1 ⊢
    rw [hl2] at lu2 lv2
    rw [hl3] at lu3 lv3
    have L1 := hid hl1
    have L2 := hid hl2
    have L3 := hid hl3
    clear hl1 hl2 hl3
    have hn1 : ¬ 30 = l1 := by omega
    have hs1 : (splice scr 0 (bc (uv n))).length = 30 := by rw [length_splice _ _ _ (by rw [bc_length, L1.out]; omega), hs]
    go_wp2_with fail
    refine (putUv_n (fp sg so (splice scr 0 (bc (uv n)))) l1 (so + l1) (30 - l1) (30 - l1) (k.length - n) _ (fp b o [.int .i64 rs] :: fp b (o + 67) [.int .i64 nE, .slice pA prev.length pc, .slice rA' rst'.length rc', .slice (some ⟨sg, so, none⟩) 30 30] :: (Fb ++ (Fp ++ Fq')) ++ R) w0 _ (by omega) rfl HO.out (by simp only [hs1]; omega) (by rw [L2.out]; omega) (by omega) (by omega)).mono ?_
    rintro e w2 ⟨rfl, hO1⟩
    rw [L2.out]
    clear c0 c1 c2 c3 c4 f0 bl HO
    obtain ⟨c0, c1, c2, c3, c4, f0, bl⟩ := bw_hdr hO1.drop
    have HO := hid hO1
    clear hO1
    have hs2 : (splice (splice scr 0 (bc (uv n))) l1 (bc (uv (k.length - n)))).length = 30 := by rw [length_splice _ _ _ (by rw [bc_length, L2.out]; omega), hs1]
    have hn2 : ¬ 30 = l1 + l2 := by omega
    have tn2 : ((l1 : Int) + (l2 : Int)).toNat = l1 + l2 := by omega
    have le2 : (l1 : Int) + (l2 : Int) ≤ 30 := by omega
    go_wp2_with fail
    refine (putUv_n (fp sg so (splice (splice scr 0 (bc (uv n))) l1 (bc (uv (k.length - n))))) (l1 + l2) (so + (l1 + l2)) (30 - (l1 + l2)) (30 - (l1 + l2)) v.length _ (fp b o [.int .i64 rs] :: fp b (o + 67) [.int .i64 nE, .slice pA prev.length pc, .slice rA' rst'.length rc', .slice (some ⟨sg, so, none⟩) 30 30] :: (Fb ++ (Fp ++ Fq')) ++ R) w0 _ rfl rfl HO.out (by simp only [hs2]; omega) (by rw [L3.out]; omega) (by omega) (by omega)).mono ?_
    rintro e w3 ⟨rfl, hO1⟩
    rw [L3.out]
    have hs3 : (splice (splice (splice scr 0 (bc (uv n))) l1 (bc (uv (k.length - n)))) (l1 + l2) (bc (uv v.length))).length = 30 := by rw [length_splice _ _ _ (by rw [bc_length, L3.out]; omega), hs2]
    have hp3 : (splice (splice (splice scr 0 (bc (uv n))) l1 (bc (uv (k.length - n)))) (l1 + l2) (bc (uv v.length))).take (l1 + l2 + l3) = bc (uv n ++ uv (k.length - n) ++ uv v.length) := by
      have q1 := splice_splice scr 0 (bc (uv n)) (bc (uv (k.length - n))) (by rw [bc_length, L1.out]; omega)
      rw [bc_length, L1.out, Nat.zero_add] at q1
      have q2 := splice_splice scr 0 (bc (uv n) ++ bc (uv (k.length - n))) (bc (uv v.length)) (by rw [List.length_append, bc_length, bc_length, L1.out, L2.out]; omega)
      rw [List.length_append, bc_length, bc_length, L1.out, L2.out, Nat.zero_add, ← q1] at q2
      rw [q2, bc_append, bc_append]
      have q3 := splice_take0 scr (bc (uv n) ++ bc (uv (k.length - n)) ++ bc (uv v.length)) (by simp only [List.length_append, bc_length, L1.out, L2.out, L3.out]; omega)
      simp only [List.length_append, bc_length, L1.out, L2.out, L3.out] at q3
      exact q3
    have hpl : (uv n ++ uv (k.length - n) ++ uv v.length).length = l1 + l2 + l3 := by simp only [List.length_append, L1.out, L2.out, L3.out]
    generalize splice (splice (splice scr 0 (bc (uv n))) l1 (bc (uv (k.length - n)))) (l1 + l2) (bc (uv v.length)) = scr3 at hs3 hp3 hO1
    obtain ⟨p1, hp1⟩ : ∃ p, uv n ++ uv (k.length - n) ++ uv v.length = p := ⟨_, rfl⟩
    rw [hp1] at hp3 hpl
    have HP1 := hid hp1
    have HP3 := hid hp3
    have HPL := hid hpl
    clear c0 c1 c2 c3 c4 f0 bl HO hp1 hp3 hpl hs1 hs2 ka kb kc1 kd hn1 hn2 tn2 le2
    obtain ⟨c0, c1, c2, c3, c4, f0, bl⟩ := bw_hdr hO1.drop
    have hO1' : Own (fp sg so scr3 :: (fp b o [.int .i64 rs] :: fp b (o + 67) [.int .i64 nE, .slice pA prev.length pc, .slice rA' rst'.length rc', .slice (some ⟨sg, so, none⟩) 30 30] :: (Fb ++ (Fp ++ Fq')) ++ R)) w0 w3 := hO1
    have HO := hid hO1'
    clear hO1 hO1'
    have le3 : (l1 : Int) + (l2 : Int) + (l3 : Int) ≤ 30 := by omega
    have tn3 : ((l1 : Int) + (l2 : Int) + (l3 : Int)).toNat = l1 + l2 + l3 := by omega
    have ge3 : 0 ≤ (l1 : Int) + (l2 : Int) + (l3 : Int) := by omega
    go_wp2_with fail
    go_still_tail 9, (by kernel_rfl)
    go_wp2_with fail
    have hp0 : p1 ≠ [] := by
      intro h
      have := HPL.out
      rw [h] at this
      simp at this
      omega
    have hne : data ++ p1 ≠ [] := by simp [hp0]
    have HNE := hid hne
    clear hne
    refine (write_any b (o + 1) (l1 + l2 + l3) 30 (some ⟨sg, so, none⟩) data p1 Fb (fp b o [.int .i64 rs] :: fp b (o + 67) [.int .i64 nE, .slice pA prev.length pc, .slice rA' rst'.length rc', .slice (some ⟨sg, so, none⟩) 30 30] :: (fp sg so scr3 :: (Fp ++ Fq' ++ R))) w0 _ HB.out (HO.out.drew.perm (perm_of fun _ _ z => by simp only [List.count_append, List.count_cons, List.cons_append]; omega)) (Rd.fr (x := fp sg so scr3) (by simp) (i := 0) rfl (by rw [HPL.out]; show 0 + (l1 + l2 + l3) ≤ scr3.length; omega) (by rw [HPL.out]; simpa using HP3.out)) HPL.out.symm (.inl hp0) (by rw [HPL.out]; omega)).mono ?_
    rintro e w4 ⟨rfl, Fb1, hB1, hO1⟩
    clear c0 c1 c2 c3 c4 f0 bl HO hp0
    have HO := hid hO1
    have HB1 := hid hB1
    clear hO1 hB1
    go_upto_region 8 with fail
    go_cut [] (fun wx => ∃ Fb2, BufF b (o + 1) (data ++ p1 ++ k.drop n) Fb2 ∧ Own (Fb2 ++ (fp b o [.int .i64 rs] :: fp b (o + 67) [.int .i64 nE, .slice pA prev.length pc, .slice rA' rst'.length rc', .slice (some ⟨sg, so, none⟩) 30 30] :: (fp sg so scr3 :: (Fp ++ Fq' ++ R)))) w0 wx)
    case first =>
      obtain ⟨c0, c1, c2, c3, c4, f0, bl⟩ := bw_hdr HO.out.right
      by_cases hkn : kc = n
      · subst hkn
        have hd0 : k.drop kc = [] := List.drop_eq_nil_of_le hkc
        have HD0 := hid hd0
        clear hd0
        go_still_tail 6, (by kernel_rfl)
        go_wp2_with fail
        refine (write_any b (o + 1) _ _ _ (data ++ p1) [] Fb1 (fp b o [.int .i64 rs] :: fp b (o + 67) [.int .i64 nE, .slice pA prev.length pc, .slice rA' rst'.length rc', .slice (some ⟨sg, so, none⟩) 30 30] :: (fp sg so scr3 :: (Fp ++ Fq' ++ R))) w0 _ HB1.out HO.out.drew (Rd.nil _ _ _) (by rw [List.length_nil]) (.inr HNE.out) (by rw [List.length_append, HPL.out, List.length_nil]; omega)).mono ?_
        rintro e w5 ⟨rfl, Fb2, hB2, hO2⟩
        have HO2 := hid hO2
        have HB2 := hid hB2
        clear hO2 hB2
        go_wp2_with fail
        go_meet
        exact ⟨Fb2, by rw [HD0.out]; exact HB2.out, HO2.out⟩
      · go_still_tail 6, (by kernel_rfl)
        go_wp2_with fail
        refine (write_any b (o + 1) _ _ _ (data ++ p1) (k.drop n) Fb1 (fp b o [.int .i64 rs] :: fp b (o + 67) [.int .i64 nE, .slice pA prev.length pc, .slice rA' rst'.length rc', .slice (some ⟨sg, so, none⟩) 30 30] :: (fp sg so scr3 :: (Fp ++ Fq' ++ R))) w0 _ HB1.out HO.out.drew (Rd.cutM (St.cons (St.cons (St.cons (St.right hk (Fp ++ Fq')) _) _) _) n) (by rw [List.length_drop]) (.inr HNE.out) (by rw [List.length_append, HPL.out, List.length_drop]; omega)).mono ?_
        rintro e w5 ⟨rfl, Fb2, hB2, hO2⟩
        have HO2 := hid hO2
        have HB2 := hid hB2
        clear hO2 hB2
        go_wp2_with fail
        go_meet
        exact ⟨Fb2, HB2.out, HO2.out⟩
    case rest =>
      obtain ⟨Fb2, hB2, hO2⟩ := hcut
      obtain ⟨c0, c1, c2, c3, c4, f0, bl⟩ := bw_hdr hO2.right
      have HO2 := hid hO2
      have HB2 := hid hB2
      clear hO2 hB2 HB1 HO
      have hne : data ++ p1 ++ k.drop n ≠ [] := fun h => HNE.out (List.append_eq_nil_iff.1 h).1
      go_wp2_with fail
      refine (write_any b (o + 1) _ _ _ (data ++ p1 ++ k.drop n) v Fb2 (fp b o [.int .i64 rs] :: fp b (o + 67) [.int .i64 nE, .slice pA prev.length pc, .slice rA' rst'.length rc', .slice (some ⟨sg, so, none⟩) 30 30] :: (fp sg so scr3 :: (Fp ++ Fq' ++ R))) w0 _ HB2.out HO2.out (St.cons (St.cons (St.cons (St.right hv (Fp ++ Fq')) _) _) _) rfl (.inr hne) (by simp only [List.length_append, HPL.out, List.length_drop]; omega)).mono ?_
      rintro e w6 ⟨rfl, Fb3, hB3, hO3⟩
      clear c0 c1 c2 c3 c4 f0 bl HO2 hne
      obtain ⟨c0, c1, c2, c3, c4, f0, bl⟩ := bw_hdr hO3.right
      have HO := hid hO3
      have HB3 := hid hB3
      clear hO3 hB3 HB2
      have hP0 : Row 5 1 pA 0 pc [] Fp := by simpa using HP.out.back (m := 0) (Nat.zero_le _)
      have hbk : BsAt w6 kA k := HO.out.st hk (by intro x hx; simp [hx])
      have e9 : IntKind.i64.wrap ((nE : Int) + 1) = (nE : Int) + 1 := i64_id (by omega) (by omega)
      go_wp2_with (at_builtin; refine own_append rfl (.tmp 99) (.tmp 100) 25 rfl 5 (.int .u8 0) 1 1 Tryd.underlying25 Tryd.info_u8 rfl (by decide) pA 0 pc [] Fp rfl hP0 (R := fp b o [.int .i64 rs] :: fp b (o + 67) [.int .i64 nE, .slice pA prev.length pc, .slice rA' rst'.length rc', .slice (some ⟨sg, so, none⟩) 30 30] :: (fp sg so scr3 :: (Fb3 ++ Fq' ++ R))) (HO.out.perm (perm_of fun _ _ z => by simp only [List.count_append, List.count_cons, List.cons_append]; omega)) kA k.length kc (bc k) rfl (by rw [bc_length, Nat.mul_one]) hbk.cs (bc_one k) (by simp [maxLen]; omega) (by omega) ?_; intro pA' pc' Fp' w7 hP7 hO7 _; clear c0 c1 c2 c3 c4 f0 bl HO hP0 hbk; obtain ⟨c0, c1, c2, c3, c4, f0, bl⟩ := bw_hdr hO7.right; have HO := hid hO7; have HP7 := hid hP7; clear hO7 hP7)
      go_end0
      refine ⟨rfl, fp b o [.int .i64 rs] :: fp b (o + 67) [.int .i64 ((nE + 1 : Nat) : Int), .slice pA' k.length pc', .slice rA' rst'.length rc', .slice (some ⟨sg, so, none⟩) 30 30] :: (Fb3 ++ (Fp' ++ Fq')), scr3, ⟨pA', pc', rA', rc', Fb3, Fp', Fq', ?_, ?_, ?_, ?_⟩, hs3, ?_⟩
      · have h9 := HB3.out
        rw [← HP1.out, ← HN.out] at h9
        have e10 : data ++ ent (bwN rs nE prev k) k v = data ++ (uv (bwN rs nE prev k) ++ uv (k.length - bwN rs nE prev k) ++ uv v.length) ++ k.drop (bwN rs nE prev k) ++ v := by simp [ent]
        rw [e10]
        exact h9
      · have h9 := HP7.out
        rw [Nat.zero_add, List.nil_append] at h9
        exact h9
      · rw [HR.out]; exact HQ.out
      · rw [HR.out]
      · have h9 : Own (fp b (o + 67) [.int .i64 nE, .slice pA prev.length pc, .slice rA' rst'.length rc', .slice (some ⟨sg, so, none⟩) 30 30] :: (fp b o [.int .i64 rs] :: (Fp' ++ (fp sg so scr3 :: (Fb3 ++ Fq' ++ R))))) w0 w7 := HO.out.perm (perm_of fun _ _ z => by simp only [List.count_append, List.count_cons, List.cons_append]; omega)
        have h10 : Own (fp b (o + 67) [.int .i64 ((nE + 1 : Nat) : Int), .slice pA' k.length pc', .slice rA' rst'.length rc', .slice (some ⟨sg, so, none⟩) 30 30] :: (fp b o [.int .i64 rs] :: (Fp' ++ (fp sg so scr3 :: (Fb3 ++ Fq' ++ R))))) w0 _ := (h9.set (k := o + 68) 1 (by simp) (by simp) (.slice pA' k.length pc')).set (k := o + 67) 0 (by simp) (by simp) (.int .i64 ((nE + 1 : Nat) : Int))
        have h11 := h10.perm (L' := fp b o [.int .i64 rs] :: fp b (o + 67) [.int .i64 ((nE + 1 : Nat) : Int), .slice pA' k.length pc', .slice rA' rst'.length rc', .slice (some ⟨sg, so, none⟩) 30 30] :: (Fb3 ++ (Fp' ++ Fq')) ++ (fp sg so scr3 :: R)) (perm_of fun _ _ z => by simp only [List.count_append, List.count_cons, List.cons_append]; omega)
        simpa using h11
end Go.Proofs.YtloflmcgbbbnjaaDoor
