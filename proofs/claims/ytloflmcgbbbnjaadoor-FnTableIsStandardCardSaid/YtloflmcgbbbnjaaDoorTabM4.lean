/-
  table.blockWriter: append.
  table.blockWriter: finish.
  A REGION THAT DRAWS ITS ORDER, with late operations (T) behind which nothing of what is held need hold any more: each of them waits for whatever is taken first.
  util.Buffer: Truncate to nothing, Reset, WriteByte.
  PLAIN: what a writer of tables does, step by step. No Go in sight.
  blockWriter: reset, bytesLen; encodeBlockHandle.
  PLAIN: the check sum of a table's blocks, byte by byte over a table of 256 words.
  The check sum: the package's, over a table of its own.
-/
import Derived.Test.YtloflmcgbbbnjaaDoorTabM3
import Derived.Deep.RegionHeld3
import Derived.Test.YtloflmcgbbbnjaaDoorTabM2
import Derived.Test.YtloflmcgbbbnjaaDoorTabM1
namespace Go.Proofs.YtloflmcgbbbnjaaDoor
open Go.RowKit Plain
set_option linter.all false

theorem Tryd.info_u32 : (Tryd.prog.info? 181).map (fun i => (i.zero, i.size, i.bytes)) = some (some (.int .u32 0), 1, 4) := by kernel_rfl
def c32 (l : List Nat) : List Value := l.map fun x : Nat => .int .u32 (x : Int)
theorem c32_length (l : List Nat) : (c32 l).length = l.length := by simp [c32]
theorem c32_append (a b : List Nat) : c32 (a ++ b) = c32 a ++ c32 b := by simp [c32]
theorem c32_one (l : List Nat) : ∀ v ∈ c32 l, v.oneCell' = true := by
  intro v hv
  obtain ⟨b, _, rfl⟩ := List.mem_map.1 hv
  rfl
/-- A block's writer at ⟨b, o⟩: every rs pairs a restart; nE pairs taken; data, the last key, the restarts; its scratch at ⟨sg, so⟩. -/
def BW (b o rs nE : Nat) (data prev : List UInt8) (rst : List Nat) (sg so : Nat) (F : List Fr) : Prop :=
  ∃ pA pc rA rc Fb Fp Fq, BufF b (o + 1) data Fb ∧ Row 5 1 pA prev.length pc (bc prev) Fp ∧ Row 181 1 rA rst.length rc (c32 rst) Fq ∧
    F = fp b o [.int .i64 rs] :: fp b (o + 67) [.int .i64 nE, .slice pA prev.length pc, .slice rA rst.length rc, .slice (some ⟨sg, so, none⟩) 30 30] :: (Fb ++ (Fp ++ Fq))

theorem bw_hdr {b o : Nat} {v0 v1 v2 v3 v4 : Value} {L : List Fr} {w0 w : World} (hO : Own (fp b o [v0] :: fp b (o + 67) [v1, v2, v3, v4] :: L) w0 w) :
    w.cell? ⟨b, o, none⟩ = some v0 ∧ w.cell? ⟨b, o + 67, none⟩ = some v1 ∧ w.cell? ⟨b, o + 68, none⟩ = some v2 ∧ w.cell? ⟨b, o + 69, none⟩ = some v3 ∧ w.cell? ⟨b, o + 70, none⟩ = some v4 ∧ (∀ k, w.frozen? ⟨b, k, none⟩ = false) ∧ b < w.heap.size :=
  ⟨hO.cell 0 rfl 0 rfl (by simp), hO.cell 1 rfl 0 rfl (by simp), hO.cell 1 rfl 1 (by simp) (by simp), hO.cell 1 rfl 2 (by simp) (by simp), hO.cell 1 rfl 3 (by simp) (by simp), fun k => hO.frozen 0 rfl k, hO.lt (x := fp b o [v0]) (by simp)⟩
def bwN (rs nE : Nat) (prev k : List UInt8) : Nat := if nE % rs = 0 then 0 else shared prev k
def bwR (rs nE : Nat) (data : List UInt8) (rst : List Nat) : List Nat := if nE % rs = 0 then rst ++ [data.length] else rst
set_option maxHeartbeats 3200000 in
set_option maxRecDepth 100000 in
theorem bw_append (b o rs nE kc vc sg so : Nat) (kA vA : Option Addr) (data prev k v : List UInt8) (rst : List Nat) (scr : List Value) (F R : List Fr) (w0 w : World) (h : BW b o rs nE data prev rst sg so F)
    (hO : Own (F ++ (fp sg so scr :: R)) w0 w) (hs : scr.length = 30) (hk : Rd R w0 kA k) (hv : Rd R w0 vA v) (hkc : k.length ≤ kc) (hrs : 0 < rs) (h0 : rs ≤ 1073741824) (h1 : data.length ≤ 1073741824) (h2 : k.length ≤ 2147483648) (h3 : v.length ≤ 2147483648) (h4 : nE ≤ 1073741824) (h5 : rst.length ≤ 1073741824) (h6 : prev.length ≤ 2147483648) :
    Calls Tryd.prog 76 #[.pointer (some ⟨b, o, none⟩), .slice kA k.length kc, .slice vA v.length vc] w fun e w' => e = .returned (.tuple #[]) ∧
      ∃ F' scr', BW b o rs (nE + 1) (data ++ ent (bwN rs nE prev k) k v) k (bwR rs nE data rst) sg so F' ∧ scr'.length = 30 ∧ Own (F' ++ (fp sg so scr' :: R)) w0 w' := by
  obtain ⟨pA, pc, rA, rc, Fb, Fp, Fq, hB, hP, hQ, rfl⟩ := h
  obtain ⟨c0, c1, c2, c3, c4, f0, bl⟩ := bw_hdr hO
  have r1 : ¬ (rs : Int) = 0 := by omega
  have HO := hid hO
  have HB := hid hB
  have HP := hid hP
  have HQ := hid hQ
  clear hO hB hP hQ
  go_enter Tryd.func76, Tryd.ntmps76
  go_wp2
  go_quiet (fail)
  have hO1 := HO.out.drewN nq
  generalize w.drewN nq = W at hO1 ⊢
  clear c0 c1 c2 c3 c4 f0 bl HO
  have HO := hid hO1
  clear hO1
  go_upto_if 17 with fail
  go_cut [6] (fun s6 wx => ∃ rA' rc' Fq', s6 = .int .i64 (bwN rs nE prev k) ∧ Row 181 1 rA' (bwR rs nE data rst).length rc' (c32 (bwR rs nE data rst)) Fq' ∧
    Own (fp b o [.int .i64 rs] :: fp b (o + 67) [.int .i64 nE, .slice pA prev.length pc, .slice rA' (bwR rs nE data rst).length rc', .slice (some ⟨sg, so, none⟩) 30 30] :: (Fb ++ (Fp ++ Fq')) ++ (fp sg so scr :: R)) w0 wx)
  case first =>
    obtain ⟨c0, c1, c2, c3, c4, f0, bl⟩ := bw_hdr HO.out
    by_cases hm : nE % rs = 0
    · have r2 : (((nE : Int).tmod (rs : Int)) == 0) = true := by
        rw [show (nE : Int).tmod (rs : Int) = ((nE % rs : Nat) : Int) by rw [Int.tmod_eq_emod_of_nonneg (by omega)]; omega, hm]; rfl
      have r3 : (((nE : Int) % (rs : Int)) == 0) = true := by
        rw [show (nE : Int) % (rs : Int) = ((nE % rs : Nat) : Int) by omega, hm]; rfl
      have HM := hid hm
      clear hm
      have e5 : IntKind.u32.wrap (data.length : Int) = (data.length : Int) := by simp [IntKind.wrap, IntKind.bits, IntKind.signed]; omega
      have e6 : (data.length : Int) % 4294967296 = (data.length : Int) := by omega
      go_wp2
      go_region_law (first
        | (go_simp; go_at_call 92; refine (len_buf b (o + 1) data Fb (fp b o [.int .i64 rs] :: fp b (o + 67) [.int .i64 nE, .slice pA prev.length pc, .slice rA rst.length rc, .slice (some ⟨sg, so, none⟩) 30 30] :: (Fp ++ Fq) ++ (fp sg so scr :: R)) w0 _ HB.out (HO.out.drew.perm (perm_of fun _ _ z => by simp only [List.count_append, List.count_cons, List.cons_append]; omega)) (by omega)).mono ?_; rintro e w1 ⟨rfl, hd⟩; have hO1 := HO.out.drew.dr hd; clear hd c0 c1 c2 c3 c4 f0 bl; obtain ⟨c0, c1, c2, c3, c4, f0, bl⟩ := bw_hdr hO1; have HO1 := hid hO1; clear hO1)
        | (refine own_step_append rfl (.tmp 22) (.tmp 28) 137 rfl 181 (.int .u32 0) 1 4 Tryd.underlying137 Tryd.info_u32 rfl (by decide) rA rst.length rc (c32 rst) Fq rfl HQ.out (R := fp b o [.int .i64 rs] :: fp b (o + 67) [.int .i64 nE, .slice pA prev.length pc, .slice rA rst.length rc, .slice (some ⟨sg, so, none⟩) 30 30] :: (Fb ++ Fp ++ (fp sg so scr :: R))) ((HO1.out.skip _).perm (perm_of fun _ _ z => by simp only [List.count_append, List.count_cons, List.cons_append]; omega)) (some ⟨w1.heap.size, 0, none⟩) 1 1 [.int .u32 (data.length : Int)] rfl rfl (csAt_one _ _ _) (by simp [Value.oneCell']) (by simp [maxLen]; omega) (by omega) ?_; intro rA' rc' Fq' w2 hQ2 hO2 _; clear c0 c1 c2 c3 c4 f0 bl HO1; obtain ⟨c0, c1, c2, c3, c4, f0, bl⟩ := bw_hdr hO2.right; have HO := hid hO2; have HQ := hid hQ2; clear hO2 hQ2))
      all_goals
        go_wp2_with fail
        go_meet
        have e1 : bwR rs nE data rst = rst ++ [data.length] := if_pos HM.out
        have e2 : bwN rs nE prev k = 0 := if_pos HM.out
        refine ⟨rA', rc', Fq', by rw [e2]; rfl, ?_, ?_⟩
        · rw [e1]; simpa [c32] using HQ.out
        · rw [e1]
          have h8 : Own (fp b (o + 67) [.int .i64 nE, .slice pA prev.length pc, .slice rA' (rst.length + 1) rc', .slice (some ⟨sg, so, none⟩) 30 30] :: (fp b o [.int .i64 rs] :: (Fq' ++ (Fb ++ Fp ++ (fp sg so scr :: R))))) w0 _ := (HO.out.perm (L' := fp b (o + 67) [.int .i64 nE, .slice pA prev.length pc, .slice rA rst.length rc, .slice (some ⟨sg, so, none⟩) 30 30] :: (fp b o [.int .i64 rs] :: (Fq' ++ (Fb ++ Fp ++ (fp sg so scr :: R))))) (perm_of fun _ _ z => by simp only [List.count_append, List.count_cons, List.cons_append]; omega)).set (k := o + 69) 2 (by simp) (by simp) (.slice rA' (rst.length + 1) rc')
          rw [List.length_append, List.length_singleton]
          exact h8.perm (perm_of fun _ _ z => by simp only [List.count_append, List.count_cons, List.cons_append]; omega)
    · have hm' : ¬ ((nE % rs : Nat) : Int) = 0 := by omega
      have r2 : (((nE : Int).tmod (rs : Int)) == 0) = false := by
        rw [show (nE : Int).tmod (rs : Int) = ((nE % rs : Nat) : Int) by rw [Int.tmod_eq_emod_of_nonneg (by omega)]; omega]; simpa using hm'
      have r3 : (((nE : Int) % (rs : Int)) == 0) = false := by
        rw [show (nE : Int) % (rs : Int) = ((nE % rs : Nat) : Int) by omega]; simpa using hm'
      have HM := hid hm
      clear hm hm'
      have hbp : BsAt W pA prev := HO.out.st (HP.out.rd w0) (by intro x hx; simp [hx])
      have hbk : BsAt W kA k := HO.out.st hk (by intro x hx; simp [hx])
      go_wp2_with (go_at_call 102; refine (spl_any pA kA _ _ pc kc prev k _ hbp hbk rfl rfl (by omega) (by omega)).mono ?_; rintro e w1 ⟨rfl, hd⟩; have HD := hid hd; clear hd)
      go_meet
      have e1 : bwR rs nE data rst = rst := if_neg HM.out
      have e2 : bwN rs nE prev k = shared prev k := if_neg HM.out
      refine ⟨rA, rc, Fq, by rw [e2], ?_, ?_⟩
      · rw [e1]; exact HQ.out
      · rw [e1]; exact HO.out.dr HD.out
  case rest =>
    obtain ⟨rA', rc', Fq', rfl, hQ2, hO⟩ := hcut
    obtain ⟨c0, c1, c2, c3, c4, f0, bl⟩ := bw_hdr hO
    have hnk : bwN rs nE prev k ≤ k.length := by unfold bwN; split <;> have := shared_le prev k <;> omega
    obtain ⟨n, hn⟩ : ∃ n, bwN rs nE prev k = n := ⟨_, rfl⟩
    obtain ⟨rst', hr'⟩ : ∃ r, bwR rs nE data rst = r := ⟨_, rfl⟩
    rw [hn] at hnk ⊢
    rw [hr'] at hQ2 hO c3
    have HN := hid hn
    have HR := hid hr'
    have lu1 := uv_len5 (x := n) (by omega)
    have lu2 := uv_len5 (x := k.length - n) (by omega)
    have lu3 := uv_len5 (x := v.length) (by omega)
    have lv1 := uv_pos n
    have lv2 := uv_pos (k.length - n)
    have lv3 := uv_pos v.length
    have HQ := hid hQ2
    have HO := hid hO
    clear hQ2 hO hn hr'
    have ee1 : ∀ x : Nat, IntKind.u64.wrap (x : Int) = if x < 18446744073709551616 then (x : Int) else IntKind.u64.wrap (x : Int) := fun x => by split <;> simp [IntKind.wrap, IntKind.bits, IntKind.signed]; omega
    have ka : IntKind.u64.wrap (n : Int) = (n : Int) := by rw [ee1, if_pos (by omega)]
    have kb : IntKind.i64.wrap ((k.length : Int) - (n : Int)) = (k.length : Int) - (n : Int) := i64_id (by omega) (by omega)
    have kc1 : IntKind.u64.wrap ((k.length : Int) - (n : Int)) = (k.length : Int) - (n : Int) := by
      have := ee1 (k.length - n)
      rw [if_pos (by omega), Int.ofNat_sub hnk] at this
      exact this
    have kd : IntKind.u64.wrap (v.length : Int) = (v.length : Int) := by rw [ee1, if_pos (by omega)]
    clear ee1
    go_wp2_with fail
    refine (putUv_n (fp sg so scr) 0 so 30 30 n _ (fp b o [.int .i64 rs] :: fp b (o + 67) [.int .i64 nE, .slice pA prev.length pc, .slice rA' rst'.length rc', .slice (some ⟨sg, so, none⟩) 30 30] :: (Fb ++ (Fp ++ Fq')) ++ R) w0 _ rfl rfl (HO.out.perm (perm_of fun _ _ z => by simp only [List.count_append, List.count_cons, List.cons_append]; omega)) (by simp [hs]) (by omega) (by omega) (by omega)).mono ?_
    rintro e w1 ⟨rfl, hO1⟩
    clear c0 c1 c2 c3 c4 f0 bl HO
    obtain ⟨c0, c1, c2, c3, c4, f0, bl⟩ := bw_hdr hO1.drop
    have HO := hid hO1
    clear hO1
    obtain ⟨l1, hl1⟩ : ∃ l, (uv n).length = l := ⟨_, rfl⟩
    obtain ⟨l2, hl2⟩ : ∃ l, (uv (k.length - n)).length = l := ⟨_, rfl⟩
    obtain ⟨l3, hl3⟩ : ∃ l, (uv v.length).length = l := ⟨_, rfl⟩
    rw [hl1] at lu1 lv1 ⊢
    rw [hl2] at lu2 lv2
    rw [hl3] at lu3 lv3
    have L1 := hid hl1
    have L2 := hid hl2
    have L3 := hid hl3
    clear hl1 hl2 hl3
    have hn1 : ¬ 30 = l1 := by omega
    have hs1 : (splice scr 0 (bc (uv n))).length = 30 := by rw [length_splice _ _ _ (by rw [bc_length, L1.out]; omega), hs]
    go_wp2_with fail
    refine (putUv_n (fp sg so (splice scr 0 (bc (uv n)))) l1 (so + l1) (30 - l1) (30 - l1) (k.length - n) _ (fp b o [.int .i64 rs] :: fp b (o + 67) [.int .i64 nE, .slice pA prev.length pc, .slice rA' rst'.length rc', .slice (some ⟨sg, so, none⟩) 30 30] :: (Fb ++ (Fp ++ Fq')) ++ R) w0 _ (by omega) rfl HO.out (by simp only [hs1]; omega) (by rw [L2.out]; omega) (by omega) (by omega)).mono ?_
    rintro e w2 ⟨rfl, hO1⟩
    rw [L2.out]
    clear c0 c1 c2 c3 c4 f0 bl HO
    obtain ⟨c0, c1, c2, c3, c4, f0, bl⟩ := bw_hdr hO1.drop
    have HO := hid hO1
    clear hO1
    have hs2 : (splice (splice scr 0 (bc (uv n))) l1 (bc (uv (k.length - n)))).length = 30 := by rw [length_splice _ _ _ (by rw [bc_length, L2.out]; omega), hs1]
    have hn2 : ¬ 30 = l1 + l2 := by omega
    have tn2 : ((l1 : Int) + (l2 : Int)).toNat = l1 + l2 := by omega
    have le2 : (l1 : Int) + (l2 : Int) ≤ 30 := by omega
    go_wp2_with fail
    refine (putUv_n (fp sg so (splice (splice scr 0 (bc (uv n))) l1 (bc (uv (k.length - n))))) (l1 + l2) (so + (l1 + l2)) (30 - (l1 + l2)) (30 - (l1 + l2)) v.length _ (fp b o [.int .i64 rs] :: fp b (o + 67) [.int .i64 nE, .slice pA prev.length pc, .slice rA' rst'.length rc', .slice (some ⟨sg, so, none⟩) 30 30] :: (Fb ++ (Fp ++ Fq')) ++ R) w0 _ rfl rfl HO.out (by simp only [hs2]; omega) (by rw [L3.out]; omega) (by omega) (by omega)).mono ?_
    rintro e w3 ⟨rfl, hO1⟩
    rw [L3.out]
    have hs3 : (splice (splice (splice scr 0 (bc (uv n))) l1 (bc (uv (k.length - n)))) (l1 + l2) (bc (uv v.length))).length = 30 := by rw [length_splice _ _ _ (by rw [bc_length, L3.out]; omega), hs2]
    have hp3 : (splice (splice (splice scr 0 (bc (uv n))) l1 (bc (uv (k.length - n)))) (l1 + l2) (bc (uv v.length))).take (l1 + l2 + l3) = bc (uv n ++ uv (k.length - n) ++ uv v.length) := by
      have q1 := splice_splice scr 0 (bc (uv n)) (bc (uv (k.length - n))) (by rw [bc_length, L1.out]; omega)
      rw [bc_length, L1.out, Nat.zero_add] at q1
      have q2 := splice_splice scr 0 (bc (uv n) ++ bc (uv (k.length - n))) (bc (uv v.length)) (by rw [List.length_append, bc_length, bc_length, L1.out, L2.out]; omega)
      rw [List.length_append, bc_length, bc_length, L1.out, L2.out, Nat.zero_add, ← q1] at q2
      rw [q2, bc_append, bc_append]
      have q3 := splice_take0 scr (bc (uv n) ++ bc (uv (k.length - n)) ++ bc (uv v.length)) (by simp only [List.length_append, bc_length, L1.out, L2.out, L3.out]; omega)
      simp only [List.length_append, bc_length, L1.out, L2.out, L3.out] at q3
      exact q3
    have hpl : (uv n ++ uv (k.length - n) ++ uv v.length).length = l1 + l2 + l3 := by simp only [List.length_append, L1.out, L2.out, L3.out]
    generalize splice (splice (splice scr 0 (bc (uv n))) l1 (bc (uv (k.length - n)))) (l1 + l2) (bc (uv v.length)) = scr3 at hs3 hp3 hO1
    obtain ⟨p1, hp1⟩ : ∃ p, uv n ++ uv (k.length - n) ++ uv v.length = p := ⟨_, rfl⟩
    rw [hp1] at hp3 hpl
    have HP1 := hid hp1
    have HP3 := hid hp3
    have HPL := hid hpl
    clear c0 c1 c2 c3 c4 f0 bl HO hp1 hp3 hpl hs1 hs2 ka kb kc1 kd hn1 hn2 tn2 le2
    obtain ⟨c0, c1, c2, c3, c4, f0, bl⟩ := bw_hdr hO1.drop
    have hO1' : Own (fp sg so scr3 :: (fp b o [.int .i64 rs] :: fp b (o + 67) [.int .i64 nE, .slice pA prev.length pc, .slice rA' rst'.length rc', .slice (some ⟨sg, so, none⟩) 30 30] :: (Fb ++ (Fp ++ Fq')) ++ R)) w0 w3 := hO1
    have HO := hid hO1'
    clear hO1 hO1'
    have le3 : (l1 : Int) + (l2 : Int) + (l3 : Int) ≤ 30 := by omega
    have tn3 : ((l1 : Int) + (l2 : Int) + (l3 : Int)).toNat = l1 + l2 + l3 := by omega
    have ge3 : 0 ≤ (l1 : Int) + (l2 : Int) + (l3 : Int) := by omega
    go_wp2_with fail
    go_still_tail 9, (by kernel_rfl)
    go_wp2_with fail
    have hp0 : p1 ≠ [] := by
      intro h
      have := HPL.out
      rw [h] at this
      simp at this
      omega
    have hne : data ++ p1 ≠ [] := by simp [hp0]
    have HNE := hid hne
    clear hne
    refine (write_any b (o + 1) (l1 + l2 + l3) 30 (some ⟨sg, so, none⟩) data p1 Fb (fp b o [.int .i64 rs] :: fp b (o + 67) [.int .i64 nE, .slice pA prev.length pc, .slice rA' rst'.length rc', .slice (some ⟨sg, so, none⟩) 30 30] :: (fp sg so scr3 :: (Fp ++ Fq' ++ R))) w0 _ HB.out (HO.out.drew.perm (perm_of fun _ _ z => by simp only [List.count_append, List.count_cons, List.cons_append]; omega)) (Rd.fr (x := fp sg so scr3) (by simp) (i := 0) rfl (by rw [HPL.out]; show 0 + (l1 + l2 + l3) ≤ scr3.length; omega) (by rw [HPL.out]; simpa using HP3.out)) HPL.out.symm (.inl hp0) (by rw [HPL.out]; omega)).mono ?_
    rintro e w4 ⟨rfl, Fb1, hB1, hO1⟩
    clear c0 c1 c2 c3 c4 f0 bl HO hp0
    have HO := hid hO1
    have HB1 := hid hB1
    clear hO1 hB1
    go_upto_region 8 with fail
    go_cut [] (fun wx => ∃ Fb2, BufF b (o + 1) (data ++ p1 ++ k.drop n) Fb2 ∧ Own (Fb2 ++ (fp b o [.int .i64 rs] :: fp b (o + 67) [.int .i64 nE, .slice pA prev.length pc, .slice rA' rst'.length rc', .slice (some ⟨sg, so, none⟩) 30 30] :: (fp sg so scr3 :: (Fp ++ Fq' ++ R)))) w0 wx)
    case first =>
      obtain ⟨c0, c1, c2, c3, c4, f0, bl⟩ := bw_hdr HO.out.right
      by_cases hkn : kc = n
      · subst hkn
        have hd0 : k.drop kc = [] := List.drop_eq_nil_of_le hkc
        have HD0 := hid hd0
        clear hd0
        go_still_tail 6, (by kernel_rfl)
        go_wp2_with fail
        refine (write_any b (o + 1) _ _ _ (data ++ p1) [] Fb1 (fp b o [.int .i64 rs] :: fp b (o + 67) [.int .i64 nE, .slice pA prev.length pc, .slice rA' rst'.length rc', .slice (some ⟨sg, so, none⟩) 30 30] :: (fp sg so scr3 :: (Fp ++ Fq' ++ R))) w0 _ HB1.out HO.out.drew (Rd.nil _ _ _) (by rw [List.length_nil]) (.inr HNE.out) (by rw [List.length_append, HPL.out, List.length_nil]; omega)).mono ?_
        rintro e w5 ⟨rfl, Fb2, hB2, hO2⟩
        have HO2 := hid hO2
        have HB2 := hid hB2
        clear hO2 hB2
        go_wp2_with fail
        go_meet
        exact ⟨Fb2, by rw [HD0.out]; exact HB2.out, HO2.out⟩
      · go_still_tail 6, (by kernel_rfl)
        go_wp2_with fail
        refine (write_any b (o + 1) _ _ _ (data ++ p1) (k.drop n) Fb1 (fp b o [.int .i64 rs] :: fp b (o + 67) [.int .i64 nE, .slice pA prev.length pc, .slice rA' rst'.length rc', .slice (some ⟨sg, so, none⟩) 30 30] :: (fp sg so scr3 :: (Fp ++ Fq' ++ R))) w0 _ HB1.out HO.out.drew (Rd.cutM (St.cons (St.cons (St.cons (St.right hk (Fp ++ Fq')) _) _) _) n) (by rw [List.length_drop]) (.inr HNE.out) (by rw [List.length_append, HPL.out, List.length_drop]; omega)).mono ?_
        rintro e w5 ⟨rfl, Fb2, hB2, hO2⟩
        have HO2 := hid hO2
        have HB2 := hid hB2
        clear hO2 hB2
        go_wp2_with fail
        go_meet
        exact ⟨Fb2, HB2.out, HO2.out⟩
    case rest =>
      obtain ⟨Fb2, hB2, hO2⟩ := hcut
      obtain ⟨c0, c1, c2, c3, c4, f0, bl⟩ := bw_hdr hO2.right
      have HO2 := hid hO2
      have HB2 := hid hB2
      clear hO2 hB2 HB1 HO
      have hne : data ++ p1 ++ k.drop n ≠ [] := fun h => HNE.out (List.append_eq_nil_iff.1 h).1
      go_wp2_with fail
      refine (write_any b (o + 1) _ _ _ (data ++ p1 ++ k.drop n) v Fb2 (fp b o [.int .i64 rs] :: fp b (o + 67) [.int .i64 nE, .slice pA prev.length pc, .slice rA' rst'.length rc', .slice (some ⟨sg, so, none⟩) 30 30] :: (fp sg so scr3 :: (Fp ++ Fq' ++ R))) w0 _ HB2.out HO2.out (St.cons (St.cons (St.cons (St.right hv (Fp ++ Fq')) _) _) _) rfl (.inr hne) (by simp only [List.length_append, HPL.out, List.length_drop]; omega)).mono ?_
      rintro e w6 ⟨rfl, Fb3, hB3, hO3⟩
      clear c0 c1 c2 c3 c4 f0 bl HO2 hne
      obtain ⟨c0, c1, c2, c3, c4, f0, bl⟩ := bw_hdr hO3.right
      have HO := hid hO3
      have HB3 := hid hB3
      clear hO3 hB3 HB2
      have hP0 : Row 5 1 pA 0 pc [] Fp := by simpa using HP.out.back (m := 0) (Nat.zero_le _)
      have hbk : BsAt w6 kA k := HO.out.st hk (by intro x hx; simp [hx])
      have e9 : IntKind.i64.wrap ((nE : Int) + 1) = (nE : Int) + 1 := i64_id (by omega) (by omega)
      go_wp2_with (at_builtin; refine own_append rfl (.tmp 99) (.tmp 100) 25 rfl 5 (.int .u8 0) 1 1 Tryd.underlying25 Tryd.info_u8 rfl (by decide) pA 0 pc [] Fp rfl hP0 (R := fp b o [.int .i64 rs] :: fp b (o + 67) [.int .i64 nE, .slice pA prev.length pc, .slice rA' rst'.length rc', .slice (some ⟨sg, so, none⟩) 30 30] :: (fp sg so scr3 :: (Fb3 ++ Fq' ++ R))) (HO.out.perm (perm_of fun _ _ z => by simp only [List.count_append, List.count_cons, List.cons_append]; omega)) kA k.length kc (bc k) rfl (by rw [bc_length, Nat.mul_one]) hbk.cs (bc_one k) (by simp [maxLen]; omega) (by omega) ?_; intro pA' pc' Fp' w7 hP7 hO7 _; clear c0 c1 c2 c3 c4 f0 bl HO hP0 hbk; obtain ⟨c0, c1, c2, c3, c4, f0, bl⟩ := bw_hdr hO7.right; have HO := hid hO7; have HP7 := hid hP7; clear hO7 hP7)
      go_end0
      refine ⟨rfl, fp b o [.int .i64 rs] :: fp b (o + 67) [.int .i64 ((nE + 1 : Nat) : Int), .slice pA' k.length pc', .slice rA' rst'.length rc', .slice (some ⟨sg, so, none⟩) 30 30] :: (Fb3 ++ (Fp' ++ Fq')), scr3, ⟨pA', pc', rA', rc', Fb3, Fp', Fq', ?_, ?_, ?_, ?_⟩, hs3, ?_⟩
      · have h9 := HB3.out
        rw [← HP1.out, ← HN.out] at h9
        have e10 : data ++ ent (bwN rs nE prev k) k v = data ++ (uv (bwN rs nE prev k) ++ uv (k.length - bwN rs nE prev k) ++ uv v.length) ++ k.drop (bwN rs nE prev k) ++ v := by simp [ent]
        rw [e10]
        exact h9
      · have h9 := HP7.out
        rw [Nat.zero_add, List.nil_append] at h9
        exact h9
      · rw [HR.out]; exact HQ.out
      · rw [HR.out]
      · have h9 : Own (fp b (o + 67) [.int .i64 nE, .slice pA prev.length pc, .slice rA' rst'.length rc', .slice (some ⟨sg, so, none⟩) 30 30] :: (fp b o [.int .i64 rs] :: (Fp' ++ (fp sg so scr3 :: (Fb3 ++ Fq' ++ R))))) w0 w7 := HO.out.perm (perm_of fun _ _ z => by simp only [List.count_append, List.count_cons, List.cons_append]; omega)
        have h10 : Own (fp b (o + 67) [.int .i64 ((nE + 1 : Nat) : Int), .slice pA' k.length pc', .slice rA' rst'.length rc', .slice (some ⟨sg, so, none⟩) 30 30] :: (fp b o [.int .i64 rs] :: (Fp' ++ (fp sg so scr3 :: (Fb3 ++ Fq' ++ R))))) w0 _ := (h9.set (k := o + 68) 1 (by simp) (by simp) (.slice pA' k.length pc')).set (k := o + 67) 0 (by simp) (by simp) (.int .i64 ((nE + 1 : Nat) : Int))
        have h11 := h10.perm (L' := fp b o [.int .i64 rs] :: fp b (o + 67) [.int .i64 ((nE + 1 : Nat) : Int), .slice pA' k.length pc', .slice rA' rst'.length rc', .slice (some ⟨sg, so, none⟩) 30 30] :: (Fb3 ++ (Fp' ++ Fq')) ++ (fp sg so scr3 :: R)) (perm_of fun _ _ z => by simp only [List.count_append, List.count_cons, List.cons_append]; omega)
        simpa using h11
end Go.Proofs.YtloflmcgbbbnjaaDoor
namespace Go.Proofs.YtloflmcgbbbnjaaDoor
open Go.RowKit Plain
set_option linter.all false

def le4s (l : List Nat) : List UInt8 := l.flatMap fun x : Nat => leB (x : Int) 4
theorem le4s_append (a b : List Nat) : le4s (a ++ b) = le4s a ++ le4s b := by simp [le4s]
theorem le4s_length (l : List Nat) : (le4s l).length = 4 * l.length := by
  induction l with
  | nil => rfl
  | cons x l ih => simp only [le4s, List.flatMap_cons, List.length_append, leB_length, List.length_cons] at ih ⊢; omega
theorem le4s_take {l : List Nat} {k : Nat} (h : k < l.length) : le4s (l.take (k + 1)) = le4s (l.take k) ++ leB (l[k] : Int) 4 := by
  rw [List.take_succ_eq_append_getElem h, le4s_append]; simp [le4s]
/-- The restarts that finish writes. -/
def finR (nE : Nat) (rst : List Nat) : List Nat := if nE = 0 then rst ++ [0] else rst
theorem c32_get {l : List Nat} {i : Nat} (h : i < l.length) : (c32 l)[i]? = some (.int .u32 (l[i] : Int)) := by simp [c32, List.getElem?_eq_getElem h]

set_option maxHeartbeats 3200000 in
set_option maxRecDepth 100000 in
theorem bw_finish (b o rs nE sg so : Nat) (data prev : List UInt8) (rst : List Nat) (F R : List Fr) (w0 w : World) (h : BW b o rs nE data prev rst sg so F)
    (hO : Own (F ++ R) w0 w) (h1 : data.length ≤ 1073741824) (h5 : rst.length ≤ 1073741824) (hx : ∀ x ∈ rst, x < 4294967296) :
    Calls Tryd.prog 77 #[.pointer (some ⟨b, o, none⟩)] w fun e w' => e = .returned (.tuple #[]) ∧
      ∃ F', BW b o rs nE (data ++ le4s (finR nE rst ++ [(finR nE rst).length])) prev (finR nE rst ++ [(finR nE rst).length]) sg so F' ∧ Own (F' ++ R) w0 w' := by
  obtain ⟨pA, pc, rA, rc, Fb, Fp, Fq, hB, hP, hQ, rfl⟩ := h
  obtain ⟨c0, c1, c2, c3, c4, f0, bl⟩ := bw_hdr hO
  have HO := hid hO
  have HB := hid hB
  have HP := hid hP
  have HQ := hid hQ
  have HX := hid hx
  clear hO hB hP hQ hx
  go_enter Tryd.func77, Tryd.ntmps77
  go_upto_if 9 with fail
  go_cut [] (fun wx => ∃ rA' rc' Fq', Row 181 1 rA' (finR nE rst).length rc' (c32 (finR nE rst)) Fq' ∧
    Own (fp b o [.int .i64 rs] :: fp b (o + 67) [.int .i64 nE, .slice pA prev.length pc, .slice rA' (finR nE rst).length rc', .slice (some ⟨sg, so, none⟩) 30 30] :: (Fb ++ (Fp ++ Fq')) ++ R) w0 wx)
  case first =>
    by_cases hm : nE = 0
    · have r1 : (((nE : Nat) : Int) == 0) = true := by rw [hm]; rfl
      have HM := hid hm
      clear hm
      go_wp2_with (at_builtin; refine own_append rfl (.tmp 14) (.tmp 15) 137 rfl 181 (.int .u32 0) 1 4 Tryd.underlying137 Tryd.info_u32 rfl (by decide) rA rst.length rc (c32 rst) Fq rfl HQ.out (R := fp b o [.int .i64 rs] :: fp b (o + 67) [.int .i64 nE, .slice pA prev.length pc, .slice rA rst.length rc, .slice (some ⟨sg, so, none⟩) 30 30] :: (Fb ++ Fp ++ R)) ((HO.out.skip _).perm (perm_of fun _ _ z => by simp only [List.count_append, List.count_cons, List.cons_append]; omega)) (some ⟨w.heap.size, 0, none⟩) 1 1 [.int .u32 0] rfl rfl (csAt_one _ _ _) (by simp [Value.oneCell']) (by simp [maxLen]; omega) (by omega) ?_; intro rA' rc' Fq' w2 hQ2 hO2 _; clear c0 c1 c2 c3 c4 f0 bl; obtain ⟨c0, c1, c2, c3, c4, f0, bl⟩ := bw_hdr hO2.right; have HO2 := hid hO2; have HQ2 := hid hQ2; clear hO2 hQ2)
      go_meet
      have e1 : finR nE rst = rst ++ [0] := if_pos HM.out
      refine ⟨rA', rc', Fq', ?_, ?_⟩
      · rw [e1]; simpa [c32] using HQ2.out
      · rw [e1, List.length_append, List.length_singleton]
        have h8 : Own (fp b (o + 67) [.int .i64 nE, .slice pA prev.length pc, .slice rA' (rst.length + 1) rc', .slice (some ⟨sg, so, none⟩) 30 30] :: (fp b o [.int .i64 rs] :: (Fq' ++ (Fb ++ Fp ++ R)))) w0 _ := (HO2.out.perm (L' := fp b (o + 67) [.int .i64 nE, .slice pA prev.length pc, .slice rA rst.length rc, .slice (some ⟨sg, so, none⟩) 30 30] :: (fp b o [.int .i64 rs] :: (Fq' ++ (Fb ++ Fp ++ R)))) (perm_of fun _ _ z => by simp only [List.count_append, List.count_cons, List.cons_append]; omega)).set (k := o + 69) 2 (by simp) (by simp) (.slice rA' (rst.length + 1) rc')
        exact h8.perm (perm_of fun _ _ z => by simp only [List.count_append, List.count_cons, List.cons_append]; omega)
    · have r1 : (((nE : Nat) : Int) == 0) = false := by simpa using hm
      have HM := hid hm
      clear hm
      go_wp2_with fail
      go_meet
      have e1 : finR nE rst = rst := if_neg HM.out
      exact ⟨rA, rc, Fq, by rw [e1]; exact HQ.out, by rw [e1]; exact HO.out⟩
  case rest =>
    obtain ⟨rA1, rc1, Fq1, hQ1, hO1⟩ := hcut
    have hr5 : (finR nE rst).length ≤ 1073741825 := by
      unfold finR
      split
      · rw [List.length_append, List.length_singleton]; omega
      · omega
    have hrx : ∀ x ∈ finR nE rst, x < 4294967296 := fun x hx => by
      have := HX.out
      unfold finR at hx
      split at hx
      · rcases List.mem_append.1 hx with h | h
        · exact this x h
        · simp at h; omega
      · exact this x hx
    obtain ⟨r1, hr1⟩ : ∃ r, finR nE rst = r := ⟨_, rfl⟩
    rw [hr1] at hQ1 hO1 hr5 hrx
    have HR1 := hid hr1
    have HRX := hid hrx
    clear hr1 hrx c0 c1 c2 c3 c4 f0 bl HO HQ
    obtain ⟨c0, c1, c2, c3, c4, f0, bl⟩ := bw_hdr hO1
    have HO := hid hO1
    have HQ := hid hQ1
    clear hO1 hQ1
    have e5 : IntKind.u32.wrap (r1.length : Int) = (r1.length : Int) := by simp [IntKind.wrap, IntKind.bits, IntKind.signed]; omega
    have e6 : (r1.length : Int) % 4294967296 = (r1.length : Int) := by omega
    go_upto_region 2 with fail
    go_cut [] (fun wx => ∃ rA' rc' Fq', Row 181 1 rA' (r1 ++ [r1.length]).length rc' (c32 (r1 ++ [r1.length])) Fq' ∧ Own (fp b o [.int .i64 rs] :: fp b (o + 67) [.int .i64 nE, .slice pA prev.length pc, .slice rA' (r1 ++ [r1.length]).length rc', .slice (some ⟨sg, so, none⟩) 30 30] :: (Fb ++ (Fp ++ Fq')) ++ R) w0 wx)
    case first =>
      go_region_law (refine own_step_append rfl (.tmp 23) (.tmp 30) 137 rfl 181 (.int .u32 0) 1 4 Tryd.underlying137 Tryd.info_u32 rfl (by decide) rA1 r1.length rc1 (c32 r1) Fq1 rfl HQ.out (R := fp b o [.int .i64 rs] :: fp b (o + 67) [.int .i64 nE, .slice pA prev.length pc, .slice rA1 r1.length rc1, .slice (some ⟨sg, so, none⟩) 30 30] :: (Fb ++ Fp ++ R)) ((HO.out.drew.skip _).perm (perm_of fun _ _ z => by simp only [List.count_append, List.count_cons, List.cons_append]; omega)) (some ⟨wc.heap.size, 0, none⟩) 1 1 [.int .u32 (r1.length : Int)] rfl rfl (csAt_one _ _ _) (by simp [Value.oneCell']) (by simp [maxLen]; omega) (by omega) ?_; intro rA' rc' Fq' w2 hQ2 hO2 _; clear c0 c1 c2 c3 c4 f0 bl; obtain ⟨c0, c1, c2, c3, c4, f0, bl⟩ := bw_hdr hO2.right; have HO2 := hid hO2; have HQ2 := hid hQ2; clear hO2 hQ2)
      all_goals
        go_wp2_with fail
        go_meet
        refine ⟨rA', rc', Fq', ?_, ?_⟩
        · simpa [c32] using HQ2.out
        · rw [List.length_append, List.length_singleton]
          have h8 : Own (fp b (o + 67) [.int .i64 nE, .slice pA prev.length pc, .slice rA' (r1.length + 1) rc', .slice (some ⟨sg, so, none⟩) 30 30] :: (fp b o [.int .i64 rs] :: (Fq' ++ (Fb ++ Fp ++ R)))) w0 _ := (HO2.out.perm (L' := fp b (o + 67) [.int .i64 nE, .slice pA prev.length pc, .slice rA1 r1.length rc1, .slice (some ⟨sg, so, none⟩) 30 30] :: (fp b o [.int .i64 rs] :: (Fq' ++ (Fb ++ Fp ++ R)))) (perm_of fun _ _ z => by simp only [List.count_append, List.count_cons, List.cons_append]; omega)).set (k := o + 69) 2 (by simp) (by simp) (.slice rA' (r1.length + 1) rc')
          exact h8.perm (perm_of fun _ _ z => by simp only [List.count_append, List.count_cons, List.cons_append]; omega)
    case rest =>
      obtain ⟨rA', rc', Fq', hQ2, hO2⟩ := hcut
      have hrx : ∀ x ∈ r1 ++ [r1.length], x < 4294967296 := fun x hx => by
        rcases List.mem_append.1 hx with h | h
        · exact HRX.out x h
        · simp at h; omega
      have hl2 : (r1 ++ [r1.length]).length ≤ 1073741826 := by rw [List.length_append, List.length_singleton]; omega
      obtain ⟨r2, hr2⟩ : ∃ r, r1 ++ [r1.length] = r := ⟨_, rfl⟩
      rw [hr2] at hQ2 hO2 hrx hl2
      have HR2 := hid hr2
      have HRX2 := hid hrx
      clear hr2 hrx c0 c1 c2 c3 c4 f0 bl HO HQ HRX
      obtain ⟨c0, c1, c2, c3, c4, f0, bl⟩ := bw_hdr hO2
      have HO := hid hO2
      have HQ := hid hQ2
      clear hO2 hQ2
      go_wp2_with fail
      go_loopw [39] (fun i wr => ∃ (k : Nat) (Fb' : List Fr), i = .int .i64 k ∧ k ≤ r2.length ∧ BufF b (o + 1) (data ++ le4s (r2.take k)) Fb' ∧ Own (fp b o [.int .i64 rs] :: fp b (o + 67) [.int .i64 nE, .slice pA prev.length pc, .slice rA' r2.length rc', .slice (some ⟨sg, so, none⟩) 30 30] :: (Fb' ++ (Fp ++ Fq')) ++ R) w0 wr) (fun i _ => r2.length - (intOf i).toNat)
      case atStart => exact ⟨0, Fb, rfl, Nat.zero_le _, by simpa [le4s] using HB.out, HO.out⟩
      case round =>
        obtain ⟨k, Fb', rfl, hk, hb, ho⟩ := hrel
        have hll : (le4s (r2.take k)).length ≤ 4294967304 := by rw [le4s_length, List.length_take]; omega
        by_cases h7 : k < r2.length
        · have h7' : (k : Int) < (r2.length : Int) := by omega
          have hcs : CsAt wr rA' (c32 r2) := ho.st (HQ.out.st w0) (by intro x hx; simp [hx])
          obtain ⟨g, o', rfl, hcell⟩ := hcs k (by rw [c32_length]; exact h7)
          rw [c32_get h7] at hcell
          have hxk := HRX2.out _ (List.getElem_mem h7)
          have htk := le4s_take h7
          generalize r2[k] = x at hcell hxk htk
          obtain ⟨D, hD⟩ : ∃ D, data ++ le4s (r2.take k) = D := ⟨_, rfl⟩
          have hD2 : data ++ le4s (r2.take (k + 1)) = D ++ leB (x : Int) 4 := by rw [htk, ← List.append_assoc, hD]
          have hDl : D.length ≤ 5368709128 := by rw [← hD, List.length_append]; omega
          rw [hD] at hb
          have HD2 := hid hD2
          have HB1 := hid hb
          have HO1 := hid ho
          clear hb ho htk hcs hD hD2 hll
          go_wp2_with fail
          refine (alloc_any b (o + 1) 4 D Fb' (fp b o [.int .i64 rs] :: fp b (o + 67) [.int .i64 nE, .slice pA prev.length pc, .slice (some ⟨g, o', none⟩) r2.length rc', .slice (some ⟨sg, so, none⟩) 30 30] :: (Fp ++ Fq' ++ R)) w0 _ HB1.out (HO1.out.perm (perm_of fun _ _ z => by simp only [List.count_append, List.count_cons, List.cons_append]; omega)) (by omega) (by omega)).mono ?_
          rintro e w3 ⟨S, J, F3, rfl, hG, hO3⟩
          obtain ⟨g1, g2, g3, g4, g5⟩ := hG
          have HG := hid (show BufG b (o + 1) D (D.length + 4) S J F3 from ⟨g1, g2, g3, g4, g5⟩)
          rw [g5] at hO3
          have HO3 := hid hO3
          clear hO3 g5 g4
          go_wp2_with fail
          refine (put32 S D.length _ 4 _ (x : Int) (fp b (o + 1) [.slice (some ⟨S.g, S.off, none⟩) (D.length + 4) S.cs.length, .int .i64 0] :: (J ++ (fp b o [.int .i64 rs] :: fp b (o + 67) [.int .i64 nE, .slice pA prev.length pc, .slice (some ⟨g, o', none⟩) r2.length rc', .slice (some ⟨sg, so, none⟩) 30 30] :: (Fp ++ Fq' ++ R)))) w0 _ rfl (HO3.out.perm (perm_of fun _ _ z => by simp only [List.count_append, List.count_cons, List.cons_append]; omega)) (by omega) (by omega) (by omega) (by omega)).mono ?_
          rintro e w4 ⟨rfl, hO5⟩
          have hO6 := HG.out.fill (p := leB (x : Int) 4) (R := fp b o [.int .i64 rs] :: fp b (o + 67) [.int .i64 nE, .slice pA prev.length pc, .slice (some ⟨g, o', none⟩) r2.length rc', .slice (some ⟨sg, so, none⟩) 30 30] :: (Fp ++ Fq' ++ R)) (leB_length _ _) (by rw [HG.out.2.2.2.2]; exact hO5)
          have HO6 := hid hO6
          clear hO5 hO6
          go_wp2_with fail
          obtain ⟨F6, h6, h7⟩ := HO6.out
          rw [← HD2.out] at h6
          exact ⟨⟨k + 1, F6, rfl, by omega, h6, h7.perm (perm_of fun _ _ z => by simp only [List.count_append, List.count_cons, List.cons_append]; omega)⟩, by simp [intOf]; omega⟩
        · have h7' : ¬ (k : Int) < (r2.length : Int) := by omega
          have hk2 : k = r2.length := by omega
          rw [hk2, List.take_length] at hb
          have HB1 := hid hb
          have HO1 := hid ho
          clear hb ho hk2 hll
          go_wp2
          go_end0
          refine ⟨rfl, _, ⟨pA, pc, rA', rc', Fb', Fp, Fq', ?_, HP.out, ?_, ?_⟩, HO1.out⟩
          · rw [HR1.out, HR2.out]; exact HB1.out
          · rw [HR1.out, HR2.out]; exact HQ.out
          · rw [HR1.out, HR2.out]
end Go.Proofs.YtloflmcgbbbnjaaDoor
namespace Go.Proofs.YtloflmcgbbbnjaaDoor
open Go Go.RowKit
set_option linter.all false

section
variable {P : Program} {md : Region.Mode} {ops : Array Oper} {Q : Exit → Act → World → Prop} {S : World → Prop} {T : List Nat}
def AnyT (P : Program) (md : Region.Mode) (ops : Array Oper) (Q : Exit → Act → World → Prop) (S : World → Prop) (T : List Nat) : Nat → Array Bool → Act → World → Prop
  | 0, listed, a, w => Region.ready md ops listed = [] ∧ Q .normal a w
  | n + 1, listed, a, w => (Region.ready md ops listed = [] → Q .normal a w) ∧
    ∀ i ∈ Region.ready md ops listed, wpOp P ops Q i (fun a' w' => (i ∉ T → S w') ∧ AnyT P md ops Q S T n (listed.setIfInBounds i true) a' w') a w
theorem AnyT.any : ∀ (n : Nat) (listed : Array Bool) (a : Act) (w : World), AnyT P md ops Q S T n listed a w → wpAny P md ops Q n listed a w
  | 0, _, _, _, h => h
  | n + 1, _, _, _, h => ⟨h.1, fun i hi => wpOp_mono (fun _ _ h' => AnyT.any n _ _ _ h'.2) (h.2 i hi)⟩
/-- Another S, a stronger one. -/
theorem AnyT.strong {S' : World → Prop} (h : ∀ w, S' w → S w) : ∀ (n : Nat) (listed : Array Bool) (a : Act) (w : World), AnyT P md ops Q S' T n listed a w → AnyT P md ops Q S T n listed a w
  | 0, _, _, _, H => H
  | n + 1, _, _, _, H => ⟨H.1, fun i hi => wpOp_mono (fun _ _ h' => ⟨fun hn => h _ (h'.1 hn), AnyT.strong h n _ _ _ h'.2⟩) (H.2 i hi)⟩
theorem AnyT.first {i : Nat} {oi : Oper} {v : Value} (hi : ops[i]? = some oi) (hsel : ∀ (j : Nat) (o : Oper) cs b, ops[j]? = some o → o.op ≠ .select cs b) (hQ : ∀ c a w, Q (.panic c) (a.put oi.dst v) w → Q (.panic c) a w)
    (hT : ∀ j ∈ T, ∀ oj, ops[j]? = some oj → ∃ e ∈ oj.after, Region.binds md e = true ∧ e.on = i) : ∀ (n : Nat) (listed : Array Bool) (a : Act) (w : World),
      (∀ j oj, ops[j]? = some oj → j ≠ i → listed.getD j true = false → (∀ e ∈ oj.after, Region.binds md e = true → e.on ≠ i) → oi.apart ops oj = true) →
      i ∈ Region.ready md ops listed → YieldsIf P ops S oi v a → S w → AnyT P md ops Q S T n (listed.setIfInBounds i true) (a.put oi.dst v) w → AnyT P md ops Q S T (n + 1) listed a w := by
  intro n
  induction n with
  | zero =>
    intro listed a w _ hr hy hS H
    refine ⟨fun h => (by rw [h] at hr; cases hr), fun j hj => ?_⟩
    by_cases e : j = i
    · subst e; exact hy.wpOp hi hS ⟨fun _ => hS, H⟩
    · have h := ready_mono hj e
      rw [H.1] at h
      cases h
  | succ n ih =>
    intro listed a w hfree hr hy hS H
    refine ⟨fun h => (by rw [h] at hr; cases hr), fun j hj => ?_⟩
    by_cases e : j = i
    · subst e; exact hy.wpOp hi hS ⟨fun _ => hS, H⟩
    · obtain ⟨hun, oj, hoj, hall⟩ := mem_ready.1 hj
      -- what may come up now does not wait for i
      have hwait : ∀ x ∈ oj.after, Region.binds md x = true → x.on ≠ i := fun x hx hb hon => by
        have a1 := hall x hx hb
        have a2 := (mem_ready.1 hr).1
        rw [hon] at a1
        rcases Nat.lt_or_ge i listed.size with hl | hl
        · simp [hl] at a1 a2; rw [a2] at a1; cases a1
        · simp [Array.getElem?_eq_none hl] at a1
      have hjT : j ∉ T := fun hm => by
        obtain ⟨x, hx, hb, hon⟩ := hT j hm oj hoj
        exact hwait x hx hb hon
      have hstep := wpOp_putIf hoj (hfree j oj hoj e hun hwait) (fun cs b => hsel i oi cs b hi) (fun cs b => hsel j oj cs b hoj) hQ hy (H.2 j (ready_mono hj e))
      refine wpOp_mono (fun a' w' h3 => ⟨h3.2.1, ih (listed.setIfInBounds j true) a' w' (fun k ok hk hki hun' hno => hfree k ok hk hki ?_ hno) (ready_mono hr (Ne.symm e)) h3.1 (h3.2.1 hjT) ?_⟩) hstep
      · by_cases hjk : j = k
        · subst hjk; exact hun
        · rw [getD_set_ne true hjk] at hun'; exact hun'
      · rw [Array.setIfInBounds_comm _ _ e]
        exact h3.2.2
/-- Each of T waits for number i. -/
def waits (md : Region.Mode) (ops : Array Oper) (T : List Nat) (i : Nat) : Bool := T.all fun j => match ops[j]? with | some o => o.after.any (fun e => Region.binds md e && e.on == i) | none => true
theorem waits_spec {i : Nat} (h : waits md ops T i = true) : ∀ j ∈ T, ∀ oj, ops[j]? = some oj → ∃ e ∈ oj.after, Region.binds md e = true ∧ e.on = i := fun j hj oj ho => by
  have h1 := List.all_eq_true.1 h j hj
  rw [ho] at h1
  obtain ⟨e, he, hb⟩ := Array.any_eq_true'.1 h1
  rw [Bool.and_eq_true, beq_iff_eq] at hb
  exact ⟨e, he, hb.1, hb.2⟩
theorem AnyT.take {i : Nat} {oi : Oper} {v : Value} {n : Nat} {listed : Array Bool} {a : Act} {w : World} (hi : ops[i]? = some oi) (hs : Region.noSelect ops = true) (hf : Region.free md ops listed i = true)
    (hr : (Region.ready md ops listed).contains i = true) (hT : waits md ops T i = true) (hQ : ∀ c a w, Q (.panic c) (a.put oi.dst v) w → Q (.panic c) a w) (hy : YieldsIf P ops S oi v a) (hS : S w)
    (h : AnyT P md ops Q S T n (listed.setIfInBounds i true) (a.put oi.dst v) w) : AnyT P md ops Q S T (n + 1) listed a w :=
  AnyT.first hi (Region.noSelect_spec hs) hQ (waits_spec hT) n listed a w (Region.free_spec hi hf) (by simpa using hr) hy hS h
def AllT (P : Program) (md : Region.Mode) (ops : Array Oper) (Q : Exit → Act → World → Prop) (S : World → Prop) (T : List Nat) (n : Nat) (listed : Array Bool) (a : Act) (w : World) (rs : List Nat) : Prop :=
  ∀ i ∈ rs, wpOp P ops Q i (fun a' w' => (i ∉ T → S w') ∧ AnyT P md ops Q S T n (listed.setIfInBounds i true) a' w') a w
theorem AllT.nil {n : Nat} {listed : Array Bool} {a : Act} {w : World} : AllT P md ops Q S T n listed a w [] := fun _ h => by cases h
theorem AllT.cons {n : Nat} {listed : Array Bool} {a : Act} {w : World} {i : Nat} {o : Oper} {rs : List Nat} (ho : ops[i]? = some o)
    (h : ∀ K' : Act → World → Prop, Shut (∀ a w, S w → (S w → AnyT P md ops Q S T n (listed.setIfInBounds i true) a w) → K' a w) → if Region.wanted o (yielded ops a.tmps) = true then Oper.wp P o a w K' Q else K' (a.put o.dst undef) w)
    (hs : AllT P md ops Q S T n listed a w rs) : AllT P md ops Q S T n listed a w (i :: rs) := fun j hj => by
  rcases List.mem_cons.1 hj with rfl | hj
  · exact wpOp_step ho fun K' hK => h K' fun a w hS hW => hK a w ⟨fun _ => hS, hW hS⟩
  · exact hs j hj
/-- A late one: nothing is held behind it. -/
theorem AllT.late {n : Nat} {listed : Array Bool} {a : Act} {w : World} {i : Nat} {o : Oper} (ho : ops[i]? = some o) (hi : T.contains i = true)
    (h : ∀ K' : Act → World → Prop, Shut (∀ a w, AnyT P md ops Q S T n (listed.setIfInBounds i true) a w → K' a w) → if Region.wanted o (yielded ops a.tmps) = true then Oper.wp P o a w K' Q else K' (a.put o.dst undef) w) : AllT P md ops Q S T n listed a w [i] := fun j hj => by
  obtain rfl := List.mem_singleton.1 hj
  exact wpOp_step ho fun K' hK => h K' fun a w hW => hK a w ⟨fun hn => absurd (by simpa using hi) hn, hW⟩
theorem AnyT.ready {rs : List Nat} {n : Nat} {listed : Array Bool} {a : Act} {w : World} (hr : Region.ready md ops listed = rs) (hne : rs ≠ []) (h : AllT P md ops Q S T n listed a w rs) : AnyT P md ops Q S T (n + 1) listed a w :=
  ⟨fun h0 => absurd (hr ▸ h0) hne, hr ▸ h⟩
theorem AnyT.done {listed : Array Bool} {a : Act} {w : World} (hr : Region.ready md ops listed = []) (h : Q .normal a w) : ∀ n, AnyT P md ops Q S T n listed a w
  | 0 => ⟨hr, h⟩
  | n + 1 => ⟨fun _ => h, by rw [hr]; intro i hi; cases hi⟩
theorem AnyT.start {id : Nat} {a : Act} {w : World} (hm : P.follows .mixedOrders = true) (hS : S w.drew) (h : S w.drew → AnyT P .any ops Q S T ops.size (Array.replicate ops.size false) a w.drew) : (Code.region id ops true).wp P Q a w :=
  wp_region_any hm (AnyT.any _ _ _ _ (h hS))
end
end Go.Proofs.YtloflmcgbbbnjaaDoor
namespace Go.Proofs.YtloflmcgbbbnjaaDoor
open Go.RowKit Plain
set_option linter.all false

theorem buf2_hdr {b o : Nat} {v0 v1 : Value} {R : List Fr} {w0 w : World} (hO : Own (fp b o [v0, v1] :: R) w0 w) : w.cell? ⟨b, o, none⟩ = some v0 ∧ w.cell? ⟨b, o + 1, none⟩ = some v1 ∧ (∀ k, w.frozen? ⟨b, k, none⟩ = false) :=
  ⟨hO.cell 0 rfl 0 rfl (by simp), hO.cell 0 rfl 1 rfl (by simp), fun k => hO.frozen 0 rfl k⟩
set_option maxHeartbeats 1600000 in
set_option maxRecDepth 100000 in
theorem trunc_own (b o L c : Nat) (A : Option Addr) (R : List Fr) (w0 w : World) (hO : Own (fp b o [.slice A L c, .int .i64 0] :: R) w0 w) (hL : L ≤ 4398046511104) :
    Calls Tryd.prog 130 #[.pointer (some ⟨b, o, none⟩), .int .i64 0] w fun e w' => e = .returned (.tuple #[]) ∧ Own (fp b o [.slice A 0 c, .int .i64 0] :: R) w0 w' := by
  obtain ⟨c0, c1, f0⟩ := buf2_hdr hO
  have HO := hid hO
  have t0 : decide ((L : Int) < 0) = false := decide_eq_false (by omega)
  clear hO
  go_enter Tryd.func130, Tryd.ntmps130
  go_wp2_with (go_at_call 92; refine (len_raw b o L c _ _ c0 c1 (by omega)).mono ?_; rintro e w1 ⟨rfl, hd1⟩; have hO1 := HO.out.dr hd1; clear hd1 c0 c1 f0 HO; obtain ⟨c0, c1, f0⟩ := buf2_hdr hO1; have HO := hid hO1; clear hO1)
  have hO2 : Own (fp b o [.slice A L c, .int .i64 0] :: R) w0 (w1.setCell ⟨b, o + 1, none⟩ (.int .i64 0)) := HO.out.set (k := o + 1) 1 rfl (by simp) (.int .i64 0)
  generalize w1.setCell ⟨b, o + 1, none⟩ (.int .i64 0) = W at hO2 ⊢
  clear c0 c1 f0 HO
  obtain ⟨c0, c1, f0⟩ := buf2_hdr hO2
  have HO := hid hO2
  clear hO2
  have e5 : IntKind.i64.wrap 0 = 0 := rfl
  cases A <;> (
    go_still_tail 14, (by kernel_rfl)
    go_wp2_with fail
    go_end0
    refine ⟨rfl, ?_⟩
    exact (HO.out.set (k := o) 0 rfl (by simp) _).drew)
theorem trunc_buf (b o : Nat) (data : List UInt8) (F R : List Fr) (w0 w : World) (h : BufF b o data F) (hO : Own (F ++ R) w0 w) (hm : data.length ≤ 4398046511104) :
    Calls Tryd.prog 130 #[.pointer (some ⟨b, o, none⟩), .int .i64 0] w fun e w' => e = .returned (.tuple #[]) ∧ ∃ F', BufF b o [] F' ∧ Own (F' ++ R) w0 w' := by
  rcases h with ⟨rfl, boot, h1, rfl⟩ | ⟨S, J, h1, h2, h3, h4, rfl⟩
  · refine (trunc_own b o 0 0 none (fp b (o + 2) boot :: R) w0 w hO (by omega)).mono ?_
    rintro e w' ⟨rfl, hO'⟩
    exact ⟨rfl, _, .inl ⟨rfl, boot, h1, rfl⟩, hO'⟩
  · refine (trunc_own b o data.length S.cs.length _ (S :: (J ++ R)) w0 w hO hm).mono ?_
    rintro e w' ⟨rfl, hO'⟩
    exact ⟨rfl, _, .inr ⟨S, J, Nat.le_refl _, Nat.zero_le _, h3, ⟨by simp [bc], h4.2⟩, rfl⟩, hO'⟩
set_option maxHeartbeats 400000 in
theorem reset_buf (b o : Nat) (data : List UInt8) (F R : List Fr) (w0 w : World) (h : BufF b o data F) (hO : Own (F ++ R) w0 w) (hm : data.length ≤ 4398046511104) :
    Calls Tryd.prog 121 #[.pointer (some ⟨b, o, none⟩)] w fun e w' => e = .returned (.tuple #[]) ∧ ∃ F', BufF b o [] F' ∧ Own (F' ++ R) w0 w' := by
  have HC := hid (trunc_buf b o data F R w0 w h hO hm)
  clear h hO
  go_enter Tryd.func121, Tryd.ntmps121
  go_wp2_with fail
  refine HC.out.mono ?_
  rintro e w' ⟨rfl, h'⟩
  have H := hid h'
  clear h'
  go_wp2_with fail
  go_end0
  exact ⟨rfl, H.out⟩
set_option maxHeartbeats 1600000 in
theorem writeByte_any (b o : Nat) (x : UInt8) (data : List UInt8) (F R : List Fr) (w0 w : World) (h : BufF b o data F) (hO : Own (F ++ R) w0 w) (hm : data.length + 1 ≤ 1099511627776) (y : Int) (hy : y = (x.toNat : Int)) :
    Calls Tryd.prog 109 #[.pointer (some ⟨b, o, none⟩), .int .u8 y] w fun e w' => e = .returned .nilIface ∧ ∃ F', BufF b o (data ++ [x]) F' ∧ Own (F' ++ R) w0 w' := by
  subst hy
  have HC := hid (grow_any b o 1 data F R w0 w h hO (.inl (by omega)) hm)
  clear h hO
  go_enter Tryd.func109, Tryd.ntmps109
  go_wp2_with fail
  refine HC.out.mono ?_
  rintro e w1 ⟨rfl, S, J, F1, hG, hO1⟩
  obtain ⟨c0, c1, f0⟩ := hG.hdr hO1
  obtain ⟨_, hle, hc⟩ := hG.le
  have hcell : ∃ v, w1.cell? ⟨S.g, S.off + data.length, none⟩ = some v := by
    obtain ⟨_, _, _, _, rfl⟩ := hG
    have := hO1.cell 1 rfl (k := S.off + data.length) data.length rfl (by omega)
    rw [List.getElem?_eq_getElem (by omega)] at this
    exact ⟨_, this⟩
  obtain ⟨v, hv⟩ := hcell
  have f1 : w1.frozen? ⟨S.g, S.off + data.length, none⟩ = false := by
    obtain ⟨_, _, _, _, rfl⟩ := hG
    exact hO1.frozen 1 rfl _ ((hO1.at_ 1 rfl).ro_none (by omega))
  have HG := hid hG
  have HO := hid hO1
  clear hG hO1
  go_wp2_with fail
  go_ret
  refine ⟨rfl, ?_⟩
  obtain ⟨h1, h2, h3, h4, h5⟩ := HG.out
  have h6 := HO.out
  rw [h5] at h6
  have h7 := (h6.swap01).set (k := S.off + data.length) data.length rfl (by omega) (.int .u8 (x.toNat : Int))
  refine HG.out.fill (p := [x]) rfl ?_
  rw [h5]
  rw [splice_one S.cs data.length _ (by omega)] at h7
  exact h7
end Go.Proofs.YtloflmcgbbbnjaaDoor
namespace Go.Proofs.YtloflmcgbbbnjaaDoor.Plain

structure TS where
  nE : Nat
  nI : Nat
  nAll : Nat
  pO : Nat
  pL : Nat
  off : Nat
  data : List UInt8
  prev : List UInt8
  idata : List UInt8
  iprev : List UInt8
  out : List UInt8
  rst : List Nat
  irst : List Nat
/-- The key that a block gets in the index. -/
def sepKey (prev key : List UInt8) : List UInt8 := (if key = [] then succ prev 0 else sep prev key).getD prev
theorem sep_ne {a b l : List UInt8} (h : sep a b = some l) : l ≠ [] := fun e => by
  have := (sep_law h).2.2.2
  rw [e] at this; simp at this
theorem succ_ne {a l : List UInt8} (h : succ a 0 = some l) : l ≠ [] := fun e => by
  have := succ_pos h
  rw [e] at this; simp at this
theorem sepKey_le (prev key : List UInt8) : (sepKey prev key).length ≤ prev.length := by
  unfold sepKey
  split
  · cases h : succ prev 0 with
    | none => exact Nat.le_refl _
    | some x => exact (succ_law h).2
  · cases h : sep prev key with
    | none => exact Nat.le_refl _
    | some x => exact (sep_law h).2.2.1
def handle (off len : Nat) : List UInt8 := uv off ++ uv len
/-- The block that waits gets its entry in the index. -/
def tFlush (s : TS) (key : List UInt8) : TS :=
  if s.pL = 0 then s else { s with nI := s.nI + 1, idata := s.idata ++ ent 0 (sepKey s.prev key) (handle s.pO s.pL), iprev := sepKey s.prev key, irst := s.irst ++ [s.idata.length], prev := [], pO := 0, pL := 0 }
end Go.Proofs.YtloflmcgbbbnjaaDoor.Plain
namespace Go.Proofs.YtloflmcgbbbnjaaDoor
open Go.RowKit Plain
set_option linter.all false

theorem Row.cut0 {e n c : Nat} {A : Option Addr} {xs : List Value} {F : List Fr} (h : Row e 1 A n c xs F) : Row e 1 A 0 c [] F := by
  refine ⟨by simp, ?_⟩
  rcases h.2 with ⟨rfl, rfl, rfl, rfl⟩ | ⟨g, cur, rfl, rfl, h1, h2, h3, h4⟩
  · exact .inl ⟨rfl, rfl, rfl, rfl⟩
  · exact .inr ⟨g, cur, rfl, rfl, by omega, h2, h3, by simp⟩
set_option maxHeartbeats 3200000 in
set_option maxRecDepth 100000 in
theorem bw_reset (b o rs nE sg so : Nat) (data prev : List UInt8) (rst : List Nat) (F R : List Fr) (w0 w : World) (h : BW b o rs nE data prev rst sg so F) (hO : Own (F ++ R) w0 w) (hm : data.length ≤ 4398046511104) :
    Calls Tryd.prog 108 #[.pointer (some ⟨b, o, none⟩)] w fun e w' => e = .returned (.tuple #[]) ∧ ∃ F', BW b o rs 0 [] prev [] sg so F' ∧ Own (F' ++ R) w0 w' := by
  obtain ⟨pA, pc, rA, rc, Fb, Fp, Fq, hB, hP, hQ, rfl⟩ := h
  have HP := hid hP
  have HQ := hid hQ
  have hle := hQ.le
  have HC := hid (reset_buf b (o + 1) data Fb (fp b o [.int .i64 rs] :: fp b (o + 67) [.int .i64 nE, .slice pA prev.length pc, .slice rA rst.length rc, .slice (some ⟨sg, so, none⟩) 30 30] :: (Fp ++ Fq ++ R)) w0 w hB (hO.perm (perm_of fun _ _ z => by simp only [List.count_append, List.count_cons, List.cons_append, List.count_nil, List.nil_append, List.append_nil]; omega)) hm)
  clear hO hB hP hQ
  go_enter Tryd.func108, Tryd.ntmps108
  go_wp2_with fail
  refine HC.out.mono ?_
  rintro e w1 ⟨rfl, F1, hB1, hO1⟩
  have hO2 : Own (fp b o [.int .i64 rs] :: fp b (o + 67) [.int .i64 nE, .slice pA prev.length pc, .slice rA rst.length rc, .slice (some ⟨sg, so, none⟩) 30 30] :: (F1 ++ (Fp ++ Fq ++ R))) w0 w1 := hO1.perm (perm_of fun _ _ z => by simp only [List.count_append, List.count_cons, List.cons_append, List.count_nil, List.nil_append, List.append_nil]; omega)
  obtain ⟨c0, c1, c2, c3, c4, f0, bl⟩ := bw_hdr hO2
  have HO := hid hO2.swap01
  have HB1 := hid hB1
  clear hO1 hO2 hB1 HC
  go_wp2_with fail
  go_end0
  refine ⟨rfl, _, ⟨pA, pc, rA, rc, F1, Fp, Fq, HB1.out, HP.out, HQ.out.cut0, rfl⟩, ?_⟩
  have h1 : Own (fp b (o + 67) [.int .i64 0, .slice pA prev.length pc, .slice rA 0 rc, .slice (some ⟨sg, so, none⟩) 30 30] :: (fp b o [.int .i64 rs] :: (F1 ++ (Fp ++ Fq ++ R)))) w0 _ := (HO.out.set (k := o + 67) 0 rfl (by simp) (.int .i64 0)).set (k := o + 69) 2 rfl (by simp) (.slice rA 0 rc)
  exact h1.perm (L' := (fp b o [.int .i64 rs] :: fp b (o + 67) [.int .i64 0, .slice pA prev.length pc, .slice rA 0 rc, .slice (some ⟨sg, so, none⟩) 30 30] :: (F1 ++ (Fp ++ Fq))) ++ R) (perm_of fun _ _ z => by simp only [List.count_append, List.count_cons, List.cons_append, List.count_nil, List.nil_append, List.append_nil]; omega)
set_option maxHeartbeats 3200000 in
set_option maxRecDepth 100000 in
theorem bw_bytesLen (b o rs nE sg so : Nat) (data prev : List UInt8) (rst : List Nat) (F R : List Fr) (w0 w : World) (h : BW b o rs nE data prev rst sg so F) (hO : Own (F ++ R) w0 w) (hm : data.length ≤ 1073741824) (hr : rst.length ≤ 1073741824) :
    Calls Tryd.prog 89 #[.pointer (some ⟨b, o, none⟩)] w fun e w' => e = .returned (.int .i64 ((data.length + 4 * (if rst.length = 0 then 1 else rst.length) + 4 : Nat) : Int)) ∧ Dr w w' := by
  obtain ⟨pA, pc, rA, rc, Fb, Fp, Fq, hB, hP, hQ, rfl⟩ := h
  obtain ⟨c0, c1, c2, c3, c4, f0, bl⟩ := bw_hdr hO
  have HC := hid (len_buf b (o + 1) data Fb (fp b o [.int .i64 rs] :: fp b (o + 67) [.int .i64 nE, .slice pA prev.length pc, .slice rA rst.length rc, .slice (some ⟨sg, so, none⟩) 30 30] :: (Fp ++ Fq ++ R)) w0 w hB (hO.perm (perm_of fun _ _ z => by simp only [List.count_append, List.count_cons, List.cons_append, List.count_nil, List.nil_append, List.append_nil]; omega)) (by omega))
  obtain ⟨n, hn⟩ : ∃ n, rst.length = n := ⟨_, rfl⟩
  rw [hn] at c3 hr ⊢
  obtain ⟨L, hL⟩ : ∃ L, data.length = L := ⟨_, rfl⟩
  rw [hL] at hm HC ⊢
  clear hO hB hP hQ hn hL
  by_cases h0 : n = 0
  · subst h0
    have z1 : ((0 : Int) == 0) = true := rfl
    have e1 : IntKind.i64.wrap ((L : Int) + 4) = (L : Int) + 4 := i64_id (by omega) (by omega)
    have e2 : IntKind.i64.wrap ((L : Int) + 4 + 4) = (L : Int) + 4 + 4 := i64_id (by omega) (by omega)
    have e3 : IntKind.i64.wrap (4 * 1) = 4 := rfl
    go_enter Tryd.func89, Tryd.ntmps89
    go_wp2_with fail
    refine HC.out.mono ?_
    rintro e w1 ⟨rfl, hd⟩
    go_wp2_with fail
    go_ret
    refine ⟨?_, hd⟩
    simp
  · have z1 : ((n : Int) == 0) = false := by simpa using h0
    have e0 : IntKind.i64.wrap (4 * (n : Int)) = 4 * (n : Int) := i64_id (by omega) (by omega)
    have e1 : IntKind.i64.wrap ((L : Int) + 4 * (n : Int)) = (L : Int) + 4 * (n : Int) := i64_id (by omega) (by omega)
    have e2 : IntKind.i64.wrap ((L : Int) + 4 * (n : Int) + 4) = (L : Int) + 4 * (n : Int) + 4 := i64_id (by omega) (by omega)
    go_enter Tryd.func89, Tryd.ntmps89
    go_wp2_with fail
    refine HC.out.mono ?_
    rintro e w1 ⟨rfl, hd⟩
    go_wp2_with fail
    go_ret
    refine ⟨?_, hd⟩
    simp [h0]
theorem splice_more {α : Type} (cs : List α) (i : Nat) (a b : List α) (h : i + (a.length + b.length) ≤ cs.length) : splice (splice cs i a) (i + a.length) b = splice cs i (a ++ b) := by
  apply List.ext_getElem?
  intro j
  have hl := length_splice cs i a (by omega)
  rw [splice_get _ _ _ (by rw [hl]; omega), splice_get _ _ _ (by omega), splice_get _ _ _ (by rw [List.length_append]; omega), List.length_append]
  by_cases h1 : j < i
  · rw [if_pos (by omega), if_pos (by omega), if_pos (by omega)]
  · by_cases h2 : i + (a.length + b.length) ≤ j
    · rw [if_pos (by omega), if_pos (by omega), if_pos (by omega)]
    · rw [if_neg (show ¬ (j < i ∨ i + (a.length + b.length) ≤ j) by omega)]
      by_cases h3 : j < i + a.length
      · rw [if_pos (by omega), if_neg (by omega), List.getElem?_append_left (by omega)]
      · rw [if_neg (by omega), List.getElem?_append_right (by omega), show j - (i + a.length) = j - i - a.length by omega]
-- encodeBlockHandle into cells that are owned.
set_option maxHeartbeats 3200000 in
set_option maxRecDepth 100000 in
theorem encHandle (X : Fr) (i k n c off len : Nat) (R : List Fr) (w0 w : World) (hk : k = X.off + i) (hO : Own (X :: R) w0 w) (hfit : i + n ≤ X.cs.length) (hn : 20 ≤ n) (hnc : n ≤ c) (hx : off < 18446744073709551616) (hy : len < 18446744073709551616) (hn63 : c ≤ 1099511627776) :
    Calls Tryd.prog 94 #[.slice (some ⟨X.g, k, none⟩) n c, .agg #[.int .u64 off, .int .u64 len]] w fun e w' => e = .returned (.int .i64 ((handle off len).length : Int)) ∧ Own ({ X with cs := splice X.cs i (bc (handle off len)) } :: R) w0 w' := by
  obtain ⟨q, hq⟩ : ∃ q, w.heap.size = q := ⟨_, rfl⟩
  have hO0 := hO.alloc' hq 157 [.int .u64 off, .int .u64 len]
  have c0 := hO0.cell 0 rfl 0 rfl (by simp)
  have c1 := hO0.cell 0 rfl 1 rfl (by simp)
  have HO := hid hO0.swap01
  clear hO hO0
  go_enter Tryd.func94, Tryd.ntmps94
  go_wp2_with fail
  have ha := uv_len10 hx
  have hb := uv_len10 hy
  have HX := hid hx
  have HY := hid hy
  obtain ⟨m, hm⟩ : ∃ m, (uv off).length = m := ⟨_, rfl⟩
  obtain ⟨m2, hm2⟩ : ∃ m2, (uv len).length = m2 := ⟨_, rfl⟩
  refine (putUv X i (X.off + i) n c off _ w0 _ rfl HO.out hfit (by omega) HX.out (by omega)).mono ?_
  rintro e w1 ⟨rfl, hO1⟩
  rw [hm] at ha ⊢
  rw [hm2] at hb
  clear c0 c1 HO
  have c0 := hO1.swap01.cell 0 rfl 0 rfl (by simp)
  have c1 := hO1.swap01.cell 0 rfl 1 rfl (by simp)
  have HO := hid hO1
  clear hO1
  have z1 : ¬ c = m := by omega
  have z2 : (m : Int) ≤ (n : Int) := by omega
  go_wp2_with fail
  refine AnyT.start (S := fun w' => w'.cell? ⟨q, 1, none⟩ = some (.int .u64 len)) (T := []) (by kernel_rfl) (c1) (fun hHeld => ?_)
  refine AnyT.take (i := 0) (v := ?_) (by simp only [List.getElem?_toArray, List.getElem?_cons_succ, List.getElem?_cons_zero]; rfl) (by kernel_rfl) (by kernel_rfl) (by kernel_rfl) (by kernel_rfl) (by intro _ _ _ h; exact h) (Or.inl ⟨by rfl, fun w hSw => ?_⟩) hHeld ?_
  rotate_left
  · ((try dsimp only at hSw); go_simp; first | done | with_reducible rfl | rfl)
  try simp only [Act.put, List.setIfInBounds_toArray, List.set_cons_zero, List.set_cons_succ]
  refine AnyT.take (i := 1) (v := ?_) (by simp only [List.getElem?_toArray, List.getElem?_cons_succ, List.getElem?_cons_zero]; rfl) (by kernel_rfl) (by kernel_rfl) (by kernel_rfl) (by kernel_rfl) (by intro _ _ _ h; exact h) (Or.inl ⟨by rfl, fun w hSw => ?_⟩) hHeld ?_
  rotate_left
  · ((try dsimp only at hSw); go_simp; first | done | with_reducible rfl | rfl)
  try simp only [Act.put, List.setIfInBounds_toArray, List.set_cons_zero, List.set_cons_succ]
  refine AnyT.take (i := 2) (v := ?_) (by simp only [List.getElem?_toArray, List.getElem?_cons_succ, List.getElem?_cons_zero]; rfl) (by kernel_rfl) (by kernel_rfl) (by kernel_rfl) (by kernel_rfl) (by intro _ _ _ h; exact h) (Or.inl ⟨by rfl, fun w hSw => ?_⟩) hHeld ?_
  rotate_left
  · ((try dsimp only at hSw); go_simp; first | done | with_reducible rfl | rfl)
  try simp only [Act.put, List.setIfInBounds_toArray, List.set_cons_zero, List.set_cons_succ]
  refine AnyT.take (i := 3) (v := ?_) (by simp only [List.getElem?_toArray, List.getElem?_cons_succ, List.getElem?_cons_zero]; rfl) (by kernel_rfl) (by kernel_rfl) (by kernel_rfl) (by kernel_rfl) (by intro _ _ _ h; exact h) (Or.inl ⟨by rfl, fun w hSw => ?_⟩) hHeld ?_
  rotate_left
  · ((try dsimp only at hSw); go_simp; first | done | with_reducible rfl | rfl)
  try simp only [Act.put, List.setIfInBounds_toArray, List.set_cons_zero, List.set_cons_succ]
  refine AnyT.take (i := 4) (v := ?_) (by simp only [List.getElem?_toArray, List.getElem?_cons_succ, List.getElem?_cons_zero]; rfl) (by kernel_rfl) (by kernel_rfl) (by kernel_rfl) (by kernel_rfl) (by intro _ _ _ h; exact h) (Or.inl ⟨by rfl, fun w hSw => ?_⟩) hHeld ?_
  rotate_left
  · ((try dsimp only at hSw); go_simp; first | done | with_reducible rfl | rfl)
  try simp only [Act.put, List.setIfInBounds_toArray, List.set_cons_zero, List.set_cons_succ]
  refine AnyT.ready (rs := [5]) (by kernel_rfl) (by simp) ?_
  refine AllT.cons (by simp only [List.getElem?_toArray, List.getElem?_cons_succ, List.getElem?_cons_zero]; rfl) (fun K hK => ?_) AllT.nil
  go_simp
  have hsl : (splice X.cs i (bc (uv off))).length = X.cs.length := length_splice _ _ _ (by rw [bc_length, hm]; omega)
  refine (putUv { X with cs := splice X.cs i (bc (uv off)) } (i + m) (X.off + i + m) (n - m) (c - m) len _ w0 _ (by simp; omega) HO.out.drew (by show i + m + (n - m) ≤ (splice X.cs i (bc (uv off))).length; omega) (by omega) HY.out (by omega)).mono ?_
  rintro e w2 ⟨rfl, hO2⟩
  rw [hm2]
  have HO2 := hid hO2
  have c1 := hO2.swap01.cell 0 rfl 1 rfl (by simp)
  clear hO2 HO
  try go_wp2_with fail
  refine hK.out _ _ ?_ (fun hHeld => ?_)
  · exact c1
  clear hK
  try simp only [Act.put, List.setIfInBounds_toArray, List.set_cons_zero, List.set_cons_succ]
  refine AnyT.take (i := 6) (v := ?_) (by simp only [List.getElem?_toArray, List.getElem?_cons_succ, List.getElem?_cons_zero]; rfl) (by kernel_rfl) (by kernel_rfl) (by kernel_rfl) (by kernel_rfl) (by intro _ _ _ h; exact h) (Or.inl ⟨by rfl, fun w hSw => ?_⟩) hHeld ?_
  rotate_left
  · ((try dsimp only at hSw); go_simp; first | done | with_reducible rfl | rfl)
  try simp only [Act.put, List.setIfInBounds_toArray, List.set_cons_zero, List.set_cons_succ]
  refine AnyT.done (by kernel_rfl) ?_ _
  have z3 : IntKind.i64.wrap ((m : Int) + (m2 : Int)) = (m : Int) + (m2 : Int) := i64_id (by omega) (by omega)
  go_wp2_with fail
  go_ret
  refine ⟨?_, ?_⟩
  · simp [handle, hm, hm2]
  · have h3 := HO2.out.swap01.drop
    have h4 : splice (splice X.cs i (bc (uv off))) (i + m) (bc (uv len)) = splice X.cs i (bc (handle off len)) := by
      rw [handle, bc_append, ← hm, ← bc_length (uv off)]
      exact splice_more _ _ _ _ (by rw [bc_length, hm, bc_length, hm2]; omega)
    rw [h4] at h3
    exact h3
end Go.Proofs.YtloflmcgbbbnjaaDoor
namespace Go.Proofs.YtloflmcgbbbnjaaDoor.Plain
open Go

def crcStep (x : Int) : Int := if x % 2 = 1 then bits .xor .u32 (x / 2) 2197175160 else x / 2
def crcN : Nat → Int → Int
  | 0, x => x
  | n + 1, x => crcN n (crcStep x)
def crcT (i : Nat) : Int := crcN 8 i
theorem crcStep_wf {x : Int} (h0 : 0 ≤ x) (h1 : x < 4294967296) : 0 ≤ crcStep x ∧ crcStep x < 4294967296 := by
  unfold crcStep
  split
  · exact u32_wf_xor _ _
  · omega
theorem crcN_wf : ∀ (n : Nat) {x : Int}, 0 ≤ x → x < 4294967296 → 0 ≤ crcN n x ∧ crcN n x < 4294967296
  | 0, _, h0, h1 => ⟨h0, h1⟩
  | n + 1, x, h0, h1 => by
    have := crcStep_wf h0 h1
    exact crcN_wf n this.1 this.2
theorem crcT_wf {i : Nat} (h : i < 256) : 0 ≤ crcT i ∧ crcT i < 4294967296 := crcN_wf 8 (by omega) (by omega)
theorem u32_and1 {x : Int} (h0 : 0 ≤ x) (h1 : x < 4294967296) : bits .and .u32 x 1 = x % 2 := by
  obtain ⟨n, rfl⟩ := Int.eq_ofNat_of_zero_le h0
  have h := (bits_nat .u32 32 (by decide) wraps_u32 n 1 (by omega) (by decide)).1
  rw [show ((1 : Nat) : Int) = 1 from rfl] at h
  rw [h, show (1 : Nat) = 2 ^ 1 - 1 from rfl, Nat.and_two_pow_sub_one_eq_mod]
  omega
theorem xor_comm_i (k : IntKind) (x y : Int) : bits .xor k x y = bits .xor k y x := by simp [bits, BitVec.xor_comm]
theorem u8_wf_xor (x y : Int) : 0 ≤ bits .xor .u8 x y ∧ bits .xor .u8 x y < 256 := by
  have h : bits .xor .u8 x y = IntKind.u8.wrap (bits .xor .u8 x y) := by simp [bits, IntKind.wrap, IntKind.bits, IntKind.signed]
  rw [h]
  simp [IntKind.wrap, IntKind.bits, IntKind.signed]; omega
/-- One byte more. -/
def crcUp (c v : Int) : Int := bits .xor .u32 (crcT (bits .xor .u8 (c % 256) v).toNat) (c / 256)
theorem crcUp_wf (c v : Int) : 0 ≤ crcUp c v ∧ crcUp c v < 4294967296 := u32_wf_xor _ _
def crcB (c : Int) : List UInt8 → Int
  | [] => c
  | b :: l => crcB (crcUp c (b.toNat : Int)) l
theorem crcB_append (c : Int) : ∀ (a b : List UInt8), crcB c (a ++ b) = crcB (crcB c a) b := by
  intro a
  induction a generalizing c with
  | nil => intro b; rfl
  | cons x a ih => intro b; exact ih _ b
theorem crcB_wf : ∀ (l : List UInt8) {c : Int}, 0 ≤ c → c < 4294967296 → 0 ≤ crcB c l ∧ crcB c l < 4294967296
  | [], _, h0, h1 => ⟨h0, h1⟩
  | b :: l, c, _, _ => by
    have := crcUp_wf c (b.toNat : Int)
    exact crcB_wf l this.1 this.2
theorem crcB_drop {c : Int} {l : List UInt8} {k : Nat} (h : k < l.length) : crcB c (l.drop k) = crcB (crcUp c (bz l k)) (l.drop (k + 1)) := by rw [drop_at h]; rfl
/-- The sum, masked. -/
def mask (c : Int) : Int := w32 (bits .or .u32 (c / 32768) (w32 (c * 131072)) + 2726488792)
def not32 (x : Int) : Int := bits .xor .u32 IntKind.u32.max x
theorem not32_wf (x : Int) : 0 ≤ not32 x ∧ not32 x < 4294967296 := u32_wf_xor _ _
theorem not32_zero : not32 0 = 4294967295 := by decide +kernel
def crcM (l : List UInt8) : Int := mask (not32 (crcB 4294967295 l))
theorem mask_wf (c : Int) : 0 ≤ mask c ∧ mask c < 4294967296 := ⟨w32_lo _, w32_hi _⟩
end Go.Proofs.YtloflmcgbbbnjaaDoor.Plain
namespace Go.Proofs.YtloflmcgbbbnjaaDoor
open Go.RowKit Plain
set_option linter.all false

def TabAt (k : Nat) (cs : List Value) : Prop := cs.length = 256 ∧ ∀ j, j < k → cs[j]? = some (.int .u32 (crcT j))
theorem TabAt.step {k : Nat} {cs : List Value} (h : TabAt k cs) (hk : k < 256) : TabAt (k + 1) (cs.set k (.int .u32 (crcT k))) := by
  refine ⟨by rw [List.length_set]; exact h.1, fun j hj => ?_⟩
  rcases Nat.lt_or_eq_of_le (Nat.le_of_lt_succ hj) with h1 | rfl
  · rw [List.getElem?_set_ne (by omega)]; exact h.2 j h1
  · rw [List.getElem?_set_self (by rw [h.1]; exact hk)]
set_option maxHeartbeats 1600000 in
set_option maxRecDepth 100000 in
theorem populate (tg : Nat) (t : TypeId) (cs0 : List Value) (R : List Fr) (w0 w : World) (hO : Own (fw tg t cs0 :: R) w0 w) (hl : cs0.length = 256) :
    Calls Tryd.prog 141 #[.int .u32 2197175160, .pointer (some ⟨tg, 0, none⟩)] w fun e w' => e = .returned (.tuple #[]) ∧ ∃ cs, TabAt 256 cs ∧ Own (fw tg t cs :: R) w0 w' := by
  have HO := hid hO
  have HL := hid hl
  clear hO hl
  go_enter Tryd.func141, Tryd.ntmps141
  go_wp2_with fail
  go_loopw [4] (fun i wr => ∃ (k : Nat) (cs : List Value), i = .int .i64 k ∧ k ≤ 256 ∧ Hid (TabAt k cs) ∧ Hid (Own (fw tg t cs :: R) w0 wr)) (fun i _ => 256 - (intOf i).toNat)
  case atStart => exact ⟨0, cs0, rfl, by omega, hid ⟨HL.out, fun j hj => by omega⟩, HO⟩
  case round =>
    obtain ⟨k, cs, rfl, hk, hT, hO⟩ := hrel
    by_cases h4 : k < 256
    · have h4' : (k : Int) < 256 := by omega
      have e1 : IntKind.u32.wrap (k : Int) = k := by rw [wrap32_eq]; unfold w32; omega
      go_wp2_with fail
      go_loopw [5, 6] (fun c j wr2 => ∃ (m : Nat) (x : Int), c = .int .u32 x ∧ j = .int .i64 m ∧ m ≤ 8 ∧ 0 ≤ x ∧ x < 4294967296 ∧ Hid (crcT k = crcN (8 - m) x) ∧ wr = wr2) (fun _ j _ => 8 - (intOf j).toNat)
      case atStart => exact ⟨0, k, rfl, rfl, by omega, by omega, by omega, hid rfl, rfl⟩
      case round =>
        obtain ⟨m, x, rfl, rfl, hm, x0, x1, hx, rfl⟩ := hrel
        by_cases h5 : m < 8
        · have h5' : (m : Int) < 8 := by omega
          have ha := u32_and1 x0 x1
          obtain ⟨d, hd⟩ : ∃ d, 8 - m = d + 1 := ⟨7 - m, by omega⟩
          have hd2 : 8 - (m + 1) = d := by omega
          have hx2 := hx.out
          rw [hd, crcN] at hx2
          have hsw := crcStep_wf x0 x1
          have HX := hid hx2
          have HD := hid hd2
          clear hx hx2 hd hd2
          by_cases h6 : x % 2 = 1
          · have t6 : (bits .and .u32 x 1 == 1) = true := by rw [ha, h6]; rfl
            have hs : crcStep x = bits .xor .u32 (x / 2) 2197175160 := if_pos h6
            have HS := hid hs
            clear ha h6 hs
            go_wp2_with fail
            exact ⟨⟨m + 1, crcStep x, by rw [HS.out], rfl, by omega, hsw.1, hsw.2, hid (by rw [HD.out]; exact HX.out), (by first | rfl | trivial)⟩, by simp [intOf]; omega⟩
          · have t6 : (bits .and .u32 x 1 == 1) = false := by rw [ha]; exact beq_eq_false_iff_ne.2 h6
            have hs : crcStep x = x / 2 := if_neg h6
            have HS := hid hs
            clear ha h6 hs
            go_wp2_with fail
            exact ⟨⟨m + 1, crcStep x, by rw [HS.out], rfl, by omega, hsw.1, hsw.2, hid (by rw [HD.out]; exact HX.out), (by first | rfl | trivial)⟩, by simp [intOf]; omega⟩
        · have h5' : ¬ (m : Int) < 8 := by omega
          have hx2 := hx.out
          rw [show 8 - m = 0 by omega, crcN] at hx2
          have hc := hO.out.cell 0 rfl (k := k) k (by simp) (by have := hT.out.1; simp; omega)
          have hlk : k < cs.length := by have := hT.out.1; omega
          rw [List.getElem?_eq_getElem hlk] at hc
          have hf := hO.out.frozen 0 rfl k
          simp only at hc hf
          generalize cs[k] = v0 at hc
          have HX := hid hx2
          have HK := hid hlk
          clear hx hx2 hlk
          go_wp2_with fail
          refine ⟨⟨k + 1, cs.set k (.int .u32 (crcT k)), rfl, h4, hid (hT.out.step h4), hid ?_⟩, by simp [intOf]; omega⟩
          rw [← HX.out]
          exact hO.out.set (k := k) k (by simp) HK.out (.int .u32 (crcT k))
    · have h4' : ¬ (k : Int) < 256 := by omega
      have hk2 : k = 256 := by omega
      subst hk2
      go_wp2_with fail
      go_end0
      exact ⟨rfl, cs, hT.out, hO.out⟩

set_option maxHeartbeats 800000 in
theorem makeTable (R : List Fr) (w0 w : World) (hO : Own R w0 w) :
    Calls Tryd.prog 133 #[.int .u32 2197175160] w fun e w' => ∃ tg cs, e = .returned (.pointer (some ⟨tg, 0, none⟩)) ∧ TabAt 256 cs ∧ Own (fw tg 278 cs :: R) w0 w' := by
  have hz : (Tryd.zeroCells278.toList).length = 256 := by kernel_rfl
  have HZ := hid hz
  have HO := hid hO
  clear hO hz
  go_enter Tryd.func133, Tryd.ntmps133
  go_wp2_with (first
    | (go_at_call 140; go_in)
    | (go_at_call 141; refine (populate _ 278 _ R w0 _ (HO.out.allocA rfl 278 _) HZ.out).mono ?_; rintro e w1 ⟨rfl, cs, hT, hO1⟩; have HT := hid hT; have HO1 := hid hO1; clear hT hO1))
  go_ret
  exact ⟨_, cs, rfl, HT.out, HO1.out⟩
set_option maxHeartbeats 1600000 in
theorem simpleUpdate_any (c0 : Int) (tg t n k : Nat) (cs : List Value) (A : Option Addr) (l : List UInt8) (R : List Fr) (w0 w : World) (hO : Own (fw tg t cs :: R) w0 w) (hT : TabAt 256 cs) (hl : Rd R w0 A l) (hn : n = l.length) (h0 : 0 ≤ c0) (h1 : c0 < 4294967296) (hlm : l.length ≤ 140737488355328) :
    Calls Tryd.prog 139 #[.int .u32 c0, .pointer (some ⟨tg, 0, none⟩), .slice A n k] w fun e w' => e = .returned (.int .u32 (not32 (crcB (not32 c0) l))) ∧ w = w' := by
  subst hn
  have HO := hid hO
  have HT := hid hT
  have HL := hid hl
  have hb : BsAt w A l := hO.st hl (fun x hx => by simp [hx])
  clear hO hT hl
  go_enter Tryd.func139, Tryd.ntmps139
  go_wp2_with fail
  go_loopw [0, 13] (fun c i wr => ∃ (j : Nat) (x : Int), c = .int .u32 x ∧ i = .int .i64 j ∧ j ≤ l.length ∧ 0 ≤ x ∧ x < 4294967296 ∧ Hid (crcB (not32 c0) l = crcB x (l.drop j)) ∧ w = wr) (fun _ i _ => l.length - (intOf i).toNat)
  case atStart => exact ⟨0, not32 c0, rfl, rfl, Nat.zero_le _, (not32_wf _).1, (not32_wf _).2, hid rfl, rfl⟩
  case round =>
    obtain ⟨j, x, rfl, rfl, hj, x0, x1, hx, rfl⟩ := hrel
    by_cases h4 : j < l.length
    · have h4' : (j : Int) < (l.length : Int) := by omega
      obtain ⟨g, o, rfl, hc⟩ := hb j h4
      have hx2 := hx.out
      rw [crcB_drop h4] at hx2
      have hu := crcUp_wf x (bz l j)
      have hw8 := u8_wf_xor (x % 256) (bz l j)
      obtain ⟨q, hq⟩ : ∃ q, bits .xor .u8 (x % 256) (bz l j) = q := ⟨_, rfl⟩
      have hcu : crcUp x (bz l j) = bits .xor .u32 (crcT q.toNat) (x / 256) := by rw [← hq]; rfl
      rw [hq] at hw8
      have hcell := (HO.out.cell 0 rfl (k := q.toNat) q.toNat (by simp) (by have := HT.out.1; simp; omega)).trans (HT.out.2 q.toNat (by omega))
      simp only at hcell
      have HX := hid hx2
      have HCU := hid hcu
      clear hx hx2 hcu
      go_wp2_with fail
      exact ⟨⟨j + 1, crcUp x (bz l j), by rw [HCU.out], rfl, h4, hu.1, hu.2, HX, (by first | rfl | trivial)⟩, by simp [intOf]; omega⟩
    · have h4' : ¬ (j : Int) < (l.length : Int) := by omega
      have hx2 := hx.out
      rw [List.drop_eq_nil_of_le (by omega)] at hx2
      have HX := hid hx2
      clear hx hx2
      go_wp2_with fail
      go_ret
      exact ⟨ret_int (by rw [HX.out]; rfl), rfl⟩

set_option maxHeartbeats 800000 in
theorem newCrc (n k : Nat) (A : Option Addr) (l : List UInt8) (R : List Fr) (w0 w : World) (hO : Own R w0 w) (hl : Rd R w0 A l) (hn : n = l.length) (hlm : l.length ≤ 140737488355328) :
    Calls Tryd.prog 110 #[.slice A n k] w fun e w' => e = .returned (.int .u32 (not32 (crcB 4294967295 l))) ∧ Own R w0 w' := by
  have HO := hid hO
  have HL := hid hl
  have HN := hid hn
  clear hO hl hn
  go_enter Tryd.func110, Tryd.ntmps110
  go_wp2_with (first
    | (go_at_call 122; go_in)
    | (go_at_call 132; go_in)
    | (go_at_call 133; refine (makeTable R w0 _ HO.out).mono ?_; rintro e w1 ⟨tg, cs, rfl, hT, hO1⟩; have HT := hid hT; have HO1 := hid hO1; clear hT hO1)
    | (go_at_call 139; refine (simpleUpdate_any 0 tg 278 n k cs A l R w0 _ HO1.out HT.out HL.out HN.out (by omega) (by omega) hlm).mono ?_; rintro e w2 ⟨rfl, rfl⟩))
  go_ret
  exact ⟨ret_int (by rw [not32_zero]), HO1.out.drop⟩
set_option maxHeartbeats 400000 in
theorem crcValue (c : Int) (w : World) (h0 : 0 ≤ c) (h1 : c < 4294967296) :
    Calls Tryd.prog 111 #[.int .u32 c] w fun e w' => e = .returned (.int .u32 (mask c)) ∧ w = w' := by
  go_enter Tryd.func111, Tryd.ntmps111
  go_wp2
  go_ret
  exact ⟨ret_int rfl, rfl⟩
end Go.Proofs.YtloflmcgbbbnjaaDoor
