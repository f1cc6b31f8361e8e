/-
  table.blockWriter: finish.
-/
import Derived.Test.YtloflmcgbbbnjaaDoorBW
namespace Go.Proofs.YtloflmcgbbbnjaaDoor
open Go.RowKit Plain
set_option linter.all false

def le4s (l : List Nat) : List UInt8 := l.flatMap fun x : Nat => leB (x : Int) 4
theorem le4s_append (a b : List Nat) : le4s (a ++ b) = le4s a ++ le4s b := by simp [le4s]
theorem le4s_length (l : List Nat) : (le4s l).length = 4 * l.length := by
  induction l with
  | nil => rfl
  | cons x l ih => simp only [le4s, List.flatMap_cons, List.length_append, leB_length, List.length_cons] at ih ⊢; omega
theorem le4s_take {l : List Nat} {k : Nat} (h : k < l.length) : le4s (l.take (k + 1)) = le4s (l.take k) ++ leB (l[k] : Int) 4 := by
  rw [List.take_succ_eq_append_getElem h, le4s_append]; simp [le4s]
/-- The restarts that finish writes. -/
def finR (nE : Nat) (rst : List Nat) : List Nat := if nE = 0 then rst ++ [0] else rst
theorem c32_get {l : List Nat} {i : Nat} (h : i < l.length) : (c32 l)[i]? = some (.int .u32 (l[i] : Int)) := by simp [c32, List.getElem?_eq_getElem h]

set_option maxHeartbeats 3200000 in
set_option maxRecDepth 100000 in
theorem bw_finish (b o rs nE sg so : Nat) (data prev : List UInt8) (rst : List Nat) (F R : List Fr) (w0 w : World) (h : BW b o rs nE data prev rst sg so F)
    (hO : Own (F ++ R) w0 w) (h1 : data.length ≤ 1073741824) (h5 : rst.length ≤ 1073741824) (hx : ∀ x ∈ rst, x < 4294967296) :
    Calls Tryd.prog 77 #[.pointer (some ⟨b, o, none⟩)] w fun e w' => e = .returned (.tuple #[]) ∧
      ∃ F', BW b o rs nE (data ++ le4s (finR nE rst ++ [(finR nE rst).length])) prev (finR nE rst ++ [(finR nE rst).length]) sg so F' ∧ Own (F' ++ R) w0 w' := by
  obtain ⟨pA, pc, rA, rc, Fb, Fp, Fq, hB, hP, hQ, rfl⟩ := h
  obtain ⟨c0, c1, c2, c3, c4, f0, bl⟩ := bw_hdr hO
  have HO := hid hO
  have HB := hid hB
  have HP := hid hP
  have HQ := hid hQ
  have HX := hid hx
  clear hO hB hP hQ hx
  go_enter Tryd.func77, Tryd.ntmps77
  go_upto_if 9 with fail
  go_cut [] (fun wx => ∃ rA' rc' Fq', Row 181 1 rA' (finR nE rst).length rc' (c32 (finR nE rst)) Fq' ∧
    Own (fp b o [.int .i64 rs] :: fp b (o + 67) [.int .i64 nE, .slice pA prev.length pc, .slice rA' (finR nE rst).length rc', .slice (some ⟨sg, so, none⟩) 30 30] :: (Fb ++ (Fp ++ Fq')) ++ R) w0 wx)
  case first =>
    by_cases hm : nE = 0
    · have r1 : (((nE : Nat) : Int) == 0) = true := by rw [hm]; rfl
      have HM := hid hm
      clear hm
      go_wp2_with (at_builtin; refine own_append rfl (.tmp 14) (.tmp 15) 137 rfl 181 (.int .u32 0) 1 4 Tryd.underlying137 Tryd.info_u32 rfl (by decide) rA rst.length rc (c32 rst) Fq rfl HQ.out (R := fp b o [.int .i64 rs] :: fp b (o + 67) [.int .i64 nE, .slice pA prev.length pc, .slice rA rst.length rc, .slice (some ⟨sg, so, none⟩) 30 30] :: (Fb ++ Fp ++ R)) ((HO.out.skip _).perm (perm_of fun _ _ z => by simp only [List.count_append, List.count_cons, List.cons_append]; omega)) (some ⟨w.heap.size, 0, none⟩) 1 1 [.int .u32 0] rfl rfl (csAt_one _ _ _) (by simp [Value.oneCell']) (by simp [maxLen]; omega) (by omega) ?_; intro rA' rc' Fq' w2 hQ2 hO2 _; clear c0 c1 c2 c3 c4 f0 bl; obtain ⟨c0, c1, c2, c3, c4, f0, bl⟩ := bw_hdr hO2.right; have HO2 := hid hO2; have HQ2 := hid hQ2; clear hO2 hQ2)
      go_meet
      have e1 : finR nE rst = rst ++ [0] := if_pos HM.out
      refine ⟨rA', rc', Fq', ?_, ?_⟩
      · rw [e1]; simpa [c32] using HQ2.out
      · rw [e1, List.length_append, List.length_singleton]
        have h8 : Own (fp b (o + 67) [.int .i64 nE, .slice pA prev.length pc, .slice rA' (rst.length + 1) rc', .slice (some ⟨sg, so, none⟩) 30 30] :: (fp b o [.int .i64 rs] :: (Fq' ++ (Fb ++ Fp ++ R)))) w0 _ := (HO2.out.perm (L' := fp b (o + 67) [.int .i64 nE, .slice pA prev.length pc, .slice rA rst.length rc, .slice (some ⟨sg, so, none⟩) 30 30] :: (fp b o [.int .i64 rs] :: (Fq' ++ (Fb ++ Fp ++ R)))) (perm_of fun _ _ z => by simp only [List.count_append, List.count_cons, List.cons_append]; omega)).set (k := o + 69) 2 (by simp) (by simp) (.slice rA' (rst.length + 1) rc')
        exact h8.perm (perm_of fun _ _ z => by simp only [List.count_append, List.count_cons, List.cons_append]; omega)
    · have r1 : (((nE : Nat) : Int) == 0) = false := by simpa using hm
      have HM := hid hm
      clear hm
      go_wp2_with fail
      go_meet
      have e1 : finR nE rst = rst := if_neg HM.out
      exact ⟨rA, rc, Fq, by rw [e1]; exact HQ.out, by rw [e1]; exact HO.out⟩
  case rest =>
    obtain ⟨rA1, rc1, Fq1, hQ1, hO1⟩ := hcut
    have hr5 : (finR nE rst).length ≤ 1073741825 := by
      unfold finR
      split
      · rw [List.length_append, List.length_singleton]; omega
      · omega
    have hrx : ∀ x ∈ finR nE rst, x < 4294967296 := fun x hx => by
      have := HX.out
      unfold finR at hx
      split at hx
      · rcases List.mem_append.1 hx with h | h
        · exact this x h
        · simp at h; omega
      · exact this x hx
    obtain ⟨r1, hr1⟩ : ∃ r, finR nE rst = r := ⟨_, rfl⟩
    rw [hr1] at hQ1 hO1 hr5 hrx
    have HR1 := hid hr1
    have HRX := hid hrx
    clear hr1 hrx c0 c1 c2 c3 c4 f0 bl HO HQ
    obtain ⟨c0, c1, c2, c3, c4, f0, bl⟩ := bw_hdr hO1
    have HO := hid hO1
    have HQ := hid hQ1
    clear hO1 hQ1
    have e5 : IntKind.u32.wrap (r1.length : Int) = (r1.length : Int) := by simp [IntKind.wrap, IntKind.bits, IntKind.signed]; omega
    have e6 : (r1.length : Int) % 4294967296 = (r1.length : Int) := by omega
    go_upto_region 2 with fail
    go_cut [] (fun wx => ∃ rA' rc' Fq', Row 181 1 rA' (r1 ++ [r1.length]).length rc' (c32 (r1 ++ [r1.length])) Fq' ∧ Own (fp b o [.int .i64 rs] :: fp b (o + 67) [.int .i64 nE, .slice pA prev.length pc, .slice rA' (r1 ++ [r1.length]).length rc', .slice (some ⟨sg, so, none⟩) 30 30] :: (Fb ++ (Fp ++ Fq')) ++ R) w0 wx)
    case first =>
      go_region_law (refine own_step_append rfl (.tmp 23) (.tmp 30) 137 rfl 181 (.int .u32 0) 1 4 Tryd.underlying137 Tryd.info_u32 rfl (by decide) rA1 r1.length rc1 (c32 r1) Fq1 rfl HQ.out (R := fp b o [.int .i64 rs] :: fp b (o + 67) [.int .i64 nE, .slice pA prev.length pc, .slice rA1 r1.length rc1, .slice (some ⟨sg, so, none⟩) 30 30] :: (Fb ++ Fp ++ R)) ((HO.out.drew.skip _).perm (perm_of fun _ _ z => by simp only [List.count_append, List.count_cons, List.cons_append]; omega)) (some ⟨wc.heap.size, 0, none⟩) 1 1 [.int .u32 (r1.length : Int)] rfl rfl (csAt_one _ _ _) (by simp [Value.oneCell']) (by simp [maxLen]; omega) (by omega) ?_; intro rA' rc' Fq' w2 hQ2 hO2 _; clear c0 c1 c2 c3 c4 f0 bl; obtain ⟨c0, c1, c2, c3, c4, f0, bl⟩ := bw_hdr hO2.right; have HO2 := hid hO2; have HQ2 := hid hQ2; clear hO2 hQ2)
      all_goals
        go_wp2_with fail
        go_meet
        refine ⟨rA', rc', Fq', ?_, ?_⟩
        · simpa [c32] using HQ2.out
        · rw [List.length_append, List.length_singleton]
          have h8 : Own (fp b (o + 67) [.int .i64 nE, .slice pA prev.length pc, .slice rA' (r1.length + 1) rc', .slice (some ⟨sg, so, none⟩) 30 30] :: (fp b o [.int .i64 rs] :: (Fq' ++ (Fb ++ Fp ++ R)))) w0 _ := (HO2.out.perm (L' := fp b (o + 67) [.int .i64 nE, .slice pA prev.length pc, .slice rA1 r1.length rc1, .slice (some ⟨sg, so, none⟩) 30 30] :: (fp b o [.int .i64 rs] :: (Fq' ++ (Fb ++ Fp ++ R)))) (perm_of fun _ _ z => by simp only [List.count_append, List.count_cons, List.cons_append]; omega)).set (k := o + 69) 2 (by simp) (by simp) (.slice rA' (r1.length + 1) rc')
          exact h8.perm (perm_of fun _ _ z => by simp only [List.count_append, List.count_cons, List.cons_append]; omega)
    case rest =>
      obtain ⟨rA', rc', Fq', hQ2, hO2⟩ := hcut
      have hrx : ∀ x ∈ r1 ++ [r1.length], x < 4294967296 := fun x hx => by
        rcases List.mem_append.1 hx with h | h
        · exact HRX.out x h
        · simp at h; omega
      have hl2 : (r1 ++ [r1.length]).length ≤ 1073741826 := by rw [List.length_append, List.length_singleton]; omega
      obtain ⟨r2, hr2⟩ : ∃ r, r1 ++ [r1.length] = r := ⟨_, rfl⟩
      rw [hr2] at hQ2 hO2 hrx hl2
      have HR2 := hid hr2
      have HRX2 := hid hrx
      clear hr2 hrx c0 c1 c2 c3 c4 f0 bl HO HQ HRX
      obtain ⟨c0, c1, c2, c3, c4, f0, bl⟩ := bw_hdr hO2
      have HO := hid hO2
      have HQ := hid hQ2
      clear hO2 hQ2
      go_wp2_with fail
      go_loopw [39] (fun i wr => ∃ (k : Nat) (Fb' : List Fr), i = .int .i64 k ∧ k ≤ r2.length ∧ BufF b (o + 1) (data ++ le4s (r2.take k)) Fb' ∧ Own (fp b o [.int .i64 rs] :: fp b (o + 67) [.int .i64 nE, .slice pA prev.length pc, .slice rA' r2.length rc', .slice (some ⟨sg, so, none⟩) 30 30] :: (Fb' ++ (Fp ++ Fq')) ++ R) w0 wr) (fun i _ => r2.length - (intOf i).toNat)
      case atStart => exact ⟨0, Fb, rfl, Nat.zero_le _, by simpa [le4s] using HB.out, HO.out⟩
      case round =>
        obtain ⟨k, Fb', rfl, hk, hb, ho⟩ := hrel
        have hll : (le4s (r2.take k)).length ≤ 4294967304 := by rw [le4s_length, List.length_take]; omega
        by_cases h7 : k < r2.length
        · have h7' : (k : Int) < (r2.length : Int) := by omega
          have hcs : CsAt wr rA' (c32 r2) := ho.st (HQ.out.st w0) (by intro x hx; simp [hx])
          obtain ⟨g, o', rfl, hcell⟩ := hcs k (by rw [c32_length]; exact h7)
          rw [c32_get h7] at hcell
          have hxk := HRX2.out _ (List.getElem_mem h7)
          have htk := le4s_take h7
          generalize r2[k] = x at hcell hxk htk
          obtain ⟨D, hD⟩ : ∃ D, data ++ le4s (r2.take k) = D := ⟨_, rfl⟩
          have hD2 : data ++ le4s (r2.take (k + 1)) = D ++ leB (x : Int) 4 := by rw [htk, ← List.append_assoc, hD]
          have hDl : D.length ≤ 5368709128 := by rw [← hD, List.length_append]; omega
          rw [hD] at hb
          have HD2 := hid hD2
          have HB1 := hid hb
          have HO1 := hid ho
          clear hb ho htk hcs hD hD2 hll
          go_wp2_with fail
          refine (alloc_any b (o + 1) 4 D Fb' (fp b o [.int .i64 rs] :: fp b (o + 67) [.int .i64 nE, .slice pA prev.length pc, .slice (some ⟨g, o', none⟩) r2.length rc', .slice (some ⟨sg, so, none⟩) 30 30] :: (Fp ++ Fq' ++ R)) w0 _ HB1.out (HO1.out.perm (perm_of fun _ _ z => by simp only [List.count_append, List.count_cons, List.cons_append]; omega)) (by omega) (by omega)).mono ?_
          rintro e w3 ⟨S, J, F3, rfl, hG, hO3⟩
          obtain ⟨g1, g2, g3, g4, g5⟩ := hG
          have HG := hid (show BufG b (o + 1) D (D.length + 4) S J F3 from ⟨g1, g2, g3, g4, g5⟩)
          rw [g5] at hO3
          have HO3 := hid hO3
          clear hO3 g5 g4
          go_wp2_with fail
          refine (put32 S D.length _ 4 _ (x : Int) (fp b (o + 1) [.slice (some ⟨S.g, S.off, none⟩) (D.length + 4) S.cs.length, .int .i64 0] :: (J ++ (fp b o [.int .i64 rs] :: fp b (o + 67) [.int .i64 nE, .slice pA prev.length pc, .slice (some ⟨g, o', none⟩) r2.length rc', .slice (some ⟨sg, so, none⟩) 30 30] :: (Fp ++ Fq' ++ R)))) w0 _ rfl (HO3.out.perm (perm_of fun _ _ z => by simp only [List.count_append, List.count_cons, List.cons_append]; omega)) (by omega) (by omega) (by omega) (by omega)).mono ?_
          rintro e w4 ⟨rfl, hO5⟩
          have hO6 := HG.out.fill (p := leB (x : Int) 4) (R := fp b o [.int .i64 rs] :: fp b (o + 67) [.int .i64 nE, .slice pA prev.length pc, .slice (some ⟨g, o', none⟩) r2.length rc', .slice (some ⟨sg, so, none⟩) 30 30] :: (Fp ++ Fq' ++ R)) (leB_length _ _) (by rw [HG.out.2.2.2.2]; exact hO5)
          have HO6 := hid hO6
          clear hO5 hO6
          go_wp2_with fail
          obtain ⟨F6, h6, h7⟩ := HO6.out
          rw [← HD2.out] at h6
          exact ⟨⟨k + 1, F6, rfl, by omega, h6, h7.perm (perm_of fun _ _ z => by simp only [List.count_append, List.count_cons, List.cons_append]; omega)⟩, by simp [intOf]; omega⟩
        · have h7' : ¬ (k : Int) < (r2.length : Int) := by omega
          have hk2 : k = r2.length := by omega
          rw [hk2, List.take_length] at hb
          have HB1 := hid hb
          have HO1 := hid ho
          clear hb ho hk2 hll
          go_wp2
          go_end0
          refine ⟨rfl, _, ⟨pA, pc, rA', rc', Fb', Fp, Fq', ?_, HP.out, ?_, ?_⟩, HO1.out⟩
          · rw [HR1.out, HR2.out]; exact HB1.out
          · rw [HR1.out, HR2.out]; exact HQ.out
          · rw [HR1.out, HR2.out]
end Go.Proofs.YtloflmcgbbbnjaaDoor
