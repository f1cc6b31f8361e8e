/-
  filter.bloomFilterGenerator: Generate.
-/
import Derived.Test.YtloflmcgbbbnjaaGen
namespace Go.Proofs.Ytloflmcgbbbnjaa
open Go.RowKit Plain
set_option linter.all false

theorem bc_set_mid {pre X post : List UInt8} {n i : Nat} (hn : pre.length = n) (hi : i < X.length) (b : UInt8) : (bc (pre ++ X ++ post)).set (n + i) (.int .u8 (b.toNat : Int)) = bc (pre ++ X.set i b ++ post) := by
  subst hn
  rw [bc_set, List.append_assoc, List.set_append_right _ _ (by omega), Nat.add_sub_cancel_left, List.set_append_left _ _ hi, List.append_assoc]
theorem bc_mid {pre X post : List UInt8} {n i : Nat} (hn : pre.length = n) (hi : i < X.length) : (bc (pre ++ X ++ post))[n + i]? = some (.int .u8 (bz X i)) := by
  subst hn
  rw [bc_get (by simp; omega)]
  unfold bz at_
  rw [List.append_assoc, List.getElem?_append_right (by omega), Nat.add_sub_cancel_left, List.getElem?_append_left hi]
theorem or_byte (X : List UInt8) (m : Nat) (x : Int) (hm0 : 0 < m) :
    bits .or .u8 (bz X (spot x (8 * (m : Int)) / 8)) (2 ^ (x % 8).toNat % 256) = ((orByte (at_ X (spot x (8 * (m : Int)) / 8)) (spot x (8 * (m : Int)) % 8)).toNat : Int) := by
  have h8 : (x % 8).toNat = spot x (8 * (m : Int)) % 8 := by
    unfold spot
    have h1 := Int.emod_nonneg x (show 8 * (m : Int) ≠ 0 by omega)
    have h2 : x % (8 * (m : Int)) % 8 = x % 8 := Int.emod_emod_of_dvd _ (Int.dvd_mul_right 8 _)
    omega
  have h3 : (2 : Int) ^ (x % 8).toNat % 256 = ((2 ^ (spot x (8 * (m : Int)) % 8) : Nat) : Int) := by
    rw [h8]
    have h4 : spot x (8 * (m : Int)) % 8 < 8 := Nat.mod_lt _ (by decide)
    have h5 : 2 ^ (spot x (8 * (m : Int)) % 8) < 2 ^ 8 := Nat.pow_lt_pow_right (by decide) h4
    rw [show (2 : Int) ^ (spot x (8 * (m : Int)) % 8) = ((2 ^ (spot x (8 * (m : Int)) % 8) : Nat) : Int) from (Int.natCast_pow 2 _).symm]
    generalize 2 ^ (spot x (8 * (m : Int)) % 8) = y at h5 ⊢
    omega
  rw [h3, or_bit]
/-- How many bytes of bits there are for so many. -/
def fbytes (b : Nat) : Nat := (max 64 b + 7) / 8
theorem alloc_n (b o n : Nat) (x : Int) (data : List UInt8) (F R : List Fr) (w0 w : World) (h : BufF b o data F) (hO : Own (F ++ R) w0 w) (hn : 0 < n) (hm : data.length + n ≤ 1099511627776) (hx : x = (n : Int)) :
    Calls Try.prog 69 #[.pointer (some ⟨b, o, none⟩), .int .i64 x] w fun e w' => ∃ S J F', e = .returned (.slice (some ⟨S.g, S.off + data.length, none⟩) n (S.cs.length - data.length)) ∧
      BufG b o data (data.length + n) S J F' ∧ Own (F' ++ R) w0 w' := by
  subst hx; exact alloc_any b o n data F R w0 w h hO hn hm
def GenOut (gp n k b o : Nat) (hs : List Int) (D : List UInt8) (R : List Fr) (w0 : World) (e : Ending) (w' : World) : Prop :=
  e = .returned (.tuple #[]) ∧ ∃ (P : List UInt8) (F F' : List Fr), P.length = fbytes (hs.length * n) + 1 ∧ (at_ P (fbytes (hs.length * n))).toNat = k ∧
    (∀ y ∈ hs, hasKey (8 * (fbytes (hs.length * n) : Int)) (rot y) P k y = true) ∧ GenF gp n k [] F ∧ BufF b o (D ++ P) F' ∧ Own (F ++ (F' ++ R)) w0 w'
theorem method_alloc (d : Nat) (p : Option Addr) (w : World) : (method (d + 1) 47 (.pointer p) "Alloc").run Try.prog w = .ok (69, .pointer p) w := by kernel_rfl

set_option maxHeartbeats 6400000 in
set_option maxRecDepth 100000 in
theorem gen_generate (gp n k b o : Nat) (hs : List Int) (D : List UInt8) (F1 F2 R : List Fr) (w0 w : World) (h : GenF gp n k hs F1) (hB : BufF b o D F2) (hO : Own (F1 ++ (F2 ++ R)) w0 w) (hn : n ≤ 100) (hk : k ≤ 30) (hl : hs.length ≤ 1000000) (hD : D.length ≤ 1073741824)
    (hw : ∀ y ∈ hs, 0 ≤ y ∧ y < 4294967296) :
    Calls Try.prog 66 #[.pointer (some ⟨gp, 0, none⟩), .iface 47 (.pointer (some ⟨b, o, none⟩))] w (GenOut gp n k b o hs D R w0) := by
  obtain ⟨hA, hc, Fh, hR, rfl⟩ := h
  obtain ⟨c0, c1, c2, f0, bl⟩ := gen_hdr hO
  obtain ⟨q, hq⟩ : ∃ q, hs.length * n = q := ⟨_, rfl⟩
  obtain ⟨q2, hq2⟩ : ∃ q2, max 64 q = q2 := ⟨_, rfl⟩
  obtain ⟨m, hm⟩ : ∃ m, fbytes (hs.length * n) = m := ⟨_, rfl⟩
  have hqb : q ≤ 100000000 := by
    rw [← hq]
    have := Nat.mul_le_mul hl hn
    omega
  have hm2 : m = (q2 + 7) / 8 := by rw [← hm, ← hq2, ← hq]; rfl
  have hq3 : q2 ≤ 100000000 := by omega
  have hq4 : 64 ≤ q2 := by omega
  have e1' : ((hs.length : Int) * (n : Int)) = (q : Int) := by rw [← hq, Int.natCast_mul]
  have e1 : IntKind.i64.wrap ((hs.length : Int) * (n : Int)) = (q : Int) := by rw [e1', i64_id (by omega) (by omega)]
  have e2 : IntKind.u32.wrap (q : Int) = (q : Int) := by rw [wrap32_eq]; unfold w32; omega
  have e2' : (q : Int) % 4294967296 = (q : Int) := by omega
  have hmt := method_alloc
  have HO := hid hO
  have HR := hid hR
  have HB := hid hB
  have HW := hid hw
  have HM := hid hm
  have HM2 := hid hm2
  have HQ := hid hq
  have HQ2 := hid hq2
  clear hO hR hB hw hm hm2 hq hq2
  go_enter Try.func66, Try.ntmps66
  go_wp2
  go_quiet (fail)
  go_upto_if 24 with fail
  go_cut [4] (fun v wx => v = .int .u32 q2 ∧ wx = w.drewN nq)
  case first =>
    cases h64 : decide ((q : Int) < 64) with
    | true =>
      have HE := hid (show q2 = 64 by have := HQ2.out; have := of_decide_eq_true h64; omega)
      clear h64
      go_wp2_with fail
      go_meet
      exact ⟨by rw [HE.out]; rfl, rfl⟩
    | false =>
      have HE := hid (show q2 = q by have := HQ2.out; have := of_decide_eq_false h64; omega)
      clear h64
      go_wp2_with fail
      go_meet
      exact ⟨by rw [HE.out], rfl⟩
  case rest =>
    obtain ⟨rfl, rfl⟩ := hcut
    have hO1 := HO.out.drewN nq
    generalize w.drewN nq = W at hO1 ⊢
    clear c0 c1 c2 f0 bl HO e1 e1' e2 e2'
    obtain ⟨c0, c1, c2, f0, bl⟩ := gen_hdr hO1
    have HO := hid hO1
    clear hO1
    have hm2 := HM2.out
    have q3 : ((q2 : Int) + 7) / 8 = (m : Int) := by omega
    have q4 : (m : Int) * 8 % 4294967296 = 8 * (m : Int) := by omega
    have q5 : (m : Int) * 8 = 8 * (m : Int) := by omega
    have m0 : 0 < m := by omega
    have m1 : m ≤ 12500001 := by omega
    clear hm2
    go_wp2_with fail
    refine (alloc_n b o (m + 1) _ D F2 (fw gp 112 [.int .i64 n, .int .u8 k, .slice hA hs.length hc] :: (Fh ++ R)) w0 _ HB.out (HO.out.perm (perm_of fun _ _ z => by simp only [List.count_append, List.count_cons, List.cons_append, List.count_nil, List.nil_append, List.append_nil]; omega)) (by omega) (by omega) (by omega)).mono ?_
    rintro e w1 ⟨S, J, F3, rfl, hG, hO1⟩
    obtain ⟨g1, g2, g3, ⟨g4, full, g5⟩, rfl⟩ := hG
    have hfl : full.length = S.cs.length := by rw [g5, bc_length]
    obtain ⟨pre, X0, post, hful, hp1, hp2⟩ : ∃ pre X0 post : List UInt8, full = pre ++ X0 ++ post ∧ pre.length = D.length ∧ X0.length = m + 1 :=
      ⟨full.take D.length, (full.drop D.length).take (m + 1), (full.drop D.length).drop (m + 1), by rw [List.append_assoc, List.take_append_drop, List.take_append_drop], by rw [List.length_take]; omega, by rw [List.length_take, List.length_drop]; omega⟩
    rw [hful] at g5
    obtain ⟨CL, hCL⟩ : ∃ CL, S.cs.length = CL := ⟨_, rfl⟩
    rw [hCL] at hO1 g2 g3 hfl ⊢
    obtain ⟨sg, so, scs, sw⟩ := S
    simp only at g4 g5 hCL hO1 ⊢
    subst g5
    have hO2 : Own (⟨sg, so, bc (pre ++ X0 ++ post), sw⟩ :: fw gp 112 [.int .i64 n, .int .u8 k, .slice hA hs.length hc] :: (Fh ++ (fp b o [.slice (some ⟨sg, so, none⟩) (D.length + (m + 1)) CL, .int .i64 0] :: (J ++ R)))) w0 w1 := hO1.perm (perm_of fun _ _ z => by simp only [List.count_append, List.count_cons, List.cons_append, List.count_nil, List.nil_append, List.append_nil]; omega)
    have G4 := hid g4
    have HCL := hid hCL
    have HP1 := hid hp1
    have HP2 := hid hp2
    clear hO1 g4 hCL hful hfl c0 c1 c2 f0 bl HO
    obtain ⟨c0, c1, c2, f0, bl⟩ := gen_hdr hO2.drop
    have x0 := hO2.cell 0 rfl (k := so + D.length + m) (D.length + m) (by simp; omega) (by simp [bc_length]; omega)
    rw [bc_mid hp1 (by omega)] at x0
    have f1 := fun j => hO2.frozen 0 rfl j
    simp only at x0 f1
    have ne1 : ¬ gp = sg := by
      rcases (List.pairwise_cons.1 hO2.dj).1 (fw gp 112 [.int .i64 n, .int .u8 k, .slice hA hs.length hc]) (by simp) with h | h
      · exact Ne.symm h
      · cases h.2.1
    have ne2 : ¬ sg = gp := Ne.symm ne1
    have HO2 := hid hO2
    clear hO2 hp1 hp2
    go_wp2_with fail
    have hkk : ((UInt8.ofNat k).toNat : Int) = (k : Int) := by simp; omega
    obtain ⟨X1, hX1⟩ : ∃ X, X0.set m (UInt8.ofNat k) = X := ⟨_, rfl⟩
    have hX1l : X1.length = m + 1 := by rw [← hX1, List.length_set]; exact HP2.out
    have hO3 := HO2.out.set (k := so + D.length + m) (D.length + m) (by simp; omega) (by simp [bc_length]; have := HP1.out; have := HP2.out; omega) (.int .u8 k)
    simp only at hO3
    rw [← hkk, bc_set_mid HP1.out (by have := HP2.out; omega), hX1, hkk] at hO3
    have HO3 := hid hO3
    have HX1 := hid hX1
    have HX1l := hid hX1l
    have hL := addAll_length (8 * (m : Int)) k
    have HL := hid hL
    clear hkk hO3 hX1 hX1l c0 c1 c2 f0 bl ne1 ne2 x0 f1 hL
    go_loopw [47] (fun i wr => ∃ j : Nat, i = .int .i64 j ∧ j ≤ hs.length ∧ Own (⟨sg, so, bc (pre ++ addAll (8 * (m : Int)) k (hs.take j) X1 ++ post), sw⟩ :: fw gp 112 [.int .i64 n, .int .u8 k, .slice hA hs.length hc] :: (Fh ++ (fp b o [.slice (some ⟨sg, so, none⟩) (D.length + (m + 1)) CL, .int .i64 0] :: (J ++ R)))) w0 wr) (fun i _ => hs.length - (intOf i).toNat)
    case atStart => exact ⟨0, rfl, Nat.zero_le _, HO3.out⟩
    case round =>
      obtain ⟨j, rfl, hj, ho⟩ := hrel
      by_cases h4 : j < hs.length
      · have h4' : (j : Int) < (hs.length : Int) := by omega
        have hcs : CsAt wr hA (cu32 hs) := ho.st (HR.out.st w0) (by intro x hx; simp [hx])
        obtain ⟨hg, ho', rfl, hcell⟩ := hcs j (by rw [cu32_length]; exact h4)
        rw [cu32_get h4] at hcell
        have hyw := HW.out _ (List.getElem_mem h4)
        have hA1 : addAll (8 * (m : Int)) k (hs.take (j + 1)) X1 = addKey (8 * (m : Int)) (rot hs[j]) k hs[j] (addAll (8 * (m : Int)) k (hs.take j) X1) := by
          rw [List.take_succ_eq_append_getElem h4, addAll_snoc]
        generalize hs[j] = y at hcell hyw hA1
        obtain ⟨Xj, hXj⟩ : ∃ X, addAll (8 * (m : Int)) k (hs.take j) X1 = X := ⟨_, rfl⟩
        have hXl : Xj.length = m + 1 := by rw [← hXj, HL.out]; exact HX1l.out
        rw [hXj] at ho hA1
        have HA1 := hid hA1
        have HXl := hid hXl
        have HO4 := hid ho
        have e9 : (y / 131072) = y / 131072 := rfl
        clear hcs hA1 hXj hXl ho e9
        go_wp2_with fail
        go_loopw [8, 10] (fun h jj wr2 => ∃ (i : Nat) (x : Int) (X : List UInt8), h = .int .u32 x ∧ jj = .int .u8 i ∧ i ≤ k ∧ 0 ≤ x ∧ x < 4294967296 ∧ X.length = m + 1 ∧ addAll (8 * (m : Int)) k (hs.take (j + 1)) X1 = addKey (8 * (m : Int)) (rot y) (k - i) x X ∧
          Own (⟨sg, so, bc (pre ++ X ++ post), sw⟩ :: fw gp 112 [.int .i64 n, .int .u8 k, .slice (some ⟨hg, ho', none⟩) hs.length hc] :: (Fh ++ (fp b o [.slice (some ⟨sg, so, none⟩) (D.length + (m + 1)) CL, .int .i64 0] :: (J ++ R)))) w0 wr2) (fun _ jj _ => k - (intOf jj).toNat)
        case atStart => exact ⟨0, y, Xj, rfl, rfl, Nat.zero_le _, hyw.1, hyw.2, HXl.out, HA1.out, HO4.out⟩
        case round =>
          obtain ⟨i, x, X, rfl, rfl, hi, x0, x1, hXl, hx, ho⟩ := hrel
          have hsp := spot_lt (x := x) m0 (rfl : 8 * (m : Int) = 8 * (m : Int))
          by_cases h5 : i < k
          · have h5' : (i : Int) < (k : Int) := by omega
            obtain ⟨c0, c1, c2, f0, bl⟩ := gen_hdr ho.drop
            have hc2 := ho.cell 0 rfl (k := so + D.length + spot x (8 * (m : Int)) / 8) (D.length + spot x (8 * (m : Int)) / 8) (by simp; omega) (by simp [bc_length]; have := HP1.out; omega)
            rw [bc_mid HP1.out (by omega)] at hc2
            have f1 := fun j => ho.frozen 0 rfl j
            simp only at hc2 f1
            have hs0 : (spot x (8 * (m : Int)) : Int) = x % (8 * (m : Int)) := by unfold spot; have := Int.emod_nonneg x (show 8 * (m : Int) ≠ 0 by omega); omega
            have hq : (x % (8 * (m : Int)) / 8).toNat = spot x (8 * (m : Int)) / 8 := by omega
            have hq0 : 0 ≤ x % (8 * (m : Int)) / 8 := by omega
            have hq1 : x % (8 * (m : Int)) / 8 < (m : Int) + 1 := by omega
            obtain ⟨d, hd⟩ : ∃ d, k - i = d + 1 := ⟨k - i - 1, by omega⟩
            have hd' : k - (i + 1) = d := by omega
            rw [hd, addKey] at hx
            have HX := hid hx
            have HXl := hid hXl
            have HO5 := hid ho
            have HOR := hid (or_byte X m x m0)
            have HD := hid hd'
            clear hx hXl ho hs0 hd hd' HO4 HA1
            go_wp2_with fail
            refine ⟨⟨i + 1, w32 (x + rot y), setBit X (spot x (8 * (m : Int))), rfl, rfl, by omega, w32_lo _, w32_hi _, by rw [setBit_length]; exact HXl.out, by rw [HD.out]; exact HX.out, ?_⟩, by simp [intOf]; omega⟩
            have := HO5.out.set (k := so + D.length + spot x (8 * (m : Int)) / 8) (D.length + spot x (8 * (m : Int)) / 8) (by simp; omega) (by simp [bc_length]; have := HP1.out; have := HXl.out; omega) (.int .u8 (((orByte (at_ X (spot x (8 * (m : Int)) / 8)) (spot x (8 * (m : Int)) % 8)).toNat : Nat) : Int))
            simp only at this
            rw [bc_set_mid HP1.out (by have := HXl.out; omega)] at this
            rw [HOR.out]
            exact this
          · have h5' : ¬ (i : Int) < (k : Int) := by omega
            obtain ⟨c0, c1, c2, f0, bl⟩ := gen_hdr ho.drop
            rw [show k - i = 0 by omega, addKey] at hx
            have HX := hid hx
            have HO5 := hid ho
            clear hx ho HO4 HA1 hXl hsp
            go_wp2_with fail
            exact ⟨⟨j + 1, rfl, h4, by rw [HX.out]; exact HO5.out⟩, by simp [intOf]; omega⟩
      · have h4' : ¬ (j : Int) < (hs.length : Int) := by omega
        rw [List.take_of_length_le (by omega)] at ho
        have hXl := HL.out hs X1
        obtain ⟨c0, c1, c2, f0, bl⟩ := gen_hdr ho.drop
        have HO5 := hid ho
        have HXl := hid hXl
        clear ho hXl HO3
        go_wp2
        go_end0
        obtain ⟨P, hP⟩ : ∃ P, addAll (8 * (m : Int)) k hs X1 = P := ⟨_, rfl⟩
        have hPl : P.length = m + 1 := by rw [← hP, HXl.out]; exact HX1l.out
        have hPm : at_ P m = UInt8.ofNat k := by
          rw [← hP, at_addAll m0 rfl k (Nat.le_refl m) hs X1 (by rw [HX1l.out]; omega), ← HX1.out, at_get (by rw [List.length_set, HP2.out]; omega)]
          simp
        have hPk : ∀ y ∈ hs, hasKey (8 * (m : Int)) (rot y) P k y = true := fun y hy => by rw [← hP]; exact hasKey_addAll m0 rfl k y hs X1 (by rw [HX1l.out]; omega) hy
        have h5 := HO5.out
        rw [hP] at h5
        have hpre : bc pre = bc D := by
          have := G4.out
          rw [← HP1.out, List.append_assoc, bc_append, List.take_left' (bc_length _)] at this
          exact this
        have hback := (HR.out.back (m := 0) (Nat.zero_le _))
        rw [Nat.zero_mul, List.take_zero] at hback
        have hCL2 := HCL.out
        rw [bc_length, List.length_append, List.length_append, HP1.out, HP2.out] at hCL2
        rw [GenOut, HM.out]
        refine ⟨rfl, P, fw gp 112 [.int .i64 n, .int .u8 k, .slice hA 0 hc] :: Fh, fp b o [.slice (some ⟨sg, so, none⟩) (D ++ P).length CL, .int .i64 0] :: ⟨sg, so, bc (pre ++ P ++ post), sw⟩ :: J, hPl, ?_, hPk, ⟨hA, hc, Fh, hback, rfl⟩, .inr ⟨⟨sg, so, bc (pre ++ P ++ post), sw⟩, J, Nat.le_refl _, ?_, ?_, ⟨?_, _, rfl⟩, ?_⟩, ?_⟩
        · rw [hPm]; simp; omega
        · simp only [bc_length, List.length_append, hPl, HP1.out]; omega
        · simp only [bc_length, List.length_append, hPl, HP1.out]; omega
        · rw [List.length_append, ← HP1.out, ← List.length_append, ← bc_length (pre ++ P), bc_append (pre ++ P), List.take_left' rfl, bc_append, hpre, bc_append]
        · rw [show (bc (pre ++ P ++ post)).length = CL by simp only [bc_length, List.length_append, hPl, HP1.out]; omega]
        · have h6 : Own (fw gp 112 [.int .i64 n, .int .u8 k, .slice hA 0 hc] :: (⟨sg, so, bc (pre ++ P ++ post), sw⟩ :: (Fh ++ (fp b o [.slice (some ⟨sg, so, none⟩) (D.length + (m + 1)) CL, .int .i64 0] :: (J ++ R))))) w0 _ := (h5.perm (L' := fw gp 112 [.int .i64 n, .int .u8 k, .slice hA hs.length hc] :: (⟨sg, so, bc (pre ++ P ++ post), sw⟩ :: (Fh ++ (fp b o [.slice (some ⟨sg, so, none⟩) (D.length + (m + 1)) CL, .int .i64 0] :: (J ++ R))))) (perm_of fun _ _ z => by simp only [List.count_append, List.count_cons, List.cons_append, List.count_nil, List.nil_append, List.append_nil]; omega)).set (k := 2) 2 rfl (by simp) (.slice hA 0 hc)
          rw [List.length_append, hPl]
          exact h6.perm (perm_of fun _ _ z => by simp only [List.count_append, List.count_cons, List.cons_append, List.count_nil, List.nil_append, List.append_nil]; omega)
end Go.Proofs.Ytloflmcgbbbnjaa
