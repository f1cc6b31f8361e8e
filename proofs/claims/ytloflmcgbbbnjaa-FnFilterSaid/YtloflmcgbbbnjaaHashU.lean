/-
  LittleEndian.Uint32, util.Hash: what they return.
-/
import Derived.Test.YtloflmcgbbbnjaaMem
import Derived.Test.YtloflmcgbbbnjaaPlainHash
namespace Go.Proofs.Ytloflmcgbbbnjaa
open Go.RowKit Plain

set_option maxHeartbeats 800000 in
theorem leUint32_any (g o c : Nat) (l : List UInt8) (w : World) (h : BsAt w (some ⟨g, o, none⟩) l) (hl : 4 ≤ l.length) (n : Nat) (hn : n = l.length) :
    Calls Try.prog 58 #[.agg #[], .slice (some ⟨g, o, none⟩) n c] w fun e w' => e = .returned (.int .u32 (leI (l.take 4))) ∧ Only [] w w' := by
  subst hn
  obtain ⟨_, _, e, _, hc⟩ := h.addr (by omega)
  injection e with e
  injection e with e1 e2
  subst e1; subst e2
  have c0 := hc 0 (by omega); have c1 := hc 1 (by omega); have c2 := hc 2 (by omega); have c3 := hc 3 (by omega)
  rw [Nat.add_zero] at c0
  have x0 := bz_lo l 0; have x1 := bz_lo l 1; have x2 := bz_lo l 2; have x3 := bz_lo l 3
  have y0 := bz_hi l 0; have y1 := bz_hi l 1; have y2 := bz_hi l 2; have y3 := bz_hi l 3
  have t := leI_take4 hl
  have T := hid t
  clear t hc h
  have l0 : 0 < l.length := by omega
  have l1 : (1 : Int) < (l.length : Int) := by omega
  have l2 : (2 : Int) < (l.length : Int) := by omega
  have l3 : (3 : Int) < (l.length : Int) := by omega
  go_enter Try.func58, Try.ntmps58
  go_wp2
  go_quiet (fail)
  go_wp2
  go_ret
  refine ⟨ret_int ?_, ((Only.refl _ _).alloc _).drewN _⟩
  rw [T.out]
  simp (disch := omega) only [u32_or8, u32_or16, u32_or24]
  omega
/-- Both begin so. -/
def hstart (seed : Int) (n : Nat) : Int := bits .xor .u32 seed (w32 (n * 3332679571))

set_option maxHeartbeats 1600000 in
theorem utilHash_any (A : Option Addr) (c : Nat) (l : List UInt8) (seed : Int) (w : World) (h : BsAt w A l) (hl : l.length ≤ 2147483647) (hc : l.length ≤ c) :
    Calls Try.prog 57 #[.slice A l.length c, .int .u32 seed] w fun e w' => e = .returned (.int .u32 (hashAll (hstart seed l.length) l)) ∧ Only [] w w' := by
  go_enter Try.func57, Try.ntmps57
  go_wp2
  go_loopw [6, 5] (fun i hh wr => ∃ k : Nat, ∃ x : Int, i = .int .i64 k ∧ k % 4 = 0 ∧ k ≤ l.length ∧ hh = .int .u32 x ∧ 0 ≤ x ∧ x < 4294967296 ∧ hashAll (hstart seed l.length) l = hashAll x (l.drop k) ∧ Only [] w wr) (fun i _ _ => l.length - (intOf i).toNat)
  case atStart =>
    have hb := u32_wf_xor seed (w32 (l.length * 3332679571))
    exact ⟨0, hstart seed l.length, rfl, rfl, Nat.zero_le _, rfl, hb.1, hb.2, rfl, Only.refl _ _⟩
  case round =>
    obtain ⟨k, x, rfl, hk4, hk, rfl, x0, x1, hx, ho⟩ := hrel
    have HX := hid hx
    clear hx
    have hwr := h.keep0 ho
    by_cases h4 : k + 4 ≤ l.length
    · have h4' : (k : Int) < (l.length : Int) - (l.length : Int) % 4 := by omega
      obtain ⟨g, o, rfl, _, _⟩ := h.addr (by omega)
      have HK := hid hk4
      clear hk4
      have hkc : ¬ c = k := by omega
      go_wp2_with fail
      refine wp_region_cls (fun w' => Only [] wr w') (by kernel_rfl) (by kernel_rfl) (Only.refl _ _).drew ?_
      iterate 5
        refine wpQuiet_plain rfl (fun K hK => ?_)
        apply quiet_mk
        · intro w' hC
          go_simp
          rfl
        go_simp
        refine hK _ ?_
        clear hK K
      refine wpQuiet_plain rfl (fun K hK => ?_)
      apply quiet_mk
      · intro w' hC
        go_simp
        exact (leUint32_any g (o + k) (c - k) (l.drop k) w' ((hwr.keep0 hC).drop k) (by simp; omega) _ (by simp)).mono (fun e w'' he => ⟨he.1, hC.new he.2⟩)
      go_simp
      refine hK _ ?_
      clear hK K
      iterate 2
        refine wpQuiet_plain rfl (fun K hK => ?_)
        apply quiet_mk
        · intro w' hC
          go_simp
          rfl
        go_simp
        refine hK _ ?_
        clear hK K
      refine wpQuiet_nil ?_
      intro w5 ho5
      go_wp2
      have hb2 := u32_wf_xor (hmul x (leI ((l.drop k).take 4))) (hmul x (leI ((l.drop k).take 4)) / 65536)
      exact ⟨⟨k + 4, hstep x (leI ((l.drop k).take 4)), rfl, by have := HK.out; omega, h4, rfl, hb2.1, hb2.2, by rw [HX.out, hashAll_step (by simp; omega), List.drop_drop], ho.new ho5⟩, by simp [intOf]; omega⟩
    · have h4' : ¬ (k : Int) < (l.length : Int) - (l.length : Int) % 4 := by omega
      have he := hashAll_end (h := x) (l := l.drop k) (by simp; omega)
      have HE := hid he
      obtain ⟨m, hm⟩ : ∃ m, m = l.length - k := ⟨_, rfl⟩
      have hm3 : m ≤ 3 := by omega
      clear he hk4 h4
      have hm0 : m = 0 ∨ m = 1 ∨ m = 2 ∨ m = 3 := by omega
      rcases hm0 with rfl | rfl | rfl | rfl
      · have q3 : ((l.length : Int) - (k : Int) == 3) = false := beq_eq_false_iff_ne.2 (by omega)
        have q2 : ((l.length : Int) - (k : Int) == 2) = false := beq_eq_false_iff_ne.2 (by omega)
        have q1 : ((l.length : Int) - (k : Int) == 1) = false := beq_eq_false_iff_ne.2 (by omega)
        have q0 : ((l.length : Int) - (k : Int) == 0) = true := beq_iff_eq.2 (by omega)
        have hd : l.drop k = [] := List.drop_eq_nil_of_le (by omega)
        have HD := hid hd
        clear hd hm
        go_wp2
        go_ret
        exact ⟨ret_int (by rw [HX.out, HE.out, HD.out]; rfl), ho⟩
      · obtain ⟨g, o, rfl, _, hcc⟩ := hwr.addr (by omega)
        have q3 : ((l.length : Int) - (k : Int) == 3) = false := beq_eq_false_iff_ne.2 (by omega)
        have q2 : ((l.length : Int) - (k : Int) == 2) = false := beq_eq_false_iff_ne.2 (by omega)
        have q1 : ((l.length : Int) - (k : Int) == 1) = true := beq_iff_eq.2 (by omega)
        have c0 := hcc k (by omega)
        have d0 : (k : Int) < (l.length : Int) := by omega
        have x0' := bz_lo l k
        have x0'' := bz_hi l k
        have hd : l.drop k ≠ [] ∧ leI (l.drop k) = bz l k := ⟨by intro e; have := congrArg List.length e; simp at this; omega, by rw [leI_drop (by omega), List.drop_eq_nil_of_le (by omega)]; simp [leI]⟩
        have HD := hid hd
        clear hd hm hcc
        go_wp2
        go_ret
        exact ⟨ret_int (by rw [HX.out, HE.out, if_neg HD.out.1, HD.out.2]; rfl), ho⟩
      · obtain ⟨g, o, rfl, _, hcc⟩ := hwr.addr (by omega)
        have q3 : ((l.length : Int) - (k : Int) == 3) = false := beq_eq_false_iff_ne.2 (by omega)
        have q2 : ((l.length : Int) - (k : Int) == 2) = true := beq_iff_eq.2 (by omega)
        have c0 := hcc k (by omega)
        have d0 : (k : Int) < (l.length : Int) := by omega
        have e0 := bz_lo l k
        have f0 := bz_hi l k
        have c1 := hcc (k + 1) (by omega)
        have d1 : (k : Int) + 1 < (l.length : Int) := by omega
        have e1 := bz_lo l (k + 1)
        have f1 := bz_hi l (k + 1)
        have hd : l.drop k ≠ [] ∧ leI (l.drop k) = bz l k + 256 * bz l (k + 1) := ⟨by intro e; have := congrArg List.length e; simp at this; omega, by rw [leI_drop (by omega), leI_drop (by omega), List.drop_eq_nil_of_le (by omega)]; simp [leI]⟩
        have HD := hid hd
        clear hd hm hcc
        go_wp2
        go_ret
        refine ⟨ret_int (a := htailY ((x + bz l (k + 1) * 256 + bz l k) % 4294967296)) ?_, ho⟩
        rw [HX.out, HE.out, if_neg HD.out.1]
        exact htail_eq _ _ _ (by rw [HD.out.2]; unfold w32; omega)
      · obtain ⟨g, o, rfl, _, hcc⟩ := hwr.addr (by omega)
        have q3 : ((l.length : Int) - (k : Int) == 3) = true := beq_iff_eq.2 (by omega)
        have c0 := hcc k (by omega)
        have d0 : (k : Int) < (l.length : Int) := by omega
        have e0 := bz_lo l k
        have f0 := bz_hi l k
        have c1 := hcc (k + 1) (by omega)
        have d1 : (k : Int) + 1 < (l.length : Int) := by omega
        have e1 := bz_lo l (k + 1)
        have f1 := bz_hi l (k + 1)
        have c2 := hcc (k + 2) (by omega)
        have d2 : (k : Int) + 2 < (l.length : Int) := by omega
        have e2 := bz_lo l (k + 2)
        have f2 := bz_hi l (k + 2)
        have hd : l.drop k ≠ [] ∧ leI (l.drop k) = bz l k + 256 * (bz l (k + 1) + 256 * bz l (k + 2)) := ⟨by intro e; have := congrArg List.length e; simp at this; omega, by rw [leI_drop (by omega), leI_drop (by omega), leI_drop (by omega), List.drop_eq_nil_of_le (by omega)]; simp [leI]⟩
        have HD := hid hd
        clear hd hm hcc
        go_wp2
        go_ret
        refine ⟨ret_int (a := htailY ((x + bz l (k + 2) * 65536 + bz l (k + 1) * 256 + bz l k) % 4294967296)) ?_, ho⟩
        rw [HX.out, HE.out, if_neg HD.out.1]
        exact htail_eq _ _ _ (by rw [HD.out.2]; unfold w32; omega)
end Go.Proofs.Ytloflmcgbbbnjaa
