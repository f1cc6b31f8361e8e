/-
  The walk of laws.FnInternal.
-/
import Derived.Test.YtnebbmbhildomaaDoorIkeyCmp
import Derived.Deep.RegionWith
namespace Go.Proofs.YtnebbmbhildomaaDoor
open Go.RowKit Plain

set_option maxHeartbeats 400000 in
set_option maxRecDepth 100000 in
/-- What the statement does not speak of. -/
theorem fnInternal_bad (A B : Option Addr) (n m ca cb : Nat) (s t k l : Int) (w : World) (h : 2147483647 < n ∨ 2147483647 < m ∨ 72057594037927936 ≤ s ∨ 72057594037927936 ≤ t ∨ k < 0 ∨ 1 < k ∨ l < 0 ∨ 1 < l) :
    Calls Tryd.prog 4 #[.slice A n ca, .slice B m cb, .int .u64 s, .int .u64 t, .int .i64 k, .int .i64 l] w fun e w' => e = .returned (.bool true) ∧ Only [] w w' := by
  by_cases h1 : 2147483647 < n
  · have t1 : decide ((n : Int) > 2147483647) = true := by simp; omega
    go_enter Tryd.func4, Tryd.ntmps4
    go_wp2
    go_ret
    exact ⟨rfl, Only.refl _ _⟩
  have t1 : decide ((n : Int) > 2147483647) = false := by simp; omega
  by_cases h2 : 2147483647 < m
  · have t2 : decide ((m : Int) > 2147483647) = true := by simp; omega
    go_enter Tryd.func4, Tryd.ntmps4
    go_wp2
    go_ret
    exact ⟨rfl, Only.refl _ _⟩
  have t2 : decide ((m : Int) > 2147483647) = false := by simp; omega
  by_cases h3 : 72057594037927936 ≤ s
  · have t3 : decide (72057594037927936 ≤ s) = true := by simpa using h3
    go_enter Tryd.func4, Tryd.ntmps4
    go_wp2
    go_ret
    exact ⟨rfl, Only.refl _ _⟩
  have t3 : decide (72057594037927936 ≤ s) = false := by simp; omega
  by_cases h4 : 72057594037927936 ≤ t
  · have t4 : decide (72057594037927936 ≤ t) = true := by simpa using h4
    go_enter Tryd.func4, Tryd.ntmps4
    go_wp2
    go_ret
    exact ⟨rfl, Only.refl _ _⟩
  have t4 : decide (72057594037927936 ≤ t) = false := by simp; omega
  by_cases h5 : k < 0
  · have t5 : decide (k < 0) = true := by simpa using h5
    go_enter Tryd.func4, Tryd.ntmps4
    go_wp2
    go_ret
    exact ⟨rfl, Only.refl _ _⟩
  have t5 : decide (k < 0) = false := by simp; omega
  by_cases h6 : 1 < k
  · have t6 : decide (1 < k) = true := by simpa using h6
    go_enter Tryd.func4, Tryd.ntmps4
    go_wp2
    go_ret
    exact ⟨rfl, Only.refl _ _⟩
  have t6 : decide (1 < k) = false := by simp; omega
  by_cases h7 : l < 0
  · have t7 : decide (l < 0) = true := by simpa using h7
    go_enter Tryd.func4, Tryd.ntmps4
    go_wp2
    go_ret
    exact ⟨rfl, Only.refl _ _⟩
  have t7 : decide (l < 0) = false := by simp; omega
  have t8 : decide (1 < l) = true := by simp; omega
  go_enter Tryd.func4, Tryd.ntmps4
  go_wp2
  go_ret
  exact ⟨rfl, Only.refl _ _⟩

set_option maxHeartbeats 4000000 in
set_option maxRecDepth 100000 in
theorem fnInternal_good (A B : Option Addr) (ca cb : Nat) (a b : List UInt8) (s t k l : Int) (w : World) (ha : BsAt w A a) (hb : BsAt w B b) (la : a.length ≤ 2147483647) (lb : b.length ≤ 2147483647)
    (s0 : 0 ≤ s) (s1 : s < 72057594037927936) (u0 : 0 ≤ t) (u1 : t < 72057594037927936) (k0 : 0 ≤ k) (k1 : k ≤ 1) (l0 : 0 ≤ l) (l1 : l ≤ 1) :
    Calls Tryd.prog 4 #[.slice A a.length ca, .slice B b.length cb, .int .u64 s, .int .u64 t, .int .i64 k, .int .i64 l] w fun e w' => e = .returned (.bool true) ∧ Only [] w w' := by
  have t1 : decide ((a.length : Int) > 2147483647) = false := by simp; omega
  have t2 : decide ((b.length : Int) > 2147483647) = false := by simp; omega
  have t3 : decide (72057594037927936 ≤ s) = false := by simp; omega
  have t4 : decide (72057594037927936 ≤ t) = false := by simp; omega
  have t5 : decide (k < 0) = false := by simp; omega
  have t6 : decide (1 < k) = false := by simp; omega
  have t7 : decide (l < 0) = false := by simp; omega
  have t8 : decide (1 < l) = false := by simp; omega
  have hv := icmp_ckeys a b (s * 256 + k) (t * 256 + l)
  go_enter Tryd.func4, Tryd.ntmps4
  go_wp2_with fail
  refine (specKey_any A ca a s k _ ha la s0 s1 k0 k1).mono ?_
  rintro e w1 ⟨g, c, rfl, hc, hg, ho1⟩
  go_wp2_with fail
  refine (specKey_any B cb b t l _ (hb.keep0 ho1) lb u0 u1 l0 l1).mono ?_
  rintro e w2 ⟨h, d, rfl, hd, hh, ho2⟩
  have hg2 := hg.keep0 ho2
  have hoo := ho1.new ho2
  have ha2 := ha.keep0 hoo
  clear hg ho1 ho2 t1 t2 t3 t4 t5 t6 t7 t8
  go_wp2_with fail
  have hs2 := fun (w' : World) (hw : Only [] w2 w') => run_str (P := Tryd.prog) 22 9 5 c Tryd.underlying22 Tryd.underlying5 Tryd.underlying9 (hg2.keep0 hw)
  rw [ikey_length] at hs2
  have hs2' := fun (w' : World) (o : Nat) (hw : BsAt w' (some ⟨o, 0, none⟩) (ikey a (s * 256 + k))) => run_str (P := Tryd.prog) 22 9 5 (a.length + 8) Tryd.underlying22 Tryd.underlying5 Tryd.underlying9 hw
  rw [ikey_length] at hs2'
  have he : ((ikey a (s * 256 + k) == ikey a (s * 256 + k)) : Bool) = true := by simp
  have hdr : Only [] w2 w2.drew := (Only.refl _ _).drew
  have hs3 := hs2 _ hdr
  go_region_with ((go_at_call 10; refine (implInternal_any A ca a s k _ (ha2.keep0 hdr) la s0 s1 k0 k1).mono ?_; rintro e w3 ⟨rfl, hb3, ho3⟩; have hcv : (convert 22 9 (.slice (some ⟨w2.heap.size, 0, none⟩) (a.length + 8) (a.length + 8))).run Tryd.prog w3 = .ok (.string (bstr (ikey a (s * 256 + k)))) w3 := hs2' _ _ (BsAt.of_bc hb3); have hd3 : Only [] w2 w3 := hdr.new ho3; have hs4 := hs2 _ hd3))
  all_goals
    have hg3 := hg2.keep0 hd3
    have hh3 := hh.keep0 hd3
    have ho3' := hoo.new hd3
    clear hs2 hs2' hs3 hs4 hcv hdr hb3 ho3 hd3 he
    go_wp2_with fail
    refine (implParse_any g c a s k _ hg3 hc la s0 s1 k0 k1).mono ?_
    rintro e w4 ⟨rfl, ho4⟩
    have hg4 := hg3.keep0 ho4
    have hh4 := hh3.keep0 ho4
    have ho4' := ho3'.new ho4
    clear hg3 hh3 ho3' ho4
    go_wp2_with fail
    refine (implCompare_any g h c d a b (s * 256 + k) (t * 256 + l) _ hg4 hh4 hc hd la lb (by omega) (by omega) (by omega) (by omega)).mono ?_
    rintro e w5 ⟨rfl, ho5⟩
    have hg5 := hg4.keep0 ho5
    have hh5 := hh4.keep0 ho5
    have ho5' := ho4'.new ho5
    clear hg4 hh4 ho4' ho5
    go_wp2_with fail
    refine (compareKeys_any g h c d a b (s * 256 + k) (t * 256 + l) _ hg5 hh5 hc hd la lb (by omega) (by omega) (by omega) (by omega)).mono ?_
    rintro e w6 ⟨rfl, hd6⟩
    have ho6 := ho5'.dr hd6
    have e1 : (decide (icmpV a b (s * 256 + k) (t * 256 + l) < 0) == decide (ckeysV a b (s * 256 + k) (t * 256 + l) < 0)) = true := by
      rw [beq_iff_eq, decide_eq_decide]; exact hv.1
    have e2 : (decide (0 < icmpV a b (s * 256 + k) (t * 256 + l)) == decide (0 < ckeysV a b (s * 256 + k) (t * 256 + l))) = true := by
      rw [beq_iff_eq, decide_eq_decide]; exact hv.2
    generalize icmpV a b (s * 256 + k) (t * 256 + l) = I at *
    generalize ckeysV a b (s * 256 + k) (t * 256 + l) = C at *
    have hka := (hg5.dr hd6).take a.length
    rw [ikey_take] at hka
    have hA6 := ha.keep0 ho6
    have k1' := fun n => run_str (P := Tryd.prog) 22 9 5 c Tryd.underlying22 Tryd.underlying5 Tryd.underlying9 (hka.drewN n)
    have k2' := fun n => run_str (P := Tryd.prog) 22 9 5 ca Tryd.underlying22 Tryd.underlying5 Tryd.underlying9 (hA6.drewN n)
    have k1'' := k1' 0
    have k2'' := k2' 0
    rw [World.drewN_zero] at k1'' k2''
    have he2 : ((a == a) : Bool) = true := by simp
    clear hv hg5 hh5 ho5' hd6 hh hg2 hoo ha2 hka hA6
    go_wp2
    try (go_quiet (fail))
    try go_wp2
  all_goals
    go_ret
    exact ⟨rfl, ho6⟩

theorem fnInternal_walk (A B : Option Addr) (ca cb : Nat) (a b : List UInt8) (s t k l : Int) (w : World) (ha : BsAt w A a) (hb : BsAt w B b) (ws : (Lit.int .u64 s).wf = true) (wt : (Lit.int .u64 t).wf = true) :
    Calls Tryd.prog 4 #[.slice A a.length ca, .slice B b.length cb, .int .u64 s, .int .u64 t, .int .i64 k, .int .i64 l] w fun e w' => e = .returned (.bool true) ∧ Only [] w w' := by
  have s0 : 0 ≤ s := by
    have : 0 ≤ s ∧ s ≤ 18446744073709551615 := by simpa [Lit.wf, IntKind.min, IntKind.max, IntKind.signed, IntKind.bits] using ws
    exact this.1
  have t0 : 0 ≤ t := by
    have : 0 ≤ t ∧ t ≤ 18446744073709551615 := by simpa [Lit.wf, IntKind.min, IntKind.max, IntKind.signed, IntKind.bits] using wt
    exact this.1
  by_cases h : 2147483647 < a.length ∨ 2147483647 < b.length ∨ 72057594037927936 ≤ s ∨ 72057594037927936 ≤ t ∨ k < 0 ∨ 1 < k ∨ l < 0 ∨ 1 < l
  · exact fnInternal_bad A B _ _ ca cb s t k l w h
  · exact fnInternal_good A B ca cb a b s t k l w ha hb (by omega) (by omega) s0 (by omega) t0 (by omega) (by omega) (by omega) (by omega) (by omega)
end Go.Proofs.YtnebbmbhildomaaDoor
