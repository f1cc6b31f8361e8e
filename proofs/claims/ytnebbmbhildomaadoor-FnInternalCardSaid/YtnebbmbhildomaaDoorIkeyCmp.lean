/-
  Keys of the store inside compared: the package's comparer of keys inside, and the reference's.
-/
import Derived.Test.YtnebbmbhildomaaDoorInternal
namespace Go.Proofs.YtnebbmbhildomaaDoor
open Go.RowKit Plain

set_option maxHeartbeats 800000 in
theorem ukey_any (g c : Nat) (n : Nat) (w : World) (hc : n + 8 ≤ c) (hl : n ≤ 2147483647) :
    Calls Tryd.prog 29 #[.slice (some ⟨g, 0, none⟩) (n + 8) c] w fun e w' => e = .returned (.slice (some ⟨g, 0, none⟩) n c) ∧ w = w' := by
  have en := fun W x m k => Lib.run_eql_slice_nil (P := Tryd.prog) W 37 5 x m k 0 0 Tryd.underlying37
  have q1 : ¬ ((n : Int) + 8 < 8) := by omega
  have q7 : IntKind.i64.wrap (n : Int) = n := i64_id (by omega) (by omega)
  have q4 : n ≤ c := by omega
  go_enter Tryd.func29, Tryd.ntmps29
  go_wp2
  go_end0
  go_wp2
  go_ret
  exact ⟨rfl, rfl⟩

set_option maxHeartbeats 800000 in
theorem num_any (g c : Nat) (key : List UInt8) (x : Int) (w : World) (ha : BsAt w (some ⟨g, 0, none⟩) (ikey key x)) (hc : key.length + 8 ≤ c) (hl : key.length ≤ 2147483647) (x0 : 0 ≤ x) (x1 : x < 18446744073709551616) :
    Calls Tryd.prog 30 #[.slice (some ⟨g, 0, none⟩) (key.length + 8) c] w fun e w' => e = .returned (.int .u64 x) ∧ Only [] w w' := by
  have en := fun W y m k => Lib.run_eql_slice_nil (P := Tryd.prog) W 37 5 y m k 0 0 Tryd.underlying37
  have q1 : ¬ ((key.length : Int) + 8 < 8) := by omega
  have q3 : ¬ c = key.length := by omega
  have q5 : (key.length : Int) ≤ (key.length : Int) + 8 := by omega
  have q7 : IntKind.i64.wrap (key.length : Int) = key.length := i64_id (by omega) (by omega)
  have q4 : key.length ≤ c := by omega
  have hn := leI_ikey key x0 x1
  have hu := fun w' (hC : Only [] w w') => leUint64_any g key.length 8 (c - key.length) ((ikey key x).drop key.length) w' (by have := (ha.keep0 hC).drop key.length; rwa [Nat.zero_add] at this) (by rw [List.length_drop, ikey_length]; omega) (by rw [List.length_drop, ikey_length]; omega)
  rw [hn] at hu
  have HU := hid hu
  clear hn hu
  go_enter Tryd.func30, Tryd.ntmps30
  go_wp2
  go_end0
  go_wp2
  refine wp_region_cls (fun w' => Only [] w w') (by kernel_rfl) (by kernel_rfl) (Only.refl _ _).drew ?_
  iterate 6
    refine wpQuiet_plain rfl (fun K hK => ?_)
    apply quiet_mk
    · intro w' hC
      go_simp
      rfl
    go_simp
    refine hK _ ?_
    clear hK K
  refine wpQuiet_plain rfl (fun K hK => ?_)
  apply quiet_mk
  · intro w' hC
    go_simp
    exact (HU.out w' hC).mono (fun e w'' he => ⟨he.1, hC.new he.2⟩)
  go_simp
  refine hK _ ?_
  clear hK K
  refine wpQuiet_plain rfl (fun K hK => ?_)
  apply quiet_mk
  · intro w' hC
    go_simp
    rfl
  go_simp
  refine hK _ ?_
  clear hK K
  refine wpQuiet_nil ?_
  intro w5 ho5
  go_wp2
  go_ret
  exact ⟨rfl, ho5⟩

theorem method_cmp (d : Nat) (w : World) : (method (d + 1) 33 (.agg #[]) "Compare").run Tryd.prog w = .ok (48, .agg #[]) w := by kernel_rfl
set_option maxHeartbeats 800000 in
theorem uCompare_any (p : Nat) (A B : Option Addr) (n m ca cb : Nat) (a b : List UInt8) (w : World) (hp : Blk w p 48 [.iface 33 (.agg #[])]) (ha : BsAt w A a) (hb : BsAt w B b) (hn : n = a.length) (hm : m = b.length) :
    Calls Tryd.prog 28 #[.pointer (some ⟨p, 0, none⟩), .slice A n ca, .slice B m cb] w fun e w' => e = .returned (.int .i64 (bcmp a b)) ∧ Only [] w w' := by
  subst hn; subst hm
  have c0 : w.cell? ⟨p, 0, none⟩ = some (.iface 33 (.agg #[])) := hp.cell 0
  have hmt := method_cmp
  go_enter Tryd.func28, Tryd.ntmps28
  go_wp2_with (go_at_call 48; refine (cmpCompare_any A B _ _ ca cb a b _ ha hb rfl rfl).mono ?_; rintro e w1 ⟨rfl, ho⟩)
  go_ret
  exact ⟨rfl, ho⟩

/-- What the package's comparer of keys inside says. -/
def icmpV (a b : List UInt8) (x y : Int) : Int := if bcmp a b = 0 then (if y < x then -1 else if x < y then 1 else 0) else bcmp a b

set_option maxHeartbeats 1600000 in
set_option maxRecDepth 100000 in
theorem iCompare_any (p g h c d : Nat) (a b : List UInt8) (x y : Int) (w : World) (hp : Blk w p 48 [.iface 33 (.agg #[])])
    (ha : BsAt w (some ⟨g, 0, none⟩) (ikey a x)) (hb : BsAt w (some ⟨h, 0, none⟩) (ikey b y)) (hc : a.length + 8 ≤ c) (hd : b.length + 8 ≤ d) (la : a.length ≤ 2147483647) (lb : b.length ≤ 2147483647)
    (x0 : 0 ≤ x) (x1 : x < 18446744073709551616) (y0 : 0 ≤ y) (y1 : y < 18446744073709551616) :
    Calls Tryd.prog 23 #[.pointer (some ⟨p, 0, none⟩), .slice (some ⟨g, 0, none⟩) (a.length + 8) c, .slice (some ⟨h, 0, none⟩) (b.length + 8) d] w fun e w' => e = .returned (.int .i64 (icmpV a b x y)) ∧ Only [] w w' := by
  have ka := ha.take a.length
  have kb := hb.take b.length
  rw [ikey_take] at ka kb
  go_enter Tryd.func23, Tryd.ntmps23
  go_wp2_with fail
  refine (ukey_any g c a.length _ hc la).mono ?_
  rintro e w' ⟨rfl, rfl⟩
  go_wp2_with fail
  refine (ukey_any h d b.length _ hd lb).mono ?_
  rintro e w' ⟨rfl, rfl⟩
  go_wp2_with fail
  refine (uCompare_any p _ _ a.length b.length c d a b _ hp ka kb rfl rfl).mono ?_
  rintro e w1 ⟨rfl, ho⟩
  have h1 := bcmp_lo a b
  have h2 := bcmp_hi a b
  by_cases h0 : bcmp a b = 0
  · have t0 : (bcmp a b == 0) = true := beq_iff_eq.2 h0
    have H0 := hid h0
    clear h0
    go_wp2_with fail
    refine (num_any g c a x _ (ha.keep0 ho) hc la x0 x1).mono ?_
    rintro e w2 ⟨rfl, ho2⟩
    go_wp2_with fail
    refine (num_any h d b y _ ((hb.keep0 ho).keep0 ho2) hd lb y0 y1).mono ?_
    rintro e w3 ⟨rfl, ho3⟩
    have hoo := (ho.new ho2).new ho3
    by_cases q1 : y < x
    · go_wp2
      go_ret
      exact ⟨ret_int (by unfold icmpV; rw [if_pos H0.out, if_pos q1]), hoo⟩
    · by_cases q2 : x < y
      · go_wp2
        go_ret
        exact ⟨ret_int (by unfold icmpV; rw [if_pos H0.out, if_neg (by omega), if_pos q2]), hoo⟩
      · go_wp2
        go_ret
        exact ⟨ret_int (by unfold icmpV; rw [if_pos H0.out, if_neg (by omega), if_neg (by omega), H0.out]), hoo⟩
  · have t0 : (bcmp a b == 0) = false := beq_eq_false_iff_ne.2 h0
    have H0 := hid h0
    clear h0
    go_wp2
    go_ret
    exact ⟨ret_int (by unfold icmpV; rw [if_neg H0.out]), ho⟩

set_option maxHeartbeats 800000 in
theorem implCompare_any (g h c d : Nat) (a b : List UInt8) (x y : Int) (w : World)
    (ha : BsAt w (some ⟨g, 0, none⟩) (ikey a x)) (hb : BsAt w (some ⟨h, 0, none⟩) (ikey b y)) (hc : a.length + 8 ≤ c) (hd : b.length + 8 ≤ d) (la : a.length ≤ 2147483647) (lb : b.length ≤ 2147483647)
    (x0 : 0 ≤ x) (x1 : x < 18446744073709551616) (y0 : 0 ≤ y) (y1 : y < 18446744073709551616) :
    Calls Tryd.prog 12 #[.slice (some ⟨g, 0, none⟩) (a.length + 8) c, .slice (some ⟨h, 0, none⟩) (b.length + 8) d] w fun e w' => e = .returned (.int .i64 (icmpV a b x y)) ∧ Only [] w w' := by
  go_enter Tryd.func12, Tryd.ntmps12
  go_wp2_with (first | (go_at_call 19; go_in) | (go_at_call 23; refine (iCompare_any _ g h c d a b x y _ (Blk.new _ _ [_]) (ha.alloc _) (hb.alloc _) hc hd la lb x0 x1 y0 y1).mono ?_; rintro e w1 ⟨rfl, ho⟩))
  go_ret
  exact ⟨rfl, ((Only.refl _ _).alloc _).new ho⟩

/-- What the reference says. -/
def ckeysV (a b : List UInt8) (x y : Int) : Int := if cmpI a b = 0 then (if y < x then -1 else if x < y then 1 else 0) else cmpI a b
theorem icmp_ckeys (a b : List UInt8) (x y : Int) : (icmpV a b x y < 0 ↔ ckeysV a b x y < 0) ∧ (0 < icmpV a b x y ↔ 0 < ckeysV a b x y) := by
  unfold icmpV ckeysV
  have h := bcmp_spec a b
  by_cases h0 : bcmp a b = 0
  · have h1 : cmpI a b = 0 := by omega
    rw [if_pos h0, if_pos h1]
    exact ⟨Iff.rfl, Iff.rfl⟩
  · have h1 : ¬ cmpI a b = 0 := by omega
    rw [if_neg h0, if_neg h1]
    omega

set_option maxHeartbeats 1600000 in
set_option maxRecDepth 100000 in
theorem compareKeys_any (g h c d : Nat) (a b : List UInt8) (x y : Int) (w : World)
    (ha : BsAt w (some ⟨g, 0, none⟩) (ikey a x)) (hb : BsAt w (some ⟨h, 0, none⟩) (ikey b y)) (hc : a.length + 8 ≤ c) (hd : b.length + 8 ≤ d) (la : a.length ≤ 2147483647) (lb : b.length ≤ 2147483647)
    (x0 : 0 ≤ x) (x1 : x < 18446744073709551616) (y0 : 0 ≤ y) (y1 : y < 18446744073709551616) :
    Calls Tryd.prog 13 #[.slice (some ⟨g, 0, none⟩) (a.length + 8) c, .slice (some ⟨h, 0, none⟩) (b.length + 8) d] w fun e w' => e = .returned (.int .i64 (ckeysV a b x y)) ∧ Dr w w' := by
  have ka := ha.take a.length
  have kb := hb.take b.length
  rw [ikey_take] at ka kb
  have na := ha.drop a.length
  have nb := hb.drop b.length
  rw [ikey_drop, Nat.zero_add] at na nb
  have hna := leI_leB x 8 x0 (by simpa using x1)
  have hnb := leI_leB y 8 y0 (by simpa using y1)
  have q7 : IntKind.i64.wrap (a.length : Int) = a.length := i64_id (by omega) (by omega)
  have q8 : IntKind.i64.wrap (b.length : Int) = b.length := i64_id (by omega) (by omega)
  have r1 : a.length ≤ c := by omega
  have r2 : b.length ≤ d := by omega
  have r3 : ¬ c = a.length := by omega
  have r4 : ¬ d = b.length := by omega
  have r5 : (a.length : Int) ≤ (a.length : Int) + 8 := by omega
  have r6 : (b.length : Int) ≤ (b.length : Int) + 8 := by omega
  have fc := fun n => (compare_n (some ⟨g, 0, none⟩) (some ⟨h, 0, none⟩) a.length b.length c d a b (w.drewN n) (ka.drewN n) (kb.drewN n) (by omega) (by omega) rfl rfl)
  have fa := fun n => (unlittle_any (some ⟨g, a.length, none⟩) 8 (c - a.length) (leB x 8) (w.drewN n) (na.drewN n) (by rw [leB_length]; exact Nat.le_refl _) (by rw [leB_length]))
  have fb := fun n => (unlittle_any (some ⟨h, b.length, none⟩) 8 (d - b.length) (leB y 8) (w.drewN n) (nb.drewN n) (by rw [leB_length]; exact Nat.le_refl _) (by rw [leB_length]))
  rw [hna] at fa
  rw [hnb] at fb
  have FC := hid fc
  have FA := hid fa
  have FB := hid fb
  clear fa fb fc hna hnb ka kb na nb
  have h1 := cmpI_range a b
  go_enter Tryd.func13, Tryd.ntmps13
  go_wp2
  go_quiet ((go_at_call 6; exact Dr.quiet (FC.out _)))
  by_cases h0 : cmpI a b = 0
  · have t0 : (cmpI a b != 0) = false := by rw [bne_eq_false_iff_eq]; exact h0
    have H0 := hid h0
    clear h0
    go_wp2
    go_quiet (first | (go_at_call_of 20 g; exact Dr.quiet_add (FA.out _)) | (go_at_call_of 20 h; exact Dr.quiet_add (FB.out _)))
    by_cases q1 : y < x
    · go_wp2
      go_ret
      exact ⟨ret_int (by unfold ckeysV; rw [if_pos H0.out, if_pos q1]), by repeat (first | exact Dr.refl _ | apply Dr.step)⟩
    · by_cases q2 : x < y
      · go_wp2
        go_ret
        exact ⟨ret_int (by unfold ckeysV; rw [if_pos H0.out, if_neg (by omega), if_pos q2]), by repeat (first | exact Dr.refl _ | apply Dr.step)⟩
      · go_wp2
        go_ret
        exact ⟨ret_int (by unfold ckeysV; rw [if_pos H0.out, if_neg (by omega), if_neg (by omega)]), by repeat (first | exact Dr.refl _ | apply Dr.step)⟩
  · have t0 : (cmpI a b != 0) = true := by rw [bne_iff_ne]; exact h0
    have H0 := hid h0
    clear h0
    go_wp2
    go_ret
    exact ⟨ret_int (by unfold ckeysV; rw [if_neg H0.out]), by repeat (first | exact Dr.refl _ | apply Dr.step)⟩
end Go.Proofs.YtnebbmbhildomaaDoor
