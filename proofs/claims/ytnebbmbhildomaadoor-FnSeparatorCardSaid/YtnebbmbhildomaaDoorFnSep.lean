/-
  The walk of laws.FnSeparator.
-/
import Derived.Test.YtnebbmbhildomaaDoorSep
namespace Go.Proofs.YtnebbmbhildomaaDoor
open Go.RowKit Plain

set_option maxHeartbeats 4000000 in
set_option maxRecDepth 100000 in
theorem fnSep_none (A B : Option Addr) (ca cb : Nat) (a b : List UInt8) (w : World) (ha : BsAt w A a) (hb : BsAt w B b) (hca : a.length ≤ ca) (la : a.length ≤ 2147483647) (lb : b.length ≤ 2147483647) (hsu : succ a 0 = none) :
    Calls Tryd.prog 3 #[.slice A a.length ca, .slice B b.length cb] w fun e w' => e = .returned (.bool true) ∧ Only [] w w' := by
  have t1 : decide ((a.length : Int) > 2147483647) = false := by simp; omega
  have t2 : decide ((b.length : Int) > 2147483647) = false := by simp; omega
  have en := fun W x n c => Lib.run_eql_slice_nil (P := Tryd.prog) W 22 5 x n c 0 0 Tryd.underlying22
  have nn := fun W x n c => run_neq_slice_nil_any (P := Tryd.prog) W 22 5 x n c 0 0 Tryd.underlying22
  go_enter Tryd.func3, Tryd.ntmps3
  go_wp2_with fail
  refine (implSucc_any A ca a _ ha la hca).mono ?_
  rintro e w1 ⟨x, rfl, hr, ho⟩
  rw [hsu] at hr
  obtain rfl : x = .slice none 0 0 := hr
  have ho2 := ho
  obtain ⟨w2, hw2⟩ : ∃ w2, w2 = w1 := ⟨_, rfl⟩
  rw [← hw2] at ho2 ⊢
  clear hw2 ho
  go_wp2_with fail
  refine (compare_n A B _ _ ca cb a b _ (ha.keep0 ho2) (hb.keep0 ho2) (by omega) (by omega) rfl rfl).mono ?_
  rintro e w3 ⟨rfl, hd⟩
  have ho3 := ho2.dr hd
  clear hd ho2
  by_cases hcmp : 0 ≤ cmpI a b
  · go_wp2
    go_ret
    exact ⟨rfl, ho3⟩
  · go_wp2_with fail
    refine (implSep_any A B ca cb a b _ (ha.keep0 ho3) (hb.keep0 ho3) la lb hca).mono ?_
    rintro e w4 ⟨x, rfl, hr, ho4⟩
    have ho5 := ho3.new ho4
    clear ho3 ho4
    go_wp2_with fail
    refine (shared_any A B ca cb a b _ (ha.keep0 ho5) (hb.keep0 ho5) (by omega)).mono ?_
    rintro e w5 ⟨rfl, hd⟩
    have ho := ho5.dr hd
    have ha5 := (ha.keep0 ho)
    have hb5 := (hb.keep0 ho)
    have hsh := shared_le a b
    obtain ⟨n, hn⟩ : ∃ n, n = shared a b := ⟨_, rfl⟩
    rw [← hn] at hsh ⊢
    have HN := hid hn
    have hx0 := bz_lo a n; have hx1 := bz_hi a n; have hy0 := bz_lo b n; have hy1 := bz_hi b n
    clear hn
    cases hsep : sep a b with
    | none =>
      rw [hsep] at hr
      obtain rfl : x = .slice none 0 0 := hr
      have HS := hid (sep_none hsep)
      rw [← HN.out] at HS
      clear hsep hd ho5
      by_cases e1 : n + 1 < a.length
      · by_cases e2 : n < b.length
        · obtain ⟨g, o, rfl, _, hcc⟩ := ha5.addr (by omega)
          obtain ⟨g', o', rfl, _, hcc'⟩ := hb5.addr (by omega)
          have hc := hcc n (by omega)
          have hc' := hcc' n (by omega)
          clear hcc hcc'
          by_cases e3 : bz a n < 255
          · have e4 : ¬ bz a n + 1 < bz b n := fun h => HS.out ⟨by omega, e2, e3, h⟩
            have d1 : decide ((n : Int) + 1 < (a.length : Int)) = true := by simp; omega
            have d1' : decide (n + 1 < a.length) = true := by simp; omega
            have d2 : decide ((n : Int) < (b.length : Int)) = true := by simp; omega
            have d2' : decide (n < b.length) = true := by simp; omega
            have d3 : decide (bz a n < 255) = true := by simp; omega
            have d4 : decide (bz a n + 1 < bz b n) = false := by simp; omega
            go_wp2
            repeat (go_quiet (fail); try go_wp2)
            go_ret
            exact ⟨rfl, by repeat (first | exact ho | apply Only.drewN)⟩
          · have d1 : decide ((n : Int) + 1 < (a.length : Int)) = true := by simp; omega
            have d1' : decide (n + 1 < a.length) = true := by simp; omega
            have d2 : decide ((n : Int) < (b.length : Int)) = true := by simp; omega
            have d2' : decide (n < b.length) = true := by simp; omega
            have d3 : decide (bz a n < 255) = false := by simp; omega
            go_wp2
            repeat (go_quiet (fail); try go_wp2)
            go_ret
            exact ⟨rfl, by repeat (first | exact ho | apply Only.drewN)⟩
        · have d1 : decide ((n : Int) + 1 < (a.length : Int)) = true := by simp; omega
          have d1' : decide (n + 1 < a.length) = true := by simp; omega
          have d2 : decide ((n : Int) < (b.length : Int)) = false := by simp; omega
          have d2' : decide (n < b.length) = false := by simp; omega
          go_wp2
          repeat (go_quiet (fail); try go_wp2)
          go_ret
          exact ⟨rfl, by repeat (first | exact ho | apply Only.drewN)⟩
      · have d1 : decide ((n : Int) + 1 < (a.length : Int)) = false := by simp; omega
        have d1' : decide (n + 1 < a.length) = false := by simp; omega
        go_wp2
        repeat (go_quiet (fail); try go_wp2)
        go_ret
        exact ⟨rfl, by repeat (first | exact ho | apply Only.drewN)⟩
    | some x' =>
      rw [hsep] at hr
      obtain ⟨hr, _⟩ := hr
      have hlw := sep_law hsep
      have hin := sep_in hsep
      rw [← HN.out] at hlw hin
      obtain ⟨q1, q2, q3, q4⟩ := hlw
      obtain ⟨r1, r2, r3, r4⟩ := hin
      obtain ⟨gx, cx, rfl, _, _, hbx⟩ := own_bytes hr (by omega)
      have q4' : x'.length ≤ n + 1 := by omega
      clear q4
      have hbx5 := hbx.dr hd
      have q3' : (x'.length : Int) ≤ (a.length : Int) := by omega
      have u1 : decide (0 ≤ cmpI x' a) = true := by simpa using q1
      have u2 : decide (cmpI x' b < 0) = true := by simpa using q2
      have fa := fun m => compare_n (some ⟨gx, 0, none⟩) A x'.length a.length cx ca x' a (w5.drewN m) (hbx5.drewN m) (ha5.drewN m) (by omega) (by omega) rfl rfl
      have fb := fun m => compare_n (some ⟨gx, 0, none⟩) B x'.length b.length cx cb x' b (w5.drewN m) (hbx5.drewN m) (hb5.drewN m) (by omega) (by omega) rfl rfl
      have FA := hid fa
      have FB := hid fb
      clear hsep hd ho5 hr hbx fa fb
      by_cases e1 : n + 1 < a.length
      · have e5 : ¬ (a.length : Int) ≤ (x'.length : Int) := by omega
        have e5' : decide (a.length ≤ x'.length) = false := by simp; omega
        obtain ⟨g, o, rfl, _, hcc⟩ := ha5.addr (by omega)
        obtain ⟨g', o', rfl, _, hcc'⟩ := hb5.addr (by omega)
        have hc := hcc n (by omega)
        have hc' := hcc' n (by omega)
        clear hcc hcc'
        have d1 : decide ((n : Int) + 1 < (a.length : Int)) = true := by simp; omega
        have d1' : decide (n + 1 < a.length) = true := by simp; omega
        have d2 : decide ((n : Int) < (b.length : Int)) = true := by simp; omega
        have d2' : decide (n < b.length) = true := by simp; omega
        have d3 : decide (bz a n < 255) = true := by simp; omega
        have d4 : decide (bz a n + 1 < bz b n) = true := by simp; omega
        go_wp2_with fail
        go_quiet (fail)
        go_wp2_with fail
        refine (FA.out _).mono ?_
        rintro e w6 ⟨rfl, ⟨m6, rfl⟩⟩
        go_wp2_with fail
        refine (FB.out _).mono ?_
        rintro e w6 ⟨rfl, ⟨m6', rfl⟩⟩
        go_wp2
        go_ret
        exact ⟨ret_bool (by simp), by repeat (first | exact ho | apply Only.drewN)⟩
      · have d1 : decide ((n : Int) + 1 < (a.length : Int)) = false := by simp; omega
        have d1' : decide (n + 1 < a.length) = false := by simp; omega
        go_wp2_with fail
        go_quiet (fail)
        go_wp2_with fail
        refine (FA.out _).mono ?_
        rintro e w6 ⟨rfl, ⟨m6, rfl⟩⟩
        go_wp2_with fail
        refine (FB.out _).mono ?_
        rintro e w6 ⟨rfl, ⟨m6', rfl⟩⟩
        go_wp2
        go_ret
        exact ⟨ret_bool (by simp), by repeat (first | exact ho | apply Only.drewN)⟩

set_option maxHeartbeats 4000000 in
set_option maxRecDepth 100000 in
theorem fnSep_some (A B : Option Addr) (ca cb : Nat) (a b : List UInt8) (w : World) (ha : BsAt w A a) (hb : BsAt w B b) (hca : a.length ≤ ca) (la : a.length ≤ 2147483647) (lb : b.length ≤ 2147483647) (s : List UInt8) (hsu : succ a 0 = some s) :
    Calls Tryd.prog 3 #[.slice A a.length ca, .slice B b.length cb] w fun e w' => e = .returned (.bool true) ∧ Only [] w w' := by
  have t1 : decide ((a.length : Int) > 2147483647) = false := by simp; omega
  have t2 : decide ((b.length : Int) > 2147483647) = false := by simp; omega
  have en := fun W x n c => Lib.run_eql_slice_nil (P := Tryd.prog) W 22 5 x n c 0 0 Tryd.underlying22
  have nn := fun W x n c => run_neq_slice_nil_any (P := Tryd.prog) W 22 5 x n c 0 0 Tryd.underlying22
  have hsl := succ_law hsu
  have hs1 : ¬ cmpI s a < 0 := by omega
  have hs2 := hsl.2
  have hs2' : ¬ (a.length : Int) < (s.length : Int) := by omega
  have hs3 : 0 < s.length := succ_pos hsu
  clear hsl
  go_enter Tryd.func3, Tryd.ntmps3
  go_wp2_with fail
  refine (implSucc_any A ca a _ ha la hca).mono ?_
  rintro e w1 ⟨x, rfl, hr, ho⟩
  rw [hsu] at hr
  obtain ⟨hr, _⟩ := hr
  obtain ⟨gs, cs, rfl, _, _, hbs⟩ := own_bytes hr hs3
  clear hr
  go_wp2_with fail
  refine (compare_n _ A _ _ _ ca s a _ hbs (ha.keep0 ho) (by omega) (by omega) rfl rfl).mono ?_
  rintro e w2 ⟨rfl, hd⟩
  have ho2 := ho.dr hd
  clear hd ho hbs
  go_wp2_with fail
  refine (compare_n A B _ _ ca cb a b _ (ha.keep0 ho2) (hb.keep0 ho2) (by omega) (by omega) rfl rfl).mono ?_
  rintro e w3 ⟨rfl, hd⟩
  have ho3 := ho2.dr hd
  clear hd ho2
  by_cases hcmp : 0 ≤ cmpI a b
  · go_wp2
    go_ret
    exact ⟨rfl, ho3⟩
  · go_wp2_with fail
    refine (implSep_any A B ca cb a b _ (ha.keep0 ho3) (hb.keep0 ho3) la lb hca).mono ?_
    rintro e w4 ⟨x, rfl, hr, ho4⟩
    have ho5 := ho3.new ho4
    clear ho3 ho4
    go_wp2_with fail
    refine (shared_any A B ca cb a b _ (ha.keep0 ho5) (hb.keep0 ho5) (by omega)).mono ?_
    rintro e w5 ⟨rfl, hd⟩
    have ho := ho5.dr hd
    have ha5 := (ha.keep0 ho)
    have hb5 := (hb.keep0 ho)
    have hsh := shared_le a b
    obtain ⟨n, hn⟩ : ∃ n, n = shared a b := ⟨_, rfl⟩
    rw [← hn] at hsh ⊢
    have HN := hid hn
    have hx0 := bz_lo a n; have hx1 := bz_hi a n; have hy0 := bz_lo b n; have hy1 := bz_hi b n
    clear hn
    cases hsep : sep a b with
    | none =>
      rw [hsep] at hr
      obtain rfl : x = .slice none 0 0 := hr
      have HS := hid (sep_none hsep)
      rw [← HN.out] at HS
      clear hsep hd ho5
      by_cases e1 : n + 1 < a.length
      · by_cases e2 : n < b.length
        · obtain ⟨g, o, rfl, _, hcc⟩ := ha5.addr (by omega)
          obtain ⟨g', o', rfl, _, hcc'⟩ := hb5.addr (by omega)
          have hc := hcc n (by omega)
          have hc' := hcc' n (by omega)
          clear hcc hcc'
          by_cases e3 : bz a n < 255
          · have e4 : ¬ bz a n + 1 < bz b n := fun h => HS.out ⟨by omega, e2, e3, h⟩
            have d1 : decide ((n : Int) + 1 < (a.length : Int)) = true := by simp; omega
            have d1' : decide (n + 1 < a.length) = true := by simp; omega
            have d2 : decide ((n : Int) < (b.length : Int)) = true := by simp; omega
            have d2' : decide (n < b.length) = true := by simp; omega
            have d3 : decide (bz a n < 255) = true := by simp; omega
            have d4 : decide (bz a n + 1 < bz b n) = false := by simp; omega
            go_wp2
            repeat (go_quiet (fail); try go_wp2)
            go_ret
            exact ⟨rfl, by repeat (first | exact ho | apply Only.drewN)⟩
          · have d1 : decide ((n : Int) + 1 < (a.length : Int)) = true := by simp; omega
            have d1' : decide (n + 1 < a.length) = true := by simp; omega
            have d2 : decide ((n : Int) < (b.length : Int)) = true := by simp; omega
            have d2' : decide (n < b.length) = true := by simp; omega
            have d3 : decide (bz a n < 255) = false := by simp; omega
            go_wp2
            repeat (go_quiet (fail); try go_wp2)
            go_ret
            exact ⟨rfl, by repeat (first | exact ho | apply Only.drewN)⟩
        · have d1 : decide ((n : Int) + 1 < (a.length : Int)) = true := by simp; omega
          have d1' : decide (n + 1 < a.length) = true := by simp; omega
          have d2 : decide ((n : Int) < (b.length : Int)) = false := by simp; omega
          have d2' : decide (n < b.length) = false := by simp; omega
          go_wp2
          repeat (go_quiet (fail); try go_wp2)
          go_ret
          exact ⟨rfl, by repeat (first | exact ho | apply Only.drewN)⟩
      · have d1 : decide ((n : Int) + 1 < (a.length : Int)) = false := by simp; omega
        have d1' : decide (n + 1 < a.length) = false := by simp; omega
        go_wp2
        repeat (go_quiet (fail); try go_wp2)
        go_ret
        exact ⟨rfl, by repeat (first | exact ho | apply Only.drewN)⟩
    | some x' =>
      rw [hsep] at hr
      obtain ⟨hr, _⟩ := hr
      have hlw := sep_law hsep
      have hin := sep_in hsep
      rw [← HN.out] at hlw hin
      obtain ⟨q1, q2, q3, q4⟩ := hlw
      obtain ⟨r1, r2, r3, r4⟩ := hin
      obtain ⟨gx, cx, rfl, _, _, hbx⟩ := own_bytes hr (by omega)
      have q4' : x'.length ≤ n + 1 := by omega
      clear q4
      have hbx5 := hbx.dr hd
      have q3' : (x'.length : Int) ≤ (a.length : Int) := by omega
      have u1 : decide (0 ≤ cmpI x' a) = true := by simpa using q1
      have u2 : decide (cmpI x' b < 0) = true := by simpa using q2
      have fa := fun m => compare_n (some ⟨gx, 0, none⟩) A x'.length a.length cx ca x' a (w5.drewN m) (hbx5.drewN m) (ha5.drewN m) (by omega) (by omega) rfl rfl
      have fb := fun m => compare_n (some ⟨gx, 0, none⟩) B x'.length b.length cx cb x' b (w5.drewN m) (hbx5.drewN m) (hb5.drewN m) (by omega) (by omega) rfl rfl
      have FA := hid fa
      have FB := hid fb
      clear hsep hd ho5 hr hbx fa fb
      by_cases e1 : n + 1 < a.length
      · have e5 : ¬ (a.length : Int) ≤ (x'.length : Int) := by omega
        have e5' : decide (a.length ≤ x'.length) = false := by simp; omega
        obtain ⟨g, o, rfl, _, hcc⟩ := ha5.addr (by omega)
        obtain ⟨g', o', rfl, _, hcc'⟩ := hb5.addr (by omega)
        have hc := hcc n (by omega)
        have hc' := hcc' n (by omega)
        clear hcc hcc'
        have d1 : decide ((n : Int) + 1 < (a.length : Int)) = true := by simp; omega
        have d1' : decide (n + 1 < a.length) = true := by simp; omega
        have d2 : decide ((n : Int) < (b.length : Int)) = true := by simp; omega
        have d2' : decide (n < b.length) = true := by simp; omega
        have d3 : decide (bz a n < 255) = true := by simp; omega
        have d4 : decide (bz a n + 1 < bz b n) = true := by simp; omega
        go_wp2_with fail
        go_quiet (fail)
        go_wp2_with fail
        refine (FA.out _).mono ?_
        rintro e w6 ⟨rfl, ⟨m6, rfl⟩⟩
        go_wp2_with fail
        refine (FB.out _).mono ?_
        rintro e w6 ⟨rfl, ⟨m6', rfl⟩⟩
        go_wp2
        go_ret
        exact ⟨ret_bool (by simp), by repeat (first | exact ho | apply Only.drewN)⟩
      · have d1 : decide ((n : Int) + 1 < (a.length : Int)) = false := by simp; omega
        have d1' : decide (n + 1 < a.length) = false := by simp; omega
        go_wp2_with fail
        go_quiet (fail)
        go_wp2_with fail
        refine (FA.out _).mono ?_
        rintro e w6 ⟨rfl, ⟨m6, rfl⟩⟩
        go_wp2_with fail
        refine (FB.out _).mono ?_
        rintro e w6 ⟨rfl, ⟨m6', rfl⟩⟩
        go_wp2
        go_ret
        exact ⟨ret_bool (by simp), by repeat (first | exact ho | apply Only.drewN)⟩

set_option maxHeartbeats 400000 in
/-- Too long: nothing is asked. -/
theorem fnSep_big (A B : Option Addr) (n m ca cb : Nat) (w : World) (h : 2147483647 < n ∨ 2147483647 < m) :
    Calls Tryd.prog 3 #[.slice A n ca, .slice B m cb] w fun e w' => e = .returned (.bool true) ∧ Only [] w w' := by
  by_cases h1 : 2147483647 < n
  · have t1 : decide ((n : Int) > 2147483647) = true := by simp; omega
    go_enter Tryd.func3, Tryd.ntmps3
    go_wp2
    go_ret
    exact ⟨rfl, Only.refl _ _⟩
  · have t1 : decide ((n : Int) > 2147483647) = false := by simp; omega
    have t2 : decide ((m : Int) > 2147483647) = true := by simp; omega
    go_enter Tryd.func3, Tryd.ntmps3
    go_wp2
    go_ret
    exact ⟨rfl, Only.refl _ _⟩
theorem fnSep_walk (A B : Option Addr) (ca cb : Nat) (a b : List UInt8) (w : World) (ha : BsAt w A a) (hb : BsAt w B b) (hca : a.length ≤ ca) :
    Calls Tryd.prog 3 #[.slice A a.length ca, .slice B b.length cb] w fun e w' => e = .returned (.bool true) ∧ Only [] w w' := by
  by_cases h : 2147483647 < a.length ∨ 2147483647 < b.length
  · exact fnSep_big _ _ _ _ _ _ _ h
  · cases hs : succ a 0 with
    | none => exact fnSep_none A B ca cb a b w ha hb hca (by omega) (by omega) hs
    | some s => exact fnSep_some A B ca cb a b w ha hb hca (by omega) (by omega) s hs
end Go.Proofs.YtnebbmbhildomaaDoor
