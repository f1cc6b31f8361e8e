/-
  FnFilter, walked.
-/
import Derived.Test.YtloflmcgbbbnjaaFilter
namespace Go.Proofs.Ytloflmcgbbbnjaa
open Go.RowKit Plain
set_option linter.all false

theorem inF_of {P : List UInt8} {m k : Nat} {key : List UInt8} (hk : (at_ P m).toNat = k) (h : hasKey (8 * (m : Int)) (rot (bhash key)) P k (bhash key) = true) : inF P m key = true := by
  unfold inF; rw [hk]; exact h
set_option maxHeartbeats 1600000 in
theorem filter_bad (A : Option Addr) (c : Nat) (x : Int) (l : List Bs) (w : World) (h : Bss w A l) (hbad : okB l = false ∨ ¬ (1 ≤ x ∧ x ≤ 100 ∧ l.length ≤ 1000)) :
    Calls Try.prog 3 #[.slice A l.length c, .int .i64 x] w fun e w' => e = .returned (.bool true) ∧ Only [] w w' := by
  have HH := hid h
  clear h
  cases ka : okB l with
  | false =>
    have KA := hid ka
    clear hbad ka
    go_enter Try.func3, Try.ntmps3
    go_wp2_with (go_at_call 5; refine (fits1_any A c l _ HH.out).mono ?_; rintro e w1 ⟨rfl, ho1⟩; rw [KA.out])
    go_ret
    exact ⟨rfl, ho1⟩
  | true =>
    have hb : ¬ (1 ≤ x ∧ x ≤ 100 ∧ l.length ≤ 1000) := by
      rcases hbad with h | h
      · rw [ka] at h; cases h
      · exact h
    have KA := hid ka
    clear hbad ka
    rcases Int.lt_or_le x 1 with h1 | h1
    · have d1 : decide (x < 1) = true := decide_eq_true h1
      clear hb
      go_enter Try.func3, Try.ntmps3
      go_wp2_with (go_at_call 5; refine (fits1_any A c l _ HH.out).mono ?_; rintro e w1 ⟨rfl, ho1⟩; rw [KA.out])
      go_ret
      exact ⟨rfl, ho1⟩
    · have d1 : decide (x < 1) = false := decide_eq_false (by omega)
      rcases Int.lt_or_le 100 x with h2 | h2
      · have d2 : decide (100 < x) = true := decide_eq_true h2
        clear hb
        go_enter Try.func3, Try.ntmps3
        go_wp2_with (go_at_call 5; refine (fits1_any A c l _ HH.out).mono ?_; rintro e w1 ⟨rfl, ho1⟩; rw [KA.out])
        go_ret
        exact ⟨rfl, ho1⟩
      · have d2 : decide (100 < x) = false := decide_eq_false (by omega)
        have h3 : (1000 : Int) < (l.length : Int) := by omega
        have d3 : decide ((1000 : Int) < (l.length : Int)) = true := decide_eq_true h3
        have d3' : decide (1000 < l.length) = true := decide_eq_true (by omega)
        clear hb
        go_enter Try.func3, Try.ntmps3
        go_wp2_with (go_at_call 5; refine (fits1_any A c l _ HH.out).mono ?_; rintro e w1 ⟨rfl, ho1⟩; rw [KA.out])
        go_ret
        exact ⟨rfl, ho1⟩
set_option maxHeartbeats 1600000 in
theorem filter_good (A : Option Addr) (c n : Nat) (l : List Bs) (w : World) (h : Bss w A l) (ka : okB l = true) (h1 : 1 ≤ n) (h2 : n ≤ 100) (h3 : l.length ≤ 1000) :
    Calls Try.prog 3 #[.slice A l.length c, .int .i64 n] w fun e w' => e = .returned (.bool true) ∧ Only [] w w' := by
  have HH := hid h
  have HK := hid (okB_mem ka).2
  have KA := hid ka
  have d1 : decide ((n : Int) < 1) = false := decide_eq_false (by omega)
  have d1' : decide (n < 1) = false := decide_eq_false (by omega)
  have d2 : decide (100 < (n : Int)) = false := decide_eq_false (by omega)
  have d2' : decide (100 < n) = false := decide_eq_false (by omega)
  have d3 : decide ((1000 : Int) < (l.length : Int)) = false := decide_eq_false (by omega)
  have d3' : decide (1000 < l.length) = false := decide_eq_false (by omega)
  have hm0 : 0 < fbytes (l.length * n) := by unfold fbytes; omega
  have hm1 : fbytes (l.length * n) ≤ 100000000 := by
    have := Nat.mul_le_mul h3 h2
    unfold fbytes; omega
  obtain ⟨m, hm⟩ : ∃ m, fbytes (l.length * n) = m := ⟨_, rfl⟩
  rw [hm] at hm0 hm1
  have HM := hid hm
  clear h ka hm
  go_enter Try.func3, Try.ntmps3
  go_wp2_with (go_at_call 5; refine (fits1_any A c l _ HH.out).mono ?_; rintro e w1 ⟨rfl, ho1⟩; rw [KA.out])
  refine (filter_any A c n l _ (HH.out.keep0 ho1) h2 h3 HK.out).mono ?_
  intro e w2 hret
  obtain ⟨P, hPl, hPk, hPh, A6, c6, F6, n6, hn6, rfl, hr6, hO6⟩ := hret
  rw [HM.out] at hPl hPk hPh
  have ho2 := ho1.new hO6.out.only
  have hb6 := hr6.out.bsO hO6.out
  have hn7 : n6 = m + 1 := by rw [hn6.out, hPl]
  obtain ⟨g6, o6, rfl, _, _⟩ := hb6.addr (by omega)
  have HPL := hid hPl
  have HPK := hid hPk
  have HPH := hid hPh
  have HB6 := hid hb6
  have HN7 := hid hn7
  have HO2 := hid ho2
  have d4 : decide (1 < (n6 : Int)) = true := decide_eq_true (by omega)
  have d4' : decide (1 < n6) = true := decide_eq_true (by omega)
  clear hPl hPk hPh hb6 hn7 ho2 ho1
  go_wp2_with fail
  go_loopw [27] (fun i wr => ∃ j : Nat, i = .int .i64 j ∧ j ≤ l.length ∧ Only [] w2 wr) (fun i _ => l.length - (intOf i).toNat)
  case atStart => exact ⟨0, rfl, Nat.zero_le _, Only.refl _ _⟩
  case round =>
    obtain ⟨j, rfl, hj, ho⟩ := hrel
    by_cases h4 : j < l.length
    · have h4' : (j : Int) < (l.length : Int) := by omega
      have hr : l[j]? = some l[j] := List.getElem?_eq_getElem h4
      have hmem : l[j] ∈ l := List.getElem_mem h4
      generalize l[j] = r at hr hmem
      have hH := (HH.out.keep0 HO2.out).keep0 ho
      have hok := hH.ok r hmem
      have hkl := HK.out r hmem
      obtain ⟨g, o, rfl, c1⟩ := hH.at_ hr
      have hin := inF_of HPK.out (HPH.out r hmem)
      have hC := inFilter_any g6 o6 c6 r.c m r.a P r.l wr (HB6.out.keep0 ho) HPL.out hm0 hm1 (by rw [HPK.out]; exact probes_le n) hok.hb hkl hok.hc n6 (by rw [HPL.out, HN7.out])
      rw [hin] at hC
      have HC := hid hC
      have HO := hid ho
      clear hC hin hH hok ho
      go_wp2_with (go_at_call 7; refine HC.out.mono ?_; rintro e w4 ⟨rfl, ho4⟩)
      exact ⟨⟨j + 1, rfl, h4, HO.out.new ho4⟩, by simp [intOf]; omega⟩
    · have h4' : ¬ (j : Int) < (l.length : Int) := by omega
      have HO := hid (HO2.out.new ho)
      clear ho
      cases h0 : ((l.length : Int) == 0) <;> (
        go_wp2_with fail
        go_ret
        exact ⟨rfl, HO.out⟩)
theorem filter_walk (A : Option Addr) (c : Nat) (x : Int) (l : List Bs) (w : World) (h : Bss w A l) :
    Calls Try.prog 3 #[.slice A l.length c, .int .i64 x] w fun e w' => e = .returned (.bool true) ∧ Only [] w w' := by
  cases ka : okB l with
  | false => exact filter_bad A c x l w h (.inl ka)
  | true =>
    by_cases hb : 1 ≤ x ∧ x ≤ 100 ∧ l.length ≤ 1000
    · obtain ⟨n, rfl⟩ := Int.eq_ofNat_of_zero_le (show 0 ≤ x by omega)
      exact filter_good A c n l w h ka (by omega) (by omega) hb.2.2
    · exact filter_bad A c x l w h (.inr hb)
end Go.Proofs.Ytloflmcgbbbnjaa
