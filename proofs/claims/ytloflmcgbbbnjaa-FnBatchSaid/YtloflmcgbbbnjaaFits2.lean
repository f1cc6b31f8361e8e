/-
  The bounds of a list of calls: whether it fits, and its weight.
-/
import Derived.Test.YtloflmcgbbbnjaaPair2
namespace Go.Proofs.Ytloflmcgbbbnjaa
open Go.RowKit Plain

def fits2 (l : List P2) : Bool := l.all fun r => decide (r.k.length ≤ 2147483647) && decide (r.v.length ≤ 2147483647)

set_option maxHeartbeats 800000 in
theorem fits3_any (r : P2) (w : World) :
    Calls Try.prog 15 #[.agg #[.bool r.del, .slice r.ka r.k.length r.kc, .slice r.va r.v.length r.vc]] w
      fun e w' => e = .returned (.bool (decide (r.k.length ≤ 2147483647) && decide (r.v.length ≤ 2147483647))) ∧ Only [] w w' := by
  obtain ⟨del, ka, kc, k, va, vc, v⟩ := r
  simp only
  go_enter Try.func15, Try.ntmps15
  by_cases h1 : k.length ≤ 2147483647
  · have d1 : decide (2147483647 < (k.length : Int)) = false := decide_eq_false (by omega)
    have d1' : decide (2147483647 < k.length) = false := decide_eq_false (by omega)
    by_cases h2 : v.length ≤ 2147483647
    · have d2 : decide (2147483647 < (v.length : Int)) = false := decide_eq_false (by omega)
      have d2' : decide (2147483647 < v.length) = false := decide_eq_false (by omega)
      have HR := hid (show (true : Bool) = (decide (k.length ≤ 2147483647) && decide (v.length ≤ 2147483647)) by simp [h1, h2])
      clear h1 h2
      go_wp2
      go_ret
      exact ⟨ret_bool HR.out, (Only.refl _ _).alloc _⟩
    · have d2 : decide (2147483647 < (v.length : Int)) = true := decide_eq_true (by omega)
      have d2' : decide (2147483647 < v.length) = true := decide_eq_true (by omega)
      have HR := hid (show (false : Bool) = (decide (k.length ≤ 2147483647) && decide (v.length ≤ 2147483647)) by simp [h2])
      clear h1 h2
      go_wp2
      go_ret
      exact ⟨ret_bool HR.out, (Only.refl _ _).alloc _⟩
  · have d1 : decide (2147483647 < (k.length : Int)) = true := decide_eq_true (by omega)
    have d1' : decide (2147483647 < k.length) = true := decide_eq_true (by omega)
    have HR := hid (show (false : Bool) = (decide (k.length ≤ 2147483647) && decide (v.length ≤ 2147483647)) by simp [h1])
    clear h1
    go_wp2
    go_ret
    exact ⟨ret_bool HR.out, (Only.refl _ _).alloc _⟩

set_option maxHeartbeats 800000 in
theorem fits2_in (A : Option Addr) (c : Nat) (l : List P2) (w : World) (h : P2s w A l) (hl : l.length ≤ 2147483647) :
    Calls Try.prog 8 #[.slice A l.length c] w fun e w' => e = .returned (.bool (fits2 l)) ∧ Only [] w w' := by
  have d0 : decide (2147483647 < (l.length : Int)) = false := decide_eq_false (by omega)
  have d0' : decide (2147483647 < l.length) = false := decide_eq_false (by omega)
  go_enter Try.func8, Try.ntmps8
  go_wp2
  go_loopw [10] (fun i wr => ∃ k : Nat, i = .int .i64 k ∧ k ≤ l.length ∧ fits2 l = fits2 (l.drop k) ∧ Only [] w wr) (fun i _ => l.length - (intOf i).toNat)
  case atStart => exact ⟨0, rfl, Nat.zero_le _, rfl, Only.refl _ _⟩
  case round =>
    obtain ⟨k, rfl, hk, hx, ho⟩ := hrel
    have HX := hid hx
    clear hx
    by_cases h4 : k < l.length
    · have h4' : (k : Int) < (l.length : Int) := by omega
      have hr : l[k]? = some l[k] := List.getElem?_eq_getElem h4
      have hd : fits2 (l.drop k) = ((decide (l[k].k.length ≤ 2147483647) && decide (l[k].v.length ≤ 2147483647)) && fits2 (l.drop (k + 1))) := by
        rw [← List.getElem_cons_drop h4]; simp only [fits2, List.all_cons]
      have HD := hid hd
      clear hd
      generalize l[k] = r at hr HD
      obtain ⟨g, o, rfl, c0, c1, c2⟩ := (h.keep0 ho).at_ hr
      cases hb : (decide (r.k.length ≤ 2147483647) && decide (r.v.length ≤ 2147483647)) with
      | true =>
        have HB := hid hb
        clear hb
        go_wp2_with (go_at_call 15; refine (fits3_any r _).mono ?_; rintro e w4 ⟨rfl, ho4⟩; rw [HB.out])
        exact ⟨⟨k + 1, rfl, h4, by rw [HX.out, HD.out, HB.out, Bool.true_and], ((ho.alloc _).new ho4)⟩, by simp [intOf]; omega⟩
      | false =>
        have HB := hid hb
        clear hb
        go_wp2_with (go_at_call 15; refine (fits3_any r _).mono ?_; rintro e w4 ⟨rfl, ho4⟩; rw [HB.out])
        go_ret
        exact ⟨ret_bool (by rw [HX.out, HD.out, HB.out, Bool.false_and]), ((ho.alloc _).new ho4)⟩
    · have h4' : ¬ (k : Int) < (l.length : Int) := by omega
      have HR := hid (show (true : Bool) = fits2 l by rw [HX.out, List.drop_eq_nil_of_le (by omega)]; rfl)
      clear HX
      go_wp2
      go_ret
      exact ⟨ret_bool HR.out, ho⟩
set_option maxHeartbeats 800000 in
theorem fits2_any (A : Option Addr) (c : Nat) (l : List P2) (w : World) (h : P2s w A l) :
    Calls Try.prog 8 #[.slice A l.length c] w fun e w' => e = .returned (.bool (decide (l.length ≤ 2147483647) && fits2 l)) ∧ Only [] w w' := by
  by_cases hl : l.length ≤ 2147483647
  · simpa [hl] using fits2_in A c l w h hl
  · have d0 : decide (2147483647 < (l.length : Int)) = true := decide_eq_true (by omega)
    have d0' : decide (2147483647 < l.length) = true := decide_eq_true (by omega)
    have HR := hid (show (false : Bool) = (decide (l.length ≤ 2147483647) && fits2 l) by simp [hl])
    clear hl
    go_enter Try.func8, Try.ntmps8
    go_wp2
    go_ret
    exact ⟨ret_bool HR.out, Only.refl _ _⟩

def weight2 (l : List P2) : Nat := (l.map fun r => r.k.length + r.v.length + 1).sum
theorem weight2_bound {M : Nat} : ∀ {l : List P2}, (∀ r ∈ l, r.k.length ≤ M ∧ r.v.length ≤ M) → weight2 l ≤ l.length * (2 * M + 1)
  | [], _ => by simp [weight2]
  | r :: l, h => by
    have h1 := h r (by simp)
    have h2 := weight2_bound (l := l) fun r hr => h r (by simp [hr])
    simp only [weight2, List.map_cons, List.sum_cons, List.length_cons, Nat.add_mul, Nat.one_mul] at h2 ⊢
    omega
theorem fits2_mem {l : List P2} (h : fits2 l = true) : ∀ r ∈ l, r.k.length ≤ 2147483647 ∧ r.v.length ≤ 2147483647 := by
  simpa [fits2] using h
theorem weight2_drop {l : List P2} {k : Nat} (h : k < l.length) : weight2 (l.drop k) = (l[k].k.length + l[k].v.length + 1) + weight2 (l.drop (k + 1)) := by
  rw [← List.getElem_cons_drop h]; simp only [weight2, List.map_cons, List.sum_cons]

theorem i64_id63 {x : Int} (h0 : -9223372036854775808 ≤ x) (h1 : x ≤ 9223372036854775807) : IntKind.i64.wrap x = x := by
  simp [IntKind.wrap, IntKind.bits, IntKind.signed]; omega
set_option maxHeartbeats 800000 in
theorem weight_any (A : Option Addr) (c : Nat) (l : List P2) (w : World) (h : P2s w A l) (hb : weight2 l ≤ 9223372036854775807) (hl : l.length ≤ 2147483647) :
    Calls Try.prog 9 #[.slice A l.length c] w fun e w' => e = .returned (.int .i64 (weight2 l : Int)) ∧ Only [] w w' := by
  go_enter Try.func9, Try.ntmps9
  go_wp2
  go_loopw [8, 3] (fun i s wr => ∃ k n : Nat, i = .int .i64 k ∧ s = .int .i64 n ∧ k ≤ l.length ∧ weight2 l = n + weight2 (l.drop k) ∧ Only [] w wr) (fun i _ _ => l.length - (intOf i).toNat)
  case atStart => exact ⟨0, 0, rfl, rfl, Nat.zero_le _, by simp, Only.refl _ _⟩
  case round =>
    obtain ⟨k, n, rfl, rfl, hk, hx, ho⟩ := hrel
    by_cases h4 : k < l.length
    · have h4' : (k : Int) < (l.length : Int) := by omega
      have hr : l[k]? = some l[k] := List.getElem?_eq_getElem h4
      have hd := weight2_drop h4
      generalize l[k] = r at hr hd
      obtain ⟨g, o, rfl, c0, c1, c2⟩ := (h.keep0 ho).at_ hr
      have e1 : IntKind.i64.wrap ((r.k.length : Int) + (r.v.length : Int)) = (r.k.length : Int) + (r.v.length : Int) := i64_id63 (by omega) (by omega)
      have e2 : IntKind.i64.wrap ((r.k.length : Int) + (r.v.length : Int) + 1) = (r.k.length : Int) + (r.v.length : Int) + 1 := i64_id63 (by omega) (by omega)
      have e3 : IntKind.i64.wrap ((n : Int) + ((r.k.length : Int) + (r.v.length : Int) + 1)) = (n : Int) + ((r.k.length : Int) + (r.v.length : Int) + 1) := i64_id63 (by omega) (by omega)
      have HD := hid (show weight2 l = (n + (r.k.length + r.v.length + 1)) + weight2 (l.drop (k + 1)) by omega)
      clear hd hx hb
      go_wp2
      exact ⟨⟨k + 1, n + (r.k.length + r.v.length + 1), rfl, by simp, h4, HD.out, ho.alloc _⟩, by simp [intOf]; omega⟩
    · have h4' : ¬ (k : Int) < (l.length : Int) := by omega
      have HR := hid (show (n : Int) = (weight2 l : Int) by rw [hx, List.drop_eq_nil_of_le (by omega)]; simp [weight2])
      clear hx hb
      go_wp2
      go_ret
      exact ⟨ret_int HR.out, ho⟩
end Go.Proofs.Ytloflmcgbbbnjaa
