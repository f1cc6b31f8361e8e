/-
  spec.chooser: of.
-/
import Derived.Test.YtloflmcgbbbnjaaDoorOwn
import Derived.Test.YtloflmcgbbbnjaaDoorPlainBlock
namespace Go.Proofs.YtloflmcgbbbnjaaDoor
open Go.RowKit Plain

def ci64 (l : List Int) : List Value := l.map fun x => .int .i64 x
theorem ci64_length (l : List Int) : (ci64 l).length = l.length := by simp [ci64]
theorem emod_tmod (v n : Int) (hn : 0 < n) : v % n = if v.tmod n < 0 then v.tmod n + n else v.tmod n := by
  have h1 := Int.emod_nonneg v (show n ≠ 0 by omega)
  have h2 := Int.emod_lt_of_pos v hn
  have h3 := Int.emod_add_mul_ediv v n
  have h4 := Int.tmod_add_mul_tdiv v n
  rcases (show v < 0 ∨ 0 ≤ v by omega) with hv | hv
  · have h5 : v.tmod n = -((-v) % n) := by
      rw [← Int.tmod_eq_emod_of_nonneg (show 0 ≤ -v by omega), Int.neg_tmod, Int.neg_neg]
    have h6 := Int.emod_nonneg (-v) (show n ≠ 0 by omega)
    have h7 := Int.emod_lt_of_pos (-v) hn
    have h8 : (v + (-v) % n) % n = 0 := by
      rw [Int.add_emod, Int.emod_emod_of_dvd _ (Int.dvd_refl n), ← Int.add_emod]
      simp [Int.add_right_neg]
    split
    · rename_i hlt
      rw [h5] at hlt ⊢
      have h9 : v % n + (-v) % n = n := by
        have h10 : (v % n + (-v) % n) % n = 0 := by rw [← Int.add_emod]; simp [Int.add_right_neg]
        obtain ⟨q, hq⟩ := Int.dvd_of_emod_eq_zero h10
        have hq1 : q = 1 := by
          have hq0 : 0 < q := by
            rcases (show 0 < q ∨ q ≤ 0 by omega) with h | h
            · exact h
            · have := Int.mul_nonpos_of_nonneg_of_nonpos (show 0 ≤ n by omega) h; omega
          have hq2 : q < 2 := by
            rcases (show q < 2 ∨ 2 ≤ q by omega) with h | h
            · exact h
            · have := Int.mul_le_mul_of_nonneg_left h (show 0 ≤ n by omega); omega
          omega
        rw [hq, hq1]; omega
      omega
    · rename_i hlt
      rw [h5] at hlt ⊢
      have h9 : (-v) % n = 0 := by omega
      have h10 : v % n = 0 := by
        have := Int.dvd_of_emod_eq_zero h9
        exact Int.emod_eq_zero_of_dvd (by simpa using this)
      omega
  · rw [Int.tmod_eq_emod_of_nonneg hv, if_neg (by omega)]
theorem tmod_range (v n : Int) (hn : 0 < n) : -n ≤ v.tmod n ∧ v.tmod n < n := by
  have h := emod_tmod v n hn
  have h1 := Int.emod_nonneg v (show n ≠ 0 by omega)
  have h2 := Int.emod_lt_of_pos v hn
  split at h <;> omega

set_option maxHeartbeats 1600000 in
theorem of_any (b n a nc : Nat) (nA : Option Addr) (ns : List Int) (R : List Fr) (w0 w : World) (hO : Own (fw b 79 [.slice nA ns.length nc, .int .i64 a] :: R) w0 w) (hns : St R w0 fun w => CsAt w nA (ci64 ns))
    (hn : n ≤ 4611686018427387904) (ha : a ≤ 4611686018427387903) (hl : ns.length ≤ 140737488355328) :
    Calls Tryd.prog 39 #[.pointer (some ⟨b, 0, none⟩), .int .i64 n] w fun e w' => e = .returned (.int .i64 ((pick ns n a).1 : Int)) ∧ Own (fw b 79 [.slice nA ns.length nc, .int .i64 ((pick ns n a).2 : Int)] :: R) w0 w' := by
  have c0 : w.cell? ⟨b, 0, none⟩ = some (.slice nA ns.length nc) := hO.cell 0 rfl 0 rfl (by simp)
  have c1 : w.cell? ⟨b, 1, none⟩ = some (.int .i64 a) := hO.cell 0 rfl 1 rfl (by simp)
  have f0 : ∀ k, w.frozen? ⟨b, k, none⟩ = false := fun k => hO.frozen 0 rfl k
  have HO := hid hO
  clear hO
  by_cases h1 : ns.length = 0
  · have e1 : ((ns.length : Int) == 0) = true := by rw [h1]; rfl
    obtain rfl : ns = [] := List.eq_nil_of_length_eq_zero h1
    have HP := hid (pick_nil n a)
    clear h1
    go_enter Tryd.func39, Tryd.ntmps39
    go_wp2
    go_ret
    exact ⟨by rw [HP.out]; rfl, by rw [HP.out]; exact HO.out⟩
  · have e1 : ((ns.length : Int) == 0) = false := by simpa using h1
    by_cases h2 : n < 2
    · have e2 : decide ((n : Int) < 2) = true := decide_eq_true (by omega)
      have HP := hid (show pick ns n a = (0, a) by simp [pick, h2])
      clear h1
      go_enter Tryd.func39, Tryd.ntmps39
      go_wp2
      go_ret
      exact ⟨by rw [HP.out]; rfl, by rw [HP.out]; exact HO.out⟩
    · have e2 : decide ((n : Int) < 2) = false := decide_eq_false (by omega)
      have hlt : a % ns.length < ns.length := Nat.mod_lt _ (by omega)
      obtain ⟨i, hi⟩ : ∃ i, a % ns.length = i := ⟨_, rfl⟩
      rw [hi] at hlt
      have hcs := HO.out.st hns (by intro x hx; simp [hx])
      obtain ⟨g, o, rfl, hc⟩ := hcs i (by rw [ci64_length]; exact hlt)
      have hv : (ci64 ns)[i]? = some (.int .i64 (ns.getD i 0)) := by simp [ci64, List.getD_eq_getElem?_getD, List.getElem?_eq_getElem hlt]
      rw [hv] at hc
      have hp : pick ns n a = ((ns.getD i 0 % (n : Int)).toNat, a + 1) := by
        have : ¬ (ns = [] ∨ n < 2) := by
          rintro (h | h)
          · exact h1 (by simp [h])
          · omega
        simp only [pick, if_neg this, hi]
      have ht : ((a : Nat) : Int).tmod ((ns.length : Nat) : Int) = (i : Int) := by rw [Int.tmod_eq_emod_of_nonneg (by omega)]; omega
      have hem := emod_tmod (ns.getD i 0) n (by omega)
      have htr := tmod_range (ns.getD i 0) n (by omega)
      generalize ns.getD i 0 = v at hc hp hem htr
      obtain ⟨r, hr⟩ : ∃ r, v.tmod (n : Int) = r := ⟨_, rfl⟩
      rw [hr] at hem htr
      have hi2 : (i : Int) < (ns.length : Int) := by omega
      have w1 : IntKind.i64.wrap (i : Int) = i := i64_id (by omega) (by omega)
      have w2 : IntKind.i64.wrap r = r := i64_id (by omega) (by omega)
      have w3 : IntKind.i64.wrap ((a : Int) + 1) = (a : Int) + 1 := by simp [IntKind.wrap, IntKind.bits, IntKind.signed]; omega
      have w4 : ¬ (ns.length : Int) = 0 := by omega
      have w5 : ¬ (n : Int) = 0 := by omega
      have HP := hid hp
      have HE := hid hem
      clear hv hcs h1 hp hem hi
      have hfin : ∀ w', Own (fw b 79 [.slice (some ⟨g, o, none⟩) ns.length nc, .int .i64 (((a + 1 : Nat)) : Int)] :: R) w0 w' → Own (fw b 79 [.slice (some ⟨g, o, none⟩) ns.length nc, .int .i64 ((pick ns n a).2 : Int)] :: R) w0 w' := fun w' h => by rw [HP.out]; exact h
      have HF := hid hfin
      clear hfin
      by_cases h3 : r < 0
      · have e3 : decide (r < 0) = true := decide_eq_true h3
        have w6 : IntKind.i64.wrap (r + (n : Int)) = r + (n : Int) := i64_id (by omega) (by omega)
        go_enter Tryd.func39, Tryd.ntmps39
        go_wp2
        go_quiet (fail)
        go_wp2
        go_ret
        refine ⟨ret_int ?_, HF.out _ ?_⟩
        · rw [HP.out, HE.out, if_pos h3]; simp only; omega
        · exact (HO.out.drewN nq).set 1 rfl (by simp) _
      · have e3 : decide (r < 0) = false := decide_eq_false h3
        go_enter Tryd.func39, Tryd.ntmps39
        go_wp2
        go_quiet (fail)
        go_wp2
        go_ret
        refine ⟨ret_int ?_, HF.out _ ?_⟩
        · rw [HP.out, HE.out, if_neg (by omega)]; simp only; omega
        · exact (HO.out.drewN nq).set 1 rfl (by simp) _
theorem of_n (b n a nc : Nat) (x y : Int) (nA : Option Addr) (ns : List Int) (R : List Fr) (w0 w : World) (hx : x = (n : Int)) (hy : y = (a : Int)) (hO : Own (fw b 79 [.slice nA ns.length nc, .int .i64 y] :: R) w0 w) (hns : St R w0 fun w => CsAt w nA (ci64 ns))
    (hn : n ≤ 4611686018427387904) (ha : a ≤ 4611686018427387903) (hl : ns.length ≤ 140737488355328) :
    Calls Tryd.prog 39 #[.pointer (some ⟨b, 0, none⟩), .int .i64 x] w fun e w' => e = .returned (.int .i64 ((pick ns n a).1 : Int)) ∧ Own (fw b 79 [.slice nA ns.length nc, .int .i64 ((pick ns n a).2 : Int)] :: R) w0 w' := by
  subst hx; subst hy; exact of_any b n a nc nA ns R w0 w hO hns hn ha hl
end Go.Proofs.YtloflmcgbbbnjaaDoor
