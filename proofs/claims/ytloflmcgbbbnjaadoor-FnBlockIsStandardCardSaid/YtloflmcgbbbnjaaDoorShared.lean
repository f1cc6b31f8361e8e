/-
  spec.Shared, sharedPrefixLen: how much two keys share at their heads.
-/
import Derived.Test.YtloflmcgbbbnjaaDoorMem
namespace Go.Proofs.YtloflmcgbbbnjaaDoor
open Go.RowKit Plain
set_option linter.all false

set_option maxHeartbeats 400000 in
theorem shared_any (A B : Option Addr) (ca cb : Nat) (a b : List UInt8) (w : World) (ha : BsAt w A a) (hb : BsAt w B b) (la : a.length ≤ 140737488351232) :
    Calls Tryd.prog 38 #[.slice A a.length ca, .slice B b.length cb] w fun e w' => e = .returned (.int .i64 (shared a b)) ∧ Dr w w' := by
  go_enter Tryd.func38, Tryd.ntmps38
  go_wp2
  go_loopw [5] (fun i wr => ∃ k : Nat, i = .int .i64 k ∧ k ≤ shared a b ∧ Dr w wr) (fun i _ => a.length - (intOf i).toNat)
  case atStart => exact ⟨0, rfl, Nat.zero_le _, Dr.refl _⟩
  case round =>
    obtain ⟨k, rfl, hk, ⟨n, rfl⟩⟩ := hrel
    have hs := shared_le a b
    by_cases h1 : k < a.length
    · have t1 : decide ((k : Int) < (a.length : Int)) = true := by simp; omega
      have t1' : decide (k < a.length) = true := by simp; omega
      by_cases h2 : k < b.length
      · have t2 : decide ((k : Int) < (b.length : Int)) = true := by simp; omega
        obtain ⟨g, o, rfl, hc⟩ := ha k h1
        obtain ⟨g', o', rfl, hc'⟩ := hb k h2
        by_cases e : at_ a k = at_ b k
        · have e1 : (bz a k == bz b k) = true := by rw [beq_iff_eq]; exact bz_eq.2 e
          have hk' := shared_step hk h1 h2 e
          clear e
          go_wp2
          repeat (go_quiet (fail); try go_wp2)
          go_roundw
          case rel => exact ⟨k + 1, by go_num, hk', by repeat (first | exact Dr.refl _ | apply Dr.step)⟩
          case measure => simp [intOf]; omega
        · have e1 : (bz a k == bz b k) = false := by rw [beq_eq_false_iff_ne]; exact fun h => e (bz_eq.1 h)
          have hk' := shared_stop hk e
          have HK := hid hk'
          clear e hk'
          go_wp2
          repeat (go_quiet (fail); try go_wp2)
          go_ret
          exact ⟨ret_int (by have := HK.out; omega), by repeat (first | exact Dr.refl _ | apply Dr.step)⟩
      · have t2 : decide ((k : Int) < (b.length : Int)) = false := by simp; omega
        have t2' : decide (k < b.length) = false := by simp; omega
        have hk' : k = shared a b := by omega
        have HK := hid hk'
        clear hk'
        go_wp2
        repeat (go_quiet (fail); try go_wp2)
        go_ret
        exact ⟨ret_int (by have := HK.out; omega), by repeat (first | exact Dr.refl _ | apply Dr.step)⟩
    · have t1 : decide ((k : Int) < (a.length : Int)) = false := by simp; omega
      have t1' : decide (k < a.length) = false := by simp; omega
      have hk' : k = shared a b := by omega
      have HK := hid hk'
      clear hk'
      go_wp2
      repeat (go_quiet (fail); try go_wp2)
      go_ret
      exact ⟨ret_int (by have := HK.out; omega), by repeat (first | exact Dr.refl _ | apply Dr.step)⟩

set_option maxHeartbeats 800000 in
theorem spl_any (A B : Option Addr) (n m ca cb : Nat) (a b : List UInt8) (w : World) (ha : BsAt w A a) (hb : BsAt w B b) (hn : n = a.length) (hm : m = b.length) (la : a.length ≤ 140737488351232) (lb : b.length ≤ 140737488351232) :
    Calls Tryd.prog 102 #[.slice A n ca, .slice B m cb] w fun e w' => e = .returned (.int .i64 (shared a b)) ∧ Dr w w' := by
  subst hn; subst hm
  obtain ⟨N, hN⟩ : ∃ N, N = min a.length b.length := ⟨_, rfl⟩
  have HN := hid hN
  have hs := shared_le a b
  have hr : (fun (i : Value) (wr : World) => ∃ k : Nat, i = .int .i64 k ∧ k ≤ shared a b ∧ Dr w wr) (.int .i64 0) w := ⟨0, rfl, Nat.zero_le _, Dr.refl _⟩
  cases hgt : decide ((b.length : Int) < (a.length : Int)) <;> (
    have hgt' : decide (b.length < a.length) = decide ((b.length : Int) < (a.length : Int)) := by simp
    rw [hgt] at hgt'
    have hNv : (N : Int) = if (b.length : Int) < (a.length : Int) then (b.length : Int) else (a.length : Int) := by simp at hgt; split <;> omega
    have hgt2 := hgt
    simp only [decide_eq_true_eq, decide_eq_false_iff_not] at hgt2
    first | rw [if_pos hgt2] at hNv | rw [if_neg hgt2] at hNv
    clear hgt2
    have HNv := hid hNv
    clear hNv hN
    go_enter Tryd.func102, Tryd.ntmps102
    go_wp2
    go_loopw [5] (fun i wr => ∃ k : Nat, i = .int .i64 k ∧ k ≤ shared a b ∧ Dr w wr) (fun i _ => a.length - (intOf i).toNat)
    case atStart => exact ⟨0, rfl, Nat.zero_le _, Dr.refl _⟩
    case round =>
      obtain ⟨k, rfl, hk, ⟨nd, rfl⟩⟩ := hrel
      by_cases h1 : k < N
      · have h2 : k < a.length := by have := HN.out; omega
        have h3 : k < b.length := by have := HN.out; omega
        have t1 : decide ((k : Int) < (a.length : Int)) = true := by simp; omega
        have t1' : decide (k < a.length) = true := by simp; omega
        have t2 : decide ((k : Int) < (b.length : Int)) = true := by simp; omega
        have t2' : decide (k < b.length) = true := by simp; omega
        obtain ⟨g, o, rfl, hc⟩ := ha k h2
        obtain ⟨g', o', rfl, hc'⟩ := hb k h3
        by_cases e : at_ a k = at_ b k
        · have e1 : (bz a k == bz b k) = true := by rw [beq_iff_eq]; exact bz_eq.2 e
          have hk' := shared_step hk h2 h3 e
          clear e
          go_wp2
          repeat (go_quiet (fail); try go_wp2)
          go_roundw
          case rel => exact ⟨k + 1, by go_num, hk', by repeat (first | exact Dr.refl _ | apply Dr.step)⟩
          case measure => simp [intOf]; omega
        · have e1 : (bz a k == bz b k) = false := by rw [beq_eq_false_iff_ne]; exact fun h => e (bz_eq.1 h)
          have hk' := shared_stop hk e
          have HK := hid hk'
          clear e hk'
          go_wp2
          repeat (go_quiet (fail); try go_wp2)
          go_ret
          exact ⟨ret_int (by have := HK.out; omega), by repeat (first | exact Dr.refl _ | apply Dr.step)⟩
      · have hk' : k = shared a b := by have := HN.out; omega
        have HK := hid hk'
        have t1 : decide ((k : Int) < (a.length : Int)) = false ∨ decide ((k : Int) < (b.length : Int)) = false := by have := HN.out; simp; omega
        have t3 : decide ((k : Int) < (N : Int)) = false := by simp; omega
        rw [HNv.out] at t3
        have t3' := t3
        simp only [Int.ofNat_lt] at t3'
        clear hk' t1
        go_wp2
        repeat (go_quiet (fail); try go_wp2)
        go_ret
        exact ⟨ret_int (by have := HK.out; omega), by repeat (first | exact Dr.refl _ | apply Dr.step)⟩)
end Go.Proofs.YtloflmcgbbbnjaaDoor
