/-
  spec.Compare and spec.Shared: what they return.
-/
import Derived.Test.YtloflmcgbbbnjaaDoorMem
namespace Go.Proofs.YtloflmcgbbbnjaaDoor
open Go.RowKit Plain

set_option maxHeartbeats 400000 in
theorem compare_any (A B : Option Addr) (ca cb : Nat) (a b : List UInt8) (w : World) (ha : BsAt w A a) (hb : BsAt w B b) (la : a.length ≤ 140737488351232) (lb : b.length ≤ 140737488351232) :
    Calls Tryd.prog 41 #[.slice A a.length ca, .slice B b.length cb] w fun e w' => e = .returned (.int .i64 (cmpI a b)) ∧ Dr w w' := by
  go_enter Tryd.func41, Tryd.ntmps41
  go_wp2
  go_loopw [5] (fun i wr => ∃ k : Nat, i = .int .i64 k ∧ k ≤ shared a b ∧ Dr w wr) (fun i _ => a.length - (intOf i).toNat)
  case atStart => exact ⟨0, rfl, Nat.zero_le _, Dr.refl _⟩
  case round =>
    obtain ⟨k, rfl, hk, ⟨n, rfl⟩⟩ := hrel
    have hs := shared_le a b
    by_cases h1 : k < a.length
    · by_cases h2 : k < b.length
      · obtain ⟨g, o, rfl, hc⟩ := ha k h1
        obtain ⟨g', o', rfl, hc'⟩ := hb k h2
        have t1 : decide ((k : Int) < (a.length : Int)) = true := by simp; omega
        have t2 : decide ((k : Int) < (b.length : Int)) = true := by simp; omega
        by_cases e : at_ a k = at_ b k
        · have e1 : bz a k = bz b k := bz_eq.2 e
          have hk' := shared_step hk h1 h2 e
          go_wp2
          repeat (go_quiet (fail); try go_wp2)
          go_roundw
          case rel => exact ⟨k + 1, by go_num, hk', by repeat (first | exact Dr.refl _ | apply Dr.step)⟩
          case measure => simp [intOf]; omega
        · have hk' := shared_stop hk e
          have hv := cmpI_at k hk' h1 h2
          have h8 := bz_lo a k; have h9 := bz_lo b k; have h10 := bz_hi a k; have h11 := bz_hi b k
          have e2 : (bz a k != bz b k) = true := by rw [bne_iff_ne]; exact fun h => e (bz_eq.1 h)
          clear hk' e
          have HV := hid hv
          clear hv
          go_wp2
          repeat (go_quiet (fail); try go_wp2)
          go_ret
          exact ⟨ret_int HV.out.symm, by repeat (first | exact Dr.refl _ | apply Dr.step)⟩
      · have hv := cmpI_end (a := a) (b := b) (by omega)
        have HV := hid hv
        clear hv
        go_wp2
        go_ret
        exact ⟨ret_int HV.out.symm, by repeat (first | exact Dr.refl _ | apply Dr.step)⟩
    · have hv := cmpI_end (a := a) (b := b) (by omega)
      have HV := hid hv
      clear hv
      go_wp2
      go_ret
      exact ⟨ret_int HV.out.symm, by repeat (first | exact Dr.refl _ | apply Dr.step)⟩
theorem compare_n (A B : Option Addr) (n m ca cb : Nat) (a b : List UInt8) (w : World) (ha : BsAt w A a) (hb : BsAt w B b) (la : a.length ≤ 140737488351232) (lb : b.length ≤ 140737488351232) (hn : n = a.length) (hm : m = b.length) :
    Calls Tryd.prog 41 #[.slice A n ca, .slice B m cb] w fun e w' => e = .returned (.int .i64 (cmpI a b)) ∧ Dr w w' := by
  subst hn; subst hm; exact compare_any A B ca cb a b w ha hb la lb

end Go.Proofs.YtloflmcgbbbnjaaDoor
