/-
  impl.Hash, and the walk of laws.FnHash.
-/
import Derived.Test.YtnebbmbhildomaaHash
namespace Go.Proofs.Ytnebbmbhildomaa
open Go.RowKit Plain

set_option maxHeartbeats 400000 in
theorem implHash_any (A : Option Addr) (c : Nat) (l : List UInt8) (seed : Int) (w : World) (h : BsAt w A l) (hl : l.length ≤ 2147483647) (hc : l.length ≤ c) :
    Calls Try.prog 8 #[.slice A l.length c, .int .u32 seed] w fun e w' => e = .returned (.int .u32 (hashAll (hstart seed l.length) l)) ∧ Only [] w w' := by
  go_enter Try.func8, Try.ntmps8
  go_wp2_with (go_at_call 14; refine (utilHash_any A c l seed _ h hl hc).mono ?_; rintro e w1 ⟨rfl, ho⟩)
  go_ret
  exact ⟨rfl, ho⟩

set_option maxHeartbeats 400000 in
theorem fnHash_walk (A : Option Addr) (c : Nat) (l : List UInt8) (seed : Int) (w : World) (h : BsAt w A l) (hc : l.length ≤ c) :
    Calls Try.prog 4 #[.slice A l.length c, .int .u32 seed] w fun e w' => e = .returned (.bool true) ∧ Only [] w w' := by
  by_cases h1 : 2147483647 < l.length
  · have t1 : decide ((l.length : Int) > 2147483647) = true := by simp; omega
    go_enter Try.func4, Try.ntmps4
    go_wp2
    go_ret
    exact ⟨rfl, Only.refl _ _⟩
  · have t1 : decide ((l.length : Int) > 2147483647) = false := by simp; omega
    by_cases h2 : 1048576 < l.length
    · have t2 : decide ((l.length : Int) > 1048576) = true := by simp; omega
      go_enter Try.func4, Try.ntmps4
      go_wp2
      go_ret
      exact ⟨rfl, Only.refl _ _⟩
    · have t2 : decide ((l.length : Int) > 1048576) = false := by simp; omega
      go_enter Try.func4, Try.ntmps4
      go_wp2_with (first
        | (go_at_call 8; refine (implHash_any A c l seed _ h (by omega) hc).mono ?_; rintro e w1 ⟨rfl, ho⟩)
        | (go_at_call 9; refine (specHash_any A c l seed _ (h.keep0 ho) (by omega) hc).mono ?_; rintro e w2 ⟨rfl, ⟨n2, rfl⟩⟩))
      go_ret
      exact ⟨ret_bool (by simp), ho.drewN _⟩
end Go.Proofs.Ytnebbmbhildomaa
