/-
  impl.copied: a copy of bytes, a row of the call's own.
-/
import Derived.Test.YtloflmcgbbbnjaaOwn
import Derived.Test.YtloflmcgbbbnjaaInfo
namespace Go.Proofs.Ytloflmcgbbbnjaa
open Go.RowKit Plain
set_option linter.all false

set_option maxHeartbeats 800000 in
theorem copied_own (A : Option Addr) (n c : Nat) (l : List UInt8) (R : List Fr) (w0 w : World) (h : BsAt w A l) (hO : Own R w0 w) (hn : n = l.length) (hl : l.length ≤ 140737488355328) :
    Calls Try.prog 13 #[.slice A n c] w (RetH R w0 l) := by
  subst hn
  go_enter Try.func13, Try.ntmps13
  go_wp2_with (at_builtin; refine own_append rfl (.tmp 3) (.tmp 4) 24 rfl 5 (.int .u8 0) 1 1 Try.underlying24 Try.info_u8 rfl (by decide) (some ⟨w.heap.size, 0, none⟩) 0 0 [] [fw w.heap.size 5 []] rfl ⟨by simp, .inr ⟨_, [], rfl, rfl, by omega, by simp [maxLen], by simp, by simp⟩⟩ (R := R) (hO.alloc 5 []) A l.length c (bc l) rfl (by simp [bc_length]) (h.alloc _).cs (bc_one l) (by simp [maxLen]; omega) (by omega) ?_; intro A2 c2 F2 w2 hr2 hO2 _)
  go_ret
  rw [Nat.zero_add] at hr2
  exact ⟨A2, c2, F2, _, hid rfl, by simp, hid (by simpa using hr2), hid hO2⟩

end Go.Proofs.Ytloflmcgbbbnjaa
