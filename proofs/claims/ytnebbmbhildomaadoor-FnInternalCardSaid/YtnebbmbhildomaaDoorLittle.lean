/-
  spec.little: a number's bytes appended.
-/
import Derived.Test.YtnebbmbhildomaaDoorMem
import Derived.Test.YtnebbmbhildomaaDoorPlainHash
namespace Go.Proofs.YtnebbmbhildomaaDoor
open Go.RowKit Plain

theorem Tryd.info_byte : (Tryd.prog.info? 5).map (fun i => (i.zero, i.size, i.bytes)) = some (some (.int .u8 0), 1, 1) := by kernel_rfl
theorem bc_leB_succ (x : Int) (k : Nat) : bc (leB x (k + 1)) = bc (leB x k) ++ [.int .u8 (x / 256 ^ k % 256)] := by
  rw [leB, bc_append]
  have := byte_of (y := x / 256 ^ k % 256) (by omega) (by omega)
  simp only [bc, List.map_cons, List.map_nil, this]

set_option maxHeartbeats 400000 in
theorem little_any (v : Value) (n : Nat) (xs : List Value) (x : Int) (size : Nat) (w : World) (hv : w.ownsRow 0 5 1 v n xs) (h0 : 0 ≤ x) (h1 : x < 18446744073709551616) (hs : size ≤ 8) (hn : n ≤ 140737488300000) :
    Calls Tryd.prog 16 #[v, .int .u64 x, .int .i64 size] w fun e w' => ∃ v', e = .returned v' ∧ w'.ownsRow 0 5 1 v' (n + size) (xs ++ bc (leB x size)) ∧ Grow w v w' v' := by
  go_enter Tryd.func16, Tryd.ntmps16
  go_wp2
  go_loopw [0, 1, 8] (fun b y i wr => ∃ (k : Nat) (b' : Value) (y' : Int), i = .int .i64 k ∧ b' = b ∧ k ≤ size ∧ y = .int .u64 y' ∧ x / 256 ^ k = y' ∧ wr.ownsRow 0 5 1 b' (n + k) (xs ++ bc (leB x k)) ∧ Grow w v wr b') (fun _ _ i _ => size - (intOf i).toNat)
  case atStart => exact ⟨0, _, x, rfl, rfl, Nat.zero_le _, rfl, by simp, by simpa [leB, bc] using hv, Grow.refl _ _⟩
  case round =>
    obtain ⟨k, b, y, rfl, rfl, hk, rfl, hy, hown, hg⟩ := hrel
    have HO := hid hown
    have HG := hid hg
    clear hown hg
    have hy0 : 0 ≤ y := by rw [← hy]; exact Int.ediv_nonneg h0 (Int.le_of_lt (Int.pow_pos (by decide)))
    have hy1 : y < 18446744073709551616 := by rw [← hy]; exact Int.lt_of_le_of_lt (Int.ediv_le_self _ h0) h1
    have HY := hid hy
    clear hy
    by_cases hlt : k < size
    · go_wp2_with (at_builtin; refine wp_append rfl _ _ _ rfl 5 (.int .u8 0) 1 1 Tryd.underlying22 Tryd.info_byte rfl (by decide) b _ _ rfl (HO.out.alloc _) _ 1 1 [.int .u8 (y % 256)] rfl rfl (csAt_one _ _ _) (by simp [Value.oneCell']) (by simp only [maxLen]; omega) (by omega) ?_; intro v1 w1 hown1 hg1 _ hat1; have HO1 := hid hown1; have HG1 := hid ((HG.out.alloc _).step hg1 hat1); clear hown1 hg1 hat1)
      refine ⟨⟨k + 1, _, _, rfl, rfl, by omega, rfl, ?_, ?_, HG1.out⟩, by simp [intOf]; omega⟩
      · rw [← HY.out, Int.pow_succ, ← Int.ediv_ediv_of_nonneg (Int.le_of_lt (Int.pow_pos (by decide)))]
      · have := HO1.out
        rw [bc_leB_succ, HY.out, ← List.append_assoc]
        exact this
    · have : k = size := by omega
      subst this
      go_wp2
      go_ret
      exact ⟨b, rfl, HO.out, HG.out⟩
end Go.Proofs.YtnebbmbhildomaaDoor
