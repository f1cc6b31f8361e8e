/-
  PLAIN: numbers in groups of seven bits. No Go in sight.
-/
import Derived.Test.YtloflmcgbbbnjaaBytes
namespace Go.Proofs.Ytloflmcgbbbnjaa.Plain

def uv (x : Nat) : List UInt8 := if h : x < 128 then [UInt8.ofNat x] else UInt8.ofNat (x % 128 + 128) :: uv (x / 128)
theorem uv_small {x : Nat} (h : x < 128) : uv x = [UInt8.ofNat x] := by unfold uv; rw [dif_pos h]
theorem uv_big {x : Nat} (h : ¬ x < 128) : uv x = UInt8.ofNat (x % 128 + 128) :: uv (x / 128) := by
  rw [uv]
  simp [h]
theorem uv_pos (x : Nat) : 0 < (uv x).length := by
  by_cases h : x < 128
  · rw [uv_small h]; simp
  · rw [uv_big h]; simp
theorem uv_len : ∀ (k : Nat) (x : Nat), x < 128 ^ (k + 1) → (uv x).length ≤ k + 1
  | 0, x, h => by rw [uv_small (by omega)]; simp
  | k + 1, x, h => by
    by_cases h' : x < 128
    · rw [uv_small h']; simp
    · rw [uv_big h', List.length_cons]
      have := uv_len k (x / 128) (by rw [Nat.div_lt_iff_lt_mul (by decide)]; rwa [Nat.pow_succ] at h)
      omega
theorem uv_len5 {x : Nat} (h : x < 34359738368) : (uv x).length ≤ 5 := uv_len 4 x (by omega)
theorem uv_len10 {x : Nat} (h : x < 18446744073709551616) : (uv x).length ≤ 10 := uv_len 9 x (by omega)
end Go.Proofs.Ytloflmcgbbbnjaa.Plain
