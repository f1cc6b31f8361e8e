/-
  PLAIN: numbers in bytes, the low one first; the hash of LevelDB, as both texts reckon it.
-/
import Derived.Test.YtloflmcgbbbnjaaBytes
import Derived.Lib.EndianBits
namespace Go.Proofs.Ytloflmcgbbbnjaa.Plain
open Go

/-- The number that bytes spell, the low one first. -/
def leI : List UInt8 → Int
  | [] => 0
  | b :: r => (b.toNat : Int) + 256 * leI r
theorem leI_nonneg (l : List UInt8) : 0 ≤ leI l := by
  induction l with
  | nil => simp [leI]
  | cons b r ih => simp only [leI]; omega
theorem leI_lt_of {l : List UInt8} {n : Nat} (h : l.length ≤ n) : leI l < 256 ^ n := by
  induction l generalizing n with
  | nil => simp only [leI]; exact Int.pow_pos (by decide)
  | cons b r ih =>
    cases n with
    | zero => simp at h
    | succ n =>
      have := u8_lt b
      have := ih (n := n) (by simpa using h)
      simp only [leI, Int.pow_succ]
      omega
theorem leI_drop {l : List UInt8} {k : Nat} (h : k < l.length) : leI (l.drop k) = bz l k + 256 * leI (l.drop (k + 1)) := by rw [drop_at h]; rfl
theorem leI_lt7 {l : List UInt8} (h : l.length ≤ 7) : leI l < 72057594037927936 := leI_lt_of h
theorem leI_lt8 {l : List UInt8} (h : l.length ≤ 8) : leI l < 18446744073709551616 := leI_lt_of h
theorem leI_lt4 {l : List UInt8} (h : l.length ≤ 4) : leI l < 4294967296 := leI_lt_of h
theorem leI_take4 {l : List UInt8} (h : 4 ≤ l.length) : leI (l.take 4) = bz l 0 + 256 * bz l 1 + 65536 * bz l 2 + 16777216 * bz l 3 := by
  match l, h with
  | a :: b :: c :: d :: r, _ => simp [leI, bz, at_]; omega

theorem leI_take8 {l : List UInt8} (h : 8 ≤ l.length) : leI (l.take 8) = bz l 0 + 256 * bz l 1 + 65536 * bz l 2 + 16777216 * bz l 3 + 4294967296 * bz l 4 + 1099511627776 * bz l 5 + 281474976710656 * bz l 6 + 72057594037927936 * bz l 7 := by
  match l, h with
  | a :: b :: c :: d :: e :: f :: g :: h :: r, _ => simp [leI, bz, at_]; omega
/-- The bytes of a number, the low one first. -/
def leB (x : Int) : Nat → List UInt8
  | 0 => []
  | k + 1 => leB x k ++ [UInt8.ofNat (x / 256 ^ k % 256).toNat]
theorem leB_length (x : Int) (k : Nat) : (leB x k).length = k := by
  induction k with
  | zero => rfl
  | succ k ih => simp [leB, ih]
theorem byte_of {y : Int} (h0 : 0 ≤ y) (h1 : y < 256) : ((UInt8.ofNat y.toNat).toNat : Int) = y := by
  have : y.toNat < 256 := by omega
  simp [Nat.mod_eq_of_lt this]; omega
theorem leB_head (x : Int) (k : Nat) : leB x (k + 1) = UInt8.ofNat (x % 256).toNat :: leB (x / 256) k := by
  induction k with
  | zero => simp [leB]
  | succ k ih =>
    rw [leB, ih, leB, List.cons_append, Int.pow_succ, Int.mul_comm, ← Int.ediv_ediv_of_nonneg (by decide)]
theorem leI_leB (x : Int) (k : Nat) (h0 : 0 ≤ x) (h1 : x < 256 ^ k) : leI (leB x k) = x := by
  induction k generalizing x with
  | zero => simp [leB, leI] at *; omega
  | succ k ih =>
    rw [leB_head, leI, byte_of (by omega) (by omega), ih (x / 256) (by omega) (by rw [Int.pow_succ] at h1; omega)]
    omega

theorem bits_or_comm (k : IntKind) (x y : Int) : bits .or k x y = bits .or k y x := by simp [bits, BitVec.or_comm]
theorem u64_hi_or8 {x y : Int} (hy₀ : 0 ≤ y) (hy : y < 256) (hx₀ : 0 ≤ x) (hx : x % 256 = 0) (hx₁ : x < 18446744073709551616) : bits .or .u64 x y = x + y := by
  rw [bits_or_comm, u64_or8 (x := x) (y := y) (hy₀ := hy₀) (hy := hy) (hx₀ := hx₀) (hx := hx) (hx₁ := hx₁)]; omega

theorem u64_and255 {x : Int} (h0 : 0 ≤ x) (h1 : x < 18446744073709551616) : bits .and .u64 x 255 = x % 256 := by
  obtain ⟨n, rfl⟩ := Int.eq_ofNat_of_zero_le h0
  have h := (bits_nat .u64 64 (by decide) wraps_u64 n 255 (by omega) (by decide)).1
  rw [show ((255 : Nat) : Int) = 255 from rfl] at h
  rw [h, show (255 : Nat) = 2 ^ 8 - 1 from rfl, Nat.and_two_pow_sub_one_eq_mod]
  omega
def w32 (x : Int) : Int := x % 4294967296
theorem wrap32_eq (x : Int) : IntKind.u32.wrap x = w32 x := by simp [IntKind.wrap, IntKind.bits, IntKind.signed, w32]
theorem w32_lo (x : Int) : 0 ≤ w32 x := by unfold w32; omega
theorem w32_hi (x : Int) : w32 x < 4294967296 := by unfold w32; omega
/-- One step of the hash. -/
def hmul (h d : Int) : Int := w32 (w32 (h + d) * 3332679571)
def hstep (h d : Int) : Int := bits .xor .u32 (hmul h d) (hmul h d / 65536)
def htail (h d : Int) : Int := bits .xor .u32 (hmul h d) (hmul h d / 16777216)
def htailY (y : Int) : Int := bits .xor .u32 (w32 (y * 3332679571)) (w32 (y * 3332679571) / 16777216)
theorem htail_eq (h d y : Int) (e : y = w32 (h + d)) : htailY y = htail h d := by subst e; rfl
/-- The whole hash. -/
def hashAll (h : Int) (l : List UInt8) : Int :=
  if _ : 4 ≤ l.length then hashAll (hstep h (leI (l.take 4))) (l.drop 4)
  else if l = [] then h else htail h (leI l)
  termination_by l.length
theorem hashAll_step {h : Int} {l : List UInt8} (hl : 4 ≤ l.length) : hashAll h l = hashAll (hstep h (leI (l.take 4))) (l.drop 4) := by
  rw [hashAll, dif_pos hl]
theorem hashAll_end {h : Int} {l : List UInt8} (hl : ¬ 4 ≤ l.length) : hashAll h l = if l = [] then h else htail h (leI l) := by
  rw [hashAll, dif_neg hl]
theorem u32_wf_xor (x y : Int) : 0 ≤ bits .xor .u32 x y ∧ bits .xor .u32 x y < 4294967296 := by
  have h : bits .xor .u32 x y = IntKind.u32.wrap (bits .xor .u32 x y) := by simp [bits, IntKind.wrap, IntKind.bits, IntKind.signed]
  rw [h, wrap32_eq]
  exact ⟨w32_lo _, w32_hi _⟩
end Go.Proofs.Ytloflmcgbbbnjaa.Plain
