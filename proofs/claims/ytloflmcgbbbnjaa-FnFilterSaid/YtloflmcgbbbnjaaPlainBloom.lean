/-
  PLAIN: a filter of bits: what has been set stays set, and is found.
-/
import Derived.Test.YtloflmcgbbbnjaaPlainHash
namespace Go.Proofs.Ytloflmcgbbbnjaa.Plain
open Go

/-- A bit of a row of bytes. -/
def getBit (D : List UInt8) (p : Nat) : Bool := (at_ D (p / 8)).toNat.testBit (p % 8)
def orByte (x : UInt8) (m : Nat) : UInt8 := UInt8.ofNat (x.toNat ||| 2 ^ m)
def setBit (D : List UInt8) (p : Nat) : List UInt8 := D.set (p / 8) (orByte (at_ D (p / 8)) (p % 8))
theorem orByte_toNat (x : UInt8) {m : Nat} (hm : m < 8) : (orByte x m).toNat = x.toNat ||| 2 ^ m := by
  have h1 : x.toNat < 2 ^ 8 := x.toNat_lt
  have h2 : 2 ^ m < 2 ^ 8 := Nat.pow_lt_pow_right (by decide) hm
  have h3 := Nat.or_lt_two_pow h1 h2
  simp only [orByte, UInt8.toNat_ofNat', Nat.mod_eq_of_lt h3]
theorem setBit_length (D : List UInt8) (p : Nat) : (setBit D p).length = D.length := by simp [setBit]
theorem setBit_at {D : List UInt8} {p i : Nat} (h : p / 8 < D.length) : at_ (setBit D p) i = if i = p / 8 then orByte (at_ D (p / 8)) (p % 8) else at_ D i := by
  unfold setBit
  by_cases hi : i = p / 8
  · subst hi
    rw [if_pos rfl, at_, List.getElem?_set_self h]; rfl
  · rw [if_neg hi, at_, List.getElem?_set_ne (Ne.symm hi)]; rfl
theorem getBit_set {D : List UInt8} {p : Nat} (h : p / 8 < D.length) : getBit (setBit D p) p = true := by
  unfold getBit
  rw [setBit_at h, if_pos rfl, orByte_toNat _ (Nat.mod_lt _ (by decide)), Nat.testBit_or, Nat.testBit_two_pow_self, Bool.or_true]
theorem getBit_keep {D : List UInt8} {p q : Nat} (h : p / 8 < D.length) (hq : getBit D q = true) : getBit (setBit D p) q = true := by
  unfold getBit at hq ⊢
  rw [setBit_at h]
  by_cases hi : q / 8 = p / 8
  · rw [if_pos hi, orByte_toNat _ (Nat.mod_lt _ (by decide)), Nat.testBit_or, ← hi, hq, Bool.true_or]
  · rw [if_neg hi]; exact hq
/-- The place of a probe. -/
def spot (x nb : Int) : Nat := (x % nb).toNat
theorem spot_lt {x nb : Int} {n : Nat} (h0 : 0 < n) (hn : nb = 8 * (n : Int)) : spot x nb / 8 < n := by
  have h1 := Int.emod_nonneg x (show nb ≠ 0 by omega)
  have h2 := Int.emod_lt_of_pos x (show 0 < nb by omega)
  unfold spot; omega
def addKey (nb dl : Int) : Nat → Int → List UInt8 → List UInt8
  | 0, _, D => D
  | n + 1, x, D => addKey nb dl n (w32 (x + dl)) (setBit D (spot x nb))
def hasKey (nb dl : Int) (D : List UInt8) : Nat → Int → Bool
  | 0, _ => true
  | n + 1, x => getBit D (spot x nb) && hasKey nb dl D n (w32 (x + dl))
theorem addKey_length (nb dl : Int) : ∀ (n : Nat) (x : Int) (D : List UInt8), (addKey nb dl n x D).length = D.length
  | 0, _, _ => rfl
  | n + 1, x, D => by rw [addKey, addKey_length, setBit_length]
section
variable {nb : Int} {m : Nat} (h0 : 0 < m) (hn : nb = 8 * (m : Int))
include h0 hn
theorem getBit_addKey (dl : Int) {q : Nat} : ∀ (n : Nat) (x : Int) (D : List UInt8), m ≤ D.length → getBit D q = true → getBit (addKey nb dl n x D) q = true
  | 0, _, _, _, h => h
  | n + 1, x, D, hD, h => by
    rw [addKey]
    have := spot_lt (x := x) h0 hn
    exact getBit_addKey dl n _ _ (by rw [setBit_length]; exact hD) (getBit_keep (by omega) h)
theorem hasKey_addKey_other (dl dl' : Int) (n : Nat) (x : Int) (D : List UInt8) (hD : m ≤ D.length) : ∀ (k : Nat) (y : Int), hasKey nb dl' D k y = true → hasKey nb dl' (addKey nb dl n x D) k y = true
  | 0, _, _ => rfl
  | k + 1, y, h => by
    rw [hasKey, Bool.and_eq_true] at h ⊢
    exact ⟨getBit_addKey h0 hn dl n x D hD h.1, hasKey_addKey_other dl dl' n x D hD k _ h.2⟩
theorem hasKey_addKey (dl : Int) : ∀ (n : Nat) (x : Int) (D : List UInt8), m ≤ D.length → hasKey nb dl (addKey nb dl n x D) n x = true
  | 0, _, _, _ => rfl
  | n + 1, x, D, hD => by
    have := spot_lt (x := x) h0 hn
    rw [hasKey, Bool.and_eq_true, addKey]
    exact ⟨getBit_addKey h0 hn dl n _ _ (by rw [setBit_length]; exact hD) (getBit_set (by omega)), hasKey_addKey dl n _ _ (by rw [setBit_length]; exact hD)⟩
theorem at_addKey (dl : Int) {i : Nat} (hi : m ≤ i) : ∀ (n : Nat) (x : Int) (D : List UInt8), m ≤ D.length → at_ (addKey nb dl n x D) i = at_ D i
  | 0, _, _, _ => rfl
  | n + 1, x, D, hD => by
    have := spot_lt (x := x) h0 hn
    rw [addKey, at_addKey dl hi n _ _ (by rw [setBit_length]; exact hD), setBit_at (by omega), if_neg (by omega)]
end
/-- Seventeen bits to the right, round. -/
def rot (x : Int) : Int := bits .or .u32 (x / 131072) (w32 (x * 32768))
def addAll (nb : Int) (k : Nat) : List Int → List UInt8 → List UInt8
  | [], D => D
  | x :: l, D => addAll nb k l (addKey nb (rot x) k x D)
theorem addAll_snoc (nb : Int) (k : Nat) (x : Int) : ∀ (l : List Int) (D : List UInt8), addAll nb k (l ++ [x]) D = addKey nb (rot x) k x (addAll nb k l D)
  | [], _ => rfl
  | _ :: l, _ => addAll_snoc nb k x l _
theorem addAll_length (nb : Int) (k : Nat) : ∀ (l : List Int) (D : List UInt8), (addAll nb k l D).length = D.length
  | [], _ => rfl
  | x :: l, D => by rw [addAll, addAll_length, addKey_length]
section
variable {nb : Int} {m : Nat} (h0 : 0 < m) (hn : nb = 8 * (m : Int))
include h0 hn
theorem at_addAll (k : Nat) {i : Nat} (hi : m ≤ i) : ∀ (l : List Int) (D : List UInt8), m ≤ D.length → at_ (addAll nb k l D) i = at_ D i
  | [], _, _ => rfl
  | x :: l, D, hD => by rw [addAll, at_addAll k hi l _ (by rw [addKey_length]; exact hD), at_addKey h0 hn _ hi _ _ _ hD]
theorem hasKey_addAll_keep (k j : Nat) (y : Int) : ∀ (l : List Int) (D : List UInt8), m ≤ D.length → hasKey nb (rot y) D j y = true → hasKey nb (rot y) (addAll nb k l D) j y = true
  | [], _, _, h => h
  | x :: l, D, hD, h => by
    rw [addAll]
    exact hasKey_addAll_keep k j y l _ (by rw [addKey_length]; exact hD) (hasKey_addKey_other h0 hn _ _ _ _ _ hD _ _ h)
/-- Every key that was added is found. -/
theorem hasKey_addAll (k : Nat) (y : Int) : ∀ (l : List Int) (D : List UInt8), m ≤ D.length → y ∈ l → hasKey nb (rot y) (addAll nb k l D) k y = true
  | x :: l, D, hD, h => by
    rw [addAll]
    rcases List.mem_cons.1 h with rfl | h
    · exact hasKey_addAll_keep h0 hn k k y l _ (by rw [addKey_length]; exact hD) (hasKey_addKey h0 hn _ _ _ _ hD)
    · exact hasKey_addAll k y l _ (by rw [addKey_length]; exact hD) h
end
/-- As the code reads a bit: a byte and a power of two. -/
theorem and_bit (D : List UInt8) (p : Nat) : (bits .and .u32 (bz D (p / 8)) (((2 ^ (p % 8) : Nat)) : Int) = 0) ↔ getBit D p = false := by
  have h8 : p % 8 < 8 := Nat.mod_lt _ (by decide)
  have hx : (at_ D (p / 8)).toNat < 2 ^ 8 := (at_ D (p / 8)).toNat_lt
  have h2 : 2 ^ (p % 8) < 2 ^ 8 := Nat.pow_lt_pow_right (by decide) h8
  have h := (bits_nat .u32 32 (by decide) wraps_u32 (at_ D (p / 8)).toNat (2 ^ (p % 8)) (by omega) (by omega)).1
  unfold bz
  rw [h]
  unfold getBit
  generalize (at_ D (p / 8)).toNat = x
  constructor
  · intro e
    have e' : x &&& 2 ^ (p % 8) = 0 := by omega
    have := congrArg (fun y => Nat.testBit y (p % 8)) e'
    simpa [Nat.testBit_and, Nat.testBit_two_pow_self] using this
  · intro e
    have e' : x &&& 2 ^ (p % 8) = 0 := by
      apply Nat.eq_of_testBit_eq
      intro i
      rw [Nat.testBit_and, Nat.testBit_two_pow, Nat.zero_testBit]
      by_cases hi : p % 8 = i
      · subst hi; rw [e]; rfl
      · simp [hi]
    rw [e']; rfl
theorem or_bit (D : List UInt8) (p : Nat) : bits .or .u8 (bz D (p / 8)) (((2 ^ (p % 8) : Nat)) : Int) = ((orByte (at_ D (p / 8)) (p % 8)).toNat : Int) := by
  have h8 : p % 8 < 8 := Nat.mod_lt _ (by decide)
  have hx : (at_ D (p / 8)).toNat < 2 ^ 8 := (at_ D (p / 8)).toNat_lt
  have h2 : 2 ^ (p % 8) < 2 ^ 8 := Nat.pow_lt_pow_right (by decide) h8
  have h := (bits_nat .u8 8 (by decide) wraps_u8 (at_ D (p / 8)).toNat (2 ^ (p % 8)) (by omega) (by omega)).2
  unfold bz
  rw [h, orByte_toNat _ h8]
end Go.Proofs.Ytloflmcgbbbnjaa.Plain
