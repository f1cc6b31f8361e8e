/-
  Uvarint: a number in groups of seven bits is read from the head of bytes.
-/
import Derived.Test.YtloflmcgbbbnjaaMem
import Derived.Test.YtloflmcgbbbnjaaMem2
import Derived.Test.YtloflmcgbbbnjaaPlainUv
import Derived.Test.YtloflmcgbbbnjaaPlainHash
namespace Go.Proofs.Ytloflmcgbbbnjaa
open Go.RowKit Plain
set_option linter.all false

theorem u8_and127_fin : ∀ y : Fin 256, bits .and .u8 (y.val : Int) 127 = ((y.val % 128 : Nat) : Int) := by decide +kernel
theorem u8_and127 {x : Int} (h0 : 0 ≤ x) (h1 : x < 256) : bits .and .u8 x 127 = x % 128 := by
  have h := u8_and127_fin ⟨x.toNat, by omega⟩
  simp only at h
  rw [show ((x.toNat : Nat) : Int) = x by omega] at h
  rw [h]; omega
theorem or_high {i : Nat} {a x : Int} (ha0 : 0 ≤ a) (ha : a < 2 ^ i) (ha1 : a < 18446744073709551616) (hx0 : 0 ≤ x) (hx : x * 2 ^ i < 18446744073709551616) : bits .or .u64 a (x * 2 ^ i) = a + x * 2 ^ i := by
  have hp : (0 : Int) ≤ 2 ^ i := Int.le_of_lt (Int.pow_pos (by decide))
  exact bits_join_low .u64 64 (by decide) wraps_u64 i a (x * 2 ^ i) ha0 ha (by omega) (Int.mul_nonneg hx0 hp) (Int.mul_emod_left _ _) (by omega)
/-- Where a number in groups is read: k groups are read, which make acc; what is left of it is m. -/
structure UvAt (x : Nat) (D : List UInt8) (k acc m : Nat) : Prop where
  rest : ∃ r, D.drop k = uv m ++ r
  sum : x = acc + m * 2 ^ (7 * k)
  low : acc < 2 ^ (7 * k)
  one : k = 0 ∨ 0 < m
  len : (uv x).length = k + (uv m).length
theorem UvAt.start {x : Nat} {D r : List UInt8} (h : D = uv x ++ r) : UvAt x D 0 0 x := ⟨⟨r, by simpa using h⟩, by simp, by simp, .inl rfl, by simp⟩
theorem UvAt.k9 {x : Nat} {D : List UInt8} {k acc m : Nat} (h : UvAt x D k acc m) (hx : x < 18446744073709551616) : k ≤ 9 := by
  rcases h.one with h1 | h1
  · omega
  · have h2 := h.sum
    rcases Nat.lt_or_ge 9 k with h3 | h3
    · have h4 : 2 ^ (7 * 10) ≤ 2 ^ (7 * k) := Nat.pow_le_pow_right (by decide) (by omega)
      have h5 : 2 ^ (7 * k) ≤ m * 2 ^ (7 * k) := Nat.le_mul_of_pos_left _ h1
      have h6 : (2 : Nat) ^ (7 * 10) = 1180591620717411303424 := by decide
      omega
    · exact h3
theorem UvAt.next {x : Nat} {D : List UInt8} {k acc m : Nat} (h : UvAt x D k acc m) (h4 : ¬ m < 128) : UvAt x D (k + 1) (acc + m % 128 * 2 ^ (7 * k)) (m / 128) := by
  obtain ⟨⟨r, h1⟩, h2, h3, h5, h6⟩ := h
  have hp : 2 ^ (7 * (k + 1)) = 128 * 2 ^ (7 * k) := by rw [show 7 * (k + 1) = 7 + 7 * k by omega, Nat.pow_add]
  refine ⟨⟨r, ?_⟩, ?_, ?_, .inr (by omega), ?_⟩
  · rw [← List.drop_drop, h1, uv_big h4, List.cons_append, List.drop_succ_cons, List.drop_zero]
  · rw [hp, h2, ← Nat.mul_assoc, Nat.add_assoc, ← Nat.add_mul]; congr 2; omega
  · rw [hp]
    have : m % 128 * 2 ^ (7 * k) ≤ 127 * 2 ^ (7 * k) := Nat.mul_le_mul_right _ (by omega)
    omega
  · rw [h6, uv_big h4, List.length_cons]; omega
theorem UvAt.byte {x : Nat} {D : List UInt8} {k acc m : Nat} (h : UvAt x D k acc m) : k < D.length ∧ bz D k = if m < 128 then (m : Int) else ((m % 128 + 128 : Nat) : Int) := by
  obtain ⟨⟨r, h1⟩, _⟩ := h
  have h0 : (D.drop k)[0]? = (uv m ++ r)[0]? := by rw [h1]
  rw [List.getElem?_drop, Nat.add_zero] at h0
  by_cases h4 : m < 128
  · rw [uv_small h4] at h0
    simp at h0
    refine ⟨(List.getElem?_eq_some_iff.1 h0).1, ?_⟩
    rw [if_pos h4, bz, at_, h0]; simp; omega
  · rw [uv_big h4] at h0
    simp at h0
    refine ⟨(List.getElem?_eq_some_iff.1 h0).1, ?_⟩
    rw [if_neg h4, bz, at_, h0]; simp; omega
def UvOut (x : Nat) (w : World) (e : Ending) (w' : World) : Prop := e = .returned (.tuple #[.int .u64 (x : Int), .int .i64 ((uv x).length : Int)]) ∧ w = w'
set_option maxHeartbeats 1600000 in
theorem uvarint_any (g o c n x : Nat) (D r : List UInt8) (w : World) (h : BsAt w (some ⟨g, o, none⟩) D) (hD : D = uv x ++ r) (hx : x < 18446744073709551616) (hn : n = D.length) (hl : D.length ≤ 140737488355328) :
    Calls Try.prog 31 #[.slice (some ⟨g, o, none⟩) n c] w (UvOut x w) := by
  subst hn
  have HD := hid hD
  clear hD
  go_enter Try.func31, Try.ntmps31
  go_wp2
  go_loopw [4, 5, 10] (fun a s i wr => ∃ k acc m : Nat, a = .int .u64 acc ∧ s = .int .u64 (7 * (k : Int)) ∧ i = .int .i64 k ∧ Hid (UvAt x D k acc m) ∧ w = wr) (fun _ _ i _ => 10 - (intOf i).toNat)
  case atStart => exact ⟨0, 0, x, rfl, rfl, rfl, hid (UvAt.start HD.out), rfl⟩
  case round =>
    obtain ⟨k, acc, m, rfl, rfl, rfl, hU, rfl⟩ := hrel
    have k9 := hU.out.k9 hx
    obtain ⟨hb1, hb2⟩ := hU.out.byte
    obtain ⟨_, _, e, hc⟩ := h k hb1
    injection e with e
    injection e with e1 e2
    subst e1; subst e2
    have hb1' : (k : Int) < (D.length : Int) := by omega
    have hsum := hU.out.sum
    have hpow : (((2 : Nat) ^ (7 * k) : Nat) : Int) = 2 ^ (7 * k) := Int.natCast_pow 2 _
    have hlow := hU.out.low
    have hacc : acc < 18446744073709551616 := by omega
    have hlowI : (acc : Int) < 2 ^ (7 * k) := by rw [← hpow]; omega
    have t10 : ((k : Int) == 10) = false := beq_eq_false_iff_ne.2 (by omega)
    by_cases h4 : m < 128
    · rw [if_pos h4] at hb2
      rw [hb2] at hc
      have h4' : (m : Int) < 128 := by omega
      have hm64 : (m : Int) * 2 ^ (7 * k) < 18446744073709551616 := by rw [← hpow, ← Int.natCast_mul]; omega
      have hm0 : (0 : Int) ≤ (m : Int) * 2 ^ (7 * k) := by rw [← hpow, ← Int.natCast_mul]; omega
      have ew : IntKind.u64.wrap ((m : Int) * 2 ^ (7 * k)) = (m : Int) * 2 ^ (7 * k) := wraps_u64 _ hm0 (by simpa using hm64)
      have hor := or_high (i := 7 * k) (a := acc) (x := m) (by omega) hlowI (by omega) (by omega) hm64
      have hres : (acc : Int) + (m : Int) * 2 ^ (7 * k) = (x : Int) := by rw [← hpow, ← Int.natCast_mul]; omega
      have hlen : ((uv x).length : Int) = (k : Int) + 1 := by rw [hU.out.len, uv_small h4]; rfl
      rw [hres] at hor
      have HL := hid hlen
      clear hb2 hsum hpow hlow hlowI hm64 hm0 hres hlen
      by_cases h9 : k = 9
      · have t9 : ((k : Int) == 9) = true := beq_iff_eq.2 (by omega)
        have hm1 : ¬ 1 < (m : Int) := by
          have h1 := hU.out.sum
          rw [h9, show (2 : Nat) ^ (7 * 9) = 9223372036854775808 by decide] at h1
          omega
        clear h9
        go_wp2_with fail
        go_ret2
        exact ⟨by rw [HL.out]; rfl, rfl⟩
      · have t9 : ((k : Int) == 9) = false := beq_eq_false_iff_ne.2 (by omega)
        go_wp2_with fail
        go_ret2
        exact ⟨by rw [HL.out]; rfl, rfl⟩
    · rw [if_neg h4] at hb2
      rw [hb2] at hc
      have hmm : m % 128 * 2 ^ (7 * k) ≤ m * 2 ^ (7 * k) := Nat.mul_le_mul_right _ (Nat.mod_le _ _)
      have h4' : ¬ ((m % 128 + 128 : Nat) : Int) < 128 := by omega
      have hm64 : ((m % 128 : Nat) : Int) * 2 ^ (7 * k) < 18446744073709551616 := by rw [← hpow, ← Int.natCast_mul]; omega
      have hm0 : (0 : Int) ≤ ((m % 128 : Nat) : Int) * 2 ^ (7 * k) := by rw [← hpow, ← Int.natCast_mul]; omega
      have ew : IntKind.u64.wrap (((m % 128 : Nat) : Int) * 2 ^ (7 * k)) = ((m % 128 : Nat) : Int) * 2 ^ (7 * k) := wraps_u64 _ hm0 (by simpa using hm64)
      have hor := or_high (i := 7 * k) (a := acc) (x := ((m % 128 : Nat) : Int)) (by omega) hlowI (by omega) (by omega) hm64
      have hres : (acc : Int) + ((m % 128 : Nat) : Int) * 2 ^ (7 * k) = ((acc + m % 128 * 2 ^ (7 * k) : Nat) : Int) := by rw [← hpow, ← Int.natCast_mul]; omega
      have hand : bits .and .u8 (((m % 128 + 128 : Nat)) : Int) 127 = ((m % 128 : Nat) : Int) := by rw [u8_and127 (by omega) (by omega)]; omega
      have k8 : k < 9 := by
        have h1 := (hU.out.next h4).k9 hx
        omega
      obtain ⟨b, hb⟩ : ∃ b, m % 128 + 128 = b := ⟨_, rfl⟩
      obtain ⟨lo, hlo⟩ : ∃ lo, m % 128 = lo := ⟨_, rfl⟩
      rw [hb] at h4' hand hc
      rw [hlo] at hand hor ew hm64 hm0 hres
      have ew2 : IntKind.u64.wrap (lo : Int) = lo := wraps_u64 _ (by omega) (by omega)
      have HN := hid (hU.out.next h4)
      have HLO := hid hlo
      have HOR := hid (hor.trans hres)
      clear hb2 hsum hpow hlow hlowI hm64 hm0 hres hmm hb hlo hor
      go_wp2_with fail
      refine ⟨⟨k + 1, acc + m % 128 * 2 ^ (7 * k), m / 128, ?_, ?_, rfl, HN, trivial⟩, by simp [intOf]; omega⟩
      · rw [HLO.out]; exact congrArg (Value.int .u64) HOR.out
      · congr 1
end Go.Proofs.Ytloflmcgbbbnjaa
