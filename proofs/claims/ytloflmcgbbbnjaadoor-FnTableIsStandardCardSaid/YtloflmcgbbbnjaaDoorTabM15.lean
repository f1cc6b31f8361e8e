/-
  Uvarint: a number in groups of seven bits is read from the head of bytes.
  spec.unvarint: a number in groups of seven bits is read from the head of bytes.
  spec.unlittle: what it returns.
  spec.ReadBlock: a block by the format is read as its pairs.
  The check sum: the reference's.
-/
import Derived.Test.YtloflmcgbbbnjaaDoorTabM2
import Derived.Test.YtloflmcgbbbnjaaDoorTabM5
import Derived.Test.YtloflmcgbbbnjaaDoorTabM1
import Derived.Test.YtloflmcgbbbnjaaDoorTabM3
import Derived.Test.YtloflmcgbbbnjaaDoorTabM14
import Derived.Test.YtloflmcgbbbnjaaDoorTabM12
import Derived.Test.YtloflmcgbbbnjaaDoorTabM4
namespace Go.Proofs.YtloflmcgbbbnjaaDoor
open Go.RowKit Plain
set_option linter.all false

theorem u8_and127_fin : ∀ y : Fin 256, bits .and .u8 (y.val : Int) 127 = ((y.val % 128 : Nat) : Int) := by decide +kernel
theorem u8_and127 {x : Int} (h0 : 0 ≤ x) (h1 : x < 256) : bits .and .u8 x 127 = x % 128 := by
  have h := u8_and127_fin ⟨x.toNat, by omega⟩
  simp only at h
  rw [show ((x.toNat : Nat) : Int) = x by omega] at h
  rw [h]; omega
theorem or_high {i : Nat} {a x : Int} (ha0 : 0 ≤ a) (ha : a < 2 ^ i) (ha1 : a < 18446744073709551616) (hx0 : 0 ≤ x) (hx : x * 2 ^ i < 18446744073709551616) : bits .or .u64 a (x * 2 ^ i) = a + x * 2 ^ i := by
  have hp : (0 : Int) ≤ 2 ^ i := Int.le_of_lt (Int.pow_pos (by decide))
  exact bits_join_low .u64 64 (by decide) wraps_u64 i a (x * 2 ^ i) ha0 ha (by omega) (Int.mul_nonneg hx0 hp) (Int.mul_emod_left _ _) (by omega)
/-- Where a number in groups is read: k groups are read, which make acc; what is left of it is m. -/
structure UvAt (x : Nat) (D : List UInt8) (k acc m : Nat) : Prop where
  rest : ∃ r, D.drop k = uv m ++ r
  sum : x = acc + m * 2 ^ (7 * k)
  low : acc < 2 ^ (7 * k)
  one : k = 0 ∨ 0 < m
  len : (uv x).length = k + (uv m).length
theorem UvAt.start {x : Nat} {D r : List UInt8} (h : D = uv x ++ r) : UvAt x D 0 0 x := ⟨⟨r, by simpa using h⟩, by simp, by simp, .inl rfl, by simp⟩
theorem UvAt.k9 {x : Nat} {D : List UInt8} {k acc m : Nat} (h : UvAt x D k acc m) (hx : x < 18446744073709551616) : k ≤ 9 := by
  rcases h.one with h1 | h1
  · omega
  · have h2 := h.sum
    rcases Nat.lt_or_ge 9 k with h3 | h3
    · have h4 : 2 ^ (7 * 10) ≤ 2 ^ (7 * k) := Nat.pow_le_pow_right (by decide) (by omega)
      have h5 : 2 ^ (7 * k) ≤ m * 2 ^ (7 * k) := Nat.le_mul_of_pos_left _ h1
      have h6 : (2 : Nat) ^ (7 * 10) = 1180591620717411303424 := by decide
      omega
    · exact h3
theorem UvAt.next {x : Nat} {D : List UInt8} {k acc m : Nat} (h : UvAt x D k acc m) (h4 : ¬ m < 128) : UvAt x D (k + 1) (acc + m % 128 * 2 ^ (7 * k)) (m / 128) := by
  obtain ⟨⟨r, h1⟩, h2, h3, h5, h6⟩ := h
  have hp : 2 ^ (7 * (k + 1)) = 128 * 2 ^ (7 * k) := by rw [show 7 * (k + 1) = 7 + 7 * k by omega, Nat.pow_add]
  refine ⟨⟨r, ?_⟩, ?_, ?_, .inr (by omega), ?_⟩
  · rw [← List.drop_drop, h1, uv_big h4, List.cons_append, List.drop_succ_cons, List.drop_zero]
  · rw [hp, h2, ← Nat.mul_assoc, Nat.add_assoc, ← Nat.add_mul]; congr 2; omega
  · rw [hp]
    have : m % 128 * 2 ^ (7 * k) ≤ 127 * 2 ^ (7 * k) := Nat.mul_le_mul_right _ (by omega)
    omega
  · rw [h6, uv_big h4, List.length_cons]; omega
theorem UvAt.byte {x : Nat} {D : List UInt8} {k acc m : Nat} (h : UvAt x D k acc m) : k < D.length ∧ bz D k = if m < 128 then (m : Int) else ((m % 128 + 128 : Nat) : Int) := by
  obtain ⟨⟨r, h1⟩, _⟩ := h
  have h0 : (D.drop k)[0]? = (uv m ++ r)[0]? := by rw [h1]
  rw [List.getElem?_drop, Nat.add_zero] at h0
  by_cases h4 : m < 128
  · rw [uv_small h4] at h0
    simp at h0
    refine ⟨(List.getElem?_eq_some_iff.1 h0).1, ?_⟩
    rw [if_pos h4, bz, at_, h0]; simp; omega
  · rw [uv_big h4] at h0
    simp at h0
    refine ⟨(List.getElem?_eq_some_iff.1 h0).1, ?_⟩
    rw [if_neg h4, bz, at_, h0]; simp; omega
def UvOut (x : Nat) (w : World) (e : Ending) (w' : World) : Prop := e = .returned (.tuple #[.int .u64 (x : Int), .int .i64 ((uv x).length : Int)]) ∧ w = w'
set_option maxHeartbeats 1600000 in
theorem uvarint_any (g o c n x : Nat) (D r : List UInt8) (w : World) (h : BsAt w (some ⟨g, o, none⟩) D) (hD : D = uv x ++ r) (hx : x < 18446744073709551616) (hn : n = D.length) (hl : D.length ≤ 140737488355328) :
    Calls Tryd.prog 135 #[.slice (some ⟨g, o, none⟩) n c] w (UvOut x w) := by
  subst hn
  have HD := hid hD
  clear hD
  go_enter Tryd.func135, Tryd.ntmps135
  go_wp2
  go_loopw [4, 5, 10] (fun a s i wr => ∃ k acc m : Nat, a = .int .u64 acc ∧ s = .int .u64 (7 * (k : Int)) ∧ i = .int .i64 k ∧ Hid (UvAt x D k acc m) ∧ w = wr) (fun _ _ i _ => 10 - (intOf i).toNat)
  case atStart => exact ⟨0, 0, x, rfl, rfl, rfl, hid (UvAt.start HD.out), rfl⟩
  case round =>
    obtain ⟨k, acc, m, rfl, rfl, rfl, hU, rfl⟩ := hrel
    have k9 := hU.out.k9 hx
    obtain ⟨hb1, hb2⟩ := hU.out.byte
    obtain ⟨_, _, e, hc⟩ := h k hb1
    injection e with e
    injection e with e1 e2
    subst e1; subst e2
    have hb1' : (k : Int) < (D.length : Int) := by omega
    have hsum := hU.out.sum
    have hpow : (((2 : Nat) ^ (7 * k) : Nat) : Int) = 2 ^ (7 * k) := Int.natCast_pow 2 _
    have hlow := hU.out.low
    have hacc : acc < 18446744073709551616 := by omega
    have hlowI : (acc : Int) < 2 ^ (7 * k) := by rw [← hpow]; omega
    have t10 : ((k : Int) == 10) = false := beq_eq_false_iff_ne.2 (by omega)
    by_cases h4 : m < 128
    · rw [if_pos h4] at hb2
      rw [hb2] at hc
      have h4' : (m : Int) < 128 := by omega
      have hm64 : (m : Int) * 2 ^ (7 * k) < 18446744073709551616 := by rw [← hpow, ← Int.natCast_mul]; omega
      have hm0 : (0 : Int) ≤ (m : Int) * 2 ^ (7 * k) := by rw [← hpow, ← Int.natCast_mul]; omega
      have ew : IntKind.u64.wrap ((m : Int) * 2 ^ (7 * k)) = (m : Int) * 2 ^ (7 * k) := wraps_u64 _ hm0 (by simpa using hm64)
      have hor := or_high (i := 7 * k) (a := acc) (x := m) (by omega) hlowI (by omega) (by omega) hm64
      have hres : (acc : Int) + (m : Int) * 2 ^ (7 * k) = (x : Int) := by rw [← hpow, ← Int.natCast_mul]; omega
      have hlen : ((uv x).length : Int) = (k : Int) + 1 := by rw [hU.out.len, uv_small h4]; rfl
      rw [hres] at hor
      have HL := hid hlen
      clear hb2 hsum hpow hlow hlowI hm64 hm0 hres hlen
      by_cases h9 : k = 9
      · have t9 : ((k : Int) == 9) = true := beq_iff_eq.2 (by omega)
        have hm1 : ¬ 1 < (m : Int) := by
          have h1 := hU.out.sum
          rw [h9, show (2 : Nat) ^ (7 * 9) = 9223372036854775808 by decide] at h1
          omega
        clear h9
        go_wp2_with fail
        go_ret2
        exact ⟨by rw [HL.out]; rfl, rfl⟩
      · have t9 : ((k : Int) == 9) = false := beq_eq_false_iff_ne.2 (by omega)
        go_wp2_with fail
        go_ret2
        exact ⟨by rw [HL.out]; rfl, rfl⟩
    · rw [if_neg h4] at hb2
      rw [hb2] at hc
      have hmm : m % 128 * 2 ^ (7 * k) ≤ m * 2 ^ (7 * k) := Nat.mul_le_mul_right _ (Nat.mod_le _ _)
      have h4' : ¬ ((m % 128 + 128 : Nat) : Int) < 128 := by omega
      have hm64 : ((m % 128 : Nat) : Int) * 2 ^ (7 * k) < 18446744073709551616 := by rw [← hpow, ← Int.natCast_mul]; omega
      have hm0 : (0 : Int) ≤ ((m % 128 : Nat) : Int) * 2 ^ (7 * k) := by rw [← hpow, ← Int.natCast_mul]; omega
      have ew : IntKind.u64.wrap (((m % 128 : Nat) : Int) * 2 ^ (7 * k)) = ((m % 128 : Nat) : Int) * 2 ^ (7 * k) := wraps_u64 _ hm0 (by simpa using hm64)
      have hor := or_high (i := 7 * k) (a := acc) (x := ((m % 128 : Nat) : Int)) (by omega) hlowI (by omega) (by omega) hm64
      have hres : (acc : Int) + ((m % 128 : Nat) : Int) * 2 ^ (7 * k) = ((acc + m % 128 * 2 ^ (7 * k) : Nat) : Int) := by rw [← hpow, ← Int.natCast_mul]; omega
      have hand : bits .and .u8 (((m % 128 + 128 : Nat)) : Int) 127 = ((m % 128 : Nat) : Int) := by rw [u8_and127 (by omega) (by omega)]; omega
      have k8 : k < 9 := by
        have h1 := (hU.out.next h4).k9 hx
        omega
      obtain ⟨b, hb⟩ : ∃ b, m % 128 + 128 = b := ⟨_, rfl⟩
      obtain ⟨lo, hlo⟩ : ∃ lo, m % 128 = lo := ⟨_, rfl⟩
      rw [hb] at h4' hand hc
      rw [hlo] at hand hor ew hm64 hm0 hres
      have ew2 : IntKind.u64.wrap (lo : Int) = lo := wraps_u64 _ (by omega) (by omega)
      have HN := hid (hU.out.next h4)
      have HLO := hid hlo
      have HOR := hid (hor.trans hres)
      clear hb2 hsum hpow hlow hlowI hm64 hm0 hres hmm hb hlo hor
      go_wp2_with fail
      refine ⟨⟨k + 1, acc + m % 128 * 2 ^ (7 * k), m / 128, ?_, ?_, rfl, HN, trivial⟩, by simp [intOf]; omega⟩
      · rw [HLO.out]; exact congrArg (Value.int .u64) HOR.out
      · congr 1
end Go.Proofs.YtloflmcgbbbnjaaDoor
namespace Go.Proofs.YtloflmcgbbbnjaaDoor
open Go.RowKit Plain
set_option linter.all false

set_option maxHeartbeats 1600000 in
theorem unvarint_any (A : Option Addr) (c n x : Nat) (D r : List UInt8) (w : World) (h : BsAt w A D) (hD : D = uv x ++ r) (hx : x < 18446744073709551616) (hn : n = D.length) (hl : D.length ≤ 140737488355328) :
    Calls Tryd.prog 95 #[.slice A n c] w (UvOut x w) := by
  subst hn
  have HD := hid hD
  clear hD
  go_enter Tryd.func95, Tryd.ntmps95
  go_wp2
  go_loopw [4, 5] (fun a i wr => ∃ k acc m : Nat, a = .int .u64 acc ∧ i = .int .i64 k ∧ Hid (UvAt x D k acc m) ∧ w = wr) (fun _ i _ => 10 - (intOf i).toNat)
  case atStart => exact ⟨0, 0, x, rfl, rfl, hid (UvAt.start HD.out), rfl⟩
  case round =>
    obtain ⟨k, acc, m, rfl, rfl, hU, rfl⟩ := hrel
    have k9 := hU.out.k9 hx
    obtain ⟨hb1, hb2⟩ := hU.out.byte
    obtain ⟨g, o, rfl, hc⟩ := h k hb1
    have hb1' : decide ((k : Int) < (D.length : Int)) = true := decide_eq_true (by omega)
    have hk10 : (k : Int) < 10 := by omega
    have hsum := hU.out.sum
    have hpow : (((2 : Nat) ^ (7 * k) : Nat) : Int) = 2 ^ (7 * k) := Int.natCast_pow 2 _
    have hlow := hU.out.low
    have hacc : acc < 18446744073709551616 := by omega
    have hlowI : (acc : Int) < 2 ^ (7 * k) := by rw [← hpow]; omega
    have e7 : IntKind.i64.wrap (7 * (k : Int)) = 7 * (k : Int) := i64_id (by omega) (by omega)
    have e8 : (7 * (k : Int)).toNat = 7 * k := by omega
    have e9 : (0 : Int) ≤ 7 * (k : Int) := by omega
    by_cases h4 : m < 128
    · rw [if_pos h4] at hb2
      rw [hb2] at hc
      have h4' : (m : Int) < 128 := by omega
      have ha := u8_and127 (x := (m : Int)) (by omega) (by omega)
      have hmm : (m : Int) % 128 = m := by omega
      rw [hmm] at ha
      have hm64 : (m : Int) * 2 ^ (7 * k) < 18446744073709551616 := by rw [← hpow, ← Int.natCast_mul]; omega
      have hm0 : (0 : Int) ≤ (m : Int) * 2 ^ (7 * k) := by rw [← hpow, ← Int.natCast_mul]; omega
      have ew : IntKind.u64.wrap ((m : Int) * 2 ^ (7 * k)) = (m : Int) * 2 ^ (7 * k) := wraps_u64 _ hm0 (by simpa using hm64)
      have hor := or_high (i := 7 * k) (a := acc) (x := m) (by omega) hlowI (by omega) (by omega) hm64
      have hres : (acc : Int) + (m : Int) * 2 ^ (7 * k) = (x : Int) := by rw [← hpow, ← Int.natCast_mul]; omega
      have hlen : ((uv x).length : Int) = (k : Int) + 1 := by rw [hU.out.len, uv_small h4]; rfl
      rw [hres] at hor
      have HL := hid hlen
      clear hb2 hsum hpow hlow hlowI hm64 hm0 hres hlen hmm
      go_wp2_with fail
      go_ret2
      exact ⟨by rw [HL.out]; rfl, rfl⟩
    · rw [if_neg h4] at hb2
      rw [hb2] at hc
      have hmm : m % 128 * 2 ^ (7 * k) ≤ m * 2 ^ (7 * k) := Nat.mul_le_mul_right _ (Nat.mod_le _ _)
      have h4' : ¬ ((m % 128 + 128 : Nat) : Int) < 128 := by omega
      have hm64 : ((m % 128 : Nat) : Int) * 2 ^ (7 * k) < 18446744073709551616 := by rw [← hpow, ← Int.natCast_mul]; omega
      have hm0 : (0 : Int) ≤ ((m % 128 : Nat) : Int) * 2 ^ (7 * k) := by rw [← hpow, ← Int.natCast_mul]; omega
      have ew : IntKind.u64.wrap (((m % 128 : Nat) : Int) * 2 ^ (7 * k)) = ((m % 128 : Nat) : Int) * 2 ^ (7 * k) := wraps_u64 _ hm0 (by simpa using hm64)
      have hor := or_high (i := 7 * k) (a := acc) (x := ((m % 128 : Nat) : Int)) (by omega) hlowI (by omega) (by omega) hm64
      have hres : (acc : Int) + ((m % 128 : Nat) : Int) * 2 ^ (7 * k) = ((acc + m % 128 * 2 ^ (7 * k) : Nat) : Int) := by rw [← hpow, ← Int.natCast_mul]; omega
      have hand : bits .and .u8 (((m % 128 + 128 : Nat)) : Int) 127 = ((m % 128 : Nat) : Int) := by rw [u8_and127 (by omega) (by omega)]; omega
      obtain ⟨b, hb⟩ : ∃ b, m % 128 + 128 = b := ⟨_, rfl⟩
      obtain ⟨lo, hlo⟩ : ∃ lo, m % 128 = lo := ⟨_, rfl⟩
      rw [hb] at h4' hand hc
      rw [hlo] at hand hor ew hm64 hm0 hres
      have ew2 : IntKind.u64.wrap (lo : Int) = lo := wraps_u64 _ (by omega) (by omega)
      have HN := hid (hU.out.next h4)
      have HLO := hid hlo
      have HOR := hid (hor.trans hres)
      clear hb2 hsum hpow hlow hlowI hm64 hm0 hres hmm hb hlo hor
      go_wp2_with fail
      refine ⟨⟨k + 1, acc + m % 128 * 2 ^ (7 * k), m / 128, ?_, ?_, HN, trivial⟩, by simp [intOf]; omega⟩
      · rw [HLO.out]; exact congrArg (Value.int .u64) HOR.out
      · congr 1
end Go.Proofs.YtloflmcgbbbnjaaDoor
namespace Go.Proofs.YtloflmcgbbbnjaaDoor
open Go.RowKit Plain

set_option maxHeartbeats 400000 in
theorem unlittle_any (A : Option Addr) (n c : Nat) (l : List UInt8) (w : World) (h : BsAt w A l) (hl : l.length ≤ 8) (hn : n = l.length) :
    Calls Tryd.prog 47 #[.slice A n c] w fun e w' => e = .returned (.int .u64 (leI l)) ∧ Dr w w' := by
  subst hn
  go_enter Tryd.func47, Tryd.ntmps47
  go_wp2
  go_loopw [3, 4] (fun n i wr => ∃ k : Nat, k ≤ l.length ∧ i = .int .i64 ((k : Int) - 1) ∧ n = .int .u64 (leI (l.drop k)) ∧ Dr w wr) (fun _ i _ => (intOf i + 1).toNat)
  case atStart => exact ⟨l.length, Nat.le_refl _, rfl, by rw [List.drop_length]; rfl, Dr.refl _⟩
  case round =>
    obtain ⟨k, hk, rfl, rfl, ⟨n, rfl⟩⟩ := hrel
    cases k with
    | zero =>
      go_wp2
      go_ret
      exact ⟨rfl, ⟨n, rfl⟩⟩
    | succ k =>
      obtain ⟨g, o, rfl, hc⟩ := h k hk
      rw [show (((k + 1 : Nat) : Int) - 1) = (k : Int) from by omega]
      have hx2 := bz_lo l k
      have hx3 := bz_hi l k
      have hd := leI_drop hk
      have h0 := leI_nonneg (l.drop (k + 1))
      have h1 := leI_lt7 (l := l.drop (k + 1)) (by simp; omega)
      generalize hx : leI (l.drop (k + 1)) = x at *
      have hw : IntKind.u64.wrap (x * 256) = x * 256 := u64_wrap_id _ (by omega) (by omega)
      have ho : bits .or .u64 (x * 256) (bz l k) = leI (l.drop k) := by rw [u64_hi_or8 hx2 hx3 (by omega) (by omega) (by omega), hd]; omega
      clear hd hx h1 h0
      go_wp2
      exact ⟨⟨k, by omega, rfl, rfl, ⟨n, rfl⟩⟩, by simp [intOf]⟩

end Go.Proofs.YtloflmcgbbbnjaaDoor
namespace Go.Proofs.YtloflmcgbbbnjaaDoor
open Go.RowKit Plain
set_option linter.all false

theorem rd_rst {rs : Nat} {L : List KV} {b : List UInt8} (hb : b = blkD rs L ++ le4s (blkR rs L ++ [(blkR rs L).length])) (hw : kvw L ≤ 100000000) :
    ∀ k, k ≤ (blkR rs L).length → ∃ x : Nat, (b.drop ((blkD rs L).length + 4 * k)).take 4 = leB (x : Int) 4 ∧ x < 4294967296 ∧ (k < (blkR rs L).length → x ∈ blkR rs L) ∧ (k = (blkR rs L).length → x = (blkR rs L).length) := by
  intro k hk
  obtain ⟨h1, h2⟩ := blkR_bound (rs := rs) (L := L) (by omega)
  have hl := kvw_len L
  have hkl : k < (blkR rs L ++ [(blkR rs L).length]).length := by simp; omega
  have h3 := le4s_at hkl
  rw [hb, ← List.drop_drop, List.drop_left, h3]
  refine ⟨_, rfl, ?_, fun h => ?_, fun h => ?_⟩
  · rcases List.mem_append.1 (List.getElem_mem hkl) with h | h
    · have := h2 _ h; omega
    · simp at h; rw [h]; omega
  · rw [List.getElem_append_left h]; exact List.getElem_mem h
  · subst h; simp
/-- What reading a block gives: its pairs, keys and values copied. -/
def RBOut (L : List KV) (R : List Fr) (w0 : World) (e : Ending) (w' : World) : Prop :=
  ∃ (A : Option Addr) (c n : Nat) (l : List Pr) (F : List Fr), e = .returned (.tuple #[.slice A n c, .bool true]) ∧ n = l.length ∧ Hid (kvs l = L) ∧ n ≤ c ∧ c ≤ maxLen ∧ Hid (∀ wb, St F wb fun w => Prs w A l) ∧ Hid (Own (F ++ R) w0 w')
/-- Behind j entries. -/
structure RBAt (rs : Nat) (L : List KV) (w1 : World) (j : Nat) (oA kA : Option Addr) (oc kn kc : Nat) (l : List Pr) (Fo G : List Fr) (w : World) : Prop where
  len : l.length = j
  kv : kvs l = L.take j
  row : Row 38 2 oA j oc (l.flatMap Pr.cells) Fo
  ok : ∀ r ∈ l, ∀ wb, St G wb fun w => r.Ok w
  kl : kn = (pk L j).length
  kc : kn ≤ kc ∧ kc ≤ maxLen
  key : ∀ wb, Rd G wb kA (pk L j)
  own : Own (Fo ++ G) w1 w
def vsOf (nn mm qq : Nat) : Nat → List Value
  | 0 => [.int .u64 0, .int .u64 0, .int .u64 0]
  | 1 => [.int .u64 nn, .int .u64 0, .int .u64 0]
  | 2 => [.int .u64 nn, .int .u64 mm, .int .u64 0]
  | _ => [.int .u64 nn, .int .u64 mm, .int .u64 qq]
def psOf (a nn mm qq : Nat) : Nat → Nat
  | 0 => a
  | 1 => a + (uv nn).length
  | 2 => a + (uv nn).length + (uv mm).length
  | _ => a + (uv nn).length + (uv mm).length + (uv qq).length
def xsOf (nn mm qq : Nat) : Nat → Nat
  | 0 => nn
  | 1 => mm
  | _ => qq
theorem vs_len (nn mm qq : Nat) : ∀ k, (vsOf nn mm qq k).length = 3
  | 0 | 1 | 2 | _ + 3 => rfl
theorem vs_step {D : List UInt8} {a nn mm qq : Nat} {K V : List UInt8} (h : EntB D a nn mm qq K V) : ∀ k, k < 3 → (∃ r, D.drop (psOf a nn mm qq k) = uv (xsOf nn mm qq k) ++ r) ∧ psOf a nn mm qq (k + 1) = psOf a nn mm qq k + (uv (xsOf nn mm qq k)).length ∧
    vsOf nn mm qq (k + 1) = (vsOf nn mm qq k).set k (.int .u64 (xsOf nn mm qq k : Nat)) ∧ psOf a nn mm qq k + (uv (xsOf nn mm qq k)).length ≤ D.length
  | 0, _ => ⟨h.d0, rfl, rfl, by have := h.le; simp only [psOf, xsOf]; omega⟩
  | 1, _ => ⟨h.d1, rfl, rfl, by have := h.le; simp only [psOf, xsOf]; omega⟩
  | 2, _ => ⟨h.d2, rfl, rfl, by have := h.le; simp only [psOf, xsOf]; omega⟩
  | k + 3, hk => absurd hk (by omega)
theorem xs_le (nn mm qq : Nat) : ∀ k, xsOf nn mm qq k ≤ nn + mm + qq
  | 0 => by simp only [xsOf]; omega
  | 1 => by simp only [xsOf]; omega
  | k + 2 => by simp only [xsOf]; omega
theorem take_mid {b D t : List UInt8} {p : Nat} (hb : b = D ++ t) (hp : p ≤ D.length) : (b.drop p).take (D.length - p) = D.drop p := by
  rw [hb, List.drop_append_of_le_length hp, List.take_left' (by rw [List.length_drop])]
theorem take_mid2 {b D t : List UInt8} {p m : Nat} (hb : b = D ++ t) (hp : p + m ≤ D.length) : (b.drop p).take m = (D.drop p).take m := by
  rw [hb, List.drop_append_of_le_length (by omega), List.take_append_of_le_length (by rw [List.length_drop]; omega)]

set_option maxHeartbeats 6400000 in
set_option maxRecDepth 100000 in
theorem readBlock_any (A : Option Addr) (c n rs : Nat) (L : List KV) (b : List UInt8) (R : List Fr) (w0 w : World) (hb : Rd R w0 A b) (hbb : b = blockB rs [] L 0) (hn : n = b.length) (hc : n ≤ c) (hcm : c ≤ 9223372036854775807) (hrs : 0 < rs) (hw : kvw L ≤ 100000000) (hO : Own R w0 w) :
    Calls Tryd.prog 49 #[.slice A n c] w (RBOut L R w0) := by
  have hbw := hO.st hb (fun x hx => hx)
  rw [block_eq hrs] at hbb
  have hR := rd_rst hbb hw
  obtain ⟨m1, m2⟩ := blkR_bound (rs := rs) (L := L) (by omega)
  have m0 := blkR_pos rs L
  have d1 := blkD_le (rs := rs) (L := L) (by omega)
  have hL := kvw_len L
  obtain ⟨dn, hdn⟩ : ∃ dn, (blkD rs L).length = dn := ⟨_, rfl⟩
  obtain ⟨m, hm⟩ : ∃ m, (blkR rs L).length = m := ⟨_, rfl⟩
  have hbl : b.length = dn + 4 * m + 4 := by rw [hbb, List.length_append, le4s_length, List.length_append, hdn, hm, List.length_singleton]; omega
  obtain ⟨g, o, rfl, _⟩ := hbw 0 (by omega)
  rw [hm, hdn] at hR
  rw [hm] at m0 m1
  rw [hdn] at d1
  obtain ⟨q, hq⟩ : ∃ q, dn + 4 * m = q := ⟨_, rfl⟩
  obtain ⟨m4, hm4⟩ : ∃ m4, 4 * m = m4 := ⟨_, rfl⟩
  obtain ⟨xm, hxm, xm1, _, xm3⟩ := hR m (Nat.le_refl _)
  rw [xm3 rfl, hq] at hxm
  have hnq : n = q + 4 := by omega
  have HB := hid hbb
  have HD := hid hdn
  have HR := hid hR
  have HM := hid hm
  have HM2 := hid m2
  have HXM := hid hxm
  have mb : m ≤ 100000001 := by omega
  have hLL : L.length ≤ 100000000 := by omega
  have db : dn ≤ 1600000000 := by omega
  have t0 : ¬ (n : Int) < 4 := by omega
  have t0' : decide ((n : Int) < 4) = false := decide_eq_false t0
  have e1 : IntKind.i64.wrap ((n : Int) - 4) = (q : Int) := by rw [i64_id (by omega) (by omega)]; omega
  have e2 : IntKind.i64.wrap (m : Int) = (m : Int) := i64_id (by omega) (by omega)
  have e3 : IntKind.i64.wrap (4 * (m : Int)) = (m4 : Int) := by rw [i64_id (by omega) (by omega)]; omega
  have e4 : IntKind.i64.wrap ((q : Int) - (m4 : Int)) = (dn : Int) := by rw [i64_id (by omega) (by omega)]; omega
  have y1 : ¬ c = q := by omega
  have y2 : (q : Int) ≤ (n : Int) := by omega
  have t1 : decide ((m : Int) < 1) = false := decide_eq_false (by omega)
  have t2 : decide ((dn : Int) < 0) = false := decide_eq_false (by omega)
  have t1' : ¬ (m : Int) < 1 := by omega
  have t2' : ¬ (dn : Int) < 0 := by omega
  have HO := hid hO
  have HBW := hid hbw
  have HQ := hid (show _ ∧ _ ∧ _ ∧ _ from ⟨hq, hm4, hnq, hbl⟩)
  have hnq4 : n - q = 4 := by omega
  have HN4 := hid hnq4
  have HN := hid hn
  have hmm := @run_makeMap Tryd.prog
  clear hbb hdn hR hm m2 hxm hO hbw hq hm4 hnq hbl xm3 xm1 hnq4 hn m1 d1 hL hb
  go_enter Tryd.func49, Tryd.ntmps49
  go_wp2_with fail
  refine (unlittle_any _ _ _ (leB (m : Int) 4) _ ?_ (by rw [leB_length]; decide) (by rw [leB_length]; exact HN4.out)).mono ?_
  · have h1 := HBW.out.drop q
    have h2 := h1.take 4
    rw [HXM.out] at h2
    exact h2
  rintro e w1 ⟨rfl, hd1⟩
  rw [leI_leB (m : Int) 4 (by omega) (by omega)]
  have HO1 := hid (HO.out.dr hd1)
  have HBW1 := hid (HBW.out.keep0 hd1.only)
  clear hd1 HO HBW
  go_wp2_with fail
  obtain ⟨mb', hmb⟩ : ∃ mb', w1.heap.size = mb' := ⟨_, rfl⟩
  rw [hmb]
  have hB0 : BMap (w1.alloc (.map #[] 0)) mb' 0 (fun x : Int => ∃ r ∈ blkR rs L, x = (r : Int)) := BMap.made _ rfl hmb
  have hOn0 : Only [] w1 (w1.alloc (.map #[] 0)) := (Only.refl _ _).alloc _
  have HB0 := hid hB0
  have HON0 := hid hOn0
  have HMB := hid hmb
  clear hB0 hOn0 hmb
  go_loopw [40] (fun i wr => ∃ k : Nat, i = .int .i64 k ∧ k ≤ m ∧ Hid (BMap wr mb' k (fun x : Int => ∃ r ∈ blkR rs L, x = (r : Int))) ∧ Hid (Only [] w1 wr)) (fun i _ => m - (intOf i).toNat)
  case atStart => exact ⟨0, rfl, Nat.zero_le _, HB0, HON0⟩
  case round =>
    obtain ⟨k, rfl, hk, HBM, HON⟩ := hrel
    clear HB0 HON0
    by_cases h4 : k < m
    · have h4' : (k : Int) < (m : Int) := by omega
      obtain ⟨x, hx1, hx2, hx3, _⟩ := HR.out k hk
      obtain ⟨k4, hk4⟩ : ∃ k4, 4 * k = k4 := ⟨_, rfl⟩
      obtain ⟨p, hp⟩ : ∃ p, dn + 4 * k = p := ⟨_, rfl⟩
      obtain ⟨p4, hp4⟩ : ∃ p4, p + 4 = p4 := ⟨_, rfl⟩
      rw [hp] at hx1
      obtain ⟨hq, hm4, hnq, hbl⟩ := HQ.out
      have f1 : IntKind.i64.wrap (4 * (k : Int)) = (k4 : Int) := by rw [i64_id (by omega) (by omega)]; omega
      have f2 : IntKind.i64.wrap ((dn : Int) + (k4 : Int)) = (p : Int) := by rw [i64_id (by omega) (by omega)]; omega
      have f3 : IntKind.i64.wrap ((p : Int) + 4) = (p4 : Int) := by rw [i64_id (by omega) (by omega)]; omega
      have f4 : ¬ c = p := by omega
      have f5 : (p : Int) ≤ (p4 : Int) := by omega
      have f6 : (p4 : Int) ≤ (c : Int) := by omega
      have f7 : IntKind.i64.wrap (x : Int) = (x : Int) := i64_id (by omega) (by omega)
      have f8 : p4 - p = 4 := by omega
      have HX1 := hid hx1
      have HX3 := hid (hx3 h4)
      have HF8 := hid f8
      clear hk4 hp hp4 hq hm4 hnq hbl hx1 hx3 f8
      go_wp2_with fail
      refine (unlittle_any _ _ _ (leB (x : Int) 4) _ ?_ (by rw [leB_length]; decide) (by rw [leB_length]; exact HF8.out)).mono ?_
      · have h2 := ((HBW1.out.keep0 HON.out).drop p).take 4
        rw [HX1.out] at h2
        exact h2
      rintro e w2 ⟨rfl, hd2⟩
      rw [leI_leB (x : Int) 4 (by omega) (by omega)]
      have HON2 := hid (HON.out.dr hd2)
      have HBM2 := hid (HBM.out.keep0 hd2.only)
      clear hd2 HON HBM
      go_wp2_with (at_mapUpdate; refine wp_mapPut rfl _ _ _ rfl rfl HBM2.out (by unfold maxLen; omega) (x : Int) rfl rfl (WalkArith.wf_i64 (by omega)) ⟨x, HX3.out, rfl⟩ ?_; intro w3 hB3 hg3; have HB3 := hid hB3; have HG3 := hid hg3; clear hB3 hg3)
      go_roundw
      case rel => exact ⟨k + 1, by go_num, by omega, HB3, hid (HON2.out.grow HG3.out (by intro z hz; right; have := HMB.out; injection hz with hz; omega))⟩
      case measure => simp [intOf]; omega
    · have h4' : ¬ (k : Int) < (m : Int) := by omega
      have hkm : k = m := by omega
      subst hkm
      obtain ⟨wA, rfl⟩ : ∃ wA, wA = wr := ⟨_, rfl⟩
      have HO2 := hid (HO1.out.only0 HON.out)
      have HB2 := hid (HBW1.out.keep0 HON.out)
      have HOS := hid (Own.start wA)
      clear h4 hk t0 t0' e1 e2 e3 e4 y1 y2 t1 t2 t1' t2'
      go_wp2_with fail
      go_loopw [8, 9, 10] (fun ov kv av w2 => ∃ (j kn kc oc a : Nat) (oA kA : Option Addr) (l : List Pr) (Fo G : List Fr), ov = .slice oA j oc ∧ kv = .slice kA kn kc ∧ av = .int .i64 a ∧ j ≤ L.length ∧ Hid (a = atE rs L j) ∧ Hid (RBAt rs L wA j oA kA oc kn kc l Fo G w2)) (fun _ _ a _ => dn - (intOf a).toNat)
      case atStart => exact ⟨0, 0, 0, 0, 0, none, none, [], [], [], rfl, rfl, rfl, Nat.zero_le _, hid rfl, hid ⟨rfl, rfl, Row.nil _ _, by simp, rfl, ⟨Nat.le_refl _, by simp [maxLen]⟩, fun wb => Rd.nil _ _ _, HOS.out⟩⟩
      case round =>
        obtain ⟨j, kn, kc, oc, a, oA, kA, l, Fo, G, rfl, rfl, rfl, hj, HA, HI⟩ := hrel
        obtain ⟨w2, rfl⟩ : ∃ w2, w2 = wr := ⟨_, rfl⟩
        by_cases h5 : j < L.length
        · obtain ⟨hE, hs⟩ := entB (rs := rs) h5
          obtain ⟨en1, en2, en3⟩ := entN_le rs L j
          have hlt := atE_lt (rs := rs) (L := L) h5
          rw [atE_end, HD.out, ← HA.out] at hlt
          rw [← HA.out] at hE hs
          have hcb : ∀ b' : Bool, (b' = true → ∃ r ∈ blkR rs L, (a : Int) = (r : Int)) → b' = true → entN rs L j = 0 := fun b' h1 h2 => by
            obtain ⟨r, hr, he⟩ := h1 h2
            have : a = r := by omega
            subst this
            rw [HA.out] at hr
            exact blkR_entN h5 hr
          have hkw := kvw_key L j
          obtain ⟨KY, hK⟩ : ∃ KY, key L j = KY := ⟨_, rfl⟩
          obtain ⟨V, hV⟩ : ∃ V, val L j = V := ⟨_, rfl⟩
          obtain ⟨nn, hnn⟩ : ∃ nn, entN rs L j = nn := ⟨_, rfl⟩
          rw [hK, hV] at hkw
          rw [hnn, hK, hV] at hE hs
          rw [hnn, hK] at en2 en3
          rw [hnn, ← HI.out.kl] at en1
          rw [hnn] at hcb
          obtain ⟨mm, hmm'⟩ : ∃ mm, KY.length - nn = mm := ⟨_, rfl⟩
          obtain ⟨qq, hqq⟩ : ∃ qq, V.length = qq := ⟨_, rfl⟩
          rw [hmm', hqq] at hE hs
          have hle := hE.le
          rw [HD.out] at hle
          obtain ⟨q4, q5, q6⟩ : True ∧ True ∧ True := ⟨trivial, trivial, trivial⟩
          have a5 : (a : Int) < (dn : Int) := by omega
          have a5' : decide ((a : Int) < (dn : Int)) = true := decide_eq_true a5
          have HE := hid hE
          have HS := hid hs
          have HEN3 := hid en3
          have HCB := hid hcb
          have HKV := hid (show _ ∧ _ ∧ _ ∧ _ ∧ _ from ⟨hK, hV, hnn, hmm', hqq⟩)
          have HLE := hid hle
          clear hE hs en3 hcb hK hV hnn hmm' hqq hle q4 q5 q6
          go_wp2_with fail
          obtain ⟨v, hv⟩ : ∃ v, w2.heap.size = v := ⟨_, rfl⟩
          rw [hv]
          have HOV := hid (HI.out.own.alloc' hv 184 (vsOf nn mm qq 0))
          clear hv
          go_loopw [62, 10] (fun i p w3 => ∃ k : Nat, i = .int .i64 k ∧ k ≤ 3 ∧ p = .int .i64 (psOf a nn mm qq k : Nat) ∧ Hid (Own (fw v 184 (vsOf nn mm qq k) :: (Fo ++ G)) wA w3)) (fun i _ _ => 3 - (intOf i).toNat)
          case atStart => exact ⟨0, rfl, by omega, rfl, HOV⟩
          case round =>
            obtain ⟨k, rfl, hk3, rfl, HOK⟩ := hrel
            obtain ⟨w3, rfl⟩ : ∃ w3, w3 = wr := ⟨_, rfl⟩
            clear HOV
            by_cases h6 : k < 3
            ·
              obtain ⟨⟨r, hr⟩, s2, s3, s4⟩ := vs_step HE.out k h6
              have hxl := xs_le nn mm qq k
              have hvl := vs_len nn mm qq k
              rw [HD.out] at s4
              obtain ⟨x, hx⟩ : ∃ x, xsOf nn mm qq k = x := ⟨_, rfl⟩
              obtain ⟨p, hp⟩ : ∃ p, psOf a nn mm qq k = p := ⟨_, rfl⟩
              obtain ⟨p', hp'⟩ : ∃ p', psOf a nn mm qq (k + 1) = p' := ⟨_, rfl⟩
              obtain ⟨u, hu⟩ : ∃ u, (uv x).length = u := ⟨_, rfl⟩
              rw [hx] at hr s2 s3 s4 hxl
              rw [hp] at hr s2 s4 ⊢
              rw [hp', hu] at s2
              rw [hu] at s4
              have hup := uv_pos x
              rw [hu] at hup
              obtain ⟨kv1, kv2, kv3, kv4, kv5⟩ := HKV.out
              obtain ⟨hq, hm4, hnq, hbl⟩ := HQ.out
              have g1 : ¬ c = p := by omega
              have g2 : (p : Int) ≤ (dn : Int) := by omega
              have g3 : (dn : Int) ≤ (c : Int) := by omega
              have g4 : IntKind.i64.wrap ((p : Int) + (u : Int)) = (p' : Int) := by rw [i64_id (by omega) (by omega)]; omega
              have g5 : ((u : Int) == 0) = false := by rw [beq_eq_false_iff_ne]; omega
              have g6 : (k : Int) < 3 := by omega
              have g7 : x < 18446744073709551616 := by omega
              have hby := ((HB2.out.keep0 HOK.out.only).drop p).take (dn - p)
              have htm := take_mid HB.out (p := p) (by rw [HD.out]; omega)
              rw [HD.out] at htm
              rw [htm] at hby
              obtain ⟨yv, hvk⟩ : ∃ yv, (vsOf nn mm qq k)[k]? = some yv := ⟨_, List.getElem?_eq_getElem (by omega)⟩
              have q0 := HOK.out.cell 0 rfl (k := k) k (by simp) (by show k < (vsOf nn mm qq k).length; omega)
              rw [hvk] at q0
              have qf := HOK.out.frozen 0 rfl k
              have hdl : dn - p = ((blkD rs L).drop p).length := by rw [List.length_drop, HD.out]
              have HBY := hid hby
              have HRR := hid hr
              have HUU := hid hu
              have HDL := hid hdl
              have HS2 := hid (show _ ∧ _ ∧ _ from ⟨hx, hp', s3⟩)
              clear hby hr hu hdl hx hp hp' s2 s3 s4 hvk htm hvl kv1 kv2 kv3 kv4 kv5 hq hm4 hnq hbl
              go_wp2_with fail
              refine (unvarint_any _ (c - p) (dn - p) x _ r _ HBY.out HRR.out g7 HDL.out (by rw [← HDL.out]; omega)).mono ?_
              rintro e w4 ⟨rfl, rfl⟩
              rw [HUU.out]
              go_wp2_with fail
              go_roundw
              case rel => exact ⟨k + 1, by go_num, by omega, by rw [HS2.out.2.1], by have := HOK.out.set (k := k) k (by simp) (by rw [vs_len]; exact h6) (.int .u64 (x : Nat)); rw [HS2.out.2.2]; exact hid this⟩
              case measure => simp [intOf]; omega
            · obtain rfl : k = 3 := by omega
              obtain ⟨kv1, kv2, kv3, kv4, kv5⟩ := HKV.out
              obtain ⟨hq, hm4, hnq, hbl⟩ := HQ.out
              obtain ⟨a3, ha3⟩ : ∃ a3, psOf a nn mm qq 3 = a3 := ⟨_, rfl⟩
              obtain ⟨a4, ha4⟩ : ∃ a4, a3 + mm = a4 := ⟨_, rfl⟩
              obtain ⟨a9, ha9⟩ : ∃ a9, a4 + qq = a9 := ⟨_, rfl⟩
              obtain ⟨mq, hmq⟩ : ∃ mq, mm + qq = mq := ⟨_, rfl⟩
              obtain ⟨da, hda⟩ : ∃ da, dn - a3 = da := ⟨_, rfl⟩
              have hle := HLE.out
              have hs := HS.out
              have hps : psOf a nn mm qq 3 = a + (uv nn).length + (uv mm).length + (uv qq).length := rfl
              have e5 : atE rs L (j + 1) = a9 := by rw [hs]; omega
              have l5 : a9 ≤ dn := by omega
              have la : a < a3 := by have := uv_pos nn; omega
              have he3 := HE.out.d3
              have he4 := HE.out.d4
              rw [← hps, ha3] at he3 he4
              rw [ha3]
              rw [ha4] at he4
              have c0 : w3.cell? ⟨v, 0, none⟩ = some (.int .u64 (nn : Int)) := HOK.out.cell 0 rfl (k := 0) 0 rfl (by simp [vsOf])
              have c1 : w3.cell? ⟨v, 1, none⟩ = some (.int .u64 (mm : Int)) := HOK.out.cell 0 rfl (k := 1) 1 rfl (by simp [vsOf])
              have c2 : w3.cell? ⟨v, 2, none⟩ = some (.int .u64 (qq : Int)) := HOK.out.cell 0 rfl (k := 2) 2 rfl (by simp [vsOf])
              have b3 : (blkD rs L).drop a3 = ((blkD rs L).drop a3) := rfl
              have hbk := (HB2.out.drop a3).take mm
              rw [take_mid2 HB.out (by rw [HD.out]; omega), he3] at hbk
              have hbv := (HB2.out.drop a4).take qq
              rw [take_mid2 HB.out (by rw [HD.out]; omega), he4] at hbv
              have z1 : IntKind.u64.wrap (kn : Int) = (kn : Int) := wraps_u64 _ (by omega) (by have := HI.out.kc; simp [maxLen] at this ⊢; omega)
              have z2 : decide ((kn : Int) < (nn : Int)) = false := decide_eq_false (by omega)
              have z3 : IntKind.u64.wrap ((mm : Int) + (qq : Int)) = (mq : Int) := by rw [wraps_u64 _ (by omega) (by simp; omega)]; omega
              have z4 : IntKind.i64.wrap ((dn : Int) - (a3 : Int)) = (da : Int) := by rw [i64_id (by omega) (by omega)]; omega
              have z5 : IntKind.u64.wrap (da : Int) = (da : Int) := wraps_u64 _ (by omega) (by simp; omega)
              have z6 : decide ((da : Int) < (mq : Int)) = false := decide_eq_false (by omega)
              have z2' : decide (kn < nn) = false := decide_eq_false (by omega)
              have z6' : decide (da < mq) = false := decide_eq_false (by omega)
              have z7 : IntKind.i64.wrap (mm : Int) = (mm : Int) := i64_id (by omega) (by omega)
              have z8 : IntKind.i64.wrap ((a3 : Int) + (mm : Int)) = (a4 : Int) := by rw [i64_id (by omega) (by omega)]; omega
              have z9 : IntKind.i64.wrap (qq : Int) = (qq : Int) := i64_id (by omega) (by omega)
              have z10 : IntKind.i64.wrap ((a4 : Int) + (qq : Int)) = (a9 : Int) := by rw [i64_id (by omega) (by omega)]; omega
              have x1 : ¬ c = a3 := by omega
              have x2 : (a3 : Int) ≤ (a4 : Int) := by omega
              have x3 : (a4 : Int) ≤ (c : Int) := by omega
              have x4 : (nn : Int) ≤ (kc : Int) := by have := HI.out.kc; omega
              have x5 : ¬ c = a4 := by omega
              have x6 : (a4 : Int) ≤ (a9 : Int) := by omega
              have x7 : (a9 : Int) ≤ (c : Int) := by omega
              obtain ⟨cb, hrun, hS⟩ := (HBM.out.keep0 HOK.out.only).look (a : Int) (WalkArith.wf_i64 (by omega))
              have hcb := HCB.out cb hS
              have hnz : (cb && ((nn : Int) != 0)) = false := by
                cases cb with
                | false => rfl
                | true => rw [hcb rfl]; rfl
              have HBK := hid hbk
              have HBV := hid hbv
              have HE5 := hid e5
              have HLL := hid (show _ ∧ _ ∧ _ ∧ _ from ⟨ha4, ha9, l5, la⟩)
              clear hq hm4 hnq hbl kv1 kv2 kv3 kv4 kv5 ha3 ha4 ha9 hmq hda hle hs hps e5 he3 he4 b3 hbk hbv hS hcb l5 la
              go_upto_region 27 with fail
              go_cut [109] (fun s109 wx => s109 = .bool false ∧ w3 = wx)
              case first =>
                cases cb with
                | false =>
                  go_wp2_with fail
                  go_meet
                  exact ⟨rfl, rfl⟩
                | true =>
                  have z11 : ((nn : Int) != 0) = false := by simpa using hnz
                  go_wp2_with fail
                  go_meet
                  exact ⟨rfl, rfl⟩
              case rest =>
                obtain ⟨rfl, rfl⟩ := hcut
                clear hrun hnz z1 z2 z2' z3 z4 z5 z6 z6'
                go_wp2_with fail
                refine AnyT.start (S := fun w' => w'.cell? ⟨v, 0, none⟩ = some (.int .u64 nn) ∧ w'.cell? ⟨v, 1, none⟩ = some (.int .u64 mm)) (T := []) (by kernel_rfl) (⟨c0, c1⟩) (fun hHeld => ?_)
                refine AnyT.take (i := 1) (v := ?_) (by simp only [List.getElem?_toArray, List.getElem?_cons_succ, List.getElem?_cons_zero]; rfl) (by kernel_rfl) (by kernel_rfl) (by kernel_rfl) (by kernel_rfl) (by intro _ _ _ h; exact h) (Or.inl ⟨by rfl, fun w hSw => ?_⟩) hHeld ?_
                rotate_left
                · ((try dsimp only at hSw); go_simp; first | done | with_reducible rfl | rfl)
                try simp only [Act.put, List.setIfInBounds_toArray, List.set_cons_zero, List.set_cons_succ]
                refine AnyT.take (i := 2) (v := ?_) (by simp only [List.getElem?_toArray, List.getElem?_cons_succ, List.getElem?_cons_zero]; rfl) (by kernel_rfl) (by kernel_rfl) (by kernel_rfl) (by kernel_rfl) (by intro _ _ _ h; exact h) (Or.inl ⟨by rfl, fun w hSw => ?_⟩) hHeld ?_
                rotate_left
                · ((try dsimp only at hSw); go_simp; first | done | with_reducible rfl | rfl)
                try simp only [Act.put, List.setIfInBounds_toArray, List.set_cons_zero, List.set_cons_succ]
                refine AnyT.take (i := 3) (v := ?_) (by simp only [List.getElem?_toArray, List.getElem?_cons_succ, List.getElem?_cons_zero]; rfl) (by kernel_rfl) (by kernel_rfl) (by kernel_rfl) (by kernel_rfl) (by intro _ _ _ h; exact h) (Or.inl ⟨by rfl, fun w hSw => ?_⟩) hHeld ?_
                rotate_left
                · ((try dsimp only at hSw); go_simp; first | done | with_reducible rfl | rfl)
                try simp only [Act.put, List.setIfInBounds_toArray, List.set_cons_zero, List.set_cons_succ]
                refine AnyT.take (i := 4) (v := ?_) (by simp only [List.getElem?_toArray, List.getElem?_cons_succ, List.getElem?_cons_zero]; rfl) (by kernel_rfl) (by kernel_rfl) (by kernel_rfl) (by kernel_rfl) (by intro _ _ _ h; exact h) (Or.inl ⟨by rfl, fun w hSw => ?_⟩) hHeld ?_
                rotate_left
                · ((try dsimp only at hSw); go_simp; first | done | with_reducible rfl | rfl)
                try simp only [Act.put, List.setIfInBounds_toArray, List.set_cons_zero, List.set_cons_succ]
                refine AnyT.take (i := 6) (v := ?_) (by simp only [List.getElem?_toArray, List.getElem?_cons_succ, List.getElem?_cons_zero]; rfl) (by kernel_rfl) (by kernel_rfl) (by kernel_rfl) (by kernel_rfl) (by intro _ _ _ h; exact h) (Or.inl ⟨by rfl, fun w hSw => ?_⟩) hHeld ?_
                rotate_left
                · ((try dsimp only at hSw); go_simp; first | done | with_reducible rfl | rfl)
                try simp only [Act.put, List.setIfInBounds_toArray, List.set_cons_zero, List.set_cons_succ]
                refine AnyT.take (i := 7) (v := ?_) (by simp only [List.getElem?_toArray, List.getElem?_cons_succ, List.getElem?_cons_zero]; rfl) (by kernel_rfl) (by kernel_rfl) (by kernel_rfl) (by kernel_rfl) (by intro _ _ _ h; exact h) (Or.inl ⟨by rfl, fun w hSw => ?_⟩) hHeld ?_
                rotate_left
                · ((try dsimp only at hSw); go_simp; first | done | with_reducible rfl | rfl)
                try simp only [Act.put, List.setIfInBounds_toArray, List.set_cons_zero, List.set_cons_succ]
                refine AnyT.take (i := 8) (v := ?_) (by simp only [List.getElem?_toArray, List.getElem?_cons_succ, List.getElem?_cons_zero]; rfl) (by kernel_rfl) (by kernel_rfl) (by kernel_rfl) (by kernel_rfl) (by intro _ _ _ h; exact h) (Or.inl ⟨by rfl, fun w hSw => ?_⟩) hHeld ?_
                rotate_left
                · ((try dsimp only at hSw); go_simp; first | done | with_reducible rfl | rfl)
                try simp only [Act.put, List.setIfInBounds_toArray, List.set_cons_zero, List.set_cons_succ]
                refine AnyT.take (i := 9) (v := ?_) (by simp only [List.getElem?_toArray, List.getElem?_cons_succ, List.getElem?_cons_zero]; rfl) (by kernel_rfl) (by kernel_rfl) (by kernel_rfl) (by kernel_rfl) (by intro _ _ _ h; exact h) (Or.inl ⟨by rfl, fun w hSw => ?_⟩) hHeld ?_
                rotate_left
                · ((try dsimp only at hSw); go_simp; first | done | with_reducible rfl | rfl)
                try simp only [Act.put, List.setIfInBounds_toArray, List.set_cons_zero, List.set_cons_succ]
                refine AnyT.take (i := 10) (v := ?_) (by simp only [List.getElem?_toArray, List.getElem?_cons_succ, List.getElem?_cons_zero]; rfl) (by kernel_rfl) (by kernel_rfl) (by kernel_rfl) (by kernel_rfl) (by intro _ _ _ h; exact h) (Or.inl ⟨by rfl, fun w hSw => ?_⟩) hHeld ?_
                rotate_left
                · ((try dsimp only at hSw); go_simp; first | done | with_reducible rfl | rfl)
                try simp only [Act.put, List.setIfInBounds_toArray, List.set_cons_zero, List.set_cons_succ]
                refine AnyT.take (i := 11) (v := ?_) (by simp only [List.getElem?_toArray, List.getElem?_cons_succ, List.getElem?_cons_zero]; rfl) (by kernel_rfl) (by kernel_rfl) (by kernel_rfl) (by kernel_rfl) (by intro _ _ _ h; exact h) (Or.inl ⟨by rfl, fun w hSw => ?_⟩) hHeld ?_
                rotate_left
                · ((try dsimp only at hSw); go_simp; first | done | with_reducible rfl | rfl)
                try simp only [Act.put, List.setIfInBounds_toArray, List.set_cons_zero, List.set_cons_succ]
                refine AnyT.take (i := 12) (v := ?_) (by simp only [List.getElem?_toArray, List.getElem?_cons_succ, List.getElem?_cons_zero]; rfl) (by kernel_rfl) (by kernel_rfl) (by kernel_rfl) (by kernel_rfl) (by intro _ _ _ h; exact h) (Or.inl ⟨by rfl, fun w hSw => ?_⟩) hHeld ?_
                rotate_left
                · ((try dsimp only at hSw); go_simp; first | done | with_reducible rfl | rfl)
                try simp only [Act.put, List.setIfInBounds_toArray, List.set_cons_zero, List.set_cons_succ]
                refine AnyT.take (i := 13) (v := ?_) (by simp only [List.getElem?_toArray, List.getElem?_cons_succ, List.getElem?_cons_zero]; rfl) (by kernel_rfl) (by kernel_rfl) (by kernel_rfl) (by kernel_rfl) (by intro _ _ _ h; exact h) (Or.inl ⟨by rfl, fun w hSw => ?_⟩) hHeld ?_
                rotate_left
                · ((try dsimp only at hSw); go_simp; first | done | with_reducible rfl | rfl)
                try simp only [Act.put, List.setIfInBounds_toArray, List.set_cons_zero, List.set_cons_succ]
                refine AnyT.ready (rs := [0]) (by kernel_rfl) (by simp) ?_
                refine AllT.cons (by simp only [List.getElem?_toArray, List.getElem?_cons_succ, List.getElem?_cons_zero]; rfl) (fun K hK => ?_) AllT.nil
                go_simp
                obtain ⟨eb, heb⟩ : ∃ eb, w3.heap.size = eb := ⟨_, rfl⟩
                rw [heb]
                have hO4 := (HOK.out.alloc' heb 5 []).drew
                clear heb
                have hc4 := hO4.cell 1 rfl (k := 0) 0 rfl (by simp [vsOf])
                have hd4 := hO4.cell 1 rfl (k := 1) 1 rfl (by simp [vsOf])
                refine hK.out _ _ ?_ (fun hHeld => ?_)
                · exact ⟨hc4, hd4⟩
                clear hK
                try simp only [Act.put, List.setIfInBounds_toArray, List.set_cons_zero, List.set_cons_succ]
                clear hc4 hd4 c0 c1 c2
                generalize World.drew _ = w4 at hO4 hHeld ⊢
                have HO4 := hid hO4
                have hk4 := (hO4.st (HI.out.key wA) (fun x hx => by simp [hx])).take nn
                have HK4 := hid hk4
                clear hO4 hk4
                refine AnyT.ready (rs := [5]) (by kernel_rfl) (by simp) ?_
                refine AllT.cons (by simp only [List.getElem?_toArray, List.getElem?_cons_succ, List.getElem?_cons_zero]; rfl) (fun K hK => ?_) AllT.nil
                refine own_step_append rfl (.tmp 110) (.tmp 114) 25 rfl 5 (.int .u8 0) 1 1 Tryd.underlying25 Tryd.info_u8 rfl (by decide) (some ⟨eb, 0, none⟩) 0 0 [] [fw eb 5 []] rfl ⟨by simp, .inr ⟨_, [], rfl, rfl, by omega, by simp [maxLen], by simp, by simp⟩⟩ (R := fw v 184 (vsOf nn mm qq 3) :: (Fo ++ G)) HO4.out kA nn kc (bc ((pk L j).take nn)) rfl (by rw [bc_length, List.length_take, ← HI.out.kl]; omega) HK4.out.cs (bc_one _) (by simp [maxLen]; omega) (by omega) ?_
                intro A1 c1' F1 w5 hr1 hO5 _
                have HR1 := hid hr1
                have HO5 := hid hO5
                have hc4 := hO5.right.cell 0 rfl (k := 0) 0 rfl (by simp [vsOf])
                have hd4 := hO5.right.cell 0 rfl (k := 1) 1 rfl (by simp [vsOf])
                have hk5 := HBK.out.keep0 hO5.only
                have HK5 := hid hk5
                clear hr1 hO5 HO4 HK4 hk5
                refine hK.out _ _ ?_ (fun hHeld => ?_)
                · exact ⟨hc4, hd4⟩
                clear hK
                try simp only [Act.put, List.setIfInBounds_toArray, List.set_cons_zero, List.set_cons_succ]
                clear hc4 hd4
                refine AnyT.ready (rs := [14]) (by kernel_rfl) (by simp) ?_
                refine AllT.cons (by simp only [List.getElem?_toArray, List.getElem?_cons_succ, List.getElem?_cons_zero]; rfl) (fun K hK => ?_) AllT.nil
                refine own_step_append rfl (.tmp 115) (.tmp 123) 25 rfl 5 (.int .u8 0) 1 1 Tryd.underlying25 Tryd.info_u8 rfl (by decide) A1 (0 + nn) c1' _ F1 rfl HR1.out (R := fw v 184 (vsOf nn mm qq 3) :: (Fo ++ G)) HO5.out (some ⟨g, o + a3, none⟩) (a4 - a3) (c - a3) (bc (KY.drop nn)) rfl (by rw [bc_length, List.length_drop]; have := HLL.out; have := HKV.out; omega) HK5.out.cs (bc_one _) (by have := HLL.out; simp [maxLen]; omega) (by have := HLL.out; omega) ?_
                intro A2 c2' F2 w6 hr2 hO6 _
                have HR2 := hid hr2
                have HO6 := hid hO6
                have hc4 : w6.cell? ⟨v, 0, none⟩ = some (.int .u64 (nn : Int)) := hO6.right.cell 0 rfl (k := 0) 0 rfl (by simp [vsOf])
                have hd4 : w6.cell? ⟨v, 1, none⟩ = some (.int .u64 (mm : Int)) := hO6.right.cell 0 rfl (k := 1) 1 rfl (by simp [vsOf])
                have he4 : w6.cell? ⟨v, 2, none⟩ = some (.int .u64 (qq : Int)) := hO6.right.cell 0 rfl (k := 2) 2 rfl (by simp [vsOf])
                clear hr2 hO6 HO5 HK5
                refine hK.out _ _ ?_ (fun hHeld => ?_)
                · exact ⟨hc4, hd4⟩
                clear hK
                try simp only [Act.put, List.setIfInBounds_toArray, List.set_cons_zero, List.set_cons_succ]
                refine AnyT.take (i := 15) (v := ?_) (by simp only [List.getElem?_toArray, List.getElem?_cons_succ, List.getElem?_cons_zero]; rfl) (by kernel_rfl) (by kernel_rfl) (by kernel_rfl) (by kernel_rfl) (by intro _ _ _ h; exact h) (Or.inl ⟨by rfl, fun w hSw => ?_⟩) hHeld ?_
                rotate_left
                · ((try dsimp only at hSw); go_simp; first | done | with_reducible rfl | rfl)
                try simp only [Act.put, List.setIfInBounds_toArray, List.set_cons_zero, List.set_cons_succ]
                refine AnyT.done (by kernel_rfl) ?_ _
                clear hHeld
                have he5 : ∀ o' : Obj, (w6.alloc o').cell? ⟨v, 2, none⟩ = some (.int .u64 (qq : Int)) := fun o' => (((Only.refl [] w6).alloc o').cell (p := ⟨v, 2, none⟩) (cell_lt he4) (by simp)).trans he4
                have hn9 : nn + (a4 - a3) = KY.length := by
                  obtain ⟨l1, l2, l3, l4⟩ := HLL.out
                  obtain ⟨_, _, _, l5, _⟩ := HKV.out
                  omega
                have hrow : Row 5 1 A2 KY.length c2' (bc KY) F2 := by
                  have h1 := HR2.out
                  rw [Nat.zero_add, hn9, List.nil_append, ← bc_append, HEN3.out, List.take_append_drop] at h1
                  exact h1
                rw [hn9]
                have HROW := hid hrow
                obtain ⟨kn', hkn'⟩ : ∃ kn', KY.length = kn' := ⟨_, rfl⟩
                have HKN := hid hkn'
                rw [hkn']
                clear hn9 hrow HR2 hkn'
                have y1 : a9 - a4 = V.length := by
                  obtain ⟨l1, l2, l3, l4⟩ := HLL.out
                  obtain ⟨_, _, _, _, l5⟩ := HKV.out
                  omega
                have HY1 := hid y1
                have hjl : j ≤ 100000000 := by omega
                clear y1
                go_wp2_with (first
                  | (at_builtin; refine own_append rfl (.tmp 132) (.tmp 140) 25 rfl 5 (.int .u8 0) 1 1 Tryd.underlying25 Tryd.info_u8 rfl (by decide) (some ⟨w6.heap.size, 0, none⟩) 0 0 [] [fw w6.heap.size 5 []] rfl ⟨by simp, .inr ⟨_, [], rfl, rfl, by omega, by simp [maxLen], by simp, by simp⟩⟩ (R := F2 ++ (fw v 184 (vsOf nn mm qq 3) :: (Fo ++ G))) (HO6.out.alloc 5 []) (some ⟨g, o + a4, none⟩) (a9 - a4) (c - a4) (bc V) rfl (by rw [bc_length, HY1.out]; omega) ((HBV.out.keep0 HO6.out.only).alloc _).cs (bc_one _) (by have := HLL.out; simp [maxLen]; omega) (by have := HLL.out; omega) ?_; intro A3 c3' F3 w7 hr3 hO7 _; have HR3 := hid hr3; have HO7 := hid hO7; clear hr3 hO7)
                  | (at_builtin; refine own_append rfl (.tmp 130) (.tmp 143) 28 rfl 38 (.agg #[.slice none 0 0, .slice none 0 0]) 2 48 Tryd.underlying28 Tryd.info_pair rfl (by decide) oA j oc (l.flatMap Pr.cells) Fo rfl HI.out.row (R := F3 ++ (F2 ++ (fw v 184 (vsOf nn mm qq 3) :: G))) ((HO7.out.skip _).perm (perm_of fun _ _ z => by simp only [List.count_append, List.count_cons, List.cons_append, List.count_nil, List.nil_append, List.append_nil]; omega)) (some ⟨w7.heap.size, 0, none⟩) 1 1 [.slice A2 kn' c2', .slice A3 (a9 - a4) c3'] rfl rfl (csAt_all _ _ _) (by simp [Value.oneCell']) (by simp [maxLen]; omega) (by omega) ?_; intro oA' oc' Fo' w8 hr4 hO8 _; have HR4 := hid hr4; have HO8 := hid hO8; have he8 : w8.cell? ⟨v, 2, none⟩ = some (.int .u64 (qq : Int)) := hO8.right.right.right.cell 0 rfl (k := 2) 2 rfl (by simp [vsOf]); clear hr4 hO8))
                obtain ⟨q1, q2, q3, q4⟩ := HLL.out
                obtain ⟨k1, k2, k3, k4, k5⟩ := HKV.out
                refine ⟨⟨j + 1, kn', c2', oc', a9, oA', A2, l ++ [⟨A2, c2', KY, A3, c3', V⟩], Fo', F3 ++ (F2 ++ G), rfl, rfl, rfl, by omega, hid HE5.out.symm, hid ⟨?_, ?_, ?_, ?_, ?_, ?_, ?_, ?_⟩⟩, by simp [intOf]; omega⟩
                · rw [List.length_append, HI.out.len]; rfl
                · rw [take_snocKV h5, k1, k2, ← HI.out.kv]; simp [kvs]
                · have h4 := HR4.out
                  rw [HY1.out, ← HKN.out] at h4
                  rw [List.flatMap_append]
                  exact h4
                · intro r hr wb
                  rcases List.mem_append.1 hr with hr | hr
                  · exact ((HI.out.ok r hr wb).right F2).right F3
                  · simp at hr
                    subst hr
                    have r3 := HR3.out
                    rw [Nat.zero_add, HY1.out, List.nil_append] at r3
                    have t1 : Rd (F3 ++ (F2 ++ G)) wb A2 KY := ((HROW.out.rd wb).left G).right F3
                    have t2 : Rd (F3 ++ (F2 ++ G)) wb A3 V := (r3.rd wb).left (F2 ++ G)
                    exact fun w hw0 hfr => ⟨t1 w hw0 hfr, t2 w hw0 hfr, HROW.out.le, r3.le, HROW.out.cap, r3.cap⟩
                · show kn' = (key L (j + 1 - 1)).length
                  rw [Nat.add_sub_cancel, k1, HKN.out]
                · have := HROW.out.le
                  exact ⟨by rw [← HKN.out]; exact this, HROW.out.cap⟩
                · intro wb
                  show Rd _ wb A2 (key L (j + 1 - 1))
                  rw [Nat.add_sub_cancel, k1]
                  exact ((HROW.out.rd wb).left G).right F3
                · exact (HO8.out.perm (L' := fw v 184 (vsOf nn mm qq 3) :: (Fo' ++ (F3 ++ (F2 ++ G)))) (perm_of fun _ _ z => by simp only [List.count_append, List.count_cons, List.cons_append, List.count_nil, List.nil_append, List.append_nil]; omega)).drop
        · obtain rfl : j = L.length := by omega
          have ha9 : a = dn := by rw [HA.out, atE_end, HD.out]
          have t5 : ¬ (a : Int) < (dn : Int) := by omega
          have t5' : decide ((a : Int) < (dn : Int)) = false := decide_eq_false t5
          clear ha9
          go_wp2_with fail
          go_ret2
          refine ⟨oA, oc, _, l, Fo ++ G, rfl, HI.out.len.symm, hid (by rw [HI.out.kv, List.take_length]), HI.out.row.le, HI.out.row.cap, hid fun wb => fun w hw0 hfr => ⟨HI.out.row.cs fun x hx => hfr x (List.mem_append_left _ hx), fun r hr => HI.out.ok r hr wb w hw0 fun x hx => hfr x (List.mem_append_right _ hx)⟩, hid (Own.join HO2.out HI.out.own)⟩
end Go.Proofs.YtloflmcgbbbnjaaDoor
namespace Go.Proofs.YtloflmcgbbbnjaaDoor
open Go.RowKit Plain
set_option linter.all false

/-- A slice of bytes, as a cell of a row of such. -/
structure Sl where
  a : Option Addr
  c : Nat
  l : List UInt8
def Sl.cells (r : Sl) : List Value := [.slice r.a r.l.length r.c]
theorem Sl.cells_length (r : Sl) : r.cells.length = 1 := rfl
def crcS (c : Int) : List Sl → Int
  | [] => c
  | r :: l => crcS (crcB c r.l) l
theorem crcS_drop {c : Int} {l : List Sl} {k : Nat} {r : Sl} (h : l[k]? = some r) : crcS c (l.drop k) = crcS (crcB c r.l) (l.drop (k + 1)) := by
  obtain ⟨hk, he⟩ := List.getElem?_eq_some_iff.1 h
  rw [List.drop_eq_getElem_cons hk, he]; rfl
set_option maxHeartbeats 3200000 in
set_option maxRecDepth 100000 in
theorem specCrc (A : Option Addr) (n k : Nat) (l : List Sl) (w : World) (hA : CsAt w A (l.flatMap Sl.cells)) (hl : ∀ r ∈ l, BsAt w r.a r.l ∧ r.l.length ≤ 140737488355328) (hn : n = l.length) (hlm : l.length ≤ 140737488355328) :
    Calls Tryd.prog 96 #[.slice A n k] w fun e w' => e = .returned (.int .u32 (mask (not32 (crcS 4294967295 l)))) ∧ Only [] w w' := by
  subst hn
  have hz : (Tryd.zeroCells250.toList).length = 256 := by kernel_rfl
  have HZ := hid hz
  have HA := hid hA
  have HL := hid hl
  obtain ⟨tg, htg⟩ : ∃ tg, w.heap.size = tg := ⟨_, rfl⟩
  have hO := (Own.start w).allocA htg 250 Tryd.zeroCells250
  have HO := hid hO
  clear hA hl hz hO
  go_enter Tryd.func96, Tryd.ntmps96
  go_wp2_with fail
  try rw [htg]
  clear htg
  go_loopw [11] (fun i wr => ∃ (k : Nat) (cs : List Value), i = .int .i64 k ∧ k ≤ 256 ∧ Hid (TabAt k cs) ∧ Hid (Own [fw tg 250 cs] w wr)) (fun i _ => 256 - (intOf i).toNat)
  case atStart => exact ⟨0, _, rfl, by omega, hid ⟨HZ.out, fun j hj => by omega⟩, HO⟩
  case round =>
    obtain ⟨k, cs, rfl, hk, hT, hO⟩ := hrel
    by_cases h4 : k < 256
    · have h4' : (k : Int) < 256 := by omega
      have e1 : IntKind.u32.wrap (k : Int) = k := by rw [wrap32_eq]; unfold w32; omega
      go_wp2_with fail
      go_loopw [5, 16] (fun c j wr2 => ∃ (m : Nat) (x : Int), c = .int .u32 x ∧ j = .int .i64 m ∧ m ≤ 8 ∧ 0 ≤ x ∧ x < 4294967296 ∧ Hid (crcT k = crcN (8 - m) x) ∧ wr = wr2) (fun _ j _ => 8 - (intOf j).toNat)
      case atStart => exact ⟨0, k, rfl, rfl, by omega, by omega, by omega, hid rfl, rfl⟩
      case round =>
        obtain ⟨m, x, rfl, rfl, hm, x0, x1, hx, rfl⟩ := hrel
        by_cases h5 : m < 8
        · have h5' : (m : Int) < 8 := by omega
          have ha := u32_and1 x0 x1
          obtain ⟨d, hd⟩ : ∃ d, 8 - m = d + 1 := ⟨7 - m, by omega⟩
          have hd2 : 8 - (m + 1) = d := by omega
          have hx2 := hx.out
          rw [hd, crcN] at hx2
          have hsw := crcStep_wf x0 x1
          have HX := hid hx2
          have HD := hid hd2
          clear hx hx2 hd hd2
          by_cases h6 : x % 2 = 1
          · have t6 : (bits .and .u32 x 1 == 1) = true := by rw [ha, h6]; rfl
            have hs : crcStep x = bits .xor .u32 (x / 2) 2197175160 := if_pos h6
            have HS := hid hs
            clear ha h6 hs
            go_wp2_with fail
            exact ⟨⟨m + 1, crcStep x, by rw [HS.out], rfl, by omega, hsw.1, hsw.2, hid (by rw [HD.out]; exact HX.out), (by first | rfl | trivial)⟩, by simp [intOf]; omega⟩
          · have t6 : (bits .and .u32 x 1 == 1) = false := by rw [ha]; exact beq_eq_false_iff_ne.2 h6
            have hs : crcStep x = x / 2 := if_neg h6
            have HS := hid hs
            clear ha h6 hs
            go_wp2_with fail
            exact ⟨⟨m + 1, crcStep x, by rw [HS.out], rfl, by omega, hsw.1, hsw.2, hid (by rw [HD.out]; exact HX.out), (by first | rfl | trivial)⟩, by simp [intOf]; omega⟩
        · have h5' : ¬ (m : Int) < 8 := by omega
          have hx2 := hx.out
          rw [show 8 - m = 0 by omega, crcN] at hx2
          have hc := hO.out.cell 0 rfl (k := k) k (by simp) (by have := hT.out.1; simp; omega)
          have hlk : k < cs.length := by have := hT.out.1; omega
          rw [List.getElem?_eq_getElem hlk] at hc
          have hf := hO.out.frozen 0 rfl k
          simp only at hc hf
          generalize cs[k] = v0 at hc
          have HX := hid hx2
          have HK := hid hlk
          clear hx hx2 hlk
          go_wp2_with fail
          refine ⟨⟨k + 1, cs.set k (.int .u32 (crcT k)), rfl, h4, hid (hT.out.step h4), hid ?_⟩, by simp [intOf]; omega⟩
          rw [← HX.out]
          exact hO.out.set (k := k) k (by simp) HK.out (.int .u32 (crcT k))
    · have h4' : ¬ (k : Int) < 256 := by omega
      have hk2 : k = 256 := by omega
      subst hk2
      have hcs := HA.out.keep0 hO.out.only
      have HCS := hid hcs
      clear hcs
      go_wp2_with fail
      go_loopw [6, 33] (fun c i wr2 => ∃ (j : Nat) (x : Int), c = .int .u32 x ∧ i = .int .i64 j ∧ j ≤ l.length ∧ 0 ≤ x ∧ x < 4294967296 ∧ Hid (crcS 4294967295 l = crcS x (l.drop j)) ∧ wr = wr2) (fun _ i _ => l.length - (intOf i).toNat)
      case atStart => exact ⟨0, 4294967295, rfl, rfl, Nat.zero_le _, by omega, by omega, hid rfl, rfl⟩
      case round =>
        obtain ⟨j, x, rfl, rfl, hj, x0, x1, hx, rfl⟩ := hrel
        by_cases h5 : j < l.length
        · have h5' : (j : Int) < (l.length : Int) := by omega
          have hr : l[j]? = some l[j] := List.getElem?_eq_getElem h5
          have hmem := HL.out _ (List.getElem_mem h5)
          generalize l[j] = r at hr hmem
          obtain ⟨g, o, rfl, hcell⟩ := CsAt.at_row Sl.cells 1 Sl.cells_length (by omega) HCS.out hr
          have c0 := hcell 0 (by omega)
          simp only [Sl.cells, List.getElem?_cons_zero, Nat.mul_one, Nat.add_zero] at c0
          have hb := hmem.1.keep0 hO.out.only
          have hrl := hmem.2
          have hx2 := hx.out
          rw [crcS_drop hr] at hx2
          have HX := hid hx2
          have HB := hid hb
          clear hx hx2 hb hcell hmem hr
          go_wp2_with fail
          go_loopw [6, 39] (fun c i wr3 => ∃ (q : Nat) (y : Int), c = .int .u32 y ∧ i = .int .i64 q ∧ q ≤ r.l.length ∧ 0 ≤ y ∧ y < 4294967296 ∧ Hid (crcB x r.l = crcB y (r.l.drop q)) ∧ wr = wr3) (fun _ i _ => r.l.length - (intOf i).toNat)
          case atStart => exact ⟨0, x, rfl, rfl, Nat.zero_le _, x0, x1, hid rfl, rfl⟩
          case round =>
            obtain ⟨q, y, rfl, rfl, hq, y0, y1, hy, rfl⟩ := hrel
            by_cases h6 : q < r.l.length
            · have h6' : (q : Int) < (r.l.length : Int) := by omega
              obtain ⟨bg, bo, hba, hc⟩ := HB.out q h6
              have hy2 := hy.out
              rw [crcB_drop h6] at hy2
              have hu := crcUp_wf y (bz r.l q)
              have hw8 := u8_wf_xor (y % 256) (bz r.l q)
              obtain ⟨p, hp⟩ : ∃ p, bits .xor .u8 (y % 256) (bz r.l q) = p := ⟨_, rfl⟩
              have hcu : crcUp y (bz r.l q) = bits .xor .u32 (y / 256) (crcT p.toNat) := by rw [← hp]; exact xor_comm_i _ _ _
              rw [hp] at hw8
              have hcell := (hO.out.cell 0 rfl (k := p.toNat) p.toNat (by simp) (by have := hT.out.1; simp; omega)).trans (hT.out.2 p.toNat (by omega))
              simp only at hcell
              have HY := hid hy2
              have HCU := hid hcu
              clear hy hy2 hcu c0
              go_wp2_with fail
              exact ⟨⟨q + 1, crcUp y (bz r.l q), by rw [HCU.out], rfl, h6, hu.1, hu.2, HY, (by first | rfl | trivial)⟩, by simp [intOf]; omega⟩
            · have h6' : ¬ (q : Int) < (r.l.length : Int) := by omega
              have hy2 := hy.out
              rw [List.drop_eq_nil_of_le (by omega)] at hy2
              have HY := hid hy2
              clear hy hy2
              go_wp2_with fail
              exact ⟨⟨j + 1, y, rfl, rfl, h5, y0, y1, hid (by rw [HX.out, HY.out]; rfl), (by first | rfl | trivial)⟩, by simp [intOf]; omega⟩
        · have h5' : ¬ (j : Int) < (l.length : Int) := by omega
          have hx2 := hx.out
          rw [List.drop_eq_nil_of_le (by omega)] at hx2
          have HX := hid hx2
          have HOO := hid hO.out.only
          clear hx hx2
          go_wp2_with fail
          go_ret
          exact ⟨ret_int (by rw [HX.out]; rfl), HOO.out⟩
end Go.Proofs.YtloflmcgbbbnjaaDoor
