/-
  spec.varint, spec.little: what they append.
-/
import Derived.Test.YtloflmcgbbbnjaaDoorOwn
import Derived.Test.YtloflmcgbbbnjaaDoorSplice
import Derived.Test.YtloflmcgbbbnjaaDoorInfo
import Derived.Test.YtloflmcgbbbnjaaDoorPlainHash
import Derived.Test.YtloflmcgbbbnjaaDoorPlainUv
import Derived.Test.YtloflmcgbbbnjaaDoorPutF
namespace Go.Proofs.YtloflmcgbbbnjaaDoor
open Go.RowKit Plain

set_option maxHeartbeats 800000 in
theorem varint_own (A : Option Addr) (c x : Nat) (l : List UInt8) (F R : List Fr) (w0 w : World) (hr : Row 5 1 A l.length c (bc l) F) (hO : Own (F ++ R) w0 w) (hx : x < 18446744073709551616) (hl : l.length ≤ 70368744177664) :
    Calls Tryd.prog 40 #[.slice A l.length c, .int .u64 x] w (RetBs R w0 (l ++ uv x)) := by
  go_enter Tryd.func40, Tryd.ntmps40
  go_wp2
  go_loopw [0, 1] (fun b y wr => ∃ (m k : Nat) (p : List UInt8) (A' : Option Addr) (c' : Nat) (F' : List Fr), y = .int .u64 m ∧ b = .slice A' k c' ∧ k = (l ++ p).length ∧ m < 18446744073709551616 ∧ uv x = p ++ uv m ∧ Row 5 1 A' k c' (bc (l ++ p)) F' ∧ Own (F' ++ R) w0 wr) (fun _ y _ => (intOf y).toNat)
  case atStart => exact ⟨x, _, [], A, c, F, rfl, rfl, by simp, hx, rfl, by simpa using hr, hO⟩
  case round =>
    obtain ⟨m, k, p, A', c', F', rfl, rfl, hk, hm, hu, hr', hO'⟩ := hrel
    have hlen : (uv x).length ≤ 10 := by
      have := uv_len 9 x (by omega)
      exact this
    have hup := uv_pos m
    have hk2 : k ≤ l.length + 10 := by
      have := congrArg List.length hu
      simp only [List.length_append] at this hk
      omega
    have HU := hid hu
    have HR := hid hr'
    have HO := hid hO'
    have HK := hid hk
    clear hu hr' hO' hr hO hk
    by_cases h4 : m < 128
    · have h4' : ¬ (128 : Int) ≤ (m : Int) := by omega
      have e2 : ((m : Int) % 256) = (m : Int) := by omega
      go_wp2_with (at_builtin; refine own_append rfl (.tmp 15) (.tmp 18) 25 rfl 5 (.int .u8 0) 1 1 Tryd.underlying25 Tryd.info_u8 rfl (by decide) A' k c' _ F' rfl HR.out (R := R) (HO.out.skip _) _ 1 1 [.int .u8 (m : Int)] rfl rfl (csAt_one _ _ _) (by simp [Value.oneCell']) (by simp [maxLen]; omega) (by omega) ?_; intro A2 c2 F2 w2 hr2 hO2 _; have HR2 := hid hr2; have HO2 := hid hO2; clear hr2 hO2)
      go_ret
      have e3 : l ++ uv x = l ++ p ++ [UInt8.ofNat m] := by rw [HU.out, uv_small h4, List.append_assoc]
      have e4 : (l ++ uv x).length = k + 1 := by rw [e3, List.length_append, ← HK.out]; rfl
      have e5 : bc (l ++ uv x) = bc (l ++ p) ++ [.int .u8 (m : Int)] := by
        rw [e3, bc_snoc, show (((UInt8.ofNat m).toNat : Nat) : Int) = (m : Int) by simp; omega]
      refine .mk e4.symm e3.symm ?_ HO2.out
      rw [← e3, e5]; exact HR2.out
    · have h4' : (128 : Int) ≤ (m : Int) := by omega
      have e9 := u8_or128 m
      go_wp2_with (at_builtin; refine own_append rfl (.tmp 7) (.tmp 11) 25 rfl 5 (.int .u8 0) 1 1 Tryd.underlying25 Tryd.info_u8 rfl (by decide) A' k c' _ F' rfl HR.out (R := R) (HO.out.skip _) _ 1 1 [.int .u8 ((m % 128 + 128 : Nat) : Int)] rfl rfl (csAt_one _ _ _) (by simp [Value.oneCell']) (by simp [maxLen]; omega) (by omega) ?_; intro A2 c2 F2 w2 hr2 hO2 _; have HR2 := hid hr2; have HO2 := hid hO2; clear hr2 hO2)
      refine ⟨⟨m / 128, k + 1, p ++ [UInt8.ofNat (m % 128 + 128)], A2, c2, F2, by simp, rfl, ?_, by omega, ?_, ?_, HO2.out⟩, by simp [intOf]; omega⟩
      · have : (l ++ (p ++ [UInt8.ofNat (m % 128 + 128)])).length = (l ++ p).length + 1 := by simp; omega
        rw [this, HK.out]
      · rw [HU.out, uv_big h4, List.append_assoc]; rfl
      · rw [← List.append_assoc, bc_snoc, show (((UInt8.ofNat (m % 128 + 128)).toNat : Nat) : Int) = ((m % 128 + 128 : Nat) : Int) by simp; omega]
        exact HR2.out

theorem varint_h (A : Option Addr) (c n x : Nat) (y : Int) (l : List UInt8) (F R : List Fr) (w0 w : World) (hn : Hid (n = l.length)) (hy : y = (x : Int)) (hr : Hid (Row 5 1 A n c (bc l) F)) (hO : Own (F ++ R) w0 w) (hx : x < 18446744073709551616) (hl : n ≤ 70368744177664) :
    Calls Tryd.prog 40 #[.slice A n c, .int .u64 y] w (RetH R w0 (l ++ uv x)) := by
  obtain rfl := hn.out
  subst hy
  exact (varint_own A c x l F R w0 w hr.out hO hx hl).mono fun _ _ h => h.h
theorem bc_leB_succ (x : Int) (k : Nat) : bc (leB x (k + 1)) = bc (leB x k) ++ [.int .u8 (x / 256 ^ k % 256)] := by
  rw [leB, bc_append]
  have := byte_of (y := x / 256 ^ k % 256) (by omega) (by omega)
  simp only [bc, List.map_cons, List.map_nil, this]
set_option maxHeartbeats 800000 in
theorem little_own (A : Option Addr) (c size : Nat) (x : Int) (l : List UInt8) (F R : List Fr) (w0 w : World) (hr : Row 5 1 A l.length c (bc l) F) (hO : Own (F ++ R) w0 w) (h0 : 0 ≤ x) (h1 : x < 18446744073709551616) (hs : size ≤ 8) (hl : l.length ≤ 70368744177664) :
    Calls Tryd.prog 37 #[.slice A l.length c, .int .u64 x, .int .i64 size] w (RetBs R w0 (l ++ leB x size)) := by
  go_enter Tryd.func37, Tryd.ntmps37
  go_wp2
  go_loopw [0, 1, 8] (fun b y i wr => ∃ (k : Nat) (y' : Int) (A' : Option Addr) (c' n : Nat) (F' : List Fr), i = .int .i64 k ∧ b = .slice A' n c' ∧ n = l.length + k ∧ k ≤ size ∧ y = .int .u64 y' ∧ x / 256 ^ k = y' ∧ Row 5 1 A' n c' (bc (l ++ leB x k)) F' ∧ Own (F' ++ R) w0 wr) (fun _ _ i _ => size - (intOf i).toNat)
  case atStart => exact ⟨0, x, A, c, l.length, F, rfl, rfl, rfl, Nat.zero_le _, rfl, by simp, by simpa [leB] using hr, hO⟩
  case round =>
    obtain ⟨k, y, A', c', n, F', rfl, rfl, hn, hk, rfl, hy, hr', hO'⟩ := hrel
    have HR := hid hr'
    have HO := hid hO'
    have HN := hid hn
    have hn2 : n ≤ 70368744177672 := by omega
    clear hr' hO' hr hO hn
    have hy0 : 0 ≤ y := by rw [← hy]; exact Int.ediv_nonneg h0 (Int.le_of_lt (Int.pow_pos (by decide)))
    have hy1 : y < 18446744073709551616 := by rw [← hy]; exact Int.lt_of_le_of_lt (Int.ediv_le_self _ h0) h1
    have HY := hid hy
    clear hy
    by_cases hlt : k < size
    · go_wp2_with (at_builtin; refine own_append rfl (.tmp 10) (.tmp 13) 25 rfl 5 (.int .u8 0) 1 1 Tryd.underlying25 Tryd.info_u8 rfl (by decide) A' n c' _ F' rfl HR.out (R := R) (HO.out.skip _) _ 1 1 [.int .u8 (y % 256)] rfl rfl (csAt_one _ _ _) (by simp [Value.oneCell']) (by simp [maxLen]; omega) (by omega) ?_; intro A2 c2 F2 w2 hr2 hO2 _; have HR2 := hid hr2; have HO2 := hid hO2; clear hr2 hO2)
      refine ⟨⟨k + 1, _, A2, c2, n + 1, F2, rfl, rfl, by rw [HN.out]; omega, by omega, rfl, ?_, ?_, HO2.out⟩, by simp [intOf]; omega⟩
      · rw [← HY.out, Int.pow_succ, ← Int.ediv_ediv_of_nonneg (Int.le_of_lt (Int.pow_pos (by decide)))]
      · have := HR2.out
        rw [bc_append, bc_leB_succ, HY.out, ← List.append_assoc, ← bc_append]
        exact this
    · obtain rfl : k = size := by omega
      go_wp2
      go_ret
      have e1 : (l ++ leB x k).length = n := by rw [List.length_append, leB_length, HN.out]
      exact .mk e1.symm rfl HR.out HO.out
theorem little_h (A : Option Addr) (c n size : Nat) (x : Int) (l : List UInt8) (F R : List Fr) (w0 w : World) (hn : Hid (n = l.length)) (hr : Hid (Row 5 1 A n c (bc l) F)) (hO : Own (F ++ R) w0 w) (h0 : 0 ≤ x) (h1 : x < 18446744073709551616) (hs : size ≤ 8) (hl : n ≤ 70368744177664) :
    Calls Tryd.prog 37 #[.slice A n c, .int .u64 x, .int .i64 size] w (RetH R w0 (l ++ leB x size)) := by
  obtain rfl := hn.out
  exact (little_own A c size x l F R w0 w hr.out hO h0 h1 hs hl).mono fun _ _ h => h.h
end Go.Proofs.YtloflmcgbbbnjaaDoor
