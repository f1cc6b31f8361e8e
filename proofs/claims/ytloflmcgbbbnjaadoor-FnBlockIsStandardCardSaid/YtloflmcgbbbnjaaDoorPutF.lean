/-
  PutUvarint, PutUint32: into cells that are owned.
-/
import Derived.Test.YtloflmcgbbbnjaaDoorOwn
import Derived.Test.YtloflmcgbbbnjaaDoorSplice
import Derived.Test.YtloflmcgbbbnjaaDoorPlainHash
import Derived.Test.YtloflmcgbbbnjaaDoorPlainUv
namespace Go.Proofs.YtloflmcgbbbnjaaDoor
open Go.RowKit Plain

theorem u8_or128_fin : ∀ y : Fin 256, bits .or .u8 (y.val : Int) 128 = ((y.val % 128 + 128 : Nat) : Int) := by decide +kernel
theorem u8_or128 (m : Nat) : bits .or .u8 ((m : Int) % 256) 128 = ((m % 128 + 128 : Nat) : Int) := by
  have h := u8_or128_fin ⟨m % 256, Nat.mod_lt _ (by decide)⟩
  have e : ((m : Int) % 256) = ((m % 256 : Nat) : Int) := by omega
  rw [e, h]
  congr 1
  show m % 256 % 128 + 128 = m % 128 + 128
  omega

set_option maxHeartbeats 1600000 in
theorem putUv (X : Fr) (i k n c x : Nat) (R : List Fr) (w0 w : World) (hk : k = X.off + i) (hO : Own (X :: R) w0 w) (hfit : i + n ≤ X.cs.length) (hn : (uv x).length ≤ n) (hx : x < 18446744073709551616) (hn63 : n ≤ 4611686018427387904) :
    Calls Tryd.prog 103 #[.slice (some ⟨X.g, k, none⟩) n c, .int .u64 x] w fun e w' => e = .returned (.int .i64 ((uv x).length : Int)) ∧ Own ({ X with cs := splice X.cs i (bc (uv x)) } :: R) w0 w' := by
  subst hk
  go_enter Tryd.func103, Tryd.ntmps103
  go_wp2
  go_loopw [1, 5] (fun y j wr => ∃ (m k : Nat) (p : List UInt8), y = .int .u64 m ∧ j = .int .i64 k ∧ p.length = k ∧ m < 18446744073709551616 ∧ uv x = p ++ uv m ∧ Own ({ X with cs := splice X.cs i (bc p) } :: R) w0 wr) (fun y _ _ => (intOf y).toNat)
  case atStart => exact ⟨x, 0, [], rfl, rfl, rfl, hx, rfl, by simpa [splice, bc] using hO⟩
  case round =>
    obtain ⟨m, k, p, rfl, rfl, rfl, hm, hu, hbr⟩ := hrel
    have hlen : (uv x).length = p.length + (uv m).length := by rw [hu, List.length_append]
    have hup := uv_pos m
    have hkn : (p.length : Int) < (n : Int) := by omega
    have hkn' : p.length < n := by omega
    have hsl : (splice X.cs i (bc p)).length = X.cs.length := length_splice _ _ _ (by rw [bc_length]; omega)
    have hcl : i + p.length < (splice X.cs i (bc p)).length := by omega
    have c0 := (hbr.cell 0 rfl (k := X.off + i + p.length) (i + p.length) (by simp; omega) hcl).trans (List.getElem?_eq_getElem hcl)
    have f0 := hbr.frozen 0 rfl (X.off + i + p.length)
    generalize (splice X.cs i (bc p))[i + p.length]'hcl = v0 at c0
    have e1 : IntKind.i64.wrap ((p.length : Int) + 1) = (p.length : Int) + 1 := i64_id (by omega) (by omega)
    have hset := splice_snoc X.cs i (bc p)
    rw [bc_length] at hset
    have HS := hid (hset · (by omega))
    clear hset
    simp only at c0 f0
    by_cases h4 : m < 128
    · have h4' : ¬ (128 : Int) ≤ (m : Int) := by omega
      have HU := hid hu
      have HB := hid hbr
      clear hu hbr hO hfit hlen hn
      have e2 : ((m : Int) % 256) = (m : Int) := by omega
      go_wp2
      go_ret
      refine ⟨ret_int ?_, ?_⟩
      · rw [HU.out, uv_small h4, List.length_append]; rfl
      · rw [HU.out, uv_small h4, bc_snoc, HS.out, show (((UInt8.ofNat m).toNat : Nat) : Int) = (m : Int) by simp; omega]
        exact HB.out.set (i + p.length) (by simp; omega) hcl _
    · have h4' : (128 : Int) ≤ (m : Int) := by omega
      have HU := hid hu
      have HB := hid hbr
      clear hu hbr hO hfit hlen hn
      go_wp2
      refine ⟨⟨m / 128, p.length + 1, p ++ [UInt8.ofNat (m % 128 + 128)], by simp, by first | rfl | (rw [show wrap64 ((p.length : Int) + 1) = (p.length : Int) + 1 from e1]; rfl) , by simp, by omega, ?_, ?_⟩, by simp [intOf]; omega⟩
      · rw [HU.out, uv_big h4, List.append_assoc]; rfl
      · rw [bc_snoc, HS.out, u8_or128, show (((UInt8.ofNat (m % 128 + 128)).toNat : Nat) : Int) = ((m % 128 + 128 : Nat) : Int) by simp; omega]
        exact HB.out.set (i + p.length) (by simp; omega) hcl _

theorem putUv_n (X : Fr) (i k n c x : Nat) (y : Int) (R : List Fr) (w0 w : World) (hy : y = (x : Int)) (hk : k = X.off + i) (hO : Own (X :: R) w0 w) (hfit : i + n ≤ X.cs.length) (hn : (uv x).length ≤ n) (hx : x < 18446744073709551616) (hn63 : n ≤ 4611686018427387904) :
    Calls Tryd.prog 103 #[.slice (some ⟨X.g, k, none⟩) n c, .int .u64 y] w fun e w' => e = .returned (.int .i64 ((uv x).length : Int)) ∧ Own ({ X with cs := splice X.cs i (bc (uv x)) } :: R) w0 w' := by
  subst hy; exact putUv X i k n c x R w0 w hk hO hfit hn hx hn63
theorem splice_set {α : Type} (cur : List α) (o : Nat) (v : α) (L : List α) (h : o + 1 + L.length ≤ cur.length) : splice (cur.set o v) (o + 1) L = splice cur o (v :: L) := by
  have := splice_splice cur o [v] L (by simp; omega)
  rw [← splice_one cur o v (by omega)] at this
  simpa using this
theorem splice_nil {α : Type} (cur : List α) (o : Nat) : splice cur o [] = cur := by simp [splice]
theorem bc_leB_4 (x : Int) : bc (leB x 4) = [.int .u8 (x % 256), .int .u8 (x / 256 % 256), .int .u8 (x / 65536 % 256), .int .u8 (x / 16777216 % 256)] := by
  have h : ∀ y : Int, Value.int .u8 ((UInt8.ofNat (y % 256).toNat).toNat : Int) = .int .u8 (y % 256) := fun y => by rw [byte_of (by omega) (by omega)]
  simp only [leB, bc, List.nil_append, List.cons_append, List.map_cons, List.map_nil, h, Int.reducePow, Int.ediv_one]

set_option maxHeartbeats 1600000 in
set_option maxRecDepth 100000 in
theorem put32 (X : Fr) (i k n c : Nat) (x : Int) (R : List Fr) (w0 w : World) (hk : k = X.off + i) (hO : Own (X :: R) w0 w) (hfit : i + 4 ≤ X.cs.length) (hn : 4 ≤ n) (h0 : 0 ≤ x) (h1 : x < 4294967296) :
    Calls Tryd.prog 106 #[.agg #[], .slice (some ⟨X.g, k, none⟩) n c, .int .u32 x] w fun e w' => e = .returned (.tuple #[]) ∧ Own ({ X with cs := splice X.cs i (bc (leB x 4)) } :: R) w0 w' := by
  subst hk
  have c0 := (hO.cell 0 rfl (k := X.off + i) i rfl (by omega)).trans (List.getElem?_eq_getElem (by omega))
  have c1 := (hO.cell 0 rfl (k := X.off + i + 1) (i + 1) (by omega) (by omega)).trans (List.getElem?_eq_getElem (by omega))
  have c2 := (hO.cell 0 rfl (k := X.off + i + 2) (i + 2) (by omega) (by omega)).trans (List.getElem?_eq_getElem (by omega))
  have c3 := (hO.cell 0 rfl (k := X.off + i + 3) (i + 3) (by omega) (by omega)).trans (List.getElem?_eq_getElem (by omega))
  generalize X.cs[i]'_ = v0 at c0; generalize X.cs[i + 1]'_ = v1 at c1; generalize X.cs[i + 2]'_ = v2 at c2; generalize X.cs[i + 3]'_ = v3 at c3
  have f : ∀ j, w.frozen? ⟨X.g, j, none⟩ = false := fun j => hO.frozen 0 rfl j
  have hlt := hO.lt (x := X) (by simp)
  have l0 : 0 < n := by omega
  have l1 : (1 : Int) < (n : Int) := by omega
  have l2 : (2 : Int) < (n : Int) := by omega
  have l3 : (3 : Int) < (n : Int) := by omega
  have HB := hid hO
  clear hO
  go_enter Tryd.func106, Tryd.ntmps106
  go_wp2
  go_end0
  refine ⟨rfl, ?_⟩
  rw [bc_leB_4, show x / 16777216 % 256 = x / 16777216 from by omega]
  have e : ∀ a b c d : Value, splice X.cs i [a, b, c, d] = (((X.cs.set i a).set (i + 1) b).set (i + 2) c).set (i + 3) d := fun a b c d => by
    rw [← splice_set _ _ _ _ (by simp; omega), ← splice_set _ _ _ _ (by simp; omega), ← splice_set _ _ _ _ (by simp; omega), ← splice_set _ _ _ _ (by simp; omega), splice_nil]
  rw [e]
  exact ((((HB.out.set i rfl (by omega) _).set (i + 1) (by simp; omega) (by simp; omega) _).set (i + 2) (by simp; omega) (by simp; omega) _).set (i + 3) (by simp; omega) (by simp; omega) _).skip _
end Go.Proofs.YtloflmcgbbbnjaaDoor
