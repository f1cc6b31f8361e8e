/-
  PutUvarint: a number's seven bits a byte, written into a block known whole.
-/
import Derived.Test.YtloflmcgbbbnjaaMem
import Derived.Test.YtloflmcgbbbnjaaPlainHash
import Derived.Test.YtloflmcgbbbnjaaPlainUv
import Derived.Test.YtloflmcgbbbnjaaSplice
namespace Go.Proofs.Ytloflmcgbbbnjaa
open Go.RowKit Plain

theorem Try.info_b : (Try.prog.info? 5).map (fun i => (i.zero, i.size, i.bytes)) = some (some (.int .u8 0), 1, 1) := by kernel_rfl
theorem Try.size_b : (Try.prog.info? 5).map (·.size) = some 1 := by kernel_rfl
theorem u8_or128_fin : ∀ y : Fin 256, bits .or .u8 (y.val : Int) 128 = ((y.val % 128 + 128 : Nat) : Int) := by decide +kernel
theorem u8_or128 (m : Nat) : bits .or .u8 ((m : Int) % 256) 128 = ((m % 128 + 128 : Nat) : Int) := by
  have h := u8_or128_fin ⟨m % 256, Nat.mod_lt _ (by decide)⟩
  have e : ((m : Int) % 256) = ((m % 256 : Nat) : Int) := by omega
  rw [e, h]
  congr 1
  show m % 256 % 128 + 128 = m % 128 + 128
  omega

set_option maxHeartbeats 1600000 in
theorem putUvarint_any (g o n c x : Nat) (cs : List Value) (w : World) (hb : Blk w g 5 cs) (hfit : o + n ≤ cs.length) (hn : (uv x).length ≤ n) (hx : x < 18446744073709551616) (hn63 : n ≤ 4611686018427387904) :
    Calls Try.prog 30 #[.slice (some ⟨g, o, none⟩) n c, .int .u64 x] w fun e w' => e = .returned (.int .i64 ((uv x).length : Int)) ∧ Blk w' g 5 (splice cs o (bc (uv x))) ∧ Only [g] w w' ∧ w'.heap.size = w.heap.size := by
  go_enter Try.func30, Try.ntmps30
  go_wp2
  go_loopw [1, 5] (fun y i wr => ∃ (m k : Nat) (p : List UInt8), y = .int .u64 m ∧ i = .int .i64 k ∧ p.length = k ∧ m < 18446744073709551616 ∧ uv x = p ++ uv m ∧ Blk wr g 5 (splice cs o (bc p)) ∧ Only [g] w wr ∧ wr.heap.size = w.heap.size) (fun y _ _ => (intOf y).toNat)
  case atStart => exact ⟨x, 0, [], rfl, rfl, rfl, hx, rfl, by simpa [splice, bc] using hb, Only.refl _ _, rfl⟩
  case round =>
    obtain ⟨m, k, p, rfl, rfl, rfl, hm, hu, hbr, ho, hsz⟩ := hrel
    have hlen : (uv x).length = p.length + (uv m).length := by rw [hu, List.length_append]
    have hup := uv_pos m
    have hkn : (p.length : Int) < (n : Int) := by omega
    have hkn' : p.length < n := by omega
    have hcl : o + p.length < (splice cs o (bc p)).length := by rw [length_splice _ _ _ (by rw [bc_length]; omega)]; omega
    have c0 := (hbr.cell (o + p.length)).trans (List.getElem?_eq_getElem hcl)
    have f0 := hbr.frozen (o + p.length)
    generalize (splice cs o (bc p))[o + p.length]'hcl = v0 at c0
    have e1 : IntKind.i64.wrap ((p.length : Int) + 1) = (p.length : Int) + 1 := i64_id (by omega) (by omega)
    have hset := splice_snoc cs o (bc p)
    rw [bc_length] at hset
    have HS := hid (hset · (by have := length_splice cs o (bc p) (by rw [bc_length]; omega); omega))
    clear hset
    by_cases h4 : m < 128
    · have h4' : ¬ (128 : Int) ≤ (m : Int) := by omega
      have HU := hid hu
      have HB := hid hbr
      clear hu hbr hb hfit hlen hn
      have e2 : ((m : Int) % 256) = (m : Int) := by omega
      go_wp2
      go_ret
      refine ⟨ret_int ?_, ?_, ho.setCell (.inl (by simp)) _, (size_setCell _ _ _).trans hsz⟩
      · rw [HU.out, uv_small h4, List.length_append]; rfl
      · rw [HU.out, uv_small h4, bc_snoc, HS.out, show (((UInt8.ofNat m).toNat : Nat) : Int) = (m : Int) by simp; omega]
        exact HB.out.set_ _ _
    · have h4' : (128 : Int) ≤ (m : Int) := by omega
      have HU := hid hu
      have HB := hid hbr
      clear hu hbr hb hfit hlen hn
      go_wp2
      refine ⟨⟨m / 128, p.length + 1, p ++ [UInt8.ofNat (m % 128 + 128)], by simp, by first | rfl | (rw [show wrap64 ((p.length : Int) + 1) = (p.length : Int) + 1 from e1]; rfl) , by simp, by omega, ?_, ?_, ho.setCell (.inl (by simp)) _, (size_setCell _ _ _).trans hsz⟩, by simp [intOf]; omega⟩
      · rw [HU.out, uv_big h4, List.append_assoc]; rfl
      · rw [bc_snoc, HS.out, u8_or128, show (((UInt8.ofNat (m % 128 + 128)).toNat : Nat) : Int) = ((m % 128 + 128 : Nat) : Int) by simp; omega]
        exact HB.out.set_ _ _
end Go.Proofs.Ytloflmcgbbbnjaa
