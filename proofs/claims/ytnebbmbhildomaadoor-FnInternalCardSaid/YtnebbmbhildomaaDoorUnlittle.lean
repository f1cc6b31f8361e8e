/-
  spec.unlittle: what it returns.
-/
import Derived.Test.YtnebbmbhildomaaDoorMem
import Derived.Test.YtnebbmbhildomaaDoorPlainHash
namespace Go.Proofs.YtnebbmbhildomaaDoor
open Go.RowKit Plain

set_option maxHeartbeats 400000 in
theorem unlittle_any (A : Option Addr) (n c : Nat) (l : List UInt8) (w : World) (h : BsAt w A l) (hl : l.length ≤ 8) (hn : n = l.length) :
    Calls Tryd.prog 20 #[.slice A n c] w fun e w' => e = .returned (.int .u64 (leI l)) ∧ Dr w w' := by
  subst hn
  go_enter Tryd.func20, Tryd.ntmps20
  go_wp2
  go_loopw [3, 4] (fun n i wr => ∃ k : Nat, k ≤ l.length ∧ i = .int .i64 ((k : Int) - 1) ∧ n = .int .u64 (leI (l.drop k)) ∧ Dr w wr) (fun _ i _ => (intOf i + 1).toNat)
  case atStart => exact ⟨l.length, Nat.le_refl _, rfl, by rw [List.drop_length]; rfl, Dr.refl _⟩
  case round =>
    obtain ⟨k, hk, rfl, rfl, ⟨n, rfl⟩⟩ := hrel
    cases k with
    | zero =>
      go_wp2
      go_ret
      exact ⟨rfl, ⟨n, rfl⟩⟩
    | succ k =>
      obtain ⟨g, o, rfl, hc⟩ := h k hk
      rw [show (((k + 1 : Nat) : Int) - 1) = (k : Int) from by omega]
      have hx2 := bz_lo l k
      have hx3 := bz_hi l k
      have hd := leI_drop hk
      have h0 := leI_nonneg (l.drop (k + 1))
      have h1 := leI_lt7 (l := l.drop (k + 1)) (by simp; omega)
      generalize hx : leI (l.drop (k + 1)) = x at *
      have hw : IntKind.u64.wrap (x * 256) = x * 256 := u64_wrap_id _ (by omega) (by omega)
      have ho : bits .or .u64 (x * 256) (bz l k) = leI (l.drop k) := by rw [u64_hi_or8 hx2 hx3 (by omega) (by omega) (by omega), hd]; omega
      clear hd hx h1 h0
      go_wp2
      exact ⟨⟨k, by omega, rfl, rfl, ⟨n, rfl⟩⟩, by simp [intOf]⟩

end Go.Proofs.YtnebbmbhildomaaDoor
