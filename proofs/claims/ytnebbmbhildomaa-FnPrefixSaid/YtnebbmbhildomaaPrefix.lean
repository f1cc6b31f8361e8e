/-
  util.BytesPrefix, impl.Prefix: what they return.
-/
import Derived.Test.YtnebbmbhildomaaMem
import Derived.Test.YtnebbmbhildomaaPlainKeys
namespace Go.Proofs.Ytnebbmbhildomaa
open Go.RowKit Plain

theorem Try.info_u8 : (Try.prog.info? 5).map (fun i => (i.zero, i.size, i.bytes)) = some (some (.int .u8 0), 1, 1) := by kernel_rfl

theorem Try.size_u8 : (Try.prog.info? 5).map (·.size) = some 1 := by kernel_rfl

/-- Nil, or new bytes. -/
def BytesOr (w : World) (v : Value) : Option (List UInt8) → Prop
  | none => v = .slice none 0 0
  | some l => ∃ g, v = .slice (some ⟨g, 0, none⟩) l.length l.length ∧ BsAt w (some ⟨g, 0, none⟩) l

theorem BytesOr.some_ {w : World} {g t : Nat} {l : List UInt8} {n : Nat} (h : Blk w g t (bc l)) (hn : l.length = n) : BytesOr w (.slice (some ⟨g, 0, none⟩) n n) (some l) := ⟨g, by rw [hn], BsAt.of_bc h⟩
theorem prefix_bytes {p : List UInt8} {k : Nat} (hk : k < p.length) (h : bz p k < 255) : (bc (p.take (k + 1))).set k (.int .u8 (bz p k + 1)) = bc (p.take k ++ [up (at_ p k)]) := by
  have h' : (at_ p k).toNat < 255 := by unfold bz at h; omega
  have hu := up_toNat h'
  rw [show bz p k + 1 = ((up (at_ p k)).toNat : Int) by unfold bz; omega, bc_set, take_at hk]
  rw [List.set_append_right _ _ (by rw [List.length_take]; omega)]
  have : k - (p.take k).length = 0 := by rw [List.length_take]; omega
  rw [this]; rfl
theorem lim_stop {p : List UInt8} {k : Nat} (hk : k < p.length) (h : bz p k < 255) (e : lim p = lim (p.take (k + 1))) : lim p = some (p.take k ++ [up (at_ p k)]) := by
  have h' : (at_ p k).toNat < 255 := by unfold bz at h; omega
  rw [e, take_at hk, lim_snoc, if_pos h']
theorem lim_go {p : List UInt8} {k : Nat} (hk : k < p.length) (h : ¬ bz p k < 255) (e : lim p = lim (p.take (k + 1))) : lim p = lim (p.take k) := by
  have h' : ¬ (at_ p k).toNat < 255 := by unfold bz at h; omega
  rw [e, take_at hk, lim_snoc, if_neg h']

set_option maxHeartbeats 400000 in
theorem bytesPrefix_any (A : Option Addr) (ca : Nat) (p : List UInt8) (w : World) (ha : BsAt w A p) (la : p.length ≤ 140737488351232) :
    Calls Try.prog 13 #[.slice A p.length ca] w fun e w' =>
      ∃ g v, e = .returned (.pointer (some ⟨g, 0, none⟩)) ∧ Blk w' g 38 [.slice A p.length ca, v] ∧ BytesOr w' v (lim p) ∧ Only [] w w' := by
  go_enter Try.func13, Try.ntmps13
  go_wp2
  go_loopw [4, 3] (fun i lm wr => ∃ k : Nat, i = .int .i64 ((k : Int) - 1) ∧ lm = .slice none 0 0 ∧ k ≤ p.length ∧ lim p = lim (p.take k) ∧ Dr w wr) (fun i _ _ => (intOf i + 1).toNat)
  case atStart => exact ⟨p.length, rfl, rfl, Nat.le_refl _, by rw [List.take_length], Dr.refl _⟩
  case round =>
    obtain ⟨k, rfl, rfl, hk, hlim, ⟨n, rfl⟩⟩ := hrel
    have HL := hid hlim
    clear hlim
    cases k with
    | zero =>
      go_wp2
      go_ret
      exact ⟨_, _, rfl, Blk.new' rfl _ [_, _], by rw [HL.out]; rfl, ((Only.refl _ _).drewN _).alloc _⟩
    | succ k =>
      obtain ⟨g, o, rfl, hc⟩ := ha k hk
      rw [show (((k + 1 : Nat) : Int) - 1) = (k : Int) from by omega]
      have hx0 := bz_lo p k
      have hx1 := bz_hi p k
      by_cases h : bz p k < 255
      · go_wp2_with (first
          | (at_make; refine wp_make rfl _ _ _ rfl 5 (.int .u8 0) 1 Try.underlying22 Try.info_u8 rfl _ _ _ _ (k + 1) (k + 1) rfl rfl (by omega) (by omega) (Nat.le_refl _) (by omega) (by omega) ?_; intro w1 hb1 hz1 ho1)
          | (refine wp_copy rfl (.tmp 22) (.tmp 23) 22 22 rfl 5 Try.underlying22 Try.size_u8 _ 0 (k + 1) (k + 1) _ p.length ca rfl rfl _ _ hb1 (p.take (k + 1)) ((ha.keep0 ((Dr.only ⟨n, rfl⟩).new ho1)).take _) (by rw [List.length_take, Nat.min_comm]) (by simp; omega) ?_; intro w2 hb2 hz2 ho2; rw [splice_full (by simp [bc_length]; omega)] at hb2; have c2 := (hb2.cell k).trans (bc_get (by simp; omega)); have f2 := hb2.frozen k))
        go_ret
        have hz : (w2.setCell ⟨w.heap.size, k, none⟩ (.int .u8 (bz p k + 1))).heap.size = w.heap.size + 1 := by rw [size_setCell, hz2, hz1]; rfl
        refine ⟨_, _, rfl, Blk.new' hz _ [_, _], ?_, ((((Dr.only ⟨n, rfl⟩).new ho1).trans' ho2 (by simp; omega)).setCell (.inr (Nat.le_refl _)) _).alloc _⟩
        rw [lim_stop hk h HL.out]
        refine BytesOr.some_ (t := 5) ?_ (by simp; omega)
        rw [← prefix_bytes hk h]
        exact (hb2.set_ k _).alloc _
      · go_wp2
        exact ⟨⟨k, rfl, rfl, by omega, lim_go hk h HL.out, ⟨n, rfl⟩⟩, by simp [intOf]⟩
/-- Nil where there is none; else bytes. -/
theorem BytesOr.only {w w' : World} {v : Value} {o : Option (List UInt8)} (h : BytesOr w v o) (k : Only [] w w') : BytesOr w' v o := by
  cases o with
  | none => exact h
  | some l => obtain ⟨g, e, hb⟩ := h; exact ⟨g, e, hb.keep0 k⟩

set_option maxHeartbeats 400000 in
theorem prefix_any (A : Option Addr) (ca : Nat) (p : List UInt8) (w : World) (ha : BsAt w A p) (la : p.length ≤ 140737488351232) :
    Calls Try.prog 6 #[.slice A p.length ca] w fun e w' =>
      ∃ v, e = .returned (.tuple #[.slice A p.length ca, v]) ∧ BytesOr w' v (lim p) ∧ Only [] w w' := by
  go_enter Try.func6, Try.ntmps6
  go_wp2_with (go_at_call 13; refine (bytesPrefix_any A ca p _ ha la).mono ?_; rintro e w1 ⟨g, v, rfl, hb, hv, ho⟩; have c0 : w1.cell? ⟨g, 0, none⟩ = some (.slice A p.length ca) := hb.cell 0; have c1 : w1.cell? ⟨g, 1, none⟩ = some v := hb.cell 1)
  go_quiet (fail)
  go_wp2
  go_ret2
  exact ⟨v, rfl, hv.only ((Only.refl _ _).drewN _), ho.drewN _⟩
end Go.Proofs.Ytnebbmbhildomaa
