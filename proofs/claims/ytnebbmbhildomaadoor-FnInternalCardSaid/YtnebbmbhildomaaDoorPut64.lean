/-
  LittleEndian.PutUint64: eight bytes written into a block known whole.
-/
import Derived.Test.YtnebbmbhildomaaDoorMem
import Derived.Test.YtnebbmbhildomaaDoorPlainHash
namespace Go.Proofs.YtnebbmbhildomaaDoor
open Go.RowKit Plain

theorem splice_set {α : Type} (cur : List α) (o : Nat) (u : α) (us : List α) (h : o + us.length < cur.length) : splice (cur.set o u) (o + 1) us = splice cur o (u :: us) := by
  have h2 : (cur.take o).length = o := by rw [List.length_take]; omega
  have h1 : (cur.set o u).take (o + 1) = cur.take o ++ [u] := by
    rw [List.take_succ_eq_append_getElem (by simp; omega), List.take_set_of_le (Nat.le_refl _)]
    simp
  have h4 : (cur.set o u).drop (o + 1 + us.length) = cur.drop (o + 1 + us.length) := List.drop_set_of_lt (by omega)
  unfold splice
  rw [h1, h4]
  simp [Nat.add_assoc, Nat.add_comm 1]
theorem splice_nil {α : Type} (cur : List α) (o : Nat) : splice cur o [] = cur := by simp [splice]
theorem bc_leB_8 (x : Int) : bc (leB x 8) = [.int .u8 (x % 256), .int .u8 (x / 256 % 256), .int .u8 (x / 65536 % 256), .int .u8 (x / 16777216 % 256), .int .u8 (x / 4294967296 % 256), .int .u8 (x / 1099511627776 % 256), .int .u8 (x / 281474976710656 % 256), .int .u8 (x / 72057594037927936 % 256)] := by
  have h : ∀ y : Int, Value.int .u8 ((UInt8.ofNat (y % 256).toNat).toNat : Int) = .int .u8 (y % 256) := fun y => by rw [byte_of (by omega) (by omega)]
  simp only [leB, bc, List.nil_append, List.cons_append, List.map_cons, List.map_nil, h, Int.reducePow, Int.ediv_one]

set_option maxHeartbeats 1600000 in
set_option maxRecDepth 100000 in
theorem put64_any (g o n c : Nat) (x : Int) (cur : List Value) (w : World) (hb : Blk w g 5 cur) (hfit : o + 8 ≤ cur.length) (hn : 8 ≤ n) (h0 : 0 ≤ x) (h1 : x < 18446744073709551616) :
    Calls Tryd.prog 25 #[.agg #[], .slice (some ⟨g, o, none⟩) n c, .int .u64 x] w fun e w' => e = .returned (.tuple #[]) ∧ Blk w' g 5 (splice cur o (bc (leB x 8))) ∧ Only [g] w w' := by
  have hlt := hb.lt
  have c0 := (hb.cell o).trans (List.getElem?_eq_getElem (by omega))
  have c1 := (hb.cell (o + 1)).trans (List.getElem?_eq_getElem (by omega))
  have c2 := (hb.cell (o + 2)).trans (List.getElem?_eq_getElem (by omega))
  have c3 := (hb.cell (o + 3)).trans (List.getElem?_eq_getElem (by omega))
  have c4 := (hb.cell (o + 4)).trans (List.getElem?_eq_getElem (by omega))
  have c5 := (hb.cell (o + 5)).trans (List.getElem?_eq_getElem (by omega))
  have c6 := (hb.cell (o + 6)).trans (List.getElem?_eq_getElem (by omega))
  have c7 := (hb.cell (o + 7)).trans (List.getElem?_eq_getElem (by omega))
  generalize cur[o]'_ = v0 at c0; generalize cur[o + 1]'_ = v1 at c1; generalize cur[o + 2]'_ = v2 at c2; generalize cur[o + 3]'_ = v3 at c3
  generalize cur[o + 4]'_ = v4 at c4; generalize cur[o + 5]'_ = v5 at c5; generalize cur[o + 6]'_ = v6 at c6; generalize cur[o + 7]'_ = v7 at c7
  have f : ∀ i, w.frozen? ⟨g, i, none⟩ = false := fun i => hb.frozen i
  have l0 : 0 < n := by omega
  have l1 : (1 : Int) < (n : Int) := by omega
  have l2 : (2 : Int) < (n : Int) := by omega
  have l3 : (3 : Int) < (n : Int) := by omega
  have l4 : (4 : Int) < (n : Int) := by omega
  have l5 : (5 : Int) < (n : Int) := by omega
  have l6 : (6 : Int) < (n : Int) := by omega
  have l7 : (7 : Int) < (n : Int) := by omega
  have HB := hid hb
  clear hb
  go_enter Tryd.func25, Tryd.ntmps25
  go_wp2
  go_end0
  refine ⟨rfl, ?_, ?_⟩
  · rw [bc_leB_8, show x / 72057594037927936 % 256 = x / 72057594037927936 from by omega]
    have e : ∀ a b c d e f g h : Value, splice cur o [a, b, c, d, e, f, g, h] = (((((((cur.set o a).set (o + 1) b).set (o + 2) c).set (o + 3) d).set (o + 4) e).set (o + 5) f).set (o + 6) g).set (o + 7) h := fun a b c d e f g h => by
      rw [← splice_set _ _ _ _ (by simp; omega), ← splice_set _ _ _ _ (by simp; omega), ← splice_set _ _ _ _ (by simp; omega), ← splice_set _ _ _ _ (by simp; omega), ← splice_set _ _ _ _ (by simp; omega), ← splice_set _ _ _ _ (by simp; omega), ← splice_set _ _ _ _ (by simp; omega), ← splice_set _ _ _ _ (by simp; omega), splice_nil]
    rw [e]
    exact (((((((((HB.out.set_ o _).set_ (o + 1) _).set_ (o + 2) _).set_ (o + 3) _).set_ (o + 4) _).set_ (o + 5) _).set_ (o + 6) _).set_ (o + 7) _).alloc _)
  · exact (((((((((Only.refl _ _).setCell (.inl (by simp)) _).setCell (.inl (by simp)) _).setCell (.inl (by simp)) _).setCell (.inl (by simp)) _).setCell (.inl (by simp)) _).setCell (.inl (by simp)) _).setCell (.inl (by simp)) _).setCell (.inl (by simp)) _).alloc _
end Go.Proofs.YtnebbmbhildomaaDoor
