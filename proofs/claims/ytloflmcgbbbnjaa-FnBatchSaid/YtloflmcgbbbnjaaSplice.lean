/-
  Splices of lists of cells.
-/
import Derived.Test.YtloflmcgbbbnjaaMem
namespace Go.Proofs.Ytloflmcgbbbnjaa
open Go.RowKit Plain
set_option linter.all false

theorem splice_snoc {α : Type} (cs : List α) (o : Nat) (p : List α) (u : α) (h : o + p.length < cs.length) : splice cs o (p ++ [u]) = (splice cs o p).set (o + p.length) u := by
  have h1 : (cs.take o).length = o := by rw [List.length_take]; omega
  unfold splice
  rw [List.set_append_right _ _ (by omega), h1, Nat.add_sub_cancel_left, List.set_append_right _ _ (Nat.le_refl _), Nat.sub_self, List.append_assoc]
  congr 2
  rw [List.length_append, List.length_singleton, ← Nat.add_assoc]
  rw [← List.getElem_cons_drop h]
  rfl
theorem splice_one {α : Type} (cs : List α) (o : Nat) (u : α) (h : o < cs.length) : cs.set o u = splice cs o [u] := by
  have := splice_snoc cs o [] u (by simpa using h)
  simp only [List.nil_append, List.length_nil, Nat.add_zero] at this
  rw [this]
  congr 1
  simp [splice]
theorem splice_splice {α : Type} (cs : List α) (o : Nat) (p q : List α) (h : o + p.length ≤ cs.length) : splice (splice cs o p) (o + p.length) q = splice cs o (p ++ q) := by
  have h1 : (cs.take o ++ p).length = o + p.length := by rw [List.length_append, List.length_take]; omega
  have h2 : splice cs o p = (cs.take o ++ p) ++ cs.drop (o + p.length) := by simp [splice]
  rw [h2]
  unfold splice
  rw [List.take_left' h1, ← List.drop_drop, List.drop_left' h1, List.drop_drop]
  simp [Nat.add_assoc]
theorem splice_take {α : Type} (cs : List α) (o : Nat) (p : List α) (h : o + p.length ≤ cs.length) : (splice cs o p).take (o + p.length) = cs.take o ++ p := by
  have h1 : (cs.take o ++ p).length = o + p.length := by rw [List.length_append, List.length_take]; omega
  have h2 : splice cs o p = (cs.take o ++ p) ++ cs.drop (o + p.length) := by simp [splice]
  rw [h2, List.take_left' h1]
theorem bc_cons (b : UInt8) (p : List UInt8) : bc (b :: p) = .int .u8 (b.toNat : Int) :: bc p := rfl
theorem bc_snoc (p : List UInt8) (b : UInt8) : bc (p ++ [b]) = bc p ++ [.int .u8 (b.toNat : Int)] := by simp [bc]
theorem splice_take0 {α : Type} (cs p : List α) (h : p.length ≤ cs.length) : (splice cs 0 p).take p.length = p := by simp [splice]
end Go.Proofs.Ytloflmcgbbbnjaa
