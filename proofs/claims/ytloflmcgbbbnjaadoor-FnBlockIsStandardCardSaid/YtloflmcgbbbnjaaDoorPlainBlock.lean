/-
  PLAIN: what a block of a table is, as the reference writes it. No Go in sight.
-/
import Derived.Test.YtloflmcgbbbnjaaDoorBytes
import Derived.Test.YtloflmcgbbbnjaaDoorPlainHash
import Derived.Test.YtloflmcgbbbnjaaDoorPlainUv
namespace Go.Proofs.YtloflmcgbbbnjaaDoor.Plain

/-- A choice from 0 to n-1 by numbers, and how many were made. -/
def pick (ns : List Int) (n at_ : Nat) : Nat × Nat := if ns = [] ∨ n < 2 then (0, at_) else ((ns.getD (at_ % ns.length) 0 % (n : Int)).toNat, at_ + 1)
theorem pick_nil (n a : Nat) : pick [] n a = (0, a) := by simp [pick]
theorem pick_lt {ns : List Int} {n a : Nat} (h : 0 < n) : (pick ns n a).1 < n := by
  unfold pick
  split
  · exact h
  · have h1 := Int.emod_nonneg (ns.getD (a % ns.length) 0) (show (n : Int) ≠ 0 by omega)
    have h2 := Int.emod_lt_of_pos (ns.getD (a % ns.length) 0) (show 0 < (n : Int) by omega)
    simp only; omega
theorem pick_at (ns : List Int) (n a : Nat) : a ≤ (pick ns n a).2 ∧ (pick ns n a).2 ≤ a + 1 := by
  unfold pick
  split <;> simp

abbrev KV := List UInt8 × List UInt8
def key (l : List KV) (j : Nat) : List UInt8 := (l.getD j ([], [])).1
def val (l : List KV) (j : Nat) : List UInt8 := (l.getD j ([], [])).2
/-- An entry that leaves out n bytes of its key. -/
def ent (n : Nat) (k v : List UInt8) : List UInt8 := uv n ++ uv (k.length - n) ++ uv v.length ++ (k.drop n ++ v)
structure BS where
  c : Nat
  b : List UInt8
  tail : List UInt8
  many : Nat
def bstep (rs : Nat) (ns : List Int) (i : Nat) (prev k v : List UInt8) (s : BS) : BS :=
  if i % rs = 0 then ⟨s.c, s.b ++ ent 0 k v, s.tail ++ leB s.b.length 4, s.many + 1⟩
  else if (pick ns 4 s.c).1 = 1 then ⟨(pick ns (shared prev k + 1) (pick ns 4 s.c).2).2, s.b ++ ent (pick ns (shared prev k + 1) (pick ns 4 s.c).2).1 k v, s.tail, s.many⟩
  else ⟨(pick ns 4 s.c).2, s.b ++ ent (shared prev k) k v, s.tail, s.many⟩
/-- Behind the first j pairs. -/
def bst (rs : Nat) (ns : List Int) (l : List KV) (c0 : Nat) : Nat → BS
  | 0 => ⟨c0, [], [], 0⟩
  | j + 1 => bstep rs ns j (key l (j - 1)) (key l j) (val l j) (bst rs ns l c0 j)
def blockB (rs : Nat) (ns : List Int) (l : List KV) (c0 : Nat) : List UInt8 :=
  let s := bst rs ns l c0 l.length
  if s.many = 0 then s.b ++ (s.tail ++ leB 0 4) ++ leB 1 4 else s.b ++ s.tail ++ leB s.many 4
theorem ent_le {n : Nat} {k v : List UInt8} (hn : n ≤ k.length) (hk : k.length < 34359738368) (hv : v.length < 34359738368) : (ent n k v).length ≤ 15 + k.length + v.length := by
  have h1 := uv_len5 (x := n) (by omega)
  have h2 := uv_len5 (x := k.length - n) (by omega)
  have h3 := uv_len5 hv
  simp only [ent, List.length_append, List.length_drop]; omega
theorem ent_pos (n : Nat) (k v : List UInt8) : 3 ≤ (ent n k v).length := by
  have h1 := uv_pos n; have h2 := uv_pos (k.length - n); have h3 := uv_pos v.length
  simp only [ent, List.length_append]; omega
/-- The weight of pairs. -/
def kvw (l : List KV) : Nat := (l.map fun p => p.1.length + p.2.length + 1).sum
theorem kvw_take_succ {l : List KV} {j : Nat} (h : j < l.length) : kvw (l.take (j + 1)) = kvw (l.take j) + ((key l j).length + (val l j).length + 1) := by
  rw [List.take_succ_eq_append_getElem h]
  simp only [kvw, key, val, List.getD_eq_getElem?_getD, List.getElem?_eq_getElem h, Option.getD_some, List.map_append, List.sum_append, List.map_cons, List.map_nil, List.sum_cons, List.sum_nil, Nat.add_zero]
theorem kvw_take (l : List KV) (j : Nat) : kvw (l.take j) ≤ kvw l := by
  have : kvw l = kvw (l.take j) + kvw (l.drop j) := by
    conv => lhs; rw [← List.take_append_drop j l]
    simp only [kvw, List.map_append, List.sum_append]
  omega
theorem kvw_mem {l : List KV} {p : KV} (h : p ∈ l) : p.1.length + p.2.length + 1 ≤ kvw l := by
  induction l with
  | nil => cases h
  | cons x l ih =>
    simp only [kvw, List.map_cons, List.sum_cons] at ih ⊢
    rcases List.mem_cons.1 h with rfl | h
    · omega
    · have := ih h; omega
theorem kvw_key (l : List KV) (j : Nat) : (key l j).length + (val l j).length ≤ kvw l := by
  unfold key val
  rcases Nat.lt_or_ge j l.length with h | h
  · have := kvw_mem (List.getElem_mem h)
    simp only [List.getD_eq_getElem?_getD, List.getElem?_eq_getElem h, Option.getD_some]; omega
  · simp [List.getD_eq_getElem?_getD, List.getElem?_eq_none h]
theorem bst_le {rs : Nat} {ns : List Int} {l : List KV} {c0 : Nat} (hw : kvw l < 34359738368) : ∀ j, j ≤ l.length →
    (bst rs ns l c0 j).b.length ≤ 16 * kvw (l.take j) ∧ (bst rs ns l c0 j).many ≤ j ∧ (bst rs ns l c0 j).tail.length = 4 * (bst rs ns l c0 j).many ∧ c0 ≤ (bst rs ns l c0 j).c ∧ (bst rs ns l c0 j).c ≤ c0 + 2 * j
  | 0, _ => by simp [bst]
  | j + 1, h => by
    obtain ⟨h1, h2, h3, h4, h5⟩ := bst_le (rs := rs) (ns := ns) (c0 := c0) hw j (by omega)
    have hk := kvw_key l j
    have ht := kvw_take_succ h
    have hsh := shared_le (key l (j - 1)) (key l j)
    have hp4 := pick_at ns 4 (bst rs ns l c0 j).c
    have hpn := pick_at ns (shared (key l (j - 1)) (key l j) + 1) (pick ns 4 (bst rs ns l c0 j).c).2
    have hpl := pick_lt (ns := ns) (n := shared (key l (j - 1)) (key l j) + 1) (a := (pick ns 4 (bst rs ns l c0 j).c).2) (by omega)
    have hl4 : (leB ((bst rs ns l c0 j).b.length : Int) 4).length = 4 := leB_length _ _
    simp only [bst, bstep]
    split
    · have := ent_le (n := 0) (k := key l j) (v := val l j) (by omega) (by omega) (by omega)
      simp only [List.length_append]
      refine ⟨by omega, by omega, by omega, by omega, by omega⟩
    · split
      · have := ent_le (n := (pick ns (shared (key l (j - 1)) (key l j) + 1) (pick ns 4 (bst rs ns l c0 j).c).2).1) (k := key l j) (v := val l j) (by omega) (by omega) (by omega)
        simp only [List.length_append]
        refine ⟨by omega, by omega, by omega, by omega, by omega⟩
      · have := ent_le (n := shared (key l (j - 1)) (key l j)) (k := key l j) (v := val l j) (by omega) (by omega) (by omega)
        simp only [List.length_append]
        refine ⟨by omega, by omega, by omega, by omega, by omega⟩
end Go.Proofs.YtloflmcgbbbnjaaDoor.Plain
