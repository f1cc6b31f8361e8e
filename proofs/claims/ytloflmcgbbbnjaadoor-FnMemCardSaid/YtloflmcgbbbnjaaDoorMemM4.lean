/-
  WHAT A CALL OWNS: cells of its own, all in blocks newer than a world w0 of which nothing has turned ('Own'); what is read under it, whatever else turns ('St', 'Rd'); rows of its own ('Row'); the laws of make, copy, append over them.
  PAIRS: a key and its value as a record; rows of them; their bounds, their weight; that they came in, read.
  What the table of types says of bytes.
  spec.Compare and spec.Shared: what they return.
  The laws over what is owned, as steps of a region that draws its order.
  impl.copied: a copy of bytes, a row of the call's own.
  spec.chooser: of.
  impl.copied; laws.below, laws.pairs, laws.tabled; spec.Ordered.
  More words on memory.
-/
import Derived.Test.YtloflmcgbbbnjaaDoorMemM3
import Derived.Laws.Tables
import Derived.Deep.RegionLaw
import Derived.Deep.RegionWith
import Derived.Deep.RegionHeld3
namespace Go.Proofs.YtloflmcgbbbnjaaDoor
open Go.RowKit Plain

/-- Cells of one block, from a place on; 'whole': all of the block's, of this element type. -/
structure Fr where
  g : Nat
  off : Nat
  cs : List Value
  whole : Option TypeId
  ro : Option Obj
abbrev fw (g t : Nat) (cs : List Value) : Fr := ⟨g, 0, cs, some t, none⟩
abbrev fp (g off : Nat) (cs : List Value) : Fr := ⟨g, off, cs, none, none⟩
/-- A block that is kept as it is, whatever it is. -/
abbrev fk (g : Nat) (o : Obj) : Fr := ⟨g, 0, [], some 0, some o⟩
namespace Fr
def In0 (x : Fr) (w : World) : Prop :=
  (∀ t, x.whole = some t → x.off = 0 ∧ Blk w x.g t x.cs) ∧ ∃ t all, Blk w x.g t all ∧ ∀ i, i < x.cs.length → all[x.off + i]? = x.cs[i]?
def In (x : Fr) (w : World) : Prop := (x.ro = none ∧ x.In0 w) ∨ ∃ o, x.ro = some o ∧ x.cs = [] ∧ x.whole ≠ none ∧ w.heap[x.g]? = some o
def dj (x y : Fr) : Prop := x.g ≠ y.g ∨ (x.whole = none ∧ y.whole = none ∧ (x.off + x.cs.length ≤ y.off ∨ y.off + y.cs.length ≤ x.off ∨ x.cs.length = 0 ∨ y.cs.length = 0))
theorem dj_symm {x y : Fr} (h : x.dj y) : y.dj x := by
  rcases h with h | ⟨h1, h2, h3⟩
  · exact .inl (Ne.symm h)
  · exact .inr ⟨h2, h1, by omega⟩
variable {x : Fr} {w w' : World} {g t off : Nat} {cs : List Value}
theorem In.in0 (h : x.In w) (hro : x.ro = none) : x.In0 w := by
  rcases h with h | ⟨o, h, _⟩
  · exact h.2
  · rw [hro] at h; cases h
theorem In.ro_none (h : x.In w) (hc : 0 < x.cs.length) : x.ro = none := by
  rcases h with h | ⟨o, _, h, _⟩
  · exact h.1
  · rw [h] at hc; cases hc
theorem In.obj {o : Obj} (h : (fk g o).In w) : w.heap[g]? = some o := by
  rcases h with h | ⟨o', h, _, _, hh⟩
  · cases h.1
  · cases h; exact hh
theorem in_fk {o : Obj} (h : w.heap[g]? = some o) : (fk g o).In w := .inr ⟨o, rfl, rfl, by simp, h⟩
theorem in_fw (h : Blk w g t cs) : (fw g t cs).In w := .inl ⟨rfl, fun t' e => by simp at e; subst e; exact ⟨rfl, h⟩, t, cs, h, fun i _ => by simp⟩
theorem In.blk (h : (fw g t cs).In w) : Blk w g t cs := ((h.in0 rfl).1 t rfl).2
theorem get_lt {w : World} {g : Nat} {o : Obj} (h : w.heap[g]? = some o) : g < w.heap.size := by
  rcases Nat.lt_or_ge g w.heap.size with hlt | hge
  · exact hlt
  · rw [Array.getElem?_eq_none hge] at h; cases h
theorem In.lt (h : x.In w) : x.g < w.heap.size := by
  rcases h with ⟨_, _, t, all, hb, _⟩ | ⟨o, _, _, _, h⟩
  · exact hb.lt
  · exact get_lt h
theorem In.cell (h : x.In w) {i k : Nat} (hk : k = x.off + i) (hi : i < x.cs.length) : w.cell? ⟨x.g, k, none⟩ = x.cs[i]? := by
  obtain ⟨_, t, all, hb, hc⟩ := h.in0 (h.ro_none (by omega))
  rw [hb.cell, hk, hc i hi]
theorem In.frozen (h : x.In w) (k : Nat) (hro : x.ro = none := by rfl) : w.frozen? ⟨x.g, k, none⟩ = false := by
  obtain ⟨_, t, all, hb, hc⟩ := h.in0 hro
  exact hb.frozen k
theorem In.keep {S : List Nat} (h : x.In w) (ho : Only S w w') (hg : x.g ∉ S) : x.In w' := by
  rcases h with ⟨h0, h1, t, all, hb, hc⟩ | ⟨o, h1, h2, h3, h4⟩
  · exact .inl ⟨h0, fun t' e => ⟨(h1 t' e).1, (h1 t' e).2.only ho hg⟩, t, all, hb.only ho hg, hc⟩
  · exact .inr ⟨o, h1, h2, h3, (ho.block _ (get_lt h4) hg).trans h4⟩
end Fr

structure Own (L : List Fr) (w0 w : World) : Prop where
  only : Only [] w0 w
  ins : ∀ x ∈ L, x.In w
  new : ∀ x ∈ L, w0.heap.size ≤ x.g
  dj : L.Pairwise Fr.dj
namespace Own
variable {L L' M M' R : List Fr} {w0 w w' : World} {x y : Fr} {g t off : Nat} {cs : List Value}
theorem start (w : World) : Own [] w w := ⟨Only.refl _ _, by simp, by simp, by simp⟩
theorem perm (h : Own L w0 w) (hp : L.Perm L') : Own L' w0 w :=
  ⟨h.only, fun x hx => h.ins x (hp.mem_iff.2 hx), fun x hx => h.new x (hp.mem_iff.2 hx), (hp.pairwise_iff Fr.dj_symm).1 h.dj⟩
theorem sub (h : Own L w0 w) (hs : L'.Sublist L) : Own L' w0 w :=
  ⟨h.only, fun x hx => h.ins x (hs.subset hx), fun x hx => h.new x (hs.subset hx), h.dj.sublist hs⟩
theorem drop (h : Own (x :: L) w0 w) : Own L w0 w := h.sub (List.sublist_cons_self _ _)
theorem right (h : Own (M ++ R) w0 w) : Own R w0 w := h.sub (List.sublist_append_right _ _)
theorem left (h : Own (M ++ R) w0 w) : Own M w0 w := h.sub (List.sublist_append_left _ _)
theorem head (h : Own (x :: L) w0 w) : x.In w := h.ins x (by simp)
theorem at_ (h : Own L w0 w) (n : Nat) (hn : L[n]? = some x) : x.In w := h.ins x (List.mem_of_getElem? hn)
theorem lt (h : Own L w0 w) (hx : x ∈ L) : x.g < w.heap.size := (h.ins x hx).lt
theorem drewN (h : Own L w0 w) (n : Nat) : Own L w0 (w.drewN n) := ⟨h.only.drewN n, h.ins, h.new, h.dj⟩
theorem drew (h : Own L w0 w) : Own L w0 w.drew := h.drewN 1
theorem dr (h : Own L w0 w) (k : Dr w w') : Own L w0 w' := by obtain ⟨n, rfl⟩ := k.out; exact h.drewN n
/-- A callee that has turned only the whole blocks M (and laid new ones): M' stands for M. -/
theorem swap (h : Own (M ++ R) w0 w) (hw : ∀ x ∈ M, x.whole ≠ none) (ho : Only (M.map (·.g)) w w') (hb : ∀ x ∈ M', x.In w') (hn : ∀ x ∈ M', x.g ∈ M.map (·.g) ∨ w.heap.size ≤ x.g) (hd : M'.Pairwise Fr.dj) : Own (M' ++ R) w0 w' := by
  have hM : ∀ k, k ∈ M.map (·.g) → w0.heap.size ≤ k := fun k hk => by
    obtain ⟨x, hx, rfl⟩ := List.mem_map.1 hk
    exact h.new x (List.mem_append_left _ hx)
  have hdj := List.pairwise_append.1 h.dj
  have hR : ∀ x ∈ R, x.g ∉ M.map (·.g) := fun x hx hm => by
    obtain ⟨y, hy, e⟩ := List.mem_map.1 hm
    rcases hdj.2.2 y hy x hx with h1 | h1
    · exact h1 e
    · exact hw y hy h1.1
  have hRb : ∀ x ∈ R, x.In w := fun x hx => h.ins x (List.mem_append_right _ hx)
  refine ⟨h.only.trans' ho fun i hi hm => ?_, fun x hx => ?_, fun x hx => ?_, ?_⟩
  · have := hM i hm; omega
  · rcases List.mem_append.1 hx with hx | hx
    · exact hb x hx
    · exact (hRb x hx).keep ho (hR x hx)
  · rcases List.mem_append.1 hx with hx | hx
    · rcases hn x hx with h1 | h1
      · exact hM _ h1
      · exact Nat.le_trans h.only.size h1
    · exact h.new x (List.mem_append_right _ hx)
  · refine List.pairwise_append.2 ⟨hd, hdj.2.1, fun a ha b hb' => .inl fun e => ?_⟩
    rcases hn a ha with h1 | h1
    · exact hR b hb' (by rw [← e]; exact h1)
    · have := (hRb b hb').lt; omega
theorem only0 (h : Own L w0 w) (ho : Only [] w w') : Own L w0 w' := by
  have := swap (M := []) (M' := []) (R := L) h (by simp) (by simpa using ho) (by simp) (by simp) (by simp)
  simpa using this
theorem skip (h : Own L w0 w) (o : Obj) : Own L w0 (w.alloc o) := h.only0 ((Only.refl _ _).alloc o)
theorem fresh (h : Own L w0 w) (ho : Only [] w w') (hb : Blk w' g t cs) (hg : w.heap.size ≤ g) : Own (fw g t cs :: L) w0 w' :=
  swap (M := []) (M' := [fw g t cs]) (R := L) h (by simp) (by simpa using ho) (by simpa using Fr.in_fw hb) (by simpa using hg) (by simp)
theorem alloc (h : Own L w0 w) (t : TypeId) (cs : List Value) : Own (fw w.heap.size t cs :: L) w0 (w.alloc (.cells cs.toArray t)) :=
  h.fresh ((Only.refl [] w).alloc _) (Blk.new w t cs) (Nat.le_refl _)
theorem allocA (h : Own L w0 w) {g : Nat} (hg : w.heap.size = g) (t : TypeId) (c : Array Value) : Own (fw g t c.toList :: L) w0 (w.alloc (.cells c t)) := by
  have := hg ▸ h.alloc t c.toList
  rwa [Array.toArray_toList] at this
theorem alloc' (h : Own L w0 w) {g : Nat} (hg : w.heap.size = g) (t : TypeId) (cs : List Value) : Own (fw g t cs :: L) w0 (w.alloc (.cells cs.toArray t)) := hg ▸ h.alloc t cs
/-- A block of any kind, kept. -/
theorem freshObj (h : Own L w0 w) {o : Obj} (ho : Only [] w w') (hb : w'.heap[g]? = some o) (hg : w.heap.size ≤ g) : Own (fk g o :: L) w0 w' :=
  swap (M := []) (M' := [fk g o]) (R := L) h (by simp) (by simpa using ho) (by simpa using Fr.in_fk hb) (by simpa using hg) (by simp)
/-- The fragment at the head has turned, and nothing else of its block. -/
theorem upd (h : Own (x :: L) w0 w) (hro : x.ro = none) {cs' : List Value} (ho : Only [x.g] w w') (hlen : cs'.length = x.cs.length)
    (hb : ∀ t all, Blk w x.g t all → ∃ all', Blk w' x.g t all' ∧ (∀ i, i < cs'.length → all'[x.off + i]? = cs'[i]?) ∧ (∀ j, j < x.off ∨ x.off + x.cs.length ≤ j → all'[j]? = all[j]?)) :
    Own ({ x with cs := cs' } :: L) w0 w' := by
  have hdj := List.pairwise_cons.1 h.dj
  have hx := (h.ins x (by simp)).in0 hro
  refine ⟨h.only.trans' ho fun i hi hm => ?_, fun y hy => ?_, fun y hy => ?_, ?_⟩
  · have := h.new x (by simp); simp at hm; omega
  · rcases List.mem_cons.1 hy with rfl | hy
    · obtain ⟨h1, t, all, hbl, hc⟩ := hx
      obtain ⟨all', hb', hc', hj'⟩ := hb t all hbl
      refine .inl ⟨hro, fun t' e => ?_, t, all', hb', hc'⟩
      have h1' := h1 t' e
      refine ⟨h1'.1, ?_⟩
      obtain ⟨all2, hb2, hc2, hj2⟩ := hb t' x.cs h1'.2
      have e2 : all2 = cs' := by
        apply List.ext_getElem?
        intro i
        rcases Nat.lt_or_ge i cs'.length with hi | hi
        · have := hc2 i hi
          rwa [h1'.1, Nat.zero_add] at this
        · have := hj2 i (.inr (by rw [h1'.1]; omega))
          rw [this, List.getElem?_eq_none (by omega), List.getElem?_eq_none (by omega)]
      rw [← e2]
      exact hb2
    · have hyi := h.ins y (List.mem_cons_of_mem _ hy)
      rcases hdj.1 y hy with hne | ⟨hw1, hw2, hr⟩
      · exact hyi.keep ho (by simpa using Ne.symm hne)
      · by_cases hgy : x.g = y.g
        · have hyro : y.ro = none := by
            rcases hyi with h0 | ⟨_, _, _, h0, _⟩
            · exact h0.1
            · exact absurd hw2 h0
          obtain ⟨_, t, all, hbl, hc⟩ := hyi.in0 hyro
          rw [← hgy] at hbl
          obtain ⟨all', hb', hc', hj'⟩ := hb t all hbl
          refine .inl ⟨hyro, fun t' e => ?_, t, all', by rw [← hgy]; exact hb', fun i hi => ?_⟩
          · rw [hw2] at e; cases e
          · rw [hj' _ (by omega), hc i hi]
        · exact hyi.keep ho (by simpa using Ne.symm hgy)
  · rcases List.mem_cons.1 hy with rfl | hy
    · exact h.new x (by simp)
    · exact h.new y (List.mem_cons_of_mem _ hy)
  · refine List.pairwise_cons.2 ⟨fun y hy => ?_, hdj.2⟩
    rcases hdj.1 y hy with hne | ⟨hw1, hw2, hr⟩
    · exact .inl hne
    · exact .inr ⟨hw1, hw2, by rw [hlen]; exact hr⟩
theorem set (h : Own (x :: L) w0 w) {k : Nat} (i : Nat) (hk : k = x.off + i) (hi : i < x.cs.length) (u : Value) : Own ({ x with cs := x.cs.set i u } :: L) w0 (w.setCell ⟨x.g, k, none⟩ u) := by
  have hro := (h.ins x (by simp)).ro_none (by omega)
  refine h.upd hro ((Only.refl [x.g] w).setCell (.inl (by simp)) u) (by simp) fun t all hbl => ⟨all.set k u, hbl.set_ k u, fun j hj => ?_, fun j hj => ?_⟩
  · subst hk
    obtain ⟨_, t', all', hb', hc'⟩ := (h.ins x (by simp)).in0 hro
    have e : all' = all := by
      unfold Blk at hb' hbl
      rw [hbl] at hb'
      injection hb' with hb'
      injection hb' with hb'
      exact (List.toArray_inj hb').symm
    subst e
    rw [List.length_set] at hj
    have hlen : x.off + i < all'.length := by
      have := hc' i hi
      rw [List.getElem?_eq_getElem hi] at this
      exact (List.getElem?_eq_some_iff.1 this).1
    rw [List.getElem?_set, List.getElem?_set]
    by_cases hij : i = j
    · subst hij; simp [hi, hlen]
    · rw [if_neg (by omega), if_neg hij, hc' j hj]
  · rw [List.getElem?_set_ne (by omega)]
theorem swap01 (h : Own (x :: y :: L) w0 w) : Own (y :: x :: L) w0 w := h.perm (List.Perm.swap _ _ _)
theorem toHead (h : Own L w0 w) (n : Nat) (hn : L[n]? = some x) : Own (x :: L.eraseIdx n) w0 w := by
  obtain ⟨hlt, he⟩ := List.getElem?_eq_some_iff.1 hn
  refine h.perm ?_
  have e1 : L = L.take n ++ x :: L.drop (n + 1) := by
    conv => lhs; rw [← List.take_append_drop n L]
    rw [List.drop_eq_getElem_cons hlt, he]
  rw [List.eraseIdx_eq_take_drop_succ]
  conv => lhs; rw [e1]
  exact List.perm_middle
/-- Another one of the fragments: a cell of it is set. -/
theorem setN (h : Own L w0 w) (n : Nat) (hn : L[n]? = some x) {k : Nat} (i : Nat) (hk : k = x.off + i) (hi : i < x.cs.length) (u : Value) : Own (L.set n { x with cs := x.cs.set i u }) w0 (w.setCell ⟨x.g, k, none⟩ u) := by
  obtain ⟨hlt, he⟩ := List.getElem?_eq_some_iff.1 hn
  have h1 := (h.toHead n hn).set i hk hi u
  refine h1.perm ?_
  rw [List.eraseIdx_eq_take_drop_succ]
  have e : ∀ y : Fr, L.set n y = L.take n ++ y :: L.drop (n + 1) := fun y => by rw [List.set_eq_take_append_cons_drop, if_pos hlt]
  rw [e]
  exact List.perm_middle.symm
/-- A fragment's cell. -/
theorem cell (h : Own L w0 w) (n : Nat) (hn : L[n]? = some x) {k : Nat} (i : Nat) (hk : k = x.off + i) (hi : i < x.cs.length) : w.cell? ⟨x.g, k, none⟩ = x.cs[i]? := (h.at_ n hn).cell hk hi
theorem frozen (h : Own L w0 w) (n : Nat) (hn : L[n]? = some x) (k : Nat) (hro : x.ro = none := by rfl) : w.frozen? ⟨x.g, k, none⟩ = false := (h.at_ n hn).frozen k hro
/-- A whole block, as cells. -/
theorem part (h : Own (fw g t cs :: L) w0 w) : Own (fp g 0 cs :: L) w0 w := by
  have hdj := List.pairwise_cons.1 h.dj
  refine ⟨h.only, fun y hy => ?_, fun y hy => ?_, List.pairwise_cons.2 ⟨fun y hy => ?_, hdj.2⟩⟩
  · rcases List.mem_cons.1 hy with rfl | hy
    · obtain ⟨_, hh⟩ := (h.ins (fw g t cs) (by simp)).in0 rfl
      exact .inl ⟨rfl, fun t e => by simp at e, hh⟩
    · exact h.ins y (List.mem_cons_of_mem _ hy)
  · rcases List.mem_cons.1 hy with rfl | hy
    · exact h.new (fw g t cs) (by simp)
    · exact h.new y (List.mem_cons_of_mem _ hy)
  · rcases hdj.1 y hy with hne | ⟨hw1, _⟩
    · exact .inl hne
    · cases hw1
/-- Cells, parted. -/
theorem split {a b : List Value} (h : Own (fp g off (a ++ b) :: L) w0 w) {k : Nat} (hk : k = off + a.length) : Own (fp g off a :: fp g k b :: L) w0 w := by
  subst hk
  have hdj := List.pairwise_cons.1 h.dj
  have hx := (h.ins (fp g off (a ++ b)) (by simp)).in0 rfl
  obtain ⟨_, t, all, hb, hc⟩ := hx
  simp only [List.length_append] at hc
  refine ⟨h.only, fun y hy => ?_, fun y hy => ?_, List.pairwise_cons.2 ⟨fun y hy => ?_, List.pairwise_cons.2 ⟨fun y hy => ?_, hdj.2⟩⟩⟩
  · rcases List.mem_cons.1 hy with rfl | hy
    · exact .inl ⟨rfl, fun t e => by simp at e, t, all, hb, fun i hi => by rw [hc i (by simp at hi; omega), List.getElem?_append_left (by simpa using hi)]⟩
    · rcases List.mem_cons.1 hy with rfl | hy
      · exact .inl ⟨rfl, fun t e => by simp at e, t, all, hb, fun i hi => by
          rw [Nat.add_assoc, hc (a.length + i) (by simp at hi; omega), List.getElem?_append_right (by omega)]; simp⟩
      · exact h.ins y (List.mem_cons_of_mem _ hy)
  · rcases List.mem_cons.1 hy with rfl | hy
    · exact h.new (fp g off (a ++ b)) (by simp)
    · rcases List.mem_cons.1 hy with rfl | hy
      · exact h.new (fp g off (a ++ b)) (by simp)
      · exact h.new y (List.mem_cons_of_mem _ hy)
  · rcases List.mem_cons.1 hy with rfl | hy
    · exact .inr ⟨rfl, rfl, .inl (Nat.le_refl _)⟩
    · rcases hdj.1 y hy with hne | ⟨hw1, hw2, hr⟩
      · exact .inl hne
      · exact .inr ⟨rfl, hw2, by simp only [List.length_append] at hr ⊢; omega⟩
  · rcases hdj.1 y hy with hne | ⟨hw1, hw2, hr⟩
    · exact .inl hne
    · exact .inr ⟨rfl, hw2, by simp only [List.length_append] at hr ⊢; omega⟩
/-- Two neighbouring parts of a block are one. -/
theorem glue {k : Nat} {a b : List Value} (h : Own (fp g off a :: fp g k b :: L) w0 w) (hk : k = off + a.length) : Own (fp g off (a ++ b) :: L) w0 w := by
  subst hk
  have hd1 := List.pairwise_cons.1 h.dj
  have hd2 := List.pairwise_cons.1 hd1.2
  obtain ⟨_, t, all, hb, hc⟩ := (h.ins (fp g off a) (by simp)).in0 rfl
  have hall : ∀ i, i < b.length → all[off + a.length + i]? = b[i]? := fun i hi => by
    have e1 := (h.ins (fp g (off + a.length) b) (by simp)).cell (i := i) (k := off + a.length + i) (by rfl) hi
    rw [hb.cell] at e1
    exact e1
  refine ⟨h.only, fun y hy => ?_, fun y hy => ?_, List.pairwise_cons.2 ⟨fun y hy => ?_, hd2.2⟩⟩
  · rcases List.mem_cons.1 hy with rfl | hy
    · refine .inl ⟨rfl, fun t e => by simp at e, t, all, hb, fun i hi => ?_⟩
      simp only [List.length_append] at hi
      by_cases hia : i < a.length
      · rw [hc i hia, List.getElem?_append_left hia]
      · have := hall (i - a.length) (by omega)
        rw [show off + a.length + (i - a.length) = off + i by omega] at this
        rw [this, List.getElem?_append_right (by omega)]
    · exact h.ins y (by simp [hy])
  · rcases List.mem_cons.1 hy with rfl | hy
    · exact h.new (fp g off a) (by simp)
    · exact h.new y (by simp [hy])
  · have q1 := hd1.1 y (by simp [hy])
    have q2 := hd2.1 y hy
    unfold Fr.dj at q1 q2 ⊢
    simp only [List.length_append] at q1 q2 ⊢
    rcases q1 with q1 | ⟨_, h1, q1⟩
    · exact .inl q1
    · rcases q2 with q2 | ⟨_, _, q2⟩
      · exact .inl q2
      · exact .inr ⟨trivial, h1, by omega⟩
/-- What a callee has laid anew, beside what was there. -/
theorem join {F : List Fr} (h : Own R w0 w) (h' : Own F w w') : Own (F ++ R) w0 w' := by
  refine ⟨h.only.new h'.only, fun x hx => ?_, fun x hx => ?_, List.pairwise_append.2 ⟨h'.dj, h.dj, fun a ha b hb => .inl fun e => ?_⟩⟩
  · rcases List.mem_append.1 hx with hx | hx
    · exact h'.ins x hx
    · exact (h.ins x hx).keep h'.only (by simp)
  · rcases List.mem_append.1 hx with hx | hx
    · exact Nat.le_trans h.only.size (h'.new x hx)
    · exact h.new x hx
  · have h1 := h'.new a ha
    have h2 := (h.ins b hb).lt
    omega
end Own

/-- What holds in every world that holds these cells and has turned nothing of w0. -/
def St (R : List Fr) (w0 : World) (p : World → Prop) : Prop := ∀ w, Only [] w0 w → (∀ x ∈ R, x.In w) → p w
theorem Own.st {L R : List Fr} {w0 w : World} {p : World → Prop} (h : Own L w0 w) (hp : St R w0 p) (hs : ∀ x ∈ R, x ∈ L) : p w := hp w h.only fun x hx => h.ins x (hs x hx)
theorem Own.stR {M R : List Fr} {w0 w : World} {p : World → Prop} (h : Own (M ++ R) w0 w) (hp : St R w0 p) : p w := h.st hp fun _ hx => List.mem_append_right _ hx
namespace St
variable {R R' : List Fr} {w0 w : World} {p q : World → Prop}
theorem mono (hp : St R w0 p) (hs : ∀ x ∈ R, x ∈ R') : St R' w0 p := fun w ho hb => hp w ho fun x hx => hb x (hs x hx)
theorem imp (hp : St R w0 p) (h : ∀ w, p w → q w) : St R w0 q := fun w ho hb => h w (hp w ho hb)
theorem and (hp : St R w0 p) (hq : St R w0 q) : St R w0 fun w => p w ∧ q w := fun w ho hb => ⟨hp w ho hb, hq w ho hb⟩
theorem right (hp : St R w0 p) (M : List Fr) : St (M ++ R) w0 p := hp.mono fun _ hx => List.mem_append_right _ hx
theorem left (hp : St R w0 p) (M : List Fr) : St (R ++ M) w0 p := hp.mono fun _ hx => List.mem_append_left _ hx
theorem cons (hp : St R w0 p) (x : Fr) : St (x :: R) w0 p := hp.mono fun _ hx => List.mem_cons_of_mem _ hx
/-- Seen from a later world. -/
theorem now {L : List Fr} (hp : St R w0 p) (h : Own L w0 w) : St R w p := fun w' ho hb => hp w' (h.only.new ho) hb
end St
/-- Bytes that are read whatever else turns. -/
abbrev Rd (R : List Fr) (w0 : World) (A : Option Addr) (l : List UInt8) : Prop := St R w0 fun w => BsAt w A l
namespace Rd
variable {R : List Fr} {w0 : World} {A : Option Addr} {l : List UInt8}
theorem old (h : BsAt w0 A l) (R : List Fr) : Rd R w0 A l := fun _ ho _ => h.keep0 ho
theorem nil (R : List Fr) (w0 : World) (A : Option Addr) : Rd R w0 A [] := fun _ _ _ => BsAt.nil _ _
theorem take (h : Rd R w0 A l) (n : Nat) : Rd R w0 A (l.take n) := fun w ho hb => (h w ho hb).take n
theorem drop {g o : Nat} (h : Rd R w0 (some ⟨g, o, none⟩) l) (n : Nat) : Rd R w0 (some ⟨g, o + n, none⟩) (l.drop n) := fun w ho hb => (h w ho hb).drop n
theorem cut (h : Rd R w0 A l) (k c : Nat) (hc : l.length ≤ c) : Rd R w0 (if c = k then A else Option.map (fun x => { block := x.block, off := x.off + k, spot := none }) A) (l.drop k) := fun w ho hb => (h w ho hb).cut k c hc
theorem cutM (h : Rd R w0 A l) (n : Nat) : Rd R w0 (Option.map (fun x => x.add n) A) (l.drop n) := fun w ho hb i hi => by
  rw [List.length_drop] at hi
  obtain ⟨g, o, rfl, _, hc'⟩ := (h w ho hb).addr (by omega)
  have := BsAt.drop (g := g) (o := o) (fun j hj => ⟨g, o, rfl, hc' j hj⟩) n i (by rw [List.length_drop]; omega)
  simpa [add_none] using this
theorem fr {x : Fr} (hx : x ∈ R) {i k : Nat} (hk : k = x.off + i) (hi : i + l.length ≤ x.cs.length) (hl : (x.cs.drop i).take l.length = bc l) : Rd R w0 (some ⟨x.g, k, none⟩) l := fun w _ hb j hj => by
  subst hk
  refine ⟨x.g, x.off + i, rfl, ?_⟩
  rw [(hb x hx).cell (i := i + j) (by omega) (by omega)]
  have := congrArg (·[j]?) hl
  simp only [bc_get hj] at this
  rwa [List.getElem?_take, if_pos hj, List.getElem?_drop] at this
/-- Bytes in a block that is kept. -/
theorem kept {g k t : Nat} {c : Array Value} {m : Nat × Nat} (hx : fk g (.cells c t m) ∈ R) (hl : (c.toList.drop k).take l.length = bc l) : Rd R w0 (some ⟨g, k, none⟩) l := fun w _ hb j hj => by
  refine ⟨g, k, rfl, ?_⟩
  have ho := (hb _ hx).obj
  have := congrArg (·[j]?) hl
  simp only [bc_get hj] at this
  rw [List.getElem?_take, if_pos hj, List.getElem?_drop] at this
  simpa [World.cell?, ho] using this
end Rd

/-- A row of the call's own: n elements of the type e, of size cells each; the block F it lies in (none where it is nil). -/
def Row (e size : Nat) (A : Option Addr) (n c : Nat) (xs : List Value) (F : List Fr) : Prop :=
  xs.length = n * size ∧ ((A = none ∧ n = 0 ∧ c = 0 ∧ F = []) ∨ ∃ g cur, A = some ⟨g, 0, none⟩ ∧ F = [fw g e cur] ∧ n ≤ c ∧ c ≤ maxLen ∧ cur.length = c * size ∧ cur.take (n * size) = xs)
namespace Row
variable {e size n c : Nat} {A : Option Addr} {xs : List Value} {F R : List Fr} {w0 w : World} {l : List UInt8}
theorem nil (e size : Nat) : Row e size none 0 0 [] [] := ⟨by simp, .inl ⟨rfl, rfl, rfl, rfl⟩⟩
theorem le (h : Row e size A n c xs F) : n ≤ c := by
  rcases h.2 with ⟨_, rfl, rfl, _⟩ | ⟨g, cur, _, _, h1, _⟩
  · exact Nat.le_refl _
  · exact h1
theorem cap (h : Row e size A n c xs F) : c ≤ maxLen := by
  rcases h.2 with ⟨_, rfl, rfl, _⟩ | ⟨g, cur, _, _, h1, h2, _⟩
  · exact Nat.zero_le _
  · exact h2
theorem made (e : Nat) {size g n c : Nat} {cur : List Value} (h1 : n ≤ c) (h2 : c ≤ maxLen) (h3 : cur.length = c * size) : Row e size (some ⟨g, 0, none⟩) n c (cur.take (n * size)) [fw g e cur] :=
  ⟨by rw [List.length_take, h3, Nat.min_eq_left (Nat.mul_le_mul_right _ h1)], .inr ⟨g, cur, rfl, rfl, h1, h2, h3, rfl⟩⟩
theorem owns (h : Row e size A n c xs F) (hb : ∀ x ∈ F, x.In w) : w.ownsRow 0 e size (.slice A n c) n xs := by
  refine ⟨h.1, ?_⟩
  rcases h.2 with ⟨rfl, rfl, rfl, rfl⟩ | ⟨g, cur, rfl, rfl, h1, h2, h3, h4⟩
  · exact .inl ⟨rfl, rfl⟩
  · exact .inr ⟨g, c, cur.toArray, rfl, Nat.zero_le _, (hb (fw g e cur) (by simp)).blk, h1, h2, by simpa using h3, by simpa using h4⟩
theorem of_owns {v : Value} (h : w.ownsRow 0 e size v n xs) : ∃ A c F, v = .slice A n c ∧ Row e size A n c xs F ∧ (∀ x ∈ F, x.In w) ∧ F.map (·.g) = v.ownBlock.toList ∧ F.Pairwise Fr.dj := by
  rcases h.2 with ⟨rfl, rfl⟩ | ⟨g, cap, cur, rfl, _, hh, h1, h2, h3, h4⟩
  · exact ⟨none, 0, [], rfl, ⟨h.1, .inl ⟨rfl, rfl, rfl, rfl⟩⟩, by simp, rfl, by simp⟩
  · exact ⟨_, cap, [fw g e cur.toList], rfl, ⟨h.1, .inr ⟨g, cur.toList, rfl, rfl, h1, h2, by simpa using h3, h4⟩⟩, by simpa using Fr.in_fw (by simpa [Blk] using hh), rfl, by simp⟩
theorem cs (h : Row e size A n c xs F) (hb : ∀ x ∈ F, x.In w) : CsAt w A xs := by
  rcases h.2 with ⟨rfl, rfl, rfl, rfl⟩ | ⟨g, cur, rfl, rfl, h1, h2, h3, h4⟩
  · have := h.1
    obtain rfl : xs = [] := List.eq_nil_of_length_eq_zero (by simpa using this)
    exact CsAt.nil _ _
  · have := CsAt.of_blk (hb (fw g e cur) (by simp)).blk 0 (n * size)
    rw [List.drop_zero, h4] at this
    exact this
theorem st (h : Row e size A n c xs F) (w0 : World) : St F w0 fun w => CsAt w A xs := fun _ _ hb => h.cs hb
theorem rd (h : Row e 1 A n c (bc l) F) (w0 : World) : Rd F w0 A l := fun _ _ hb => (h.cs hb).bs
theorem len (h : Row e 1 A n c (bc l) F) : n = l.length := by have := h.1; rw [bc_length] at this; omega
theorem csO (h : Row e size A n c xs F) (hO : Own (F ++ R) w0 w) : CsAt w A xs := h.cs fun x hx => hO.ins x (List.mem_append_left _ hx)
theorem bsO (h : Row e 1 A n c (bc l) F) (hO : Own (F ++ R) w0 w) : BsAt w A l := (h.csO hO).bs
/-- Cut back to fewer elements, from its head. -/
theorem back (h : Row e size A n c xs F) {m : Nat} (hm : m ≤ n) : Row e size A m c (xs.take (m * size)) F := by
  have hmn := Nat.mul_le_mul_right size hm
  refine ⟨by rw [List.length_take, h.1, Nat.min_eq_left hmn], ?_⟩
  rcases h.2 with ⟨rfl, rfl, rfl, rfl⟩ | ⟨g, cur, rfl, rfl, h1, h2, h3, h4⟩
  · exact .inl ⟨rfl, by omega, rfl, rfl⟩
  · exact .inr ⟨g, cur, rfl, rfl, by omega, h2, h3, by rw [← h4, List.take_take, Nat.min_eq_left hmn]⟩
theorem whole (h : Row e size A n c xs F) : ∀ x ∈ F, x.whole ≠ none := by
  rcases h.2 with ⟨_, _, _, rfl⟩ | ⟨g, cur, _, rfl, _⟩ <;> simp
theorem block (h : Row e size A n c xs F) : F.map (·.g) = (Value.slice A n c).ownBlock.toList := by
  rcases h.2 with ⟨rfl, rfl, rfl, rfl⟩ | ⟨g, cur, rfl, rfl, _⟩ <;> rfl
theorem none_iff (h : Row e size A n c xs F) : A = none ↔ Value.slice A n c = .slice none 0 0 := by
  rcases h.2 with ⟨rfl, rfl, rfl, rfl⟩ | ⟨g, cur, rfl, rfl, _⟩ <;> simp
end Row

/-! ### the laws -/
theorem Blk.inj {w : World} {g t t' : Nat} {a b : List Value} (h : Blk w g t a) (h' : Blk w g t' b) : t = t' ∧ a = b := by
  unfold Blk at h h'
  rw [h] at h'
  injection h' with h'
  injection h' with h1 h2
  exact ⟨h2, List.toArray_inj h1⟩
section
variable {P : Program} {ops : Array Oper} {rest : List Oper} {o : Oper} {a : Act} {Q : Exit → Act → World → Prop} {w0 w : World} {R : List Fr}
/-- append(s, src...), s a row of the call's own. -/
theorem own_append (hgd : o.guard = none) (s x : Operand) (t : TypeId) (ho : o.op = .call { callee := .builtin .append, args := #[s, x], argTypes := #[t, t] })
    (e : TypeId) (z : Value) (size bytes : Nat) (ht : P.underlying t = some (.slice e)) (hinfo : (P.info? e).map (fun i => (i.zero, i.size, i.bytes)) = some (some z, size, bytes)) (hzs : z.cells.size = size) (hsz : 0 < size)
    (A : Option Addr) (n c : Nat) (xs : List Value) (F : List Fr) (hs : a.eval s = .slice A n c) (hr : Row e size A n c xs F) (hO : Own (F ++ R) w0 w)
    (A2 : Option Addr) (m c2 : Nat) (news : List Value) (hx : a.eval x = .slice A2 m c2) (hl : news.length = m * size) (hA : CsAt w A2 news)
    (h1 : ∀ u ∈ news, u.oneCell' = true) (h63 : n + m ≤ maxLen) (hbytes : (n + m) * bytes ≤ 140737488355328)
    (h : ∀ A' c' F' w', Row e size A' (n + m) c' (xs ++ news) F' → Own (F' ++ R) w0 w' → (A' = none ↔ A = none ∧ m = 0) → wpList P ops Q rest (a.put o.dst (.slice A' (n + m) c')) w') :
    wpList P ops Q (o :: rest) a w := by
  refine wp_append hgd s x t ho e z size bytes ht hinfo hzs hsz (.slice A n c) n xs hs (hr.owns fun x hx => hO.ins x (List.mem_append_left _ hx)) A2 m c2 news hx hl hA h1 h63 hbytes fun v' w' hown hgr hnil hat => ?_
  obtain ⟨A', c', F', rfl, hr', hb', hF, hdj⟩ := Row.of_owns hown
  refine h A' c' F' w' hr' ?_ ?_
  · have hFo := hr.block
    refine hO.swap hr.whole (Only.of_grown hgr fun k hk => by rw [hFo, hk]; simp) hb' (fun y hy => ?_) hdj
    have hy' : y.g ∈ F'.map (·.g) := List.mem_map.2 ⟨y, hy, rfl⟩
    rw [hF] at hy'
    rcases hat with e | e
    · rw [e, ← hFo] at hy'; exact .inl hy'
    · rw [e] at hy'; simp at hy'; exact .inr (by omega)
  · rw [hr'.none_iff, hnil, hr.none_iff]
/-- A whole value is stored over a whole block. -/
theorem own_store_row (hgd : o.guard = none) (ty : TypeId) (x y : Operand) (ho : o.op = .store ty x y) (g : Nat) (cells : Array Value) (hx : a.eval x = .pointer (some ⟨g, 0, none⟩)) (hy : a.eval y = .agg cells)
    (t : TypeId) (old : List Value) (hO : Own (fw g t old :: R) w0 w) (hi : (P.info? ty).map (·.size) = some cells.size) (hold : old.length = cells.size) (h1 : cells.all (·.oneCell') = true)
    (h : ∀ w', Own (fw g t cells.toList :: R) w0 w' → wpList P ops Q rest (a.put o.dst undef) w') : wpList P ops Q (o :: rest) a w := by
  have hb := hO.head.blk
  refine wpList_store_row hgd ty x y ho g cells hx hy t old.toArray hb hi (by simpa using hold) h1 (h _ ?_)
  have hb' : Blk (w.setRow g cells) g t cells.toList := by
    have := setRow_heap w g old.toArray cells t _ hb
    simpa [Blk] using this
  refine Own.swap (M := [fw g t old]) (M' := [fw g t cells.toList]) (R := R) hO (by simp) ?_ (by simpa using Fr.in_fw hb') (by simp) (by simp)
  exact ⟨rfl, rfl, rfl, by simp [World.setRow], fun k _ hk => setRow_other w g k _ (by simpa using hk)⟩
/-- make([]T, n, c), T of one cell. -/
theorem own_make (hgd : o.guard = none) (l c : Operand) (t : TypeId) (hop : o.op = .makeSlice t l c) (e : TypeId) (z : Value) (bytes : Nat) (ht : P.underlying t = some (.slice e))
    (hinfo : (P.info? e).map (fun i => (i.zero, i.size, i.bytes)) = some (some z, 1, bytes)) (hz1 : z.cells = #[z]) (kl kc : IntKind) (x y : Int) (n m : Nat) (hl : a.eval l = .int kl x) (hc : a.eval c = .int kc y)
    (hx : x = (n : Int)) (hy : y = (m : Int)) (hnm : n ≤ m) (hb : bytes * m ≤ 281474976710656) (h63 : m ≤ 9223372036854775807) (hO : Own R w0 w)
    (h : ∀ g w', Own (fw g e (List.replicate m z) :: R) w0 w' → wpList P ops Q rest (a.put o.dst (.slice (some ⟨g, 0, none⟩) n m)) w') :
    wpList P ops Q (o :: rest) a w :=
  wp_make hgd l c t hop e z bytes ht hinfo hz1 kl kc x y n m hl hc hx hy hnm hb h63 fun w' hb' _ ho => h _ w' (hO.fresh ho hb' (Nat.le_refl _))
theorem splice_get {α : Type} (cs : List α) (k : Nat) (p : List α) (h : k + p.length ≤ cs.length) (j : Nat) : (splice cs k p)[j]? = if j < k ∨ k + p.length ≤ j then cs[j]? else p[j - k]? := by
  have e : splice cs k p = cs.take k ++ (p ++ cs.drop (k + p.length)) := by simp [splice]
  rw [e]
  have h1 : (cs.take k).length = k := by rw [List.length_take]; omega
  by_cases hj : j < k
  · rw [if_pos (.inl hj), List.getElem?_append_left (by omega), List.getElem?_take, if_pos hj]
  · rw [List.getElem?_append_right (by omega), h1]
    by_cases hj2 : k + p.length ≤ j
    · rw [if_pos (.inr hj2), List.getElem?_append_right (by omega), List.getElem?_drop]
      congr 1; omega
    · rw [if_neg (by omega), List.getElem?_append_left (by omega)]
/-- copy(dst, src), dst in the fragment at the head. -/
theorem own_copy (hgd : o.guard = none) (d s : Operand) (dT sT : TypeId) (ho : o.op = .call { callee := .builtin .copy, args := #[d, s], argTypes := #[dT, sT] }) (elem : TypeId) (hu : P.underlying dT = some (.slice elem))
    (hsz : (P.info? elem).map (·.size) = some 1) (x : Fr) (i k dLen dCap : Nat) (A : Option Addr) (sLen sCap : Nat) (hk : k = x.off + i) (hd : a.eval d = .slice (some ⟨x.g, k, none⟩) dLen dCap) (hs : a.eval s = .slice A sLen sCap)
    (hO : Own (x :: R) w0 w) (l : List UInt8) (hA : BsAt w A l) (hn : l.length = min sLen dLen) (hfit : i + l.length ≤ x.cs.length)
    (h : ∀ w', Own ({ x with cs := splice x.cs i (bc l) } :: R) w0 w' → wpList P ops Q rest (a.put o.dst (.int .i64 (l.length : Int))) w') :
    wpList P ops Q (o :: rest) a w := by
  by_cases hl0 : l.length = 0
  · obtain rfl : l = [] := List.eq_nil_of_length_eq_zero hl0
    refine wpList_copy_nothing hgd d s dT sT ho elem hu hsz _ _ _ _ _ _ hd hs (by simpa using (show min sLen dLen = 0 from hn.symm)) ?_
    have e : splice x.cs i (bc []) = x.cs := by simp [splice, bc]
    have := h w (by rw [e]; exact hO)
    exact this
  have hro := hO.head.ro_none (by omega)
  obtain ⟨_, t, all, hb, hc⟩ := hO.head.in0 hro
  subst hk
  have hall : i + l.length = 0 ∨ x.off + (i + l.length) ≤ all.length := by
    rcases Nat.eq_zero_or_pos (i + l.length) with h0 | h0
    · exact .inl h0
    · have := hc (i + l.length - 1) (by omega)
      rw [List.getElem?_eq_getElem (show i + l.length - 1 < x.cs.length by omega)] at this
      have := (List.getElem?_eq_some_iff.1 this).1
      exact .inr (by omega)
  have hlen2 : (splice x.cs i (bc l)).length = x.cs.length := by rw [length_splice _ _ _ (by rw [bc_length]; omega)]
  have hfa : x.off + i + l.length ≤ all.length := by omega
  refine wp_copy hgd d s dT sT ho elem hu hsz x.g (x.off + i) dLen dCap A sLen sCap hd hs all t hb l hA hn hfa fun w' hb' _ ho' => h w' ?_
  refine hO.upd hro ho' hlen2 fun t2 all2 hb2 => ?_
  obtain ⟨rfl, rfl⟩ := hb2.inj hb
  refine ⟨_, hb', fun j hj => ?_, fun j hj => ?_⟩
  · rw [hlen2] at hj
    rw [splice_get _ _ _ (by rw [bc_length]; omega), splice_get _ _ _ (by rw [bc_length]; omega), bc_length]
    by_cases hj1 : j < i ∨ i + l.length ≤ j
    · rw [if_pos (by omega), if_pos hj1, hc j hj]
    · rw [if_neg (by omega), if_neg hj1]
      congr 1; omega
  · rw [splice_get _ _ _ (by rw [bc_length]; omega), bc_length, if_pos (by omega)]
end
theorem Own.cs_fw {L : List Fr} {w0 w : World} {g t : Nat} {cs : List Value} (h : Own L w0 w) (hx : fw g t cs ∈ L) : CsAt w (some ⟨g, 0, none⟩) cs := by
  have := CsAt.of_blk (h.ins _ hx).blk 0 cs.length
  simpa using this
/-- A result that is bytes, a row of the call's own. -/
def RetBs (R : List Fr) (w0 : World) (l : List UInt8) (e : Ending) (w' : World) : Prop :=
  ∃ A' c' F', e = .returned (.slice A' l.length c') ∧ Row 5 1 A' l.length c' (bc l) F' ∧ Own (F' ++ R) w0 w'
theorem RetBs.mk {R F : List Fr} {w0 w : World} {l l' : List UInt8} {A : Option Addr} {c n : Nat} (hn : n = l.length) (hl : l' = l) (hr : Row 5 1 A n c (bc l') F) (hO : Own (F ++ R) w0 w) : RetBs R w0 l (.returned (.slice A n c)) w := by
  subst hn; subst hl; exact ⟨A, c, F, rfl, hr, hO⟩
/-- The same, what would be a rule of the walk hidden. -/
def RetH (R : List Fr) (w0 : World) (l : List UInt8) (e : Ending) (w' : World) : Prop :=
  ∃ A' c' F' n, Hid (n = l.length) ∧ e = .returned (.slice A' n c') ∧ Hid (Row 5 1 A' n c' (bc l) F') ∧ Hid (Own (F' ++ R) w0 w')
theorem RetBs.h {R : List Fr} {w0 w : World} {l : List UInt8} {e : Ending} (h : RetBs R w0 l e w) : RetH R w0 l e w := by
  obtain ⟨A, c, F, he, hr, hO⟩ := h
  exact ⟨A, c, F, _, hid rfl, he, hid hr, hid hO⟩
/-- Lists of fragments are the same but for their order. -/
theorem perm_of {L L' : List Fr} (h : ∀ (_i : BEq Fr) (_ : LawfulBEq Fr) (x : Fr), L.count x = L'.count x) : L.Perm L' := by
  classical
  let _ : DecidableEq Fr := fun a b => Classical.propDecidable (a = b)
  exact List.perm_iff_count.2 fun x => h _ inferInstance x
end Go.Proofs.YtloflmcgbbbnjaaDoor
namespace Go.Proofs.YtloflmcgbbbnjaaDoor
open Go.RowKit Plain Go.ChangeShapes Go.WideShapes Go.ChangeAt

structure Pr where
  ka : Option Addr
  kc : Nat
  k : List UInt8
  va : Option Addr
  vc : Nat
  v : List UInt8
def Pr.cells (r : Pr) : List Value := [.slice r.ka r.k.length r.kc, .slice r.va r.v.length r.vc]
theorem Pr.cells_length (r : Pr) : r.cells.length = 2 := rfl
structure Pr.Ok (w : World) (r : Pr) : Prop where
  hk : BsAt w r.ka r.k
  hv : BsAt w r.va r.v
  hkc : r.k.length ≤ r.kc
  hvc : r.v.length ≤ r.vc
  hkm : r.kc ≤ maxLen
  hvm : r.vc ≤ maxLen
theorem Pr.Ok.keep0 {w w' : World} {r : Pr} (h : Pr.Ok w r) (hb : Only [] w w') : Pr.Ok w' r := ⟨h.hk.keep0 hb, h.hv.keep0 hb, h.hkc, h.hvc, h.hkm, h.hvm⟩
/-- A row of such records. -/
structure Prs (w : World) (A : Option Addr) (l : List Pr) : Prop where
  row : CsAt w A (l.flatMap Pr.cells)
  ok : ∀ r ∈ l, r.Ok w
theorem Prs.keep0 {w w' : World} {A : Option Addr} {l : List Pr} (h : Prs w A l) (hb : Only [] w w') : Prs w' A l := ⟨h.row.keep0 hb, fun r hr => (h.ok r hr).keep0 hb⟩
theorem Prs.at_ {w : World} {A : Option Addr} {l : List Pr} (h : Prs w A l) {i : Nat} {r : Pr} (hr : l[i]? = some r) :
    ∃ g o, A = some ⟨g, o, none⟩ ∧ w.cell? ⟨g, o + i * 2, none⟩ = some (.slice r.ka r.k.length r.kc) ∧ w.cell? ⟨g, o + i * 2 + 1, none⟩ = some (.slice r.va r.v.length r.vc) := by
  obtain ⟨g, o, e, hc⟩ := CsAt.at_row Pr.cells 2 Pr.cells_length (by omega) h.row hr
  exact ⟨g, o, e, hc 0 (by omega), hc 1 (by omega)⟩
theorem pr_one {l : List Pr} : ∀ u ∈ l.flatMap Pr.cells, u.oneCell' = true := by
  intro u hu
  obtain ⟨r, _, hr⟩ := List.mem_flatMap.1 hu
  simp [Pr.cells] at hr
  rcases hr with rfl | rfl <;> rfl

set_option maxRecDepth 100000 in
theorem open_pr {H : Type} {enc : TypeId × Value → H} {W : World} {base : Nat} {spare : Nat → Bool} {held : Bool} {n : Nat} {c : List Value} {y : DataW H × List MemPlace}
    (h : DataW.trod enc Tryd.prog W base spare held n 36 c = some y) : ∃ r : Pr, c = r.cells ∧ r.Ok W := by
  obtain ⟨xs, k, _, _, hl, hlen, hf⟩ := DataW.trod_struct Tryd.underlying36 h
  rw [show Tryd.prog.cellsOf 36 = 2 by kernel_rfl] at hl
  match c, hl, xs, hlen with
  | [c1, c2], _, [y1, y2], _ =>
    have u1 := hf 0 _ rfl
    have u2 := hf 1 _ rfl
    rw [show Tryd.prog.cellsOf _ = 1 by kernel_rfl] at u1 u2
    simp at u1 u2
    obtain ⟨A, l, cc, e1, h1, h2, h3⟩ := open_bytes_f Tryd.underlying25 Tryd.underlying5 (by kernel_rfl) u1
    obtain ⟨B, m, cd, e2, h4, h5, h6⟩ := open_bytes_f Tryd.underlying25 Tryd.underlying5 (by kernel_rfl) u2
    simp at e1 e2
    subst e1; subst e2
    exact ⟨⟨A, cc, l, B, cd, m⟩, rfl, ⟨h3, h6, h1, h4, h2, h5⟩⟩
theorem open_prs {H : Type} {enc : TypeId × Value → H} {W : World} {base : Nat} {spare : Nat → Bool} {held : Bool} {a : Option Addr} {len cap : Nat} {d : DataW H} {ps : List MemPlace}
    (h : DataW.Trod enc Tryd.prog W base spare held 22 (.slice a len cap) d ps) : ∃ l : List Pr, len = l.length ∧ l.length ≤ cap ∧ cap ≤ maxLen ∧ Prs W a l := by
  obtain ⟨fuel, hf⟩ := h
  obtain ⟨A, l, c, e, h1, h2, h3, h4⟩ := open_rows Pr.cells (fun r => r.Ok W) 2 Tryd.underlying22 (by kernel_rfl) Pr.cells_length (by omega) (fun n c y h => open_pr h) hf
  simp [Value.cells] at e
  obtain ⟨rfl, rfl, rfl⟩ := e
  exact ⟨l, rfl, h1, h2, ⟨h3, h4⟩⟩

/-! ### bounds, weight -/
def fits6 (l : List Pr) : Bool := l.all fun r => decide (r.k.length ≤ 2147483647) && decide (r.v.length ≤ 2147483647)

set_option maxHeartbeats 800000 in
theorem fits7_any (r : Pr) (w : World) :
    Calls Tryd.prog 34 #[.agg #[.slice r.ka r.k.length r.kc, .slice r.va r.v.length r.vc]] w
      fun e w' => e = .returned (.bool (decide (r.k.length ≤ 2147483647) && decide (r.v.length ≤ 2147483647))) ∧ Only [] w w' := by
  obtain ⟨ka, kc, k, va, vc, v⟩ := r
  simp only
  go_enter Tryd.func34, Tryd.ntmps34
  by_cases h1 : k.length ≤ 2147483647
  · have d1 : decide (2147483647 < (k.length : Int)) = false := decide_eq_false (by omega)
    have d1' : decide (2147483647 < k.length) = false := decide_eq_false (by omega)
    by_cases h2 : v.length ≤ 2147483647
    · have d2 : decide (2147483647 < (v.length : Int)) = false := decide_eq_false (by omega)
      have d2' : decide (2147483647 < v.length) = false := decide_eq_false (by omega)
      have HR := hid (show (true : Bool) = (decide (k.length ≤ 2147483647) && decide (v.length ≤ 2147483647)) by simp [h1, h2])
      clear h1 h2
      go_wp2
      go_ret
      exact ⟨ret_bool HR.out, (Only.refl _ _).alloc _⟩
    · have d2 : decide (2147483647 < (v.length : Int)) = true := decide_eq_true (by omega)
      have d2' : decide (2147483647 < v.length) = true := decide_eq_true (by omega)
      have HR := hid (show (false : Bool) = (decide (k.length ≤ 2147483647) && decide (v.length ≤ 2147483647)) by simp [h2])
      clear h1 h2
      go_wp2
      go_ret
      exact ⟨ret_bool HR.out, (Only.refl _ _).alloc _⟩
  · have d1 : decide (2147483647 < (k.length : Int)) = true := decide_eq_true (by omega)
    have d1' : decide (2147483647 < k.length) = true := decide_eq_true (by omega)
    have HR := hid (show (false : Bool) = (decide (k.length ≤ 2147483647) && decide (v.length ≤ 2147483647)) by simp [h1])
    clear h1
    go_wp2
    go_ret
    exact ⟨ret_bool HR.out, (Only.refl _ _).alloc _⟩

set_option maxHeartbeats 800000 in
theorem fits6_in (A : Option Addr) (c : Nat) (l : List Pr) (w : World) (h : Prs w A l) (hl : l.length ≤ 2147483647) :
    Calls Tryd.prog 10 #[.slice A l.length c] w fun e w' => e = .returned (.bool (fits6 l)) ∧ Only [] w w' := by
  have d0 : decide (2147483647 < (l.length : Int)) = false := decide_eq_false (by omega)
  have d0' : decide (2147483647 < l.length) = false := decide_eq_false (by omega)
  go_enter Tryd.func10, Tryd.ntmps10
  go_wp2
  go_loopw [10] (fun i wr => ∃ k : Nat, i = .int .i64 k ∧ k ≤ l.length ∧ fits6 l = fits6 (l.drop k) ∧ Only [] w wr) (fun i _ => l.length - (intOf i).toNat)
  case atStart => exact ⟨0, rfl, Nat.zero_le _, rfl, Only.refl _ _⟩
  case round =>
    obtain ⟨k, rfl, hk, hx, ho⟩ := hrel
    have HX := hid hx
    clear hx
    by_cases h4 : k < l.length
    · have h4' : (k : Int) < (l.length : Int) := by omega
      have hr : l[k]? = some l[k] := List.getElem?_eq_getElem h4
      have hd : fits6 (l.drop k) = ((decide (l[k].k.length ≤ 2147483647) && decide (l[k].v.length ≤ 2147483647)) && fits6 (l.drop (k + 1))) := by
        rw [← List.getElem_cons_drop h4]; simp only [fits6, List.all_cons]
      have HD := hid hd
      clear hd
      generalize l[k] = r at hr HD
      obtain ⟨g, o, rfl, c1, c2⟩ := (h.keep0 ho).at_ hr
      cases hb : (decide (r.k.length ≤ 2147483647) && decide (r.v.length ≤ 2147483647)) with
      | true =>
        have HB := hid hb
        clear hb
        go_wp2_with (go_at_call 34; refine (fits7_any r _).mono ?_; rintro e w4 ⟨rfl, ho4⟩; rw [HB.out])
        exact ⟨⟨k + 1, rfl, h4, by rw [HX.out, HD.out, HB.out, Bool.true_and], ((ho.alloc _).new ho4)⟩, by simp [intOf]; omega⟩
      | false =>
        have HB := hid hb
        clear hb
        go_wp2_with (go_at_call 34; refine (fits7_any r _).mono ?_; rintro e w4 ⟨rfl, ho4⟩; rw [HB.out])
        go_ret
        exact ⟨ret_bool (by rw [HX.out, HD.out, HB.out, Bool.false_and]), ((ho.alloc _).new ho4)⟩
    · have h4' : ¬ (k : Int) < (l.length : Int) := by omega
      have HR := hid (show (true : Bool) = fits6 l by rw [HX.out, List.drop_eq_nil_of_le (by omega)]; rfl)
      clear HX
      go_wp2
      go_ret
      exact ⟨ret_bool HR.out, ho⟩
def okP (l : List Pr) : Bool := decide (l.length ≤ 2147483647) && fits6 l
set_option maxHeartbeats 800000 in
theorem fits6_any (A : Option Addr) (c : Nat) (l : List Pr) (w : World) (h : Prs w A l) :
    Calls Tryd.prog 10 #[.slice A l.length c] w fun e w' => e = .returned (.bool (okP l)) ∧ Only [] w w' := by
  unfold okP
  by_cases hl : l.length ≤ 2147483647
  · simpa [hl] using fits6_in A c l w h hl
  · have d0 : decide (2147483647 < (l.length : Int)) = true := decide_eq_true (by omega)
    have d0' : decide (2147483647 < l.length) = true := decide_eq_true (by omega)
    have HR := hid (show (false : Bool) = (decide (l.length ≤ 2147483647) && fits6 l) by simp [hl])
    clear hl
    go_enter Tryd.func10, Tryd.ntmps10
    go_wp2
    go_ret
    exact ⟨ret_bool HR.out, Only.refl _ _⟩

def wgt (l : List Pr) : Nat := (l.map fun r => r.k.length + r.v.length + 1).sum
theorem wgt_bound {M : Nat} : ∀ {l : List Pr}, (∀ r ∈ l, r.k.length ≤ M ∧ r.v.length ≤ M) → wgt l ≤ l.length * (2 * M + 1)
  | [], _ => by simp [wgt]
  | r :: l, h => by
    have h1 := h r (by simp)
    have h2 := wgt_bound (l := l) fun r hr => h r (by simp [hr])
    simp only [wgt, List.map_cons, List.sum_cons, List.length_cons, Nat.add_mul, Nat.one_mul] at h2 ⊢
    omega
theorem fits6_mem {l : List Pr} (h : fits6 l = true) : ∀ r ∈ l, r.k.length ≤ 2147483647 ∧ r.v.length ≤ 2147483647 := by
  simpa [fits6] using h
theorem okP_len {l : List Pr} (h : okP l = true) : l.length ≤ 2147483647 ∧ wgt l ≤ 9223372036854775807 ∧ ∀ r ∈ l, r.k.length ≤ 2147483647 ∧ r.v.length ≤ 2147483647 := by
  simp only [okP, Bool.and_eq_true, decide_eq_true_eq] at h
  have := wgt_bound (fits6_mem h.2)
  refine ⟨h.1, Nat.le_trans this ?_, fits6_mem h.2⟩
  have : l.length * (2 * 2147483647 + 1) ≤ 2147483647 * (2 * 2147483647 + 1) := Nat.mul_le_mul_right _ h.1
  omega
theorem wgt_drop {l : List Pr} {k : Nat} (h : k < l.length) : wgt (l.drop k) = (l[k].k.length + l[k].v.length + 1) + wgt (l.drop (k + 1)) := by
  rw [← List.getElem_cons_drop h]; simp only [wgt, List.map_cons, List.sum_cons]
theorem wgt_len (l : List Pr) : l.length ≤ wgt l := by
  induction l with
  | nil => simp
  | cons r l ih => simp only [wgt, List.map_cons, List.sum_cons, List.length_cons] at ih ⊢; omega
theorem wgt_mem {l : List Pr} {r : Pr} (h : r ∈ l) : r.k.length + r.v.length + 1 ≤ wgt l := by
  induction l with
  | nil => cases h
  | cons x l ih =>
    simp only [wgt, List.map_cons, List.sum_cons] at ih ⊢
    rcases List.mem_cons.1 h with rfl | h
    · omega
    · have := ih h; omega
theorem i64_id63 {x : Int} (h0 : -9223372036854775808 ≤ x) (h1 : x ≤ 9223372036854775807) : IntKind.i64.wrap x = x := by
  simp [IntKind.wrap, IntKind.bits, IntKind.signed]; omega
set_option maxHeartbeats 800000 in
theorem few_any (A : Option Addr) (c : Nat) (l : List Pr) (w : World) (h : Prs w A l) (hb : wgt l ≤ 9223372036854775807) (hl : l.length ≤ 2147483647) :
    Calls Tryd.prog 16 #[.slice A l.length c] w fun e w' => e = .returned (.bool (decide (wgt l ≤ 1048576))) ∧ Only [] w w' := by
  go_enter Tryd.func16, Tryd.ntmps16
  go_wp2
  go_loopw [8, 3] (fun i s wr => ∃ k n : Nat, i = .int .i64 k ∧ s = .int .i64 n ∧ k ≤ l.length ∧ wgt l = n + wgt (l.drop k) ∧ Only [] w wr) (fun i _ _ => l.length - (intOf i).toNat)
  case atStart => exact ⟨0, 0, rfl, rfl, Nat.zero_le _, by simp, Only.refl _ _⟩
  case round =>
    obtain ⟨k, n, rfl, rfl, hk, hx, ho⟩ := hrel
    by_cases h4 : k < l.length
    · have h4' : (k : Int) < (l.length : Int) := by omega
      have hr : l[k]? = some l[k] := List.getElem?_eq_getElem h4
      have hd := wgt_drop h4
      generalize l[k] = r at hr hd
      obtain ⟨g, o, rfl, c1, c2⟩ := (h.keep0 ho).at_ hr
      have e1 : IntKind.i64.wrap ((r.k.length : Int) + (r.v.length : Int)) = (r.k.length : Int) + (r.v.length : Int) := i64_id63 (by omega) (by omega)
      have e2 : IntKind.i64.wrap ((r.k.length : Int) + (r.v.length : Int) + 1) = (r.k.length : Int) + (r.v.length : Int) + 1 := i64_id63 (by omega) (by omega)
      have e3 : IntKind.i64.wrap ((n : Int) + ((r.k.length : Int) + (r.v.length : Int) + 1)) = (n : Int) + ((r.k.length : Int) + (r.v.length : Int) + 1) := i64_id63 (by omega) (by omega)
      have HD := hid (show wgt l = (n + (r.k.length + r.v.length + 1)) + wgt (l.drop (k + 1)) by omega)
      clear hd hx hb
      go_wp2
      exact ⟨⟨k + 1, n + (r.k.length + r.v.length + 1), rfl, by simp, h4, HD.out, ho.alloc _⟩, by simp [intOf]; omega⟩
    · have h4' : ¬ (k : Int) < (l.length : Int) := by omega
      have HR := hid (show decide ((n : Int) ≤ 1048576) = decide (wgt l ≤ 1048576) by rw [hx, List.drop_eq_nil_of_le (by omega)]; simp [wgt]; omega)
      clear hx hb
      go_wp2
      go_ret
      exact ⟨ret_bool HR.out, ho⟩
end Go.Proofs.YtloflmcgbbbnjaaDoor
namespace Go.Proofs.YtloflmcgbbbnjaaDoor
theorem Tryd.info_u8 : (Tryd.prog.info? 5).map (fun i => (i.zero, i.size, i.bytes)) = some (some (.int .u8 0), 1, 1) := by kernel_rfl
theorem Tryd.size_u8 : (Tryd.prog.info? 5).map (·.size) = some 1 := by kernel_rfl
end Go.Proofs.YtloflmcgbbbnjaaDoor
namespace Go.Proofs.YtloflmcgbbbnjaaDoor
open Go.RowKit Plain

set_option maxHeartbeats 400000 in
theorem compare_any (A B : Option Addr) (ca cb : Nat) (a b : List UInt8) (w : World) (ha : BsAt w A a) (hb : BsAt w B b) (la : a.length ≤ 140737488351232) (lb : b.length ≤ 140737488351232) :
    Calls Tryd.prog 41 #[.slice A a.length ca, .slice B b.length cb] w fun e w' => e = .returned (.int .i64 (cmpI a b)) ∧ Dr w w' := by
  go_enter Tryd.func41, Tryd.ntmps41
  go_wp2
  go_loopw [5] (fun i wr => ∃ k : Nat, i = .int .i64 k ∧ k ≤ shared a b ∧ Dr w wr) (fun i _ => a.length - (intOf i).toNat)
  case atStart => exact ⟨0, rfl, Nat.zero_le _, Dr.refl _⟩
  case round =>
    obtain ⟨k, rfl, hk, ⟨n, rfl⟩⟩ := hrel
    have hs := shared_le a b
    by_cases h1 : k < a.length
    · by_cases h2 : k < b.length
      · obtain ⟨g, o, rfl, hc⟩ := ha k h1
        obtain ⟨g', o', rfl, hc'⟩ := hb k h2
        have t1 : decide ((k : Int) < (a.length : Int)) = true := by simp; omega
        have t2 : decide ((k : Int) < (b.length : Int)) = true := by simp; omega
        by_cases e : at_ a k = at_ b k
        · have e1 : bz a k = bz b k := bz_eq.2 e
          have hk' := shared_step hk h1 h2 e
          go_wp2
          repeat (go_quiet (fail); try go_wp2)
          go_roundw
          case rel => exact ⟨k + 1, by go_num, hk', by repeat (first | exact Dr.refl _ | apply Dr.step)⟩
          case measure => simp [intOf]; omega
        · have hk' := shared_stop hk e
          have hv := cmpI_at k hk' h1 h2
          have h8 := bz_lo a k; have h9 := bz_lo b k; have h10 := bz_hi a k; have h11 := bz_hi b k
          have e2 : (bz a k != bz b k) = true := by rw [bne_iff_ne]; exact fun h => e (bz_eq.1 h)
          clear hk' e
          have HV := hid hv
          clear hv
          go_wp2
          repeat (go_quiet (fail); try go_wp2)
          go_ret
          exact ⟨ret_int HV.out.symm, by repeat (first | exact Dr.refl _ | apply Dr.step)⟩
      · have hv := cmpI_end (a := a) (b := b) (by omega)
        have HV := hid hv
        clear hv
        go_wp2
        go_ret
        exact ⟨ret_int HV.out.symm, by repeat (first | exact Dr.refl _ | apply Dr.step)⟩
    · have hv := cmpI_end (a := a) (b := b) (by omega)
      have HV := hid hv
      clear hv
      go_wp2
      go_ret
      exact ⟨ret_int HV.out.symm, by repeat (first | exact Dr.refl _ | apply Dr.step)⟩
theorem compare_n (A B : Option Addr) (n m ca cb : Nat) (a b : List UInt8) (w : World) (ha : BsAt w A a) (hb : BsAt w B b) (la : a.length ≤ 140737488351232) (lb : b.length ≤ 140737488351232) (hn : n = a.length) (hm : m = b.length) :
    Calls Tryd.prog 41 #[.slice A n ca, .slice B m cb] w fun e w' => e = .returned (.int .i64 (cmpI a b)) ∧ Dr w w' := by
  subst hn; subst hm; exact compare_any A B ca cb a b w ha hb la lb

end Go.Proofs.YtloflmcgbbbnjaaDoor
namespace Go.Proofs.YtloflmcgbbbnjaaDoor
open Go.RowKit Plain

section
variable {P : Program} {ops : Array Oper} {o : Oper} {a : Act} {w0 w : World} {R : List Fr} {K : Act → World → Prop} {Q : Exit → Act → World → Prop} {E : Prop}
theorem run_append_any (t ty e : TypeId) (z : Value) (size bytes : Nat) (ht : P.underlying t = some (.slice e)) (hinfo : (P.info? e).map (fun i => (i.zero, i.size, i.bytes)) = some (some z, size, bytes)) (hzs : z.cells.size = size) (hsz : 0 < size)
    (v : Value) (n : Nat) (xs : List Value) (hown : w.ownsRow 0 e size v n xs) (A : Option Addr) (m c : Nat) (news : List Value) (hl : news.length = m * size) (hA : CsAt w A news)
    (h1 : ∀ u ∈ news, u.oneCell' = true) (h63 : n + m ≤ maxLen) (hbytes : (n + m) * bytes ≤ 140737488355328) :
    ∃ v' w', (Builtin.append_ #[t, t] ty #[v, .slice A m c]).run P w = .ok v' w' ∧ w'.ownsRow 0 e size v' (n + m) (xs ++ news) ∧ w.grownBy w' v.ownBlock ∧ (v' = .slice none 0 0 ↔ v = .slice none 0 0 ∧ m = 0) ∧ (v'.ownBlock = v.ownBlock ∨ v'.ownBlock = some w.heap.size) := by
  obtain ⟨i, hi, hzz⟩ := Option.map_eq_some_iff.1 hinfo
  simp only [Prod.mk.injEq] at hzz
  obtain ⟨hz, hss, hbt⟩ := hzz
  have key : ∀ ad, A = some ad → (∀ j u, news[j]? = some u → w.cell? (ad.add j) = some u) → ∃ v' w', (Builtin.append_ #[t, t] ty #[v, .slice A m c]).run P w = .ok v' w' ∧ w'.ownsRow 0 e size v' (n + m) (xs ++ news) ∧ w.grownBy w' v.ownBlock ∧ (v' = .slice none 0 0 ↔ v = .slice none 0 0 ∧ m = 0) ∧ (v'.ownBlock = v.ownBlock ∨ v'.ownBlock = some w.heap.size) := fun ad e2 hc => by
    subst e2
    exact run_append_own_at (P := P) w 0 t ty e i z size bytes ht hi hz hss hbt hzs hsz v n xs hown ad m c news hl hc h1 h63 hbytes (Nat.zero_le _)
  rcases Nat.eq_zero_or_pos news.length with h0 | h0
  · obtain rfl : news = [] := List.eq_nil_of_length_eq_zero h0
    rcases A with _ | ad
    · have hm : m = 0 := by
        rcases Nat.eq_zero_or_pos m with h | h
        · exact h
        · have := Nat.mul_pos h hsz; simp at hl; omega
      subst hm
      exact ⟨v, w, run_append_of_nil (P := P) (w := w) 0 t ty e i size ht hi v n xs hown c, by simpa using hown, World.grownBy.refl w _, by simp, .inl rfl⟩
    · exact key ad rfl (fun j u hj => by simp at hj)
  · obtain ⟨g, o', e2, _, hc⟩ := hA.addr h0
    refine key _ e2 fun j u hj => ?_
    have hjl := (List.getElem?_eq_some_iff.1 hj).1
    rw [add_none, hc j hjl, hj]

/-- append(s, src...) onto a row of the call's own. -/
theorem own_append_wp (s x : Operand) (t : TypeId) (ho : o.op = .call { callee := .builtin .append, args := #[s, x], argTypes := #[t, t] })
    (e : TypeId) (z : Value) (size bytes : Nat) (ht : P.underlying t = some (.slice e)) (hinfo : (P.info? e).map (fun i => (i.zero, i.size, i.bytes)) = some (some z, size, bytes)) (hzs : z.cells.size = size) (hsz : 0 < size)
    (A : Option Addr) (n c : Nat) (xs : List Value) (F : List Fr) (hs : a.eval s = .slice A n c) (hr : Row e size A n c xs F) (hO : Own (F ++ R) w0 w)
    (A2 : Option Addr) (m c2 : Nat) (news : List Value) (hx : a.eval x = .slice A2 m c2) (hl : news.length = m * size) (hA : CsAt w A2 news)
    (h1 : ∀ u ∈ news, u.oneCell' = true) (h63 : n + m ≤ maxLen) (hbytes : (n + m) * bytes ≤ 140737488355328)
    (h : ∀ A' c' F' w', Row e size A' (n + m) c' (xs ++ news) F' → Own (F' ++ R) w0 w' → (A' = none ↔ A = none ∧ m = 0) → K (a.put o.dst (.slice A' (n + m) c')) w') :
    o.wp P a w K Q := by
  obtain ⟨v', w', hrun, hown, hgr, hnil, hat⟩ := run_append_any (P := P) (w := w) t o.type e z size bytes ht hinfo hzs hsz (.slice A n c) n xs (hr.owns fun x hx => hO.ins x (List.mem_append_left _ hx)) A2 m c2 news hl hA h1 h63 hbytes
  unfold Oper.wp execOp
  simp only [ho, resolve, invoke, builtin, Sem.run_bind, Sem.run_pure, Result.andThen_ok, List.map_toArray, List.map_cons, List.map_nil, hs, hx, hrun]
  obtain ⟨A', c', F', rfl, hr', hb', hF, hdj⟩ := Row.of_owns hown
  refine h A' c' F' w' hr' ?_ ?_
  · have hFo := hr.block
    refine hO.swap hr.whole (Only.of_grown hgr fun k hk => by rw [hFo, hk]; simp) hb' (fun y hy => ?_) hdj
    have hy' : y.g ∈ F'.map (·.g) := List.mem_map.2 ⟨y, hy, rfl⟩
    rw [hF] at hy'
    rcases hat with e | e
    · rw [e, ← hFo] at hy'; exact .inl hy'
    · rw [e] at hy'; simp at hy'; exact .inr (by omega)
  · rw [hr'.none_iff, hnil, hr.none_iff]
theorem own_step_append (hgd : o.guard = none) (s x : Operand) (t : TypeId) (ho : o.op = .call { callee := .builtin .append, args := #[s, x], argTypes := #[t, t] })
    (e : TypeId) (z : Value) (size bytes : Nat) (ht : P.underlying t = some (.slice e)) (hinfo : (P.info? e).map (fun i => (i.zero, i.size, i.bytes)) = some (some z, size, bytes)) (hzs : z.cells.size = size) (hsz : 0 < size)
    (A : Option Addr) (n c : Nat) (xs : List Value) (F : List Fr) (hs : a.eval s = .slice A n c) (hr : Row e size A n c xs F) (hO : Own (F ++ R) w0 w)
    (A2 : Option Addr) (m c2 : Nat) (news : List Value) (hx : a.eval x = .slice A2 m c2) (hl : news.length = m * size) (hA : CsAt w A2 news)
    (h1 : ∀ u ∈ news, u.oneCell' = true) (h63 : n + m ≤ maxLen) (hbytes : (n + m) * bytes ≤ 140737488355328)
    (h : ∀ A' c' F' w', Row e size A' (n + m) c' (xs ++ news) F' → Own (F' ++ R) w0 w' → (A' = none ↔ A = none ∧ m = 0) → K (a.put o.dst (.slice A' (n + m) c')) w') :
    if Region.wanted o (yielded ops a.tmps) = true then Oper.wp P o a w K Q else E := by
  rw [if_pos (by simp [Region.wanted, hgd])]
  exact own_append_wp s x t ho e z size bytes ht hinfo hzs hsz A n c xs F hs hr hO A2 m c2 news hx hl hA h1 h63 hbytes h
end
end Go.Proofs.YtloflmcgbbbnjaaDoor
namespace Go.Proofs.YtloflmcgbbbnjaaDoor
open Go.RowKit Plain
set_option linter.all false

set_option maxHeartbeats 800000 in
theorem copied_own (A : Option Addr) (n c : Nat) (l : List UInt8) (R : List Fr) (w0 w : World) (h : BsAt w A l) (hO : Own R w0 w) (hn : n = l.length) (hl : l.length ≤ 140737488355328) :
    Calls Tryd.prog 35 #[.slice A n c] w (RetH R w0 l) := by
  subst hn
  go_enter Tryd.func35, Tryd.ntmps35
  go_wp2_with (at_builtin; refine own_append rfl (.tmp 3) (.tmp 4) 25 rfl 5 (.int .u8 0) 1 1 Tryd.underlying25 Tryd.info_u8 rfl (by decide) (some ⟨w.heap.size, 0, none⟩) 0 0 [] [fw w.heap.size 5 []] rfl ⟨by simp, .inr ⟨_, [], rfl, rfl, by omega, by simp [maxLen], by simp, by simp⟩⟩ (R := R) (hO.alloc 5 []) A l.length c (bc l) rfl (by simp [bc_length]) (h.alloc _).cs (bc_one l) (by simp [maxLen]; omega) (by omega) ?_; intro A2 c2 F2 w2 hr2 hO2 _)
  go_ret
  rw [Nat.zero_add] at hr2
  exact ⟨A2, c2, F2, _, hid rfl, by simp, hid (by simpa using hr2), hid hO2⟩

end Go.Proofs.YtloflmcgbbbnjaaDoor
namespace Go.Proofs.YtloflmcgbbbnjaaDoor
open Go.RowKit Plain

def ci64 (l : List Int) : List Value := l.map fun x => .int .i64 x
theorem ci64_length (l : List Int) : (ci64 l).length = l.length := by simp [ci64]
theorem emod_tmod (v n : Int) (hn : 0 < n) : v % n = if v.tmod n < 0 then v.tmod n + n else v.tmod n := by
  have h1 := Int.emod_nonneg v (show n ≠ 0 by omega)
  have h2 := Int.emod_lt_of_pos v hn
  have h3 := Int.emod_add_mul_ediv v n
  have h4 := Int.tmod_add_mul_tdiv v n
  rcases (show v < 0 ∨ 0 ≤ v by omega) with hv | hv
  · have h5 : v.tmod n = -((-v) % n) := by
      rw [← Int.tmod_eq_emod_of_nonneg (show 0 ≤ -v by omega), Int.neg_tmod, Int.neg_neg]
    have h6 := Int.emod_nonneg (-v) (show n ≠ 0 by omega)
    have h7 := Int.emod_lt_of_pos (-v) hn
    have h8 : (v + (-v) % n) % n = 0 := by
      rw [Int.add_emod, Int.emod_emod_of_dvd _ (Int.dvd_refl n), ← Int.add_emod]
      simp [Int.add_right_neg]
    split
    · rename_i hlt
      rw [h5] at hlt ⊢
      have h9 : v % n + (-v) % n = n := by
        have h10 : (v % n + (-v) % n) % n = 0 := by rw [← Int.add_emod]; simp [Int.add_right_neg]
        obtain ⟨q, hq⟩ := Int.dvd_of_emod_eq_zero h10
        have hq1 : q = 1 := by
          have hq0 : 0 < q := by
            rcases (show 0 < q ∨ q ≤ 0 by omega) with h | h
            · exact h
            · have := Int.mul_nonpos_of_nonneg_of_nonpos (show 0 ≤ n by omega) h; omega
          have hq2 : q < 2 := by
            rcases (show q < 2 ∨ 2 ≤ q by omega) with h | h
            · exact h
            · have := Int.mul_le_mul_of_nonneg_left h (show 0 ≤ n by omega); omega
          omega
        rw [hq, hq1]; omega
      omega
    · rename_i hlt
      rw [h5] at hlt ⊢
      have h9 : (-v) % n = 0 := by omega
      have h10 : v % n = 0 := by
        have := Int.dvd_of_emod_eq_zero h9
        exact Int.emod_eq_zero_of_dvd (by simpa using this)
      omega
  · rw [Int.tmod_eq_emod_of_nonneg hv, if_neg (by omega)]
theorem tmod_range (v n : Int) (hn : 0 < n) : -n ≤ v.tmod n ∧ v.tmod n < n := by
  have h := emod_tmod v n hn
  have h1 := Int.emod_nonneg v (show n ≠ 0 by omega)
  have h2 := Int.emod_lt_of_pos v hn
  split at h <;> omega

set_option maxHeartbeats 1600000 in
theorem of_any (b n a nc : Nat) (nA : Option Addr) (ns : List Int) (R : List Fr) (w0 w : World) (hO : Own (fw b 79 [.slice nA ns.length nc, .int .i64 a] :: R) w0 w) (hns : St R w0 fun w => CsAt w nA (ci64 ns))
    (hn : n ≤ 4611686018427387904) (ha : a ≤ 4611686018427387903) (hl : ns.length ≤ 140737488355328) :
    Calls Tryd.prog 39 #[.pointer (some ⟨b, 0, none⟩), .int .i64 n] w fun e w' => e = .returned (.int .i64 ((pick ns n a).1 : Int)) ∧ Own (fw b 79 [.slice nA ns.length nc, .int .i64 ((pick ns n a).2 : Int)] :: R) w0 w' := by
  have c0 : w.cell? ⟨b, 0, none⟩ = some (.slice nA ns.length nc) := hO.cell 0 rfl 0 rfl (by simp)
  have c1 : w.cell? ⟨b, 1, none⟩ = some (.int .i64 a) := hO.cell 0 rfl 1 rfl (by simp)
  have f0 : ∀ k, w.frozen? ⟨b, k, none⟩ = false := fun k => hO.frozen 0 rfl k
  have HO := hid hO
  clear hO
  by_cases h1 : ns.length = 0
  · have e1 : ((ns.length : Int) == 0) = true := by rw [h1]; rfl
    obtain rfl : ns = [] := List.eq_nil_of_length_eq_zero h1
    have HP := hid (pick_nil n a)
    clear h1
    go_enter Tryd.func39, Tryd.ntmps39
    go_wp2
    go_ret
    exact ⟨by rw [HP.out]; rfl, by rw [HP.out]; exact HO.out⟩
  · have e1 : ((ns.length : Int) == 0) = false := by simpa using h1
    by_cases h2 : n < 2
    · have e2 : decide ((n : Int) < 2) = true := decide_eq_true (by omega)
      have HP := hid (show pick ns n a = (0, a) by simp [pick, h2])
      clear h1
      go_enter Tryd.func39, Tryd.ntmps39
      go_wp2
      go_ret
      exact ⟨by rw [HP.out]; rfl, by rw [HP.out]; exact HO.out⟩
    · have e2 : decide ((n : Int) < 2) = false := decide_eq_false (by omega)
      have hlt : a % ns.length < ns.length := Nat.mod_lt _ (by omega)
      obtain ⟨i, hi⟩ : ∃ i, a % ns.length = i := ⟨_, rfl⟩
      rw [hi] at hlt
      have hcs := HO.out.st hns (by intro x hx; simp [hx])
      obtain ⟨g, o, rfl, hc⟩ := hcs i (by rw [ci64_length]; exact hlt)
      have hv : (ci64 ns)[i]? = some (.int .i64 (ns.getD i 0)) := by simp [ci64, List.getD_eq_getElem?_getD, List.getElem?_eq_getElem hlt]
      rw [hv] at hc
      have hp : pick ns n a = ((ns.getD i 0 % (n : Int)).toNat, a + 1) := by
        have : ¬ (ns = [] ∨ n < 2) := by
          rintro (h | h)
          · exact h1 (by simp [h])
          · omega
        simp only [pick, if_neg this, hi]
      have ht : ((a : Nat) : Int).tmod ((ns.length : Nat) : Int) = (i : Int) := by rw [Int.tmod_eq_emod_of_nonneg (by omega)]; omega
      have hem := emod_tmod (ns.getD i 0) n (by omega)
      have htr := tmod_range (ns.getD i 0) n (by omega)
      generalize ns.getD i 0 = v at hc hp hem htr
      obtain ⟨r, hr⟩ : ∃ r, v.tmod (n : Int) = r := ⟨_, rfl⟩
      rw [hr] at hem htr
      have hi2 : (i : Int) < (ns.length : Int) := by omega
      have w1 : IntKind.i64.wrap (i : Int) = i := i64_id (by omega) (by omega)
      have w2 : IntKind.i64.wrap r = r := i64_id (by omega) (by omega)
      have w3 : IntKind.i64.wrap ((a : Int) + 1) = (a : Int) + 1 := by simp [IntKind.wrap, IntKind.bits, IntKind.signed]; omega
      have w4 : ¬ (ns.length : Int) = 0 := by omega
      have w5 : ¬ (n : Int) = 0 := by omega
      have HP := hid hp
      have HE := hid hem
      clear hv hcs h1 hp hem hi
      have hfin : ∀ w', Own (fw b 79 [.slice (some ⟨g, o, none⟩) ns.length nc, .int .i64 (((a + 1 : Nat)) : Int)] :: R) w0 w' → Own (fw b 79 [.slice (some ⟨g, o, none⟩) ns.length nc, .int .i64 ((pick ns n a).2 : Int)] :: R) w0 w' := fun w' h => by rw [HP.out]; exact h
      have HF := hid hfin
      clear hfin
      by_cases h3 : r < 0
      · have e3 : decide (r < 0) = true := decide_eq_true h3
        have w6 : IntKind.i64.wrap (r + (n : Int)) = r + (n : Int) := i64_id (by omega) (by omega)
        go_enter Tryd.func39, Tryd.ntmps39
        go_wp2
        go_quiet (fail)
        go_wp2
        go_ret
        refine ⟨ret_int ?_, HF.out _ ?_⟩
        · rw [HP.out, HE.out, if_pos h3]; simp only; omega
        · exact (HO.out.drewN nq).set 1 rfl (by simp) _
      · have e3 : decide (r < 0) = false := decide_eq_false h3
        go_enter Tryd.func39, Tryd.ntmps39
        go_wp2
        go_quiet (fail)
        go_wp2
        go_ret
        refine ⟨ret_int ?_, HF.out _ ?_⟩
        · rw [HP.out, HE.out, if_neg (by omega)]; simp only; omega
        · exact (HO.out.drewN nq).set 1 rfl (by simp) _
theorem of_n (b n a nc : Nat) (x y : Int) (nA : Option Addr) (ns : List Int) (R : List Fr) (w0 w : World) (hx : x = (n : Int)) (hy : y = (a : Int)) (hO : Own (fw b 79 [.slice nA ns.length nc, .int .i64 y] :: R) w0 w) (hns : St R w0 fun w => CsAt w nA (ci64 ns))
    (hn : n ≤ 4611686018427387904) (ha : a ≤ 4611686018427387903) (hl : ns.length ≤ 140737488355328) :
    Calls Tryd.prog 39 #[.pointer (some ⟨b, 0, none⟩), .int .i64 x] w fun e w' => e = .returned (.int .i64 ((pick ns n a).1 : Int)) ∧ Own (fw b 79 [.slice nA ns.length nc, .int .i64 ((pick ns n a).2 : Int)] :: R) w0 w' := by
  subst hx; subst hy; exact of_any b n a nc nA ns R w0 w hO hns hn ha hl
end Go.Proofs.YtloflmcgbbbnjaaDoor
namespace Go.Proofs.YtloflmcgbbbnjaaDoor
open Go.RowKit Plain
set_option linter.all false

theorem Tryd.info_pair : (Tryd.prog.info? 38).map (fun i => (i.zero, i.size, i.bytes)) = some (some (.agg #[.slice none 0 0, .slice none 0 0]), 2, 48) := by kernel_rfl
theorem csAt_new (w : World) (cs : List Value) (t : TypeId) : CsAt (w.alloc (.cells cs.toArray t)) (some ⟨w.heap.size, 0, none⟩) cs := by
  have := CsAt.of_blk (Blk.new w t cs) 0 cs.length
  simpa using this
theorem csAt_new' {w : World} {g : Nat} (hg : w.heap.size = g) (cs : List Value) (t : TypeId) : CsAt (w.alloc (.cells cs.toArray t)) (some ⟨g, 0, none⟩) cs := hg ▸ csAt_new w cs t

def kvs (l : List Pr) : List KV := l.map fun r => (r.k, r.v)
theorem kvs_length (l : List Pr) : (kvs l).length = l.length := by simp [kvs]
theorem key_kvs {l : List Pr} {j : Nat} {r : Pr} (h : l[j]? = some r) : key (kvs l) j = r.k := by simp [key, kvs, List.getD_eq_getElem?_getD, h]
theorem val_kvs {l : List Pr} {j : Nat} {r : Pr} (h : l[j]? = some r) : val (kvs l) j = r.v := by simp [val, kvs, List.getD_eq_getElem?_getD, h]
theorem kvw_kvs (l : List Pr) : kvw (kvs l) = wgt l := by simp [kvw, kvs, wgt, Function.comp_def]

set_option maxHeartbeats 800000 in
theorem below_any (x : Int) (n : Nat) (w : World) (hn : 0 < n) (hn2 : n ≤ 4611686018427387904) (hx : -9223372036854775808 ≤ x ∧ x ≤ 9223372036854775807) :
    Calls Tryd.prog 12 #[.int .i64 x, .int .i64 n] w fun e w' => e = .returned (.int .i64 (x % (n : Int))) ∧ w = w' := by
  have hem := emod_tmod x n (by omega)
  have htr := tmod_range x n (by omega)
  have w5 : ¬ (n : Int) = 0 := by omega
  obtain ⟨r, hr⟩ : ∃ r, x.tmod (n : Int) = r := ⟨_, rfl⟩
  rw [hr] at hem htr
  have w2 : IntKind.i64.wrap r = r := i64_id (by omega) (by omega)
  have HE := hid hem
  clear hem
  by_cases h3 : r < 0
  · have e3 : decide (r < 0) = true := decide_eq_true h3
    have w6 : IntKind.i64.wrap (r + (n : Int)) = r + (n : Int) := i64_id (by omega) (by omega)
    go_enter Tryd.func12, Tryd.ntmps12
    go_wp2
    go_ret
    exact ⟨ret_int (by rw [HE.out, if_pos h3]), rfl⟩
  · have e3 : decide (r < 0) = false := decide_eq_false h3
    go_enter Tryd.func12, Tryd.ntmps12
    go_wp2
    go_ret
    exact ⟨ret_int (by rw [HE.out, if_neg (by omega)]), rfl⟩

/-- A result that is a row of pairs. -/
def RetP (R : List Fr) (w0 : World) (l : List Pr) (e : Ending) (w' : World) : Prop :=
  ∃ A' c' F', e = .returned (.slice A' l.length c') ∧ Hid (Row 38 2 A' l.length c' (l.flatMap Pr.cells) F') ∧ Hid (Own (F' ++ R) w0 w')
set_option maxHeartbeats 1600000 in
theorem pairs_own (A : Option Addr) (c : Nat) (l : List Pr) (R : List Fr) (w0 w : World) (hp : St R w0 fun w => Prs w A l) (hO : Own R w0 w) (hl : l.length ≤ 1099511627776) :
    Calls Tryd.prog 15 #[.slice A l.length c] w (RetP R w0 l) := by
  go_enter Tryd.func15, Tryd.ntmps15
  go_wp2
  go_loopw [3, 8] (fun v i wr => ∃ (k n : Nat) (A' : Option Addr) (c' : Nat) (F' : List Fr), i = .int .i64 k ∧ k ≤ l.length ∧ v = .slice A' n c' ∧ n = k ∧ Row 38 2 A' n c' ((l.take k).flatMap Pr.cells) F' ∧ Own (F' ++ R) w0 wr) (fun _ i _ => l.length - (intOf i).toNat)
  case atStart => exact ⟨0, 0, none, 0, [], rfl, Nat.zero_le _, rfl, rfl, Row.nil _ _, hO⟩
  case round =>
    obtain ⟨k, n, A', c', F', rfl, hk, rfl, hn, hr, hO1⟩ := hrel
    have HN := hid hn
    have HR := hid hr
    have HO := hid hO1
    have hnk : n ≤ 1099511627776 := by omega
    clear hn hr hO1 hO
    by_cases h4 : k < l.length
    · have h4' : (k : Int) < (l.length : Int) := by omega
      have hx : l[k]? = some l[k] := List.getElem?_eq_getElem h4
      have htk : (l.take (k + 1)).flatMap Pr.cells = (l.take k).flatMap Pr.cells ++ l[k].cells := by rw [List.take_succ_eq_append_getElem h4, List.flatMap_append]; simp
      have hps := HO.out.stR hp
      generalize l[k] = r at hx htk
      have HT := hid htk
      obtain ⟨g, o, rfl, p0, p1⟩ := hps.at_ hx
      clear htk hps hx
      go_wp2_with (at_builtin; refine own_append rfl (.tmp 12) (.tmp 14) 28 rfl 38 (.agg #[.slice none 0 0, .slice none 0 0]) 2 48 Tryd.underlying28 Tryd.info_pair rfl (by decide) A' n c' _ F' rfl HR.out (R := R) ((HO.out.skip _).skip _) (some ⟨wr.heap.size + 1, 0, none⟩) 1 1 r.cells rfl rfl (csAt_new' (by simp) r.cells _) (by simp [Pr.cells, Value.oneCell']) (by simp [maxLen]; omega) (by omega) ?_; intro A2 c2 F2 w2 hr2 hO2 _; have HR2 := hid hr2; have HO2 := hid hO2; clear hr2 hO2)
      exact ⟨⟨k + 1, n + 1, A2, c2, F2, rfl, by omega, rfl, by rw [HN.out], by rw [HT.out]; exact HR2.out, HO2.out⟩, by simp [intOf]; omega⟩
    · have h4' : ¬ (k : Int) < (l.length : Int) := by omega
      have hkl : k = l.length := by omega
      have HK := hid hkl
      clear hkl
      go_wp2
      go_ret
      have hr := HR.out
      rw [HK.out, List.take_length] at hr
      have hn2 : n = l.length := by rw [HN.out, HK.out]
      subst hn2
      exact ⟨A', c', F', rfl, hid hr, HO⟩

def ordB (l : List KV) : Bool := (List.range (l.length - 1)).all fun i => decide (cmpI (key l i) (key l (i + 1)) < 0)
theorem ordB_iff {l : List KV} : ordB l = true ↔ ∀ i, i + 1 < l.length → cmpI (key l i) (key l (i + 1)) < 0 := by
  simp only [ordB, List.all_eq_true, List.mem_range, decide_eq_true_eq]
  exact ⟨fun h i hi => h i (by omega), fun h i hi => h i (by omega)⟩
set_option maxHeartbeats 1600000 in
theorem ordered_any (A : Option Addr) (c : Nat) (l : List Pr) (w : World) (hp : Prs w A l) (hl : l.length ≤ 1099511627776) (hk : ∀ r ∈ l, r.k.length ≤ 140737488351232) :
    Calls Tryd.prog 17 #[.slice A l.length c] w fun e w' => e = .returned (.bool (ordB (kvs l))) ∧ Dr w w' := by
  go_enter Tryd.func17, Tryd.ntmps17
  go_wp2
  go_loopw [3] (fun i wr => ∃ k : Nat, i = .int .i64 ((k : Int) + 1) ∧ k ≤ l.length ∧ (∀ j, j < k → j + 1 < l.length → cmpI (key (kvs l) j) (key (kvs l) (j + 1)) < 0) ∧ Dr w wr) (fun i _ => l.length + 1 - (intOf i).toNat)
  case atStart => exact ⟨0, rfl, Nat.zero_le _, fun j hj => by omega, Dr.refl _⟩
  case round =>
    obtain ⟨k, rfl, hk1, hall, ⟨nd, rfl⟩⟩ := hrel
    have HA := hid hall
    clear hall
    by_cases h4 : k + 1 < l.length
    · have h4' : (k : Int) + 1 < (l.length : Int) := by omega
      have hx : l[k]? = some l[k] := List.getElem?_eq_getElem (by omega)
      have hy : l[k + 1]? = some l[k + 1] := List.getElem?_eq_getElem h4
      have kx := key_kvs hx
      have ky := key_kvs hy
      generalize l[k] = r at hx kx
      generalize l[k + 1] = q at hy ky
      obtain ⟨g, o, rfl, p0, p1⟩ := hp.at_ hx
      obtain ⟨g', o', e9, q0, q1⟩ := hp.at_ hy
      injection e9 with e9
      injection e9 with e9a e9b
      subst e9a; subst e9b
      have hbr := (hp.ok r (List.mem_of_getElem? hx)).hk
      have hbq := (hp.ok q (List.mem_of_getElem? hy)).hk
      have lr := hk r (List.mem_of_getElem? hx)
      have lq := hk q (List.mem_of_getElem? hy)
      have t1 : ((k : Int) + 1).toNat = k + 1 := by omega
      have t2 : IntKind.i64.wrap ((k : Int) + 1 - 1) = (k : Int) := by rw [i64_id (by omega) (by omega)]; omega
      have t3 : IntKind.i64.wrap ((k : Int) + 1 + 1) = (k : Int) + 1 + 1 := i64_id (by omega) (by omega)
      have t4 : (k : Int) < (l.length : Int) := by omega
      have t6 : IntKind.i64.wrap (k : Int) = (k : Int) := i64_id (by omega) (by omega)
      have t5 : 0 ≤ (k : Int) + 1 := by omega
      have KX := hid kx
      have KY := hid ky
      have hkk : (k : Int) + 1 - 1 = k := by omega
      clear kx ky hx hy p1 q1
      cases hc : decide (0 ≤ cmpI r.k q.k) with
      | true =>
        have HC := hid hc
        go_wp2
        go_quiet ((go_at_call 41; exact Dr.quiet_add (compare_any r.ka q.ka r.kc q.kc r.k q.k _ (hbr.drewN _) (hbq.drewN _) lr lq)))
        go_wp2
        go_ret
        refine ⟨ret_bool ?_, ((Dr.refl w).step nd).step nq⟩
        symm
        rw [Bool.eq_false_iff]
        intro hb
        have := ordB_iff.1 hb k (by rw [kvs_length]; exact h4)
        rw [KX.out, KY.out] at this
        have := HC.out
        simp at this
        omega
      | false =>
        have HC := hid hc
        go_wp2
        go_quiet ((go_at_call 41; exact Dr.quiet_add (compare_any r.ka q.ka r.kc q.kc r.k q.k _ (hbr.drewN _) (hbq.drewN _) lr lq)))
        go_wp2
        refine ⟨⟨k + 1, by simp, by omega, fun j hj hj2 => ?_, ⟨_, rfl⟩⟩, by simp [intOf]; omega⟩
        rcases Nat.lt_or_ge j k with h | h
        · exact HA.out j h hj2
        · obtain rfl : j = k := by omega
          rw [KX.out, KY.out]
          have := HC.out
          simp at this
          omega
    · have h4' : ¬ (k : Int) + 1 < (l.length : Int) := by omega
      go_wp2
      go_ret
      refine ⟨ret_bool ?_, ⟨_, rfl⟩⟩
      symm
      rw [ordB_iff]
      intro i hi
      rw [kvs_length] at hi
      exact HA.out i (by omega) hi
end Go.Proofs.YtloflmcgbbbnjaaDoor
namespace Go.Proofs.YtloflmcgbbbnjaaDoor
open Go.RowKit Plain
set_option linter.all false

theorem BsAt.get {w : World} {g o : Nat} {l : List UInt8} (h : BsAt w (some ⟨g, o, none⟩) l) {i : Nat} (hi : i < l.length) : w.cell? ⟨g, o + i, none⟩ = some (.int .u8 (bz l i)) := by
  obtain ⟨g', o', e, hc⟩ := h i hi
  injection e with e
  injection e with e1 e2
  subst e1; subst e2
  exact hc
theorem csAt_all (w : World) (cs : List Value) (t : TypeId) : CsAt (w.alloc (.cells cs.toArray t)) (some ⟨w.heap.size, 0, none⟩) cs := by
  have := CsAt.of_blk (Blk.new w t cs) 0 cs.length
  simpa using this
theorem csAt_all' {w : World} {g : Nat} (hg : w.heap.size = g) (cs : List Value) (t : TypeId) : CsAt (w.alloc (.cells cs.toArray t)) (some ⟨g, 0, none⟩) cs := hg ▸ csAt_all w cs t
theorem CsAt.drew {w : World} {A : Option Addr} {cs : List Value} (h : CsAt w A cs) : CsAt w.drew A cs := h
end Go.Proofs.YtloflmcgbbbnjaaDoor
