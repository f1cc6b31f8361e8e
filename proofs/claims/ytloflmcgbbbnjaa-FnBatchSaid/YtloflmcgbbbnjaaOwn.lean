/-
  WHAT A CALL OWNS: cells of its own, all in blocks newer than a world w0 of which nothing has turned ('Own'); what is read under it, whatever else turns ('St', 'Rd'); rows of its own ('Row'); the laws of make, copy, append over them.
-/
import Derived.Test.YtloflmcgbbbnjaaMem
import Derived.Laws.Tables
namespace Go.Proofs.Ytloflmcgbbbnjaa
open Go.RowKit Plain

/-- Cells of one block, from a place on; 'whole': all of the block's, of this element type. -/
structure Fr where
  g : Nat
  off : Nat
  cs : List Value
  whole : Option TypeId
abbrev fw (g t : Nat) (cs : List Value) : Fr := ⟨g, 0, cs, some t⟩
abbrev fp (g off : Nat) (cs : List Value) : Fr := ⟨g, off, cs, none⟩
namespace Fr
def In (x : Fr) (w : World) : Prop :=
  (∀ t, x.whole = some t → x.off = 0 ∧ Blk w x.g t x.cs) ∧ ∃ t all, Blk w x.g t all ∧ ∀ i, i < x.cs.length → all[x.off + i]? = x.cs[i]?
def dj (x y : Fr) : Prop := x.g ≠ y.g ∨ (x.whole = none ∧ y.whole = none ∧ (x.off + x.cs.length ≤ y.off ∨ y.off + y.cs.length ≤ x.off))
theorem dj_symm {x y : Fr} (h : x.dj y) : y.dj x := by
  rcases h with h | ⟨h1, h2, h3⟩
  · exact .inl (Ne.symm h)
  · exact .inr ⟨h2, h1, h3.symm⟩
variable {x : Fr} {w w' : World} {g t off : Nat} {cs : List Value}
theorem in_fw (h : Blk w g t cs) : (fw g t cs).In w := ⟨fun t' e => by simp at e; subst e; exact ⟨rfl, h⟩, t, cs, h, fun i _ => by simp⟩
theorem In.blk (h : (fw g t cs).In w) : Blk w g t cs := (h.1 t rfl).2
theorem In.lt (h : x.In w) : x.g < w.heap.size := by obtain ⟨_, t, all, hb, _⟩ := h; exact hb.lt
theorem In.cell (h : x.In w) {i k : Nat} (hk : k = x.off + i) (hi : i < x.cs.length) : w.cell? ⟨x.g, k, none⟩ = x.cs[i]? := by
  obtain ⟨_, t, all, hb, hc⟩ := h
  rw [hb.cell, hk, hc i hi]
theorem In.frozen (h : x.In w) (k : Nat) : w.frozen? ⟨x.g, k, none⟩ = false := by
  obtain ⟨_, t, all, hb, hc⟩ := h
  exact hb.frozen k
theorem In.keep {S : List Nat} (h : x.In w) (ho : Only S w w') (hg : x.g ∉ S) : x.In w' := by
  obtain ⟨h1, t, all, hb, hc⟩ := h
  exact ⟨fun t' e => ⟨(h1 t' e).1, (h1 t' e).2.only ho hg⟩, t, all, hb.only ho hg, hc⟩
end Fr

structure Own (L : List Fr) (w0 w : World) : Prop where
  only : Only [] w0 w
  ins : ∀ x ∈ L, x.In w
  new : ∀ x ∈ L, w0.heap.size ≤ x.g
  dj : L.Pairwise Fr.dj
namespace Own
variable {L L' M M' R : List Fr} {w0 w w' : World} {x y : Fr} {g t off : Nat} {cs : List Value}
theorem start (w : World) : Own [] w w := ⟨Only.refl _ _, by simp, by simp, by simp⟩
theorem perm (h : Own L w0 w) (hp : L.Perm L') : Own L' w0 w :=
  ⟨h.only, fun x hx => h.ins x (hp.mem_iff.2 hx), fun x hx => h.new x (hp.mem_iff.2 hx), (hp.pairwise_iff Fr.dj_symm).1 h.dj⟩
theorem sub (h : Own L w0 w) (hs : L'.Sublist L) : Own L' w0 w :=
  ⟨h.only, fun x hx => h.ins x (hs.subset hx), fun x hx => h.new x (hs.subset hx), h.dj.sublist hs⟩
theorem drop (h : Own (x :: L) w0 w) : Own L w0 w := h.sub (List.sublist_cons_self _ _)
theorem right (h : Own (M ++ R) w0 w) : Own R w0 w := h.sub (List.sublist_append_right _ _)
theorem left (h : Own (M ++ R) w0 w) : Own M w0 w := h.sub (List.sublist_append_left _ _)
theorem head (h : Own (x :: L) w0 w) : x.In w := h.ins x (by simp)
theorem at_ (h : Own L w0 w) (n : Nat) (hn : L[n]? = some x) : x.In w := h.ins x (List.mem_of_getElem? hn)
theorem lt (h : Own L w0 w) (hx : x ∈ L) : x.g < w.heap.size := (h.ins x hx).lt
theorem drewN (h : Own L w0 w) (n : Nat) : Own L w0 (w.drewN n) := ⟨h.only.drewN n, h.ins, h.new, h.dj⟩
theorem drew (h : Own L w0 w) : Own L w0 w.drew := h.drewN 1
theorem dr (h : Own L w0 w) (k : Dr w w') : Own L w0 w' := by obtain ⟨n, rfl⟩ := k.out; exact h.drewN n
/-- A callee that has turned only the whole blocks M (and laid new ones): M' stands for M. -/
theorem swap (h : Own (M ++ R) w0 w) (hw : ∀ x ∈ M, x.whole ≠ none) (ho : Only (M.map (·.g)) w w') (hb : ∀ x ∈ M', x.In w') (hn : ∀ x ∈ M', x.g ∈ M.map (·.g) ∨ w.heap.size ≤ x.g) (hd : M'.Pairwise Fr.dj) : Own (M' ++ R) w0 w' := by
  have hM : ∀ k, k ∈ M.map (·.g) → w0.heap.size ≤ k := fun k hk => by
    obtain ⟨x, hx, rfl⟩ := List.mem_map.1 hk
    exact h.new x (List.mem_append_left _ hx)
  have hdj := List.pairwise_append.1 h.dj
  have hR : ∀ x ∈ R, x.g ∉ M.map (·.g) := fun x hx hm => by
    obtain ⟨y, hy, e⟩ := List.mem_map.1 hm
    rcases hdj.2.2 y hy x hx with h1 | h1
    · exact h1 e
    · exact hw y hy h1.1
  have hRb : ∀ x ∈ R, x.In w := fun x hx => h.ins x (List.mem_append_right _ hx)
  refine ⟨h.only.trans' ho fun i hi hm => ?_, fun x hx => ?_, fun x hx => ?_, ?_⟩
  · have := hM i hm; omega
  · rcases List.mem_append.1 hx with hx | hx
    · exact hb x hx
    · exact (hRb x hx).keep ho (hR x hx)
  · rcases List.mem_append.1 hx with hx | hx
    · rcases hn x hx with h1 | h1
      · exact hM _ h1
      · exact Nat.le_trans h.only.size h1
    · exact h.new x (List.mem_append_right _ hx)
  · refine List.pairwise_append.2 ⟨hd, hdj.2.1, fun a ha b hb' => .inl fun e => ?_⟩
    rcases hn a ha with h1 | h1
    · exact hR b hb' (by rw [← e]; exact h1)
    · have := (hRb b hb').lt; omega
theorem only0 (h : Own L w0 w) (ho : Only [] w w') : Own L w0 w' := by
  have := swap (M := []) (M' := []) (R := L) h (by simp) (by simpa using ho) (by simp) (by simp) (by simp)
  simpa using this
theorem skip (h : Own L w0 w) (o : Obj) : Own L w0 (w.alloc o) := h.only0 ((Only.refl _ _).alloc o)
theorem fresh (h : Own L w0 w) (ho : Only [] w w') (hb : Blk w' g t cs) (hg : w.heap.size ≤ g) : Own (fw g t cs :: L) w0 w' :=
  swap (M := []) (M' := [fw g t cs]) (R := L) h (by simp) (by simpa using ho) (by simpa using Fr.in_fw hb) (by simpa using hg) (by simp)
theorem alloc (h : Own L w0 w) (t : TypeId) (cs : List Value) : Own (fw w.heap.size t cs :: L) w0 (w.alloc (.cells cs.toArray t)) :=
  h.fresh ((Only.refl [] w).alloc _) (Blk.new w t cs) (Nat.le_refl _)
theorem allocA (h : Own L w0 w) {g : Nat} (hg : w.heap.size = g) (t : TypeId) (c : Array Value) : Own (fw g t c.toList :: L) w0 (w.alloc (.cells c t)) := by
  have := hg ▸ h.alloc t c.toList
  rwa [Array.toArray_toList] at this
theorem alloc' (h : Own L w0 w) {g : Nat} (hg : w.heap.size = g) (t : TypeId) (cs : List Value) : Own (fw g t cs :: L) w0 (w.alloc (.cells cs.toArray t)) := hg ▸ h.alloc t cs
/-- The fragment at the head has turned, and nothing else of its block. -/
theorem upd (h : Own (x :: L) w0 w) {cs' : List Value} (ho : Only [x.g] w w') (hlen : cs'.length = x.cs.length)
    (hb : ∀ t all, Blk w x.g t all → ∃ all', Blk w' x.g t all' ∧ (∀ i, i < cs'.length → all'[x.off + i]? = cs'[i]?) ∧ (∀ j, j < x.off ∨ x.off + x.cs.length ≤ j → all'[j]? = all[j]?)) :
    Own ({ x with cs := cs' } :: L) w0 w' := by
  have hdj := List.pairwise_cons.1 h.dj
  have hx := h.ins x (by simp)
  refine ⟨h.only.trans' ho fun i hi hm => ?_, fun y hy => ?_, fun y hy => ?_, ?_⟩
  · have := h.new x (by simp); simp at hm; omega
  · rcases List.mem_cons.1 hy with rfl | hy
    · obtain ⟨h1, t, all, hbl, hc⟩ := hx
      obtain ⟨all', hb', hc', hj'⟩ := hb t all hbl
      refine ⟨fun t' e => ?_, t, all', hb', hc'⟩
      have h1' := h1 t' e
      refine ⟨h1'.1, ?_⟩
      obtain ⟨all2, hb2, hc2, hj2⟩ := hb t' x.cs h1'.2
      have e2 : all2 = cs' := by
        apply List.ext_getElem?
        intro i
        rcases Nat.lt_or_ge i cs'.length with hi | hi
        · have := hc2 i hi
          rwa [h1'.1, Nat.zero_add] at this
        · have := hj2 i (.inr (by rw [h1'.1]; omega))
          rw [this, List.getElem?_eq_none (by omega), List.getElem?_eq_none (by omega)]
      rw [← e2]
      exact hb2
    · have hyi := h.ins y (List.mem_cons_of_mem _ hy)
      rcases hdj.1 y hy with hne | ⟨hw1, hw2, hr⟩
      · exact hyi.keep ho (by simpa using Ne.symm hne)
      · by_cases hgy : x.g = y.g
        · obtain ⟨_, t, all, hbl, hc⟩ := hyi
          rw [← hgy] at hbl
          obtain ⟨all', hb', hc', hj'⟩ := hb t all hbl
          refine ⟨fun t' e => ?_, t, all', by rw [← hgy]; exact hb', fun i hi => ?_⟩
          · rw [hw2] at e; cases e
          · rw [hj' _ (by omega), hc i hi]
        · exact hyi.keep ho (by simpa using Ne.symm hgy)
  · rcases List.mem_cons.1 hy with rfl | hy
    · exact h.new x (by simp)
    · exact h.new y (List.mem_cons_of_mem _ hy)
  · refine List.pairwise_cons.2 ⟨fun y hy => ?_, hdj.2⟩
    rcases hdj.1 y hy with hne | ⟨hw1, hw2, hr⟩
    · exact .inl hne
    · exact .inr ⟨hw1, hw2, by rw [hlen]; exact hr⟩
theorem set (h : Own (x :: L) w0 w) {k : Nat} (i : Nat) (hk : k = x.off + i) (hi : i < x.cs.length) (u : Value) : Own ({ x with cs := x.cs.set i u } :: L) w0 (w.setCell ⟨x.g, k, none⟩ u) := by
  refine h.upd ((Only.refl [x.g] w).setCell (.inl (by simp)) u) (by simp) fun t all hbl => ⟨all.set k u, hbl.set_ k u, fun j hj => ?_, fun j hj => ?_⟩
  · subst hk
    obtain ⟨_, t', all', hb', hc'⟩ := h.ins x (by simp)
    have e : all' = all := by
      unfold Blk at hb' hbl
      rw [hbl] at hb'
      injection hb' with hb'
      injection hb' with hb'
      exact (List.toArray_inj hb').symm
    subst e
    rw [List.length_set] at hj
    have hlen : x.off + i < all'.length := by
      have := hc' i hi
      rw [List.getElem?_eq_getElem hi] at this
      exact (List.getElem?_eq_some_iff.1 this).1
    rw [List.getElem?_set, List.getElem?_set]
    by_cases hij : i = j
    · subst hij; simp [hi, hlen]
    · rw [if_neg (by omega), if_neg hij, hc' j hj]
  · rw [List.getElem?_set_ne (by omega)]
theorem swap01 (h : Own (x :: y :: L) w0 w) : Own (y :: x :: L) w0 w := h.perm (List.Perm.swap _ _ _)
theorem toHead (h : Own L w0 w) (n : Nat) (hn : L[n]? = some x) : Own (x :: L.eraseIdx n) w0 w := by
  obtain ⟨hlt, he⟩ := List.getElem?_eq_some_iff.1 hn
  refine h.perm ?_
  have e1 : L = L.take n ++ x :: L.drop (n + 1) := by
    conv => lhs; rw [← List.take_append_drop n L]
    rw [List.drop_eq_getElem_cons hlt, he]
  rw [List.eraseIdx_eq_take_drop_succ]
  conv => lhs; rw [e1]
  exact List.perm_middle
/-- Another one of the fragments: a cell of it is set. -/
theorem setN (h : Own L w0 w) (n : Nat) (hn : L[n]? = some x) {k : Nat} (i : Nat) (hk : k = x.off + i) (hi : i < x.cs.length) (u : Value) : Own (L.set n { x with cs := x.cs.set i u }) w0 (w.setCell ⟨x.g, k, none⟩ u) := by
  obtain ⟨hlt, he⟩ := List.getElem?_eq_some_iff.1 hn
  have h1 := (h.toHead n hn).set i hk hi u
  refine h1.perm ?_
  rw [List.eraseIdx_eq_take_drop_succ]
  have e : ∀ y : Fr, L.set n y = L.take n ++ y :: L.drop (n + 1) := fun y => by rw [List.set_eq_take_append_cons_drop, if_pos hlt]
  rw [e]
  exact List.perm_middle.symm
/-- A fragment's cell. -/
theorem cell (h : Own L w0 w) (n : Nat) (hn : L[n]? = some x) {k : Nat} (i : Nat) (hk : k = x.off + i) (hi : i < x.cs.length) : w.cell? ⟨x.g, k, none⟩ = x.cs[i]? := (h.at_ n hn).cell hk hi
theorem frozen (h : Own L w0 w) (n : Nat) (hn : L[n]? = some x) (k : Nat) : w.frozen? ⟨x.g, k, none⟩ = false := (h.at_ n hn).frozen k
/-- A whole block, as cells. -/
theorem part (h : Own (fw g t cs :: L) w0 w) : Own (fp g 0 cs :: L) w0 w := by
  have hdj := List.pairwise_cons.1 h.dj
  refine ⟨h.only, fun y hy => ?_, fun y hy => ?_, List.pairwise_cons.2 ⟨fun y hy => ?_, hdj.2⟩⟩
  · rcases List.mem_cons.1 hy with rfl | hy
    · obtain ⟨_, hh⟩ := h.ins (fw g t cs) (by simp)
      exact ⟨fun t e => by simp at e, hh⟩
    · exact h.ins y (List.mem_cons_of_mem _ hy)
  · rcases List.mem_cons.1 hy with rfl | hy
    · exact h.new (fw g t cs) (by simp)
    · exact h.new y (List.mem_cons_of_mem _ hy)
  · rcases hdj.1 y hy with hne | ⟨hw1, _⟩
    · exact .inl hne
    · cases hw1
/-- Cells, parted. -/
theorem split {a b : List Value} (h : Own (fp g off (a ++ b) :: L) w0 w) {k : Nat} (hk : k = off + a.length) : Own (fp g off a :: fp g k b :: L) w0 w := by
  subst hk
  have hdj := List.pairwise_cons.1 h.dj
  have hx := h.ins (fp g off (a ++ b)) (by simp)
  obtain ⟨_, t, all, hb, hc⟩ := hx
  simp only [List.length_append] at hc
  refine ⟨h.only, fun y hy => ?_, fun y hy => ?_, List.pairwise_cons.2 ⟨fun y hy => ?_, List.pairwise_cons.2 ⟨fun y hy => ?_, hdj.2⟩⟩⟩
  · rcases List.mem_cons.1 hy with rfl | hy
    · exact ⟨fun t e => by simp at e, t, all, hb, fun i hi => by rw [hc i (by simp at hi; omega), List.getElem?_append_left (by simpa using hi)]⟩
    · rcases List.mem_cons.1 hy with rfl | hy
      · exact ⟨fun t e => by simp at e, t, all, hb, fun i hi => by
          rw [Nat.add_assoc, hc (a.length + i) (by simp at hi; omega), List.getElem?_append_right (by omega)]; simp⟩
      · exact h.ins y (List.mem_cons_of_mem _ hy)
  · rcases List.mem_cons.1 hy with rfl | hy
    · exact h.new (fp g off (a ++ b)) (by simp)
    · rcases List.mem_cons.1 hy with rfl | hy
      · exact h.new (fp g off (a ++ b)) (by simp)
      · exact h.new y (List.mem_cons_of_mem _ hy)
  · rcases List.mem_cons.1 hy with rfl | hy
    · exact .inr ⟨rfl, rfl, .inl (Nat.le_refl _)⟩
    · rcases hdj.1 y hy with hne | ⟨hw1, hw2, hr⟩
      · exact .inl hne
      · exact .inr ⟨rfl, hw2, by simp only [List.length_append] at hr ⊢; omega⟩
  · rcases hdj.1 y hy with hne | ⟨hw1, hw2, hr⟩
    · exact .inl hne
    · exact .inr ⟨rfl, hw2, by simp only [List.length_append] at hr ⊢; omega⟩
/-- What a callee has laid anew, beside what was there. -/
theorem join {F : List Fr} (h : Own R w0 w) (h' : Own F w w') : Own (F ++ R) w0 w' := by
  refine ⟨h.only.new h'.only, fun x hx => ?_, fun x hx => ?_, List.pairwise_append.2 ⟨h'.dj, h.dj, fun a ha b hb => .inl fun e => ?_⟩⟩
  · rcases List.mem_append.1 hx with hx | hx
    · exact h'.ins x hx
    · exact (h.ins x hx).keep h'.only (by simp)
  · rcases List.mem_append.1 hx with hx | hx
    · exact Nat.le_trans h.only.size (h'.new x hx)
    · exact h.new x hx
  · have h1 := h'.new a ha
    have h2 := (h.ins b hb).lt
    omega
end Own

/-- What holds in every world that holds these cells and has turned nothing of w0. -/
def St (R : List Fr) (w0 : World) (p : World → Prop) : Prop := ∀ w, Only [] w0 w → (∀ x ∈ R, x.In w) → p w
theorem Own.st {L R : List Fr} {w0 w : World} {p : World → Prop} (h : Own L w0 w) (hp : St R w0 p) (hs : ∀ x ∈ R, x ∈ L) : p w := hp w h.only fun x hx => h.ins x (hs x hx)
theorem Own.stR {M R : List Fr} {w0 w : World} {p : World → Prop} (h : Own (M ++ R) w0 w) (hp : St R w0 p) : p w := h.st hp fun _ hx => List.mem_append_right _ hx
namespace St
variable {R R' : List Fr} {w0 w : World} {p q : World → Prop}
theorem mono (hp : St R w0 p) (hs : ∀ x ∈ R, x ∈ R') : St R' w0 p := fun w ho hb => hp w ho fun x hx => hb x (hs x hx)
theorem imp (hp : St R w0 p) (h : ∀ w, p w → q w) : St R w0 q := fun w ho hb => h w (hp w ho hb)
theorem and (hp : St R w0 p) (hq : St R w0 q) : St R w0 fun w => p w ∧ q w := fun w ho hb => ⟨hp w ho hb, hq w ho hb⟩
theorem right (hp : St R w0 p) (M : List Fr) : St (M ++ R) w0 p := hp.mono fun _ hx => List.mem_append_right _ hx
theorem left (hp : St R w0 p) (M : List Fr) : St (R ++ M) w0 p := hp.mono fun _ hx => List.mem_append_left _ hx
theorem cons (hp : St R w0 p) (x : Fr) : St (x :: R) w0 p := hp.mono fun _ hx => List.mem_cons_of_mem _ hx
/-- Seen from a later world. -/
theorem now {L : List Fr} (hp : St R w0 p) (h : Own L w0 w) : St R w p := fun w' ho hb => hp w' (h.only.new ho) hb
end St
/-- Bytes that are read whatever else turns. -/
abbrev Rd (R : List Fr) (w0 : World) (A : Option Addr) (l : List UInt8) : Prop := St R w0 fun w => BsAt w A l
namespace Rd
variable {R : List Fr} {w0 : World} {A : Option Addr} {l : List UInt8}
theorem old (h : BsAt w0 A l) (R : List Fr) : Rd R w0 A l := fun _ ho _ => h.keep0 ho
theorem nil (R : List Fr) (w0 : World) (A : Option Addr) : Rd R w0 A [] := fun _ _ _ => BsAt.nil _ _
theorem take (h : Rd R w0 A l) (n : Nat) : Rd R w0 A (l.take n) := fun w ho hb => (h w ho hb).take n
theorem drop {g o : Nat} (h : Rd R w0 (some ⟨g, o, none⟩) l) (n : Nat) : Rd R w0 (some ⟨g, o + n, none⟩) (l.drop n) := fun w ho hb => (h w ho hb).drop n
theorem cut (h : Rd R w0 A l) (k c : Nat) (hc : l.length ≤ c) : Rd R w0 (if c = k then A else Option.map (fun x => { block := x.block, off := x.off + k, spot := none }) A) (l.drop k) := fun w ho hb => (h w ho hb).cut k c hc
theorem cutM (h : Rd R w0 A l) (n : Nat) : Rd R w0 (Option.map (fun x => x.add n) A) (l.drop n) := fun w ho hb i hi => by
  rw [List.length_drop] at hi
  obtain ⟨g, o, rfl, _, hc'⟩ := (h w ho hb).addr (by omega)
  have := BsAt.drop (g := g) (o := o) (fun j hj => ⟨g, o, rfl, hc' j hj⟩) n i (by rw [List.length_drop]; omega)
  simpa [add_none] using this
theorem fr {x : Fr} (hx : x ∈ R) {i k : Nat} (hk : k = x.off + i) (hi : i + l.length ≤ x.cs.length) (hl : (x.cs.drop i).take l.length = bc l) : Rd R w0 (some ⟨x.g, k, none⟩) l := fun w _ hb j hj => by
  subst hk
  refine ⟨x.g, x.off + i, rfl, ?_⟩
  rw [(hb x hx).cell (i := i + j) (by omega) (by omega)]
  have := congrArg (·[j]?) hl
  simp only [bc_get hj] at this
  rwa [List.getElem?_take, if_pos hj, List.getElem?_drop] at this
end Rd

/-- A row of the call's own: n elements of the type e, of size cells each; the block F it lies in (none where it is nil). -/
def Row (e size : Nat) (A : Option Addr) (n c : Nat) (xs : List Value) (F : List Fr) : Prop :=
  xs.length = n * size ∧ ((A = none ∧ n = 0 ∧ c = 0 ∧ F = []) ∨ ∃ g cur, A = some ⟨g, 0, none⟩ ∧ F = [fw g e cur] ∧ n ≤ c ∧ c ≤ maxLen ∧ cur.length = c * size ∧ cur.take (n * size) = xs)
namespace Row
variable {e size n c : Nat} {A : Option Addr} {xs : List Value} {F R : List Fr} {w0 w : World} {l : List UInt8}
theorem nil (e size : Nat) : Row e size none 0 0 [] [] := ⟨by simp, .inl ⟨rfl, rfl, rfl, rfl⟩⟩
theorem le (h : Row e size A n c xs F) : n ≤ c := by
  rcases h.2 with ⟨_, rfl, rfl, _⟩ | ⟨g, cur, _, _, h1, _⟩
  · exact Nat.le_refl _
  · exact h1
theorem cap (h : Row e size A n c xs F) : c ≤ maxLen := by
  rcases h.2 with ⟨_, rfl, rfl, _⟩ | ⟨g, cur, _, _, h1, h2, _⟩
  · exact Nat.zero_le _
  · exact h2
theorem made (e : Nat) {size g n c : Nat} {cur : List Value} (h1 : n ≤ c) (h2 : c ≤ maxLen) (h3 : cur.length = c * size) : Row e size (some ⟨g, 0, none⟩) n c (cur.take (n * size)) [fw g e cur] :=
  ⟨by rw [List.length_take, h3, Nat.min_eq_left (Nat.mul_le_mul_right _ h1)], .inr ⟨g, cur, rfl, rfl, h1, h2, h3, rfl⟩⟩
theorem owns (h : Row e size A n c xs F) (hb : ∀ x ∈ F, x.In w) : w.ownsRow 0 e size (.slice A n c) n xs := by
  refine ⟨h.1, ?_⟩
  rcases h.2 with ⟨rfl, rfl, rfl, rfl⟩ | ⟨g, cur, rfl, rfl, h1, h2, h3, h4⟩
  · exact .inl ⟨rfl, rfl⟩
  · exact .inr ⟨g, c, cur.toArray, rfl, Nat.zero_le _, (hb (fw g e cur) (by simp)).blk, h1, h2, by simpa using h3, by simpa using h4⟩
theorem of_owns {v : Value} (h : w.ownsRow 0 e size v n xs) : ∃ A c F, v = .slice A n c ∧ Row e size A n c xs F ∧ (∀ x ∈ F, x.In w) ∧ F.map (·.g) = v.ownBlock.toList ∧ F.Pairwise Fr.dj := by
  rcases h.2 with ⟨rfl, rfl⟩ | ⟨g, cap, cur, rfl, _, hh, h1, h2, h3, h4⟩
  · exact ⟨none, 0, [], rfl, ⟨h.1, .inl ⟨rfl, rfl, rfl, rfl⟩⟩, by simp, rfl, by simp⟩
  · exact ⟨_, cap, [fw g e cur.toList], rfl, ⟨h.1, .inr ⟨g, cur.toList, rfl, rfl, h1, h2, by simpa using h3, h4⟩⟩, by simpa using Fr.in_fw (by simpa [Blk] using hh), rfl, by simp⟩
theorem cs (h : Row e size A n c xs F) (hb : ∀ x ∈ F, x.In w) : CsAt w A xs := by
  rcases h.2 with ⟨rfl, rfl, rfl, rfl⟩ | ⟨g, cur, rfl, rfl, h1, h2, h3, h4⟩
  · have := h.1
    obtain rfl : xs = [] := List.eq_nil_of_length_eq_zero (by simpa using this)
    exact CsAt.nil _ _
  · have := CsAt.of_blk (hb (fw g e cur) (by simp)).blk 0 (n * size)
    rw [List.drop_zero, h4] at this
    exact this
theorem st (h : Row e size A n c xs F) (w0 : World) : St F w0 fun w => CsAt w A xs := fun _ _ hb => h.cs hb
theorem rd (h : Row e 1 A n c (bc l) F) (w0 : World) : Rd F w0 A l := fun _ _ hb => (h.cs hb).bs
theorem len (h : Row e 1 A n c (bc l) F) : n = l.length := by have := h.1; rw [bc_length] at this; omega
theorem csO (h : Row e size A n c xs F) (hO : Own (F ++ R) w0 w) : CsAt w A xs := h.cs fun x hx => hO.ins x (List.mem_append_left _ hx)
theorem bsO (h : Row e 1 A n c (bc l) F) (hO : Own (F ++ R) w0 w) : BsAt w A l := (h.csO hO).bs
/-- Cut back to fewer elements, from its head. -/
theorem back (h : Row e size A n c xs F) {m : Nat} (hm : m ≤ n) : Row e size A m c (xs.take (m * size)) F := by
  have hmn := Nat.mul_le_mul_right size hm
  refine ⟨by rw [List.length_take, h.1, Nat.min_eq_left hmn], ?_⟩
  rcases h.2 with ⟨rfl, rfl, rfl, rfl⟩ | ⟨g, cur, rfl, rfl, h1, h2, h3, h4⟩
  · exact .inl ⟨rfl, by omega, rfl, rfl⟩
  · exact .inr ⟨g, cur, rfl, rfl, by omega, h2, h3, by rw [← h4, List.take_take, Nat.min_eq_left hmn]⟩
theorem whole (h : Row e size A n c xs F) : ∀ x ∈ F, x.whole ≠ none := by
  rcases h.2 with ⟨_, _, _, rfl⟩ | ⟨g, cur, _, rfl, _⟩ <;> simp
theorem block (h : Row e size A n c xs F) : F.map (·.g) = (Value.slice A n c).ownBlock.toList := by
  rcases h.2 with ⟨rfl, rfl, rfl, rfl⟩ | ⟨g, cur, rfl, rfl, _⟩ <;> rfl
theorem none_iff (h : Row e size A n c xs F) : A = none ↔ Value.slice A n c = .slice none 0 0 := by
  rcases h.2 with ⟨rfl, rfl, rfl, rfl⟩ | ⟨g, cur, rfl, rfl, _⟩ <;> simp
end Row

/-! ### the laws -/
theorem Blk.inj {w : World} {g t t' : Nat} {a b : List Value} (h : Blk w g t a) (h' : Blk w g t' b) : t = t' ∧ a = b := by
  unfold Blk at h h'
  rw [h] at h'
  injection h' with h'
  injection h' with h1 h2
  exact ⟨h2, List.toArray_inj h1⟩
section
variable {P : Program} {ops : Array Oper} {rest : List Oper} {o : Oper} {a : Act} {Q : Exit → Act → World → Prop} {w0 w : World} {R : List Fr}
/-- append(s, src...), s a row of the call's own. -/
theorem own_append (hgd : o.guard = none) (s x : Operand) (t : TypeId) (ho : o.op = .call { callee := .builtin .append, args := #[s, x], argTypes := #[t, t] })
    (e : TypeId) (z : Value) (size bytes : Nat) (ht : P.underlying t = some (.slice e)) (hinfo : (P.info? e).map (fun i => (i.zero, i.size, i.bytes)) = some (some z, size, bytes)) (hzs : z.cells.size = size) (hsz : 0 < size)
    (A : Option Addr) (n c : Nat) (xs : List Value) (F : List Fr) (hs : a.eval s = .slice A n c) (hr : Row e size A n c xs F) (hO : Own (F ++ R) w0 w)
    (A2 : Option Addr) (m c2 : Nat) (news : List Value) (hx : a.eval x = .slice A2 m c2) (hl : news.length = m * size) (hA : CsAt w A2 news)
    (h1 : ∀ u ∈ news, u.oneCell' = true) (h63 : n + m ≤ maxLen) (hbytes : (n + m) * bytes ≤ 140737488355328)
    (h : ∀ A' c' F' w', Row e size A' (n + m) c' (xs ++ news) F' → Own (F' ++ R) w0 w' → (A' = none ↔ A = none ∧ m = 0) → wpList P ops Q rest (a.put o.dst (.slice A' (n + m) c')) w') :
    wpList P ops Q (o :: rest) a w := by
  refine wp_append hgd s x t ho e z size bytes ht hinfo hzs hsz (.slice A n c) n xs hs (hr.owns fun x hx => hO.ins x (List.mem_append_left _ hx)) A2 m c2 news hx hl hA h1 h63 hbytes fun v' w' hown hgr hnil hat => ?_
  obtain ⟨A', c', F', rfl, hr', hb', hF, hdj⟩ := Row.of_owns hown
  refine h A' c' F' w' hr' ?_ ?_
  · have hFo := hr.block
    refine hO.swap hr.whole (Only.of_grown hgr fun k hk => by rw [hFo, hk]; simp) hb' (fun y hy => ?_) hdj
    have hy' : y.g ∈ F'.map (·.g) := List.mem_map.2 ⟨y, hy, rfl⟩
    rw [hF] at hy'
    rcases hat with e | e
    · rw [e, ← hFo] at hy'; exact .inl hy'
    · rw [e] at hy'; simp at hy'; exact .inr (by omega)
  · rw [hr'.none_iff, hnil, hr.none_iff]
/-- A whole value is stored over a whole block. -/
theorem own_store_row (hgd : o.guard = none) (ty : TypeId) (x y : Operand) (ho : o.op = .store ty x y) (g : Nat) (cells : Array Value) (hx : a.eval x = .pointer (some ⟨g, 0, none⟩)) (hy : a.eval y = .agg cells)
    (t : TypeId) (old : List Value) (hO : Own (fw g t old :: R) w0 w) (hi : (P.info? ty).map (·.size) = some cells.size) (hold : old.length = cells.size) (h1 : cells.all (·.oneCell') = true)
    (h : ∀ w', Own (fw g t cells.toList :: R) w0 w' → wpList P ops Q rest (a.put o.dst undef) w') : wpList P ops Q (o :: rest) a w := by
  have hb := hO.head.blk
  refine wpList_store_row hgd ty x y ho g cells hx hy t old.toArray hb hi (by simpa using hold) h1 (h _ ?_)
  have hb' : Blk (w.setRow g cells) g t cells.toList := by
    have := setRow_heap w g old.toArray cells t _ hb
    simpa [Blk] using this
  refine Own.swap (M := [fw g t old]) (M' := [fw g t cells.toList]) (R := R) hO (by simp) ?_ (by simpa using Fr.in_fw hb') (by simp) (by simp)
  exact ⟨rfl, rfl, rfl, by simp [World.setRow], fun k _ hk => setRow_other w g k _ (by simpa using hk)⟩
/-- make([]T, n, c), T of one cell. -/
theorem own_make (hgd : o.guard = none) (l c : Operand) (t : TypeId) (hop : o.op = .makeSlice t l c) (e : TypeId) (z : Value) (bytes : Nat) (ht : P.underlying t = some (.slice e))
    (hinfo : (P.info? e).map (fun i => (i.zero, i.size, i.bytes)) = some (some z, 1, bytes)) (hz1 : z.cells = #[z]) (kl kc : IntKind) (x y : Int) (n m : Nat) (hl : a.eval l = .int kl x) (hc : a.eval c = .int kc y)
    (hx : x = (n : Int)) (hy : y = (m : Int)) (hnm : n ≤ m) (hb : bytes * m ≤ 281474976710656) (h63 : m ≤ 9223372036854775807) (hO : Own R w0 w)
    (h : ∀ g w', Own (fw g e (List.replicate m z) :: R) w0 w' → wpList P ops Q rest (a.put o.dst (.slice (some ⟨g, 0, none⟩) n m)) w') :
    wpList P ops Q (o :: rest) a w :=
  wp_make hgd l c t hop e z bytes ht hinfo hz1 kl kc x y n m hl hc hx hy hnm hb h63 fun w' hb' _ ho => h _ w' (hO.fresh ho hb' (Nat.le_refl _))
theorem splice_get {α : Type} (cs : List α) (k : Nat) (p : List α) (h : k + p.length ≤ cs.length) (j : Nat) : (splice cs k p)[j]? = if j < k ∨ k + p.length ≤ j then cs[j]? else p[j - k]? := by
  have e : splice cs k p = cs.take k ++ (p ++ cs.drop (k + p.length)) := by simp [splice]
  rw [e]
  have h1 : (cs.take k).length = k := by rw [List.length_take]; omega
  by_cases hj : j < k
  · rw [if_pos (.inl hj), List.getElem?_append_left (by omega), List.getElem?_take, if_pos hj]
  · rw [List.getElem?_append_right (by omega), h1]
    by_cases hj2 : k + p.length ≤ j
    · rw [if_pos (.inr hj2), List.getElem?_append_right (by omega), List.getElem?_drop]
      congr 1; omega
    · rw [if_neg (by omega), List.getElem?_append_left (by omega)]
/-- copy(dst, src), dst in the fragment at the head. -/
theorem own_copy (hgd : o.guard = none) (d s : Operand) (dT sT : TypeId) (ho : o.op = .call { callee := .builtin .copy, args := #[d, s], argTypes := #[dT, sT] }) (elem : TypeId) (hu : P.underlying dT = some (.slice elem))
    (hsz : (P.info? elem).map (·.size) = some 1) (x : Fr) (i k dLen dCap : Nat) (A : Option Addr) (sLen sCap : Nat) (hk : k = x.off + i) (hd : a.eval d = .slice (some ⟨x.g, k, none⟩) dLen dCap) (hs : a.eval s = .slice A sLen sCap)
    (hO : Own (x :: R) w0 w) (l : List UInt8) (hA : BsAt w A l) (hn : l.length = min sLen dLen) (hfit : i + l.length ≤ x.cs.length)
    (h : ∀ w', Own ({ x with cs := splice x.cs i (bc l) } :: R) w0 w' → wpList P ops Q rest (a.put o.dst (.int .i64 (l.length : Int))) w') :
    wpList P ops Q (o :: rest) a w := by
  obtain ⟨_, t, all, hb, hc⟩ := hO.head
  subst hk
  have hall : i + l.length = 0 ∨ x.off + (i + l.length) ≤ all.length := by
    rcases Nat.eq_zero_or_pos (i + l.length) with h0 | h0
    · exact .inl h0
    · have := hc (i + l.length - 1) (by omega)
      rw [List.getElem?_eq_getElem (show i + l.length - 1 < x.cs.length by omega)] at this
      have := (List.getElem?_eq_some_iff.1 this).1
      exact .inr (by omega)
  have hlen2 : (splice x.cs i (bc l)).length = x.cs.length := by rw [length_splice _ _ _ (by rw [bc_length]; omega)]
  by_cases hl0 : l.length = 0
  · obtain rfl : l = [] := List.eq_nil_of_length_eq_zero hl0
    refine wpList_copy_nothing hgd d s dT sT ho elem hu hsz _ _ _ _ _ _ hd hs (by simpa using (show min sLen dLen = 0 from hn.symm)) ?_
    have e : splice x.cs i (bc []) = x.cs := by simp [splice, bc]
    have := h w (by rw [e]; exact hO)
    exact this
  have hfa : x.off + i + l.length ≤ all.length := by omega
  refine wp_copy hgd d s dT sT ho elem hu hsz x.g (x.off + i) dLen dCap A sLen sCap hd hs all t hb l hA hn hfa fun w' hb' _ ho' => h w' ?_
  refine hO.upd ho' hlen2 fun t2 all2 hb2 => ?_
  obtain ⟨rfl, rfl⟩ := hb2.inj hb
  refine ⟨_, hb', fun j hj => ?_, fun j hj => ?_⟩
  · rw [hlen2] at hj
    rw [splice_get _ _ _ (by rw [bc_length]; omega), splice_get _ _ _ (by rw [bc_length]; omega), bc_length]
    by_cases hj1 : j < i ∨ i + l.length ≤ j
    · rw [if_pos (by omega), if_pos hj1, hc j hj]
    · rw [if_neg (by omega), if_neg hj1]
      congr 1; omega
  · rw [splice_get _ _ _ (by rw [bc_length]; omega), bc_length, if_pos (by omega)]
end
theorem Own.cs_fw {L : List Fr} {w0 w : World} {g t : Nat} {cs : List Value} (h : Own L w0 w) (hx : fw g t cs ∈ L) : CsAt w (some ⟨g, 0, none⟩) cs := by
  have := CsAt.of_blk (h.ins _ hx).blk 0 cs.length
  simpa using this
/-- A result that is bytes, a row of the call's own. -/
def RetBs (R : List Fr) (w0 : World) (l : List UInt8) (e : Ending) (w' : World) : Prop :=
  ∃ A' c' F', e = .returned (.slice A' l.length c') ∧ Row 5 1 A' l.length c' (bc l) F' ∧ Own (F' ++ R) w0 w'
theorem RetBs.mk {R F : List Fr} {w0 w : World} {l l' : List UInt8} {A : Option Addr} {c n : Nat} (hn : n = l.length) (hl : l' = l) (hr : Row 5 1 A n c (bc l') F) (hO : Own (F ++ R) w0 w) : RetBs R w0 l (.returned (.slice A n c)) w := by
  subst hn; subst hl; exact ⟨A, c, F, rfl, hr, hO⟩
/-- The same, what would be a rule of the walk hidden. -/
def RetH (R : List Fr) (w0 : World) (l : List UInt8) (e : Ending) (w' : World) : Prop :=
  ∃ A' c' F' n, Hid (n = l.length) ∧ e = .returned (.slice A' n c') ∧ Hid (Row 5 1 A' n c' (bc l) F') ∧ Hid (Own (F' ++ R) w0 w')
theorem RetBs.h {R : List Fr} {w0 w : World} {l : List UInt8} {e : Ending} (h : RetBs R w0 l e w) : RetH R w0 l e w := by
  obtain ⟨A, c, F, he, hr, hO⟩ := h
  exact ⟨A, c, F, _, hid rfl, he, hid hr, hid hO⟩
/-- Lists of fragments are the same but for their order. -/
theorem perm_of {L L' : List Fr} (h : ∀ (_i : BEq Fr) (_ : LawfulBEq Fr) (x : Fr), L.count x = L'.count x) : L.Perm L' := by
  classical
  let _ : DecidableEq Fr := fun a b => Classical.propDecidable (a = b)
  exact List.perm_iff_count.2 fun x => h _ inferInstance x
end Go.Proofs.Ytloflmcgbbbnjaa
