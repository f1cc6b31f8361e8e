/-
  SLICES OF STRUCTS: a row of records lies in one block, S cells a record; what came in is read as such a row.
-/
import Derived.Test.YtloflmcgbbbnjaaLawKit
namespace Go.Proofs.Ytloflmcgbbbnjaa
open Go.RowKit Plain Go.ChangeShapes Go.WideShapes Go.ChangeAt

theorem choose_list {α : Type} (n : Nat) (p : Nat → α → Prop) (h : ∀ i, i < n → ∃ x, p i x) : ∃ l : List α, l.length = n ∧ ∀ i x, l[i]? = some x → p i x := by
  induction n with
  | zero => exact ⟨[], rfl, fun i x h => by simp at h⟩
  | succ n ih =>
    obtain ⟨l, hl, hp⟩ := ih fun i hi => h i (by omega)
    obtain ⟨x, hx⟩ := h n (by omega)
    refine ⟨l ++ [x], by simp [hl], fun i y hy => ?_⟩
    rcases Nat.lt_or_ge i l.length with hi | hi
    · rw [List.getElem?_append_left hi] at hy; exact hp i y hy
    · rw [List.getElem?_append_right hi] at hy
      have : i = n := by
        have := (List.getElem?_eq_some_iff.1 hy).1
        simp at this; omega
      subst this
      simp [hl] at hy
      exact hy ▸ hx

section
variable {α : Type} (f : α → List Value) (S : Nat)
theorem flat_length (hS : ∀ x, (f x).length = S) : ∀ l : List α, (l.flatMap f).length = l.length * S
  | [] => by simp
  | x :: l => by rw [List.flatMap_cons, List.length_append, hS, flat_length hS l, List.length_cons, Nat.add_mul, Nat.one_mul, Nat.add_comm]
theorem flat_get (hS : ∀ x, (f x).length = S) : ∀ (l : List α) (i : Nat) (x : α) (j : Nat), l[i]? = some x → j < S → (l.flatMap f)[i * S + j]? = (f x)[j]?
  | [], i, x, j, h, _ => by simp at h
  | y :: l, 0, x, j, h, hj => by
    simp at h
    subst h
    rw [List.flatMap_cons, Nat.zero_mul, Nat.zero_add, List.getElem?_append_left (by rw [hS]; exact hj)]
  | y :: l, i + 1, x, j, h, hj => by
    have h' : l[i]? = some x := by simpa using h
    rw [List.flatMap_cons, List.getElem?_append_right (by rw [hS, Nat.add_mul, Nat.one_mul]; omega), hS, show (i + 1) * S + j - S = i * S + j by rw [Nat.add_mul, Nat.one_mul]; omega]
    exact flat_get hS l i x j h' hj
/-- The cells of one record of a row. -/
theorem CsAt.at_row {w : World} {A : Option Addr} {l : List α} (hS : ∀ x, (f x).length = S) (h0 : 0 < S) (h : CsAt w A (l.flatMap f)) {i : Nat} {x : α} (hx : l[i]? = some x) :
    ∃ g o, A = some ⟨g, o, none⟩ ∧ ∀ j, j < S → w.cell? ⟨g, o + (i * S + j), none⟩ = (f x)[j]? := by
  have hi := (List.getElem?_eq_some_iff.1 hx).1
  have hlt : ∀ j, j < S → i * S + j < (l.flatMap f).length := fun j hj => by
    rw [flat_length f S hS]
    have : (i + 1) * S ≤ l.length * S := Nat.mul_le_mul_right S hi
    rw [Nat.add_mul, Nat.one_mul] at this; omega
  obtain ⟨g, o, e, _, hc⟩ := h.addr (by have := hlt 0 h0; omega)
  exact ⟨g, o, e, fun j hj => by rw [hc _ (hlt j hj), flat_get f S hS l i x j hx hj]⟩
end

section
variable {H : Type} {enc : TypeId × Value → H} {P : Program} {W : World} {base : Nat} {spare : Nat → Bool} {held : Bool}
theorem open_bytes_f {fuel : Nat} {t e : TypeId} {cs : List Value} {x : DataW H × List MemPlace} (ht : P.underlying t = some (.slice e)) (he : P.underlying e = some (.int .u8)) (hc : P.cellsOf e = 1)
    (h : DataW.trod enc P W base spare held fuel t cs = some x) : ∃ (A : Option Addr) (l : List UInt8) (c : Nat), cs = [.slice A l.length c] ∧ l.length ≤ c ∧ c ≤ maxLen ∧ BsAt W A l := by
  rcases DataW.trod_slice ht h with ⟨rfl, _⟩ | ⟨a, len, cap, _, _, _, _, rfl, _⟩
  · exact ⟨none, [], 0, rfl, Nat.le_refl _, Nat.zero_le _, BsAt.nil _ _⟩
  · have h' : DataW.Trod enc P W base spare held t (.slice (some a) len cap) x.1 x.2 := ⟨fuel, by simpa [Value.cells] using h⟩
    obtain ⟨l, rfl, hl, hm, hb⟩ := open_bytes ht he hc h'
    exact ⟨some a, l, cap, rfl, hl, hm, hb⟩

/-- A row of records that came in. -/
theorem open_rows {α : Type} (f : α → List Value) (ok : α → Prop) (S : Nat) {fuel : Nat} {t e : TypeId} {cs : List Value} {x : DataW H × List MemPlace} (ht : P.underlying t = some (.slice e)) (hc : P.cellsOf e = S) (hS : ∀ x, (f x).length = S) (h0 : 0 < S)
    (hop : ∀ (n : Nat) (c : List Value) (y : DataW H × List MemPlace), DataW.trod enc P W base spare held n e c = some y → ∃ x, c = f x ∧ ok x)
    (h : DataW.trod enc P W base spare held fuel t cs = some x) : ∃ (A : Option Addr) (l : List α) (c : Nat), cs = [.slice A l.length c] ∧ l.length ≤ c ∧ c ≤ maxLen ∧ CsAt W A (l.flatMap f) ∧ ∀ y ∈ l, ok y := by
  rcases DataW.trod_slice ht h with ⟨rfl, _⟩ | ⟨a, len, cap, elems, rest, n, _, rfl, _, _, hl, hm, hlen, hel, _⟩
  · exact ⟨none, [], 0, rfl, Nat.le_refl _, Nat.zero_le _, CsAt.nil _ _, fun y hy => by simp at hy⟩
  · obtain ⟨l, hll, hp⟩ := choose_list (α := α) len (fun i x => (∀ j, j < S → W.cell? ((a.add (i * S)).add j) = (f x)[j]?) ∧ ok x) fun i hi => by
      have h1 := hel i hi
      rw [List.getElem?_eq_getElem (by omega), Option.bind_eq_some_iff, hc] at h1
      obtain ⟨c, hcs, hy⟩ := h1
      obtain ⟨x, rfl, hx⟩ := hop n c _ hy
      obtain ⟨_, _, hcell⟩ := World.cells?_some hcs
      exact ⟨x, hcell, hx⟩
    subst hll
    refine ⟨some a, l, cap, rfl, hl, hm, fun k hk => ?_, fun y hy => ?_⟩
    · rw [flat_length f S hS] at hk
      have hi : k / S < l.length := (Nat.div_lt_iff_lt_mul h0).2 hk
      have hj : k % S < S := Nat.mod_lt _ h0
      obtain ⟨g, o, spot⟩ := a
      have hc0 := (hp (k / S) l[k / S] (List.getElem?_eq_getElem hi)).1 (k % S) hj
      have hsp : spot = none := by
        have hl0 : 0 < l.length := Nat.lt_of_le_of_lt (Nat.zero_le _) hi
        have hs0 : 0 < (f l[0]).length := by rw [hS]; exact h0
        have hs := (hp 0 l[0] (List.getElem?_eq_getElem hl0)).1 0 h0
        rw [List.getElem?_eq_getElem hs0, Nat.zero_mul] at hs
        have h0' := World.cell?_spot hs
        simpa [Addr.add] using h0'
      subst hsp
      rw [add_none, add_none] at hc0
      refine ⟨g, o, rfl, ?_⟩
      have hk' : k / S * S + k % S = k := by rw [Nat.mul_comm]; exact Nat.div_add_mod k S
      have hfl := flat_get f S hS l (k / S) l[k / S] (k % S) (List.getElem?_eq_getElem hi) hj
      rw [hk'] at hfl
      rw [hfl, ← hc0, show o + k / S * S + k % S = o + k by omega]
    · obtain ⟨i, hi, rfl⟩ := List.getElem_of_mem hy
      exact (hp i _ (List.getElem?_eq_getElem hi)).2
end
end Go.Proofs.Ytloflmcgbbbnjaa
