/-
  PLAIN: the range of a prefix; the separator and the successor of keys. No Go in sight.
-/
import Derived.Test.YtloflmcgbbbnjaaDoorMemM1
namespace Go.Proofs.YtloflmcgbbbnjaaDoor.Plain

/-- One more. -/
def up (c : UInt8) : UInt8 := UInt8.ofNat (c.toNat + 1)
theorem up_toNat {c : UInt8} (h : c.toNat < 255) : (up c).toNat = c.toNat + 1 := by
  have : c.toNat + 1 < 256 := by omega
  simp [up, Nat.mod_eq_of_lt this]

/-- The end of a prefix's range. -/
def lim : List UInt8 → Option (List UInt8)
  | [] => none
  | x :: p => match lim p with
    | some l => some (x :: l)
    | none => if x.toNat < 255 then some [up x] else none
theorem lim_snoc (l : List UInt8) (c : UInt8) : lim (l ++ [c]) = if c.toNat < 255 then some (l ++ [up c]) else lim l := by
  induction l with
  | nil => simp [lim]
  | cons x l ih =>
    simp only [List.cons_append, lim, ih]
    by_cases hc : c.toNat < 255
    · simp [hc]
    · simp [hc]

/-- The range of a prefix has just the keys that begin with it. -/
theorem prefix_law (p key : List UInt8) :
    (0 ≤ cmpI key p ∧ (lim p = none ∨ ∃ l, lim p = some l ∧ cmpI key l < 0)) ↔ (p.length ≤ key.length ∧ key.take p.length = p) := by
  induction p generalizing key with
  | nil => cases key <;> simp [lim]; omega
  | cons x p ih =>
    cases key with
    | nil => simp; omega
    | cons y k =>
      rw [cmpI_cons]
      by_cases e : y = x
      · subst e
        rw [if_pos rfl]
        have ih' := ih k
        simp only [List.length_cons, List.take_succ_cons, List.cons.injEq, true_and, Nat.add_le_add_iff_right]
        rw [← ih']
        cases hl : lim p with
        | some l => simp [lim, hl, cmpI_cons]
        | none =>
          simp only [lim, hl]
          by_cases hx : y.toNat < 255
          · rw [if_pos hx]
            have hu := up_toNat hx
            have hne : y ≠ up y := fun e => by rw [← e] at hu; omega
            simp [cmpI_cons, hne]
            omega
          · rw [if_neg hx]; simp
      · have hne := u8_ne e
        simp only [e, if_false, List.length_cons, List.take_succ_cons, List.cons.injEq, false_and, and_false, iff_false, not_and, not_or, not_exists]
        intro h0
        cases hl : lim p with
        | some l => simp [lim, hl, cmpI_cons, e]; omega
        | none =>
          simp only [lim, hl]
          have hy := u8_lt y
          by_cases hx : x.toNat < 255
          · rw [if_pos hx]
            have hu := up_toNat hx
            simp only [reduceCtorEq, not_false_eq_true, Option.some.injEq, true_and]
            rintro l rfl
            rw [cmpI_cons]
            split
            · cases k <;> simp
              omega
            · omega
          · exfalso; omega

theorem lim_length {p l : List UInt8} (h : lim p = some l) : l.length ≤ p.length := by
  induction p generalizing l with
  | nil => cases h
  | cons x p ih =>
    simp only [lim] at h
    cases hp : lim p with
    | some l' => rw [hp] at h; cases h; have := ih hp; simp; omega
    | none =>
      rw [hp] at h
      simp only at h
      split at h
      · cases h; simp
      · cases h
/-- The ways on which a prefix's law is walked. -/
theorem prefix_ways (p K : List UInt8) :
    (decide ((p.length : Int) ≤ (K.length : Int)) = true ∧ (K.take p.length == p) = true ∧ decide (0 ≤ cmpI K p) = true ∧ lim p = none) ∨
    (∃ l, decide ((p.length : Int) ≤ (K.length : Int)) = true ∧ (K.take p.length == p) = true ∧ decide (0 ≤ cmpI K p) = true ∧ lim p = some l ∧ decide (cmpI K l < 0) = true) ∨
    (decide ((p.length : Int) ≤ (K.length : Int)) = false ∧ decide (0 ≤ cmpI K p) = false) ∨
    (∃ l, decide ((p.length : Int) ≤ (K.length : Int)) = false ∧ decide (0 ≤ cmpI K p) = true ∧ lim p = some l ∧ decide (cmpI K l < 0) = false) ∨
    (decide ((p.length : Int) ≤ (K.length : Int)) = true ∧ (K.take p.length == p) = false ∧ decide (0 ≤ cmpI K p) = false) ∨
    (∃ l, decide ((p.length : Int) ≤ (K.length : Int)) = true ∧ (K.take p.length == p) = false ∧ decide (0 ≤ cmpI K p) = true ∧ lim p = some l ∧ decide (cmpI K l < 0) = false) := by
  have h := prefix_law p K
  simp only [decide_eq_true_eq, decide_eq_false_iff_not, beq_iff_eq, beq_eq_false_iff_ne, ne_eq]
  by_cases h1 : p.length ≤ K.length
  · have h1' : (p.length : Int) ≤ (K.length : Int) := by omega
    by_cases h2 : K.take p.length = p
    · obtain ⟨h3, h4⟩ := h.2 ⟨h1, h2⟩
      rcases h4 with h4 | ⟨l, h4, h5⟩
      · exact .inl ⟨h1', h2, h3, h4⟩
      · exact .inr (.inl ⟨l, h1', h2, h3, h4, h5⟩)
    · have h3 : ¬ (0 ≤ cmpI K p ∧ (lim p = none ∨ ∃ l, lim p = some l ∧ cmpI K l < 0)) := fun hh => h2 (h.1 hh).2
      by_cases h4 : 0 ≤ cmpI K p
      · cases hl : lim p with
        | none => exact absurd ⟨h4, .inl hl⟩ h3
        | some l => exact .inr (.inr (.inr (.inr (.inr ⟨l, h1', h2, h4, rfl, fun h5 => h3 ⟨h4, .inr ⟨l, hl, h5⟩⟩⟩))))
      · exact .inr (.inr (.inr (.inr (.inl ⟨h1', h2, h4⟩))))
  · have h1' : ¬ (p.length : Int) ≤ (K.length : Int) := by omega
    have h3 : ¬ (0 ≤ cmpI K p ∧ (lim p = none ∨ ∃ l, lim p = some l ∧ cmpI K l < 0)) := fun hh => h1 (h.1 hh).1
    by_cases h4 : 0 ≤ cmpI K p
    · cases hl : lim p with
      | none => exact absurd ⟨h4, .inl hl⟩ h3
      | some l => exact .inr (.inr (.inr (.inl ⟨l, h1', h4, rfl, fun h5 => h3 ⟨h4, .inr ⟨l, hl, h5⟩⟩⟩)))
    · exact .inr (.inr (.inl ⟨h1', h4⟩))

theorem at_append_left {a b : List UInt8} {i : Nat} (h : i < a.length) : at_ (a ++ b) i = at_ a i := by simp [at_, List.getElem?_append_left h]

/-- What is above the first at the place where its copy ends. -/
theorem bumped_ge (a : List UInt8) (n : Nat) (hn : n < a.length) (h : (at_ a n).toNat < 255) : 0 ≤ cmpI (a.take n ++ [up (at_ a n)]) a := by
  have hl : (a.take n).length = n := by rw [List.length_take]; omega
  rw [cmpI_drop (a := a.take n ++ [up (at_ a n)]) (n := n) (by simp; omega) (by omega) (fun i hi => by rw [at_append_left (by omega)]; simp [at_, hi])]
  rw [List.drop_append, hl, drop_at hn]
  have hu := up_toNat h
  simp only [Nat.sub_self, List.drop_zero, List.drop_of_length_le (Nat.le_of_eq hl), List.nil_append]
  rw [cmpI_cons]
  split
  · cases a.drop (n + 1) with
    | nil => simp
    | cons y l => rename_i e; rw [e] at hu; omega
  · omega
theorem bumped_lt (a b : List UInt8) (n : Nat) (hn : n = shared a b) (ha : n < a.length) (hb : n < b.length) (h : (at_ a n).toNat + 1 < (at_ b n).toNat) :
    cmpI (a.take n ++ [up (at_ a n)]) b < 0 := by
  have hl : (a.take n).length = n := by rw [List.length_take]; omega
  have hb8 := u8_lt (at_ b n)
  rw [cmpI_drop (a := a.take n ++ [up (at_ a n)]) (n := n) (by simp; omega) (by omega) (fun i hi => by
    rw [at_append_left (by omega)]
    have : at_ (a.take n) i = at_ a i := by simp [at_, hi]
    rw [this]; exact shared_at (by omega))]
  rw [List.drop_append, hl, drop_at hb]
  have hu := up_toNat (c := at_ a n) (by omega)
  simp only [Nat.sub_self, List.drop_zero, List.drop_of_length_le (Nat.le_of_eq hl), List.nil_append]
  rw [cmpI_cons]
  split
  · rename_i e; rw [e] at hu; omega
  · omega
theorem bumped_length (a : List UInt8) (n : Nat) (hn : n < a.length) (c : UInt8) : (a.take n ++ [c]).length = n + 1 := by simp; omega

/-- The separator of the default comparer. -/
def sep (a b : List UInt8) : Option (List UInt8) :=
  let n := shared a b
  if n < a.length ∧ n < b.length ∧ (at_ a n).toNat < 255 ∧ (at_ a n).toNat + 1 < (at_ b n).toNat then some (a.take n ++ [up (at_ a n)]) else none
theorem sep_law {a b x : List UInt8} (h : sep a b = some x) : 0 ≤ cmpI x a ∧ cmpI x b < 0 ∧ x.length ≤ a.length ∧ x.length = shared a b + 1 := by
  unfold sep at h
  simp only at h
  split at h
  · rename_i hc
    cases h
    obtain ⟨h1, h2, h3, h4⟩ := hc
    have := bumped_length a _ h1 (up (at_ a (shared a b)))
    exact ⟨bumped_ge a _ h1 h3, bumped_lt a b _ rfl h1 h2 h4, by omega, this⟩
  · cases h

/-- The first place from n on whose byte is not 255. -/
def fresh (b : List UInt8) : Nat → Option Nat
  | n => if h : n < b.length then if (at_ b n).toNat ≠ 255 then some n else fresh b (n + 1) else none
  termination_by n => b.length - n
/-- The successor of the default comparer, looked for from n on. -/
def succ (b : List UInt8) (n : Nat) : Option (List UInt8) := (fresh b n).map fun i => b.take i ++ [up (at_ b i)]
theorem fresh_lt {b : List UInt8} {n i : Nat} : fresh b n = some i → i < b.length ∧ (at_ b i).toNat < 255 := by
  fun_induction fresh b n with
  | case1 x m h1 h2 =>
    intro h
    simp only [Option.some.injEq] at h
    subst h
    have := u8_lt (at_ b m)
    exact ⟨h1, by omega⟩
  | case2 x m h1 h2 ih => exact ih
  | case3 x m h1 => intro h; cases h
theorem succ_law {b x : List UInt8} {n : Nat} (h : succ b n = some x) : 0 ≤ cmpI x b ∧ x.length ≤ b.length := by
  unfold succ at h
  cases hf : fresh b n with
  | none => rw [hf] at h; cases h
  | some i =>
    rw [hf] at h
    cases h
    obtain ⟨h1, h2⟩ := fresh_lt hf
    have := bumped_length b i h1 (up (at_ b i))
    exact ⟨bumped_ge b i h1 h2, by show (b.take i ++ [up (at_ b i)]).length ≤ _; omega⟩
theorem sep_none {a b : List UInt8} (h : sep a b = none) : ¬ (shared a b < a.length ∧ shared a b < b.length ∧ bz a (shared a b) < 255 ∧ bz a (shared a b) + 1 < bz b (shared a b)) := by
  intro hc
  unfold sep at h
  unfold bz at hc
  rw [if_pos ⟨hc.1, hc.2.1, by omega, by omega⟩] at h
  cases h
theorem sep_in {a b x : List UInt8} (h : sep a b = some x) : shared a b < a.length ∧ shared a b < b.length ∧ bz a (shared a b) < 255 ∧ bz a (shared a b) + 1 < bz b (shared a b) := by
  unfold sep at h
  simp only at h
  split at h
  · rename_i hc
    unfold bz
    exact ⟨hc.1, hc.2.1, by omega, by omega⟩
  · cases h
theorem succ_pos {b x : List UInt8} {n : Nat} (h : succ b n = some x) : 0 < x.length := by
  unfold succ at h
  cases hf : fresh b n with
  | none => rw [hf] at h; cases h
  | some i => rw [hf] at h; cases h; simp
end Go.Proofs.YtloflmcgbbbnjaaDoor.Plain
