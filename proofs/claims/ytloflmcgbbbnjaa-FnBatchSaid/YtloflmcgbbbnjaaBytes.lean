/-
  PLAIN: lists of bytes, compared byte by byte. No Go in sight.
-/
namespace Go.Proofs.Ytloflmcgbbbnjaa.Plain

/-- As the reference compares: below 0, 0, above 0. -/
def cmpI : List UInt8 → List UInt8 → Int
  | [], b => -(b.length : Int)
  | a :: as, [] => ((a :: as).length : Int)
  | a :: as, b :: bs => if a = b then cmpI as bs else (a.toNat : Int) - (b.toNat : Int)

@[simp] theorem cmpI_nil (b : List UInt8) : cmpI [] b = -(b.length : Int) := by cases b <;> rfl
@[simp] theorem cmpI_cons_nil (a : UInt8) (as : List UInt8) : cmpI (a :: as) [] = (as.length : Int) + 1 := by simp [cmpI]
theorem cmpI_cons (a b : UInt8) (as bs : List UInt8) : cmpI (a :: as) (b :: bs) = if a = b then cmpI as bs else (a.toNat : Int) - (b.toNat : Int) := rfl

theorem u8_ne {a b : UInt8} (h : a ≠ b) : a.toNat ≠ b.toNat := fun e => h (UInt8.toNat_inj.1 e)
theorem u8_lt (a : UInt8) : a.toNat < 256 := a.toNat_lt

theorem cmpI_refl (a : List UInt8) : cmpI a a = 0 := by
  induction a with
  | nil => rfl
  | cons x a ih => rw [cmpI_cons, if_pos rfl, ih]

theorem cmpI_anti (a b : List UInt8) : cmpI a b = - cmpI b a := by
  induction a generalizing b with
  | nil => cases b <;> simp [cmpI]
  | cons x a ih =>
    cases b with
    | nil => simp [cmpI]
    | cons y b =>
      rw [cmpI_cons, cmpI_cons]
      by_cases e : x = y
      · subst e; rw [if_pos rfl, if_pos rfl, ih]
      · rw [if_neg e, if_neg (Ne.symm e)]; omega

theorem cmpI_eq {a b : List UInt8} : cmpI a b = 0 ↔ a = b := by
  constructor
  · intro h
    induction a generalizing b with
    | nil => cases b with
      | nil => rfl
      | cons y b => simp at h; omega
    | cons x a ih =>
      cases b with
      | nil => simp at h; omega
      | cons y b =>
        rw [cmpI_cons] at h
        by_cases e : x = y
        · rw [if_pos e] at h; rw [e, ih h]
        · rw [if_neg e] at h; have := u8_ne e; omega
  · rintro rfl; exact cmpI_refl a

theorem cmpI_trans {a b c : List UInt8} (h1 : cmpI a b < 0) (h2 : cmpI b c < 0) : cmpI a c < 0 := by
  induction a generalizing b c with
  | nil =>
    cases c with
    | nil => cases b with
      | nil => simp at h2
      | cons y b => simp at h2; omega
    | cons z c => simp
  | cons x a ih =>
    cases b with
    | nil => simp at h1; omega
    | cons y b =>
      cases c with
      | nil => simp at h2; omega
      | cons z c =>
        rw [cmpI_cons] at h1 h2 ⊢
        by_cases e1 : x = y
        · subst e1
          rw [if_pos rfl] at h1
          by_cases e2 : x = z
          · rw [if_pos e2] at h2 ⊢; exact ih h1 h2
          · rw [if_neg e2] at h2 ⊢; exact h2
        · rw [if_neg e1] at h1
          by_cases e2 : y = z
          · subst e2; rw [if_neg e1]; exact h1
          · rw [if_neg e2] at h2
            by_cases e3 : x = z
            · subst e3; omega
            · rw [if_neg e3]; omega

theorem cmpI_le_trans {a b c : List UInt8} (h1 : cmpI a b ≤ 0) (h2 : cmpI b c ≤ 0) : cmpI a c ≤ 0 := by
  rcases Int.lt_or_eq_of_le h1 with h1 | h1
  · rcases Int.lt_or_eq_of_le h2 with h2 | h2
    · exact Int.le_of_lt (cmpI_trans h1 h2)
    · rw [cmpI_eq] at h2; subst h2; exact Int.le_of_lt h1
  · rw [cmpI_eq] at h1; subst h1; exact h2
theorem cmpI_lt_le {a b c : List UInt8} (h1 : cmpI a b < 0) (h2 : cmpI b c ≤ 0) : cmpI a c < 0 := by
  rcases Int.lt_or_eq_of_le h2 with h2 | h2
  · exact cmpI_trans h1 h2
  · rw [cmpI_eq] at h2; subst h2; exact h1
theorem cmpI_le_lt {a b c : List UInt8} (h1 : cmpI a b ≤ 0) (h2 : cmpI b c < 0) : cmpI a c < 0 := by
  rcases Int.lt_or_eq_of_le h1 with h1 | h1
  · exact cmpI_trans h1 h2
  · rw [cmpI_eq] at h1; subst h1; exact h2

theorem cmpI_range (a b : List UInt8) : -((b.length : Int) + 256) ≤ cmpI a b ∧ cmpI a b ≤ (a.length : Int) + 256 := by
  induction a generalizing b with
  | nil => simp; omega
  | cons x a ih =>
    cases b with
    | nil => simp; omega
    | cons y b =>
      rw [cmpI_cons]
      have h1 := u8_lt x; have h2 := u8_lt y
      have := ih b
      split <;> simp only [List.length_cons] <;> omega

/-- How much two lists share at their heads. -/
def shared : List UInt8 → List UInt8 → Nat
  | a :: as, b :: bs => if a = b then shared as bs + 1 else 0
  | _, _ => 0
@[simp] theorem shared_nil (b : List UInt8) : shared [] b = 0 := by cases b <;> rfl
@[simp] theorem shared_nil' (a : List UInt8) : shared a [] = 0 := by cases a <;> rfl
theorem shared_cons (a b : UInt8) (as bs : List UInt8) : shared (a :: as) (b :: bs) = if a = b then shared as bs + 1 else 0 := rfl
theorem shared_le (a b : List UInt8) : shared a b ≤ a.length ∧ shared a b ≤ b.length := by
  induction a generalizing b with
  | nil => simp
  | cons x a ih =>
    cases b with
    | nil => simp
    | cons y b =>
      rw [shared_cons]
      have := ih b
      split <;> simp only [List.length_cons] <;> omega

/-- A byte of a list; 0 behind its end. -/
def at_ (l : List UInt8) (i : Nat) : UInt8 := l[i]?.getD 0
theorem at_get {l : List UInt8} {i : Nat} (h : i < l.length) : at_ l i = l[i] := by simp [at_, List.getElem?_eq_getElem h]
theorem at_some {l : List UInt8} {i : Nat} (h : i < l.length) : l[i]? = some (at_ l i) := by simp [at_, List.getElem?_eq_getElem h]
theorem drop_at {l : List UInt8} {i : Nat} (h : i < l.length) : l.drop i = at_ l i :: l.drop (i + 1) := by
  rw [at_get h]; exact List.drop_eq_getElem_cons h
theorem take_at {l : List UInt8} {i : Nat} (h : i < l.length) : l.take (i + 1) = l.take i ++ [at_ l i] := by
  rw [at_get h]; exact List.take_succ_eq_append_getElem h

/-- Two lists that agree on their first n bytes are compared behind them. -/
theorem cmpI_drop {a b : List UInt8} {n : Nat} (ha : n ≤ a.length) (hb : n ≤ b.length) (h : ∀ i, i < n → at_ a i = at_ b i) : cmpI a b = cmpI (a.drop n) (b.drop n) := by
  induction n generalizing a b with
  | zero => simp
  | succ n ih =>
    cases a with
    | nil => simp at ha
    | cons x a =>
      cases b with
      | nil => simp at hb
      | cons y b =>
        have h0 : x = y := by simpa [at_] using h 0 (by omega)
        rw [cmpI_cons, if_pos h0, List.drop_succ_cons, List.drop_succ_cons]
        exact ih (by simpa using ha) (by simpa using hb) (fun i hi => by simpa [at_] using h (i + 1) (by omega))
theorem shared_drop {a b : List UInt8} {n : Nat} (ha : n ≤ a.length) (hb : n ≤ b.length) (h : ∀ i, i < n → at_ a i = at_ b i) : shared a b = n + shared (a.drop n) (b.drop n) := by
  induction n generalizing a b with
  | zero => simp
  | succ n ih =>
    cases a with
    | nil => simp at ha
    | cons x a =>
      cases b with
      | nil => simp at hb
      | cons y b =>
        have h0 : x = y := by simpa [at_] using h 0 (by omega)
        rw [shared_cons, if_pos h0, List.drop_succ_cons, List.drop_succ_cons, ih (by simpa using ha) (by simpa using hb) (fun i hi => by simpa [at_] using h (i + 1) (by omega))]
        omega
theorem shared_at {a b : List UInt8} {i : Nat} (h : i < shared a b) : at_ a i = at_ b i := by
  induction a generalizing b i with
  | nil => simp at h
  | cons x a ih =>
    cases b with
    | nil => simp at h
    | cons y b =>
      rw [shared_cons] at h
      by_cases e : x = y
      · rw [if_pos e] at h
        cases i with
        | zero => simp [at_, e]
        | succ i => simpa [at_] using ih (b := b) (i := i) (by omega)
      · rw [if_neg e] at h; omega
theorem shared_parts {a b : List UInt8} (ha : shared a b < a.length) (hb : shared a b < b.length) : at_ a (shared a b) ≠ at_ b (shared a b) := by
  induction a generalizing b with
  | nil => simp at ha
  | cons x a ih =>
    cases b with
    | nil => simp at hb
    | cons y b =>
      rw [shared_cons] at ha hb ⊢
      by_cases e : x = y
      · rw [if_pos e] at ha hb ⊢
        simpa [at_] using ih (b := b) (by simpa using ha) (by simpa using hb)
      · rw [if_neg e]; simpa [at_] using e
theorem shared_take (a b : List UInt8) : a.take (shared a b) = b.take (shared a b) := by
  induction a generalizing b with
  | nil => simp
  | cons x a ih =>
    cases b with
    | nil => simp
    | cons y b =>
      rw [shared_cons]
      by_cases e : x = y
      · rw [if_pos e, List.take_succ_cons, List.take_succ_cons, e, ih]
      · rw [if_neg e]; simp
theorem cmpI_at {a b : List UInt8} (n : Nat) (hn : n = shared a b) (ha : n < a.length) (hb : n < b.length) : cmpI a b = ((at_ a n).toNat : Int) - ((at_ b n).toNat : Int) := by
  subst hn
  rw [cmpI_drop (Nat.le_of_lt ha) (Nat.le_of_lt hb) (fun i hi => shared_at hi), drop_at ha, drop_at hb, cmpI_cons, if_neg (shared_parts ha hb)]
theorem cmpI_end {a b : List UInt8} (h : ¬ (shared a b < a.length ∧ shared a b < b.length)) : cmpI a b = (a.length : Int) - b.length := by
  have h1 := shared_le a b
  rw [cmpI_drop h1.1 h1.2 (fun i hi => shared_at hi)]
  rcases Nat.lt_or_ge (shared a b) a.length with h2 | h2
  · have h3 : b.drop (shared a b) = [] := List.drop_eq_nil_of_le (by omega)
    rw [h3]
    have h4 : (a.drop (shared a b)).length = a.length - shared a b := List.length_drop
    cases hh : a.drop (shared a b) with
    | nil => rw [hh] at h4; simp at h4; omega
    | cons x l => rw [hh] at h4; simp at h4 ⊢; omega
  · have h3 : a.drop (shared a b) = [] := List.drop_eq_nil_of_le (by omega)
    rw [h3, cmpI_nil, List.length_drop]; omega
/-- One step more is shared. -/
theorem shared_step {a b : List UInt8} {k : Nat} (hk : k ≤ shared a b) (h1 : k < a.length) (h2 : k < b.length) (e : at_ a k = at_ b k) : k + 1 ≤ shared a b := by
  rcases Nat.lt_or_eq_of_le hk with h | h
  · exact h
  · exfalso; subst h; exact shared_parts h1 h2 e
/-- Here they part. -/
theorem shared_stop {a b : List UInt8} {k : Nat} (hk : k ≤ shared a b) (e : at_ a k ≠ at_ b k) : k = shared a b := by
  rcases Nat.lt_or_eq_of_le hk with h | h
  · exact absurd (shared_at h) e
  · exact h
/-- A byte as a number (closed to the walk). -/
def bz (l : List UInt8) (i : Nat) : Int := ((at_ l i).toNat : Int)
theorem bz_lo (l : List UInt8) (i : Nat) : 0 ≤ bz l i := by unfold bz; omega
theorem bz_hi (l : List UInt8) (i : Nat) : bz l i < 256 := by have := u8_lt (at_ l i); unfold bz; omega
theorem bz_eq {a b : List UInt8} {i j : Nat} : bz a i = bz b j ↔ at_ a i = at_ b j := by
  unfold bz
  rw [← UInt8.toNat_inj]
  omega
theorem at_ext {l l' : List UInt8} (hl : l.length = l'.length) (h : ∀ i, i < l.length → at_ l i = at_ l' i) : l = l' := by
  apply List.ext_getElem hl
  intro i h1 h2
  rw [← at_get h1, ← at_get h2, h i h1]
end Go.Proofs.Ytloflmcgbbbnjaa.Plain
