/-
  PLAIN: lists of bytes, compared byte by byte. No Go in sight.
  PLAIN: numbers in groups of seven bits. No Go in sight.
  PLAIN: an ordered map as a list of records in the order of their keys. No Go in sight.
  PLAIN: a skip list in a row of numbers: its nodes in order, a next one on each level; where a node is laid in, where it is taken out. No Go in sight.
  PLAIN: the entries of a memory database over its skip list; the search, step by step. No Go in sight.
  PLAIN: a memory database's entries behind a put, behind a delete; its pairs. No Go in sight.
  PLAIN: a range of an ordered map is a stretch of it. No Go in sight.
-/
namespace Go.Proofs.YtloflmcgbbbnjaaDoor.Plain

/-- As the reference compares: below 0, 0, above 0. -/
def cmpI : List UInt8 → List UInt8 → Int
  | [], b => -(b.length : Int)
  | a :: as, [] => ((a :: as).length : Int)
  | a :: as, b :: bs => if a = b then cmpI as bs else (a.toNat : Int) - (b.toNat : Int)

@[simp] theorem cmpI_nil (b : List UInt8) : cmpI [] b = -(b.length : Int) := by cases b <;> rfl
@[simp] theorem cmpI_cons_nil (a : UInt8) (as : List UInt8) : cmpI (a :: as) [] = (as.length : Int) + 1 := by simp [cmpI]
theorem cmpI_cons (a b : UInt8) (as bs : List UInt8) : cmpI (a :: as) (b :: bs) = if a = b then cmpI as bs else (a.toNat : Int) - (b.toNat : Int) := rfl

theorem u8_ne {a b : UInt8} (h : a ≠ b) : a.toNat ≠ b.toNat := fun e => h (UInt8.toNat_inj.1 e)
theorem u8_lt (a : UInt8) : a.toNat < 256 := a.toNat_lt

theorem cmpI_refl (a : List UInt8) : cmpI a a = 0 := by
  induction a with
  | nil => rfl
  | cons x a ih => rw [cmpI_cons, if_pos rfl, ih]

theorem cmpI_anti (a b : List UInt8) : cmpI a b = - cmpI b a := by
  induction a generalizing b with
  | nil => cases b <;> simp [cmpI]
  | cons x a ih =>
    cases b with
    | nil => simp [cmpI]
    | cons y b =>
      rw [cmpI_cons, cmpI_cons]
      by_cases e : x = y
      · subst e; rw [if_pos rfl, if_pos rfl, ih]
      · rw [if_neg e, if_neg (Ne.symm e)]; omega

theorem cmpI_eq {a b : List UInt8} : cmpI a b = 0 ↔ a = b := by
  constructor
  · intro h
    induction a generalizing b with
    | nil => cases b with
      | nil => rfl
      | cons y b => simp at h; omega
    | cons x a ih =>
      cases b with
      | nil => simp at h; omega
      | cons y b =>
        rw [cmpI_cons] at h
        by_cases e : x = y
        · rw [if_pos e] at h; rw [e, ih h]
        · rw [if_neg e] at h; have := u8_ne e; omega
  · rintro rfl; exact cmpI_refl a

theorem cmpI_trans {a b c : List UInt8} (h1 : cmpI a b < 0) (h2 : cmpI b c < 0) : cmpI a c < 0 := by
  induction a generalizing b c with
  | nil =>
    cases c with
    | nil => cases b with
      | nil => simp at h2
      | cons y b => simp at h2; omega
    | cons z c => simp
  | cons x a ih =>
    cases b with
    | nil => simp at h1; omega
    | cons y b =>
      cases c with
      | nil => simp at h2; omega
      | cons z c =>
        rw [cmpI_cons] at h1 h2 ⊢
        by_cases e1 : x = y
        · subst e1
          rw [if_pos rfl] at h1
          by_cases e2 : x = z
          · rw [if_pos e2] at h2 ⊢; exact ih h1 h2
          · rw [if_neg e2] at h2 ⊢; exact h2
        · rw [if_neg e1] at h1
          by_cases e2 : y = z
          · subst e2; rw [if_neg e1]; exact h1
          · rw [if_neg e2] at h2
            by_cases e3 : x = z
            · subst e3; omega
            · rw [if_neg e3]; omega

theorem cmpI_le_trans {a b c : List UInt8} (h1 : cmpI a b ≤ 0) (h2 : cmpI b c ≤ 0) : cmpI a c ≤ 0 := by
  rcases Int.lt_or_eq_of_le h1 with h1 | h1
  · rcases Int.lt_or_eq_of_le h2 with h2 | h2
    · exact Int.le_of_lt (cmpI_trans h1 h2)
    · rw [cmpI_eq] at h2; subst h2; exact Int.le_of_lt h1
  · rw [cmpI_eq] at h1; subst h1; exact h2
theorem cmpI_lt_le {a b c : List UInt8} (h1 : cmpI a b < 0) (h2 : cmpI b c ≤ 0) : cmpI a c < 0 := by
  rcases Int.lt_or_eq_of_le h2 with h2 | h2
  · exact cmpI_trans h1 h2
  · rw [cmpI_eq] at h2; subst h2; exact h1
theorem cmpI_le_lt {a b c : List UInt8} (h1 : cmpI a b ≤ 0) (h2 : cmpI b c < 0) : cmpI a c < 0 := by
  rcases Int.lt_or_eq_of_le h1 with h1 | h1
  · exact cmpI_trans h1 h2
  · rw [cmpI_eq] at h1; subst h1; exact h2

theorem cmpI_range (a b : List UInt8) : -((b.length : Int) + 256) ≤ cmpI a b ∧ cmpI a b ≤ (a.length : Int) + 256 := by
  induction a generalizing b with
  | nil => simp; omega
  | cons x a ih =>
    cases b with
    | nil => simp; omega
    | cons y b =>
      rw [cmpI_cons]
      have h1 := u8_lt x; have h2 := u8_lt y
      have := ih b
      split <;> simp only [List.length_cons] <;> omega

/-- How much two lists share at their heads. -/
def shared : List UInt8 → List UInt8 → Nat
  | a :: as, b :: bs => if a = b then shared as bs + 1 else 0
  | _, _ => 0
@[simp] theorem shared_nil (b : List UInt8) : shared [] b = 0 := by cases b <;> rfl
@[simp] theorem shared_nil' (a : List UInt8) : shared a [] = 0 := by cases a <;> rfl
theorem shared_cons (a b : UInt8) (as bs : List UInt8) : shared (a :: as) (b :: bs) = if a = b then shared as bs + 1 else 0 := rfl
theorem shared_le (a b : List UInt8) : shared a b ≤ a.length ∧ shared a b ≤ b.length := by
  induction a generalizing b with
  | nil => simp
  | cons x a ih =>
    cases b with
    | nil => simp
    | cons y b =>
      rw [shared_cons]
      have := ih b
      split <;> simp only [List.length_cons] <;> omega

/-- A byte of a list; 0 behind its end. -/
def at_ (l : List UInt8) (i : Nat) : UInt8 := l[i]?.getD 0
theorem at_get {l : List UInt8} {i : Nat} (h : i < l.length) : at_ l i = l[i] := by simp [at_, List.getElem?_eq_getElem h]
theorem at_some {l : List UInt8} {i : Nat} (h : i < l.length) : l[i]? = some (at_ l i) := by simp [at_, List.getElem?_eq_getElem h]
theorem drop_at {l : List UInt8} {i : Nat} (h : i < l.length) : l.drop i = at_ l i :: l.drop (i + 1) := by
  rw [at_get h]; exact List.drop_eq_getElem_cons h
theorem take_at {l : List UInt8} {i : Nat} (h : i < l.length) : l.take (i + 1) = l.take i ++ [at_ l i] := by
  rw [at_get h]; exact List.take_succ_eq_append_getElem h

/-- Two lists that agree on their first n bytes are compared behind them. -/
theorem cmpI_drop {a b : List UInt8} {n : Nat} (ha : n ≤ a.length) (hb : n ≤ b.length) (h : ∀ i, i < n → at_ a i = at_ b i) : cmpI a b = cmpI (a.drop n) (b.drop n) := by
  induction n generalizing a b with
  | zero => simp
  | succ n ih =>
    cases a with
    | nil => simp at ha
    | cons x a =>
      cases b with
      | nil => simp at hb
      | cons y b =>
        have h0 : x = y := by simpa [at_] using h 0 (by omega)
        rw [cmpI_cons, if_pos h0, List.drop_succ_cons, List.drop_succ_cons]
        exact ih (by simpa using ha) (by simpa using hb) (fun i hi => by simpa [at_] using h (i + 1) (by omega))
theorem shared_drop {a b : List UInt8} {n : Nat} (ha : n ≤ a.length) (hb : n ≤ b.length) (h : ∀ i, i < n → at_ a i = at_ b i) : shared a b = n + shared (a.drop n) (b.drop n) := by
  induction n generalizing a b with
  | zero => simp
  | succ n ih =>
    cases a with
    | nil => simp at ha
    | cons x a =>
      cases b with
      | nil => simp at hb
      | cons y b =>
        have h0 : x = y := by simpa [at_] using h 0 (by omega)
        rw [shared_cons, if_pos h0, List.drop_succ_cons, List.drop_succ_cons, ih (by simpa using ha) (by simpa using hb) (fun i hi => by simpa [at_] using h (i + 1) (by omega))]
        omega
theorem shared_at {a b : List UInt8} {i : Nat} (h : i < shared a b) : at_ a i = at_ b i := by
  induction a generalizing b i with
  | nil => simp at h
  | cons x a ih =>
    cases b with
    | nil => simp at h
    | cons y b =>
      rw [shared_cons] at h
      by_cases e : x = y
      · rw [if_pos e] at h
        cases i with
        | zero => simp [at_, e]
        | succ i => simpa [at_] using ih (b := b) (i := i) (by omega)
      · rw [if_neg e] at h; omega
theorem shared_parts {a b : List UInt8} (ha : shared a b < a.length) (hb : shared a b < b.length) : at_ a (shared a b) ≠ at_ b (shared a b) := by
  induction a generalizing b with
  | nil => simp at ha
  | cons x a ih =>
    cases b with
    | nil => simp at hb
    | cons y b =>
      rw [shared_cons] at ha hb ⊢
      by_cases e : x = y
      · rw [if_pos e] at ha hb ⊢
        simpa [at_] using ih (b := b) (by simpa using ha) (by simpa using hb)
      · rw [if_neg e]; simpa [at_] using e
theorem shared_take (a b : List UInt8) : a.take (shared a b) = b.take (shared a b) := by
  induction a generalizing b with
  | nil => simp
  | cons x a ih =>
    cases b with
    | nil => simp
    | cons y b =>
      rw [shared_cons]
      by_cases e : x = y
      · rw [if_pos e, List.take_succ_cons, List.take_succ_cons, e, ih]
      · rw [if_neg e]; simp
theorem cmpI_at {a b : List UInt8} (n : Nat) (hn : n = shared a b) (ha : n < a.length) (hb : n < b.length) : cmpI a b = ((at_ a n).toNat : Int) - ((at_ b n).toNat : Int) := by
  subst hn
  rw [cmpI_drop (Nat.le_of_lt ha) (Nat.le_of_lt hb) (fun i hi => shared_at hi), drop_at ha, drop_at hb, cmpI_cons, if_neg (shared_parts ha hb)]
theorem cmpI_end {a b : List UInt8} (h : ¬ (shared a b < a.length ∧ shared a b < b.length)) : cmpI a b = (a.length : Int) - b.length := by
  have h1 := shared_le a b
  rw [cmpI_drop h1.1 h1.2 (fun i hi => shared_at hi)]
  rcases Nat.lt_or_ge (shared a b) a.length with h2 | h2
  · have h3 : b.drop (shared a b) = [] := List.drop_eq_nil_of_le (by omega)
    rw [h3]
    have h4 : (a.drop (shared a b)).length = a.length - shared a b := List.length_drop
    cases hh : a.drop (shared a b) with
    | nil => rw [hh] at h4; simp at h4; omega
    | cons x l => rw [hh] at h4; simp at h4 ⊢; omega
  · have h3 : a.drop (shared a b) = [] := List.drop_eq_nil_of_le (by omega)
    rw [h3, cmpI_nil, List.length_drop]; omega
/-- One step more is shared. -/
theorem shared_step {a b : List UInt8} {k : Nat} (hk : k ≤ shared a b) (h1 : k < a.length) (h2 : k < b.length) (e : at_ a k = at_ b k) : k + 1 ≤ shared a b := by
  rcases Nat.lt_or_eq_of_le hk with h | h
  · exact h
  · exfalso; subst h; exact shared_parts h1 h2 e
/-- Here they part. -/
theorem shared_stop {a b : List UInt8} {k : Nat} (hk : k ≤ shared a b) (e : at_ a k ≠ at_ b k) : k = shared a b := by
  rcases Nat.lt_or_eq_of_le hk with h | h
  · exact absurd (shared_at h) e
  · exact h
/-- A byte as a number (closed to the walk). -/
def bz (l : List UInt8) (i : Nat) : Int := ((at_ l i).toNat : Int)
theorem bz_lo (l : List UInt8) (i : Nat) : 0 ≤ bz l i := by unfold bz; omega
theorem bz_hi (l : List UInt8) (i : Nat) : bz l i < 256 := by have := u8_lt (at_ l i); unfold bz; omega
theorem bz_eq {a b : List UInt8} {i j : Nat} : bz a i = bz b j ↔ at_ a i = at_ b j := by
  unfold bz
  rw [← UInt8.toNat_inj]
  omega
theorem at_ext {l l' : List UInt8} (hl : l.length = l'.length) (h : ∀ i, i < l.length → at_ l i = at_ l' i) : l = l' := by
  apply List.ext_getElem hl
  intro i h1 h2
  rw [← at_get h1, ← at_get h2, h i h1]
end Go.Proofs.YtloflmcgbbbnjaaDoor.Plain
namespace Go.Proofs.YtloflmcgbbbnjaaDoor.Plain

def uv (x : Nat) : List UInt8 := if h : x < 128 then [UInt8.ofNat x] else UInt8.ofNat (x % 128 + 128) :: uv (x / 128)
theorem uv_small {x : Nat} (h : x < 128) : uv x = [UInt8.ofNat x] := by unfold uv; rw [dif_pos h]
theorem uv_big {x : Nat} (h : ¬ x < 128) : uv x = UInt8.ofNat (x % 128 + 128) :: uv (x / 128) := by
  rw [uv]
  simp [h]
theorem uv_pos (x : Nat) : 0 < (uv x).length := by
  by_cases h : x < 128
  · rw [uv_small h]; simp
  · rw [uv_big h]; simp
theorem uv_len : ∀ (k : Nat) (x : Nat), x < 128 ^ (k + 1) → (uv x).length ≤ k + 1
  | 0, x, h => by rw [uv_small (by omega)]; simp
  | k + 1, x, h => by
    by_cases h' : x < 128
    · rw [uv_small h']; simp
    · rw [uv_big h', List.length_cons]
      have := uv_len k (x / 128) (by rw [Nat.div_lt_iff_lt_mul (by decide)]; rwa [Nat.pow_succ] at h)
      omega
theorem uv_len5 {x : Nat} (h : x < 34359738368) : (uv x).length ≤ 5 := uv_len 4 x (by omega)
theorem uv_len10 {x : Nat} (h : x < 18446744073709551616) : (uv x).length ≤ 10 := uv_len 9 x (by omega)
end Go.Proofs.YtloflmcgbbbnjaaDoor.Plain
namespace Go.Proofs.YtloflmcgbbbnjaaDoor.Plain

section
variable {α : Type} (kf : α → List UInt8)
/-- The place of the first record whose key is at least a key. -/
def mAt : List α → List UInt8 → Nat
  | [], _ => 0
  | x :: m, k => if cmpI (kf x) k < 0 then mAt m k + 1 else 0
def mIs (m : List α) (k : List UInt8) : Bool := match m[mAt kf m k]? with | some x => decide (cmpI (kf x) k = 0) | none => false
def mPut (m : List α) (x : α) : List α := if mIs kf m (kf x) then m.set (mAt kf m (kf x)) x else m.take (mAt kf m (kf x)) ++ x :: m.drop (mAt kf m (kf x))
def mDel (m : List α) (k : List UInt8) : List α := if mIs kf m k then m.take (mAt kf m k) ++ m.drop (mAt kf m k + 1) else m
def mRange (m : List α) (s : List UInt8) (e : Option (List UInt8)) : List α := m.filter fun x => decide (0 ≤ cmpI (kf x) s) && (match e with | none => true | some e => decide (cmpI (kf x) e < 0))
/-- In the order of their keys, none twice. -/
def Asc (m : List α) : Prop := m.Pairwise fun x y => cmpI (kf x) (kf y) < 0

theorem mAt_le : ∀ (m : List α) (k : List UInt8), mAt kf m k ≤ m.length
  | [], _ => Nat.le_refl _
  | x :: m, k => by
    rw [mAt]
    split
    · have := mAt_le m k; simp; omega
    · exact Nat.zero_le _
theorem mAt_below : ∀ (m : List α) (k : List UInt8) (i : Nat) (x : α), m[i]? = some x → i < mAt kf m k → cmpI (kf x) k < 0
  | [], _, _, _, h, _ => by simp at h
  | y :: m, k, i, x, h, hi => by
    rw [mAt] at hi
    split at hi
    · rename_i hy
      cases i with
      | zero => simp at h; subst h; exact hy
      | succ i => exact mAt_below m k i x (by simpa using h) (by omega)
    · omega
theorem mAt_at : ∀ (m : List α) (k : List UInt8) (x : α), m[mAt kf m k]? = some x → 0 ≤ cmpI (kf x) k
  | [], _, _, h => by simp at h
  | y :: m, k, x, h => by
    rw [mAt] at h
    split at h
    · exact mAt_at m k x (by simpa using h)
    · simp at h; subst h; omega
/-- Where an ascending list parts. -/
theorem mAt_split : ∀ (A B : List α) (k : List UInt8), (∀ x ∈ A, cmpI (kf x) k < 0) → (∀ x ∈ B, 0 ≤ cmpI (kf x) k) → mAt kf (A ++ B) k = A.length
  | [], [], _, _, _ => rfl
  | [], y :: B, k, _, hB => by have := hB y (by simp); rw [List.nil_append, mAt, if_neg (by omega)]; rfl
  | x :: A, B, k, hA, hB => by
    rw [List.cons_append, mAt, if_pos (hA x (by simp)), mAt_split A B k (fun y hy => hA y (by simp [hy])) hB, List.length_cons]
theorem asc_split {m : List α} (h : Asc kf m) (k : List UInt8) : (∀ x ∈ m.take (mAt kf m k), cmpI (kf x) k < 0) ∧ (∀ x ∈ m.drop (mAt kf m k), 0 ≤ cmpI (kf x) k) := by
  constructor
  · intro x hx
    obtain ⟨i, hi⟩ := List.mem_iff_getElem?.1 hx
    rw [List.getElem?_take] at hi
    split at hi
    · exact mAt_below kf m k i x hi (by assumption)
    · cases hi
  · intro x hx
    obtain ⟨i, hi⟩ := List.mem_iff_getElem?.1 hx
    rw [List.getElem?_drop] at hi
    have hlt := (List.getElem?_eq_some_iff.1 hi).1
    have h0 : m[mAt kf m k]? = some m[mAt kf m k] := List.getElem?_eq_getElem (by omega)
    have hz := mAt_at kf m k _ h0
    cases i with
    | zero =>
      rw [Nat.add_zero, h0] at hi
      injection hi with hi
      rw [← hi]; exact hz
    | succ i =>
      obtain ⟨h1, h2⟩ := List.getElem?_eq_some_iff.1 hi
      have h3 := (List.pairwise_iff_getElem.1 h) (mAt kf m k) (mAt kf m k + (i + 1)) (by omega) h1 (by omega)
      rw [h2] at h3
      have h4 := cmpI_anti (kf m[mAt kf m k]) k
      have h5 := cmpI_anti (kf x) k
      rcases Int.lt_or_le (cmpI (kf x) k) 0 with h6 | h6
      · have := cmpI_trans h3 h6; omega
      · exact h6
theorem mIs_iff {m : List α} (h : Asc kf m) (k : List UInt8) : mIs kf m k = true ↔ ∃ x ∈ m, kf x = k := by
  obtain ⟨h1, h2⟩ := asc_split kf h k
  unfold mIs
  constructor
  · intro hm
    cases hx : m[mAt kf m k]? with
    | none => rw [hx] at hm; cases hm
    | some x =>
      rw [hx] at hm
      exact ⟨x, List.mem_of_getElem? hx, cmpI_eq.1 (by simpa using hm)⟩
  · rintro ⟨x, hx, rfl⟩
    have e : m = m.take (mAt kf m (kf x)) ++ m.drop (mAt kf m (kf x)) := (List.take_append_drop _ _).symm
    have hx' : x ∈ m.drop (mAt kf m (kf x)) := by
      rw [e] at hx
      rcases List.mem_append.1 hx with hx | hx
      · have := h1 x hx; rw [cmpI_refl] at this; omega
      · exact hx
    have hlt : mAt kf m (kf x) < m.length := by
      have := List.length_pos_of_mem hx'
      rw [List.length_drop] at this; omega
    rw [List.getElem?_eq_getElem hlt]
    simp only [decide_eq_true_eq]
    rw [List.drop_eq_getElem_cons hlt] at hx'
    rcases List.mem_cons.1 hx' with e2 | hx'
    · rw [← e2]; exact cmpI_refl _
    · obtain ⟨j, hj⟩ := List.mem_iff_getElem?.1 hx'
      rw [List.getElem?_drop] at hj
      obtain ⟨hj1, hj2⟩ := List.getElem?_eq_some_iff.1 hj
      have h3 := (List.pairwise_iff_getElem.1 h) (mAt kf m (kf x)) (mAt kf m (kf x) + 1 + j) hlt hj1 (by omega)
      rw [hj2] at h3
      have := h2 _ (List.mem_of_mem_head? (by rw [List.drop_eq_getElem_cons hlt]; rfl))
      omega
theorem asc_put {m : List α} (h : Asc kf m) (x : α) : Asc kf (mPut kf m x) := by
  obtain ⟨h1, h2⟩ := asc_split kf h (kf x)
  have e : m = m.take (mAt kf m (kf x)) ++ m.drop (mAt kf m (kf x)) := (List.take_append_drop _ _).symm
  have h' := h
  rw [e] at h'
  obtain ⟨p1, p2, p3⟩ := List.pairwise_append.1 h'
  unfold mPut
  by_cases hi : mIs kf m (kf x) = true
  · rw [if_pos hi]
    unfold mIs at hi
    cases hy : m[mAt kf m (kf x)]? with
    | none => rw [hy] at hi; cases hi
    | some y =>
      rw [hy] at hi
      have hk : kf y = kf x := cmpI_eq.1 (by simpa using hi)
      obtain ⟨hlt, hy'⟩ := List.getElem?_eq_some_iff.1 hy
      rw [List.drop_eq_getElem_cons hlt, hy'] at p2 p3
      obtain ⟨p4, p5⟩ := List.pairwise_cons.1 p2
      rw [List.set_eq_take_append_cons_drop, if_pos hlt]
      refine List.pairwise_append.2 ⟨p1, List.pairwise_cons.2 ⟨fun z hz => by rw [← hk]; exact p4 z hz, p5⟩, fun a ha b hb => ?_⟩
      rcases List.mem_cons.1 hb with rfl | hb
      · rw [← hk]; exact p3 a ha y (by simp)
      · exact p3 a ha b (by simp [hb])
  · rw [if_neg hi]
    refine List.pairwise_append.2 ⟨p1, List.pairwise_cons.2 ⟨fun z hz => ?_, p2⟩, fun a ha b hb => ?_⟩
    · have h3 := h2 z hz
      have h4 := cmpI_anti (kf x) (kf z)
      rcases Int.lt_or_eq_of_le h3 with h5 | h5
      · omega
      · exact absurd ((mIs_iff kf h (kf x)).2 ⟨z, List.mem_of_mem_drop hz, cmpI_eq.1 h5.symm⟩) hi
    · rcases List.mem_cons.1 hb with rfl | hb
      · exact h1 a ha
      · exact p3 a ha b hb
theorem asc_del {m : List α} (h : Asc kf m) (k : List UInt8) : Asc kf (mDel kf m k) := by
  unfold mDel
  split
  · have e : m = m.take (mAt kf m k) ++ m.drop (mAt kf m k) := (List.take_append_drop _ _).symm
    have h' := h
    rw [e] at h'
    obtain ⟨p1, p2, p3⟩ := List.pairwise_append.1 h'
    have hs : (m.drop (mAt kf m k + 1)).Sublist (m.drop (mAt kf m k)) := by
      rw [← List.drop_drop]; exact List.drop_sublist _ _
    exact List.pairwise_append.2 ⟨p1, p2.sublist hs, fun a ha b hb => p3 a ha b (hs.subset hb)⟩
  · exact h
theorem asc_range {m : List α} (h : Asc kf m) (s : List UInt8) (e : Option (List UInt8)) : Asc kf (mRange kf m s e) := h.sublist List.filter_sublist
theorem mPut_len (m : List α) (x : α) : (mPut kf m x).length = if mIs kf m (kf x) then m.length else m.length + 1 := by
  unfold mPut
  split
  · simp
  · have := mAt_le kf m (kf x)
    simp only [List.length_append, List.length_take, List.length_cons, List.length_drop]; omega
end
end Go.Proofs.YtloflmcgbbbnjaaDoor.Plain
namespace Go.Proofs.YtloflmcgbbbnjaaDoor.Plain

structure Nd where
  p : Nat
  h : Nat
  ko : Nat
  kl : Nat
  vl : Nat
def hdN : Nd := ⟨0, 12, 0, 0, 0⟩
/-- The next node of a level. -/
def nx (i : Nat) : List Nd → Nat
  | [] => 0
  | x :: r => if i < x.h then x.p else nx i r
/-- The last node of a level. -/
def pv (i : Nat) : List Nd → Nat → Nat
  | [], d => d
  | x :: r, d => pv i r (if i < x.h then x.p else d)
def Linked (nd : List Nat) (L : List Nd) : Prop := ∀ P x Q, L = P ++ x :: Q → ∀ i, i < x.h → nd[x.p + 4 + i]? = some (nx i Q)
def Stored (nd : List Nat) (x : Nd) : Prop := nd[x.p]? = some x.ko ∧ nd[x.p + 1]? = some x.kl ∧ nd[x.p + 2]? = some x.vl ∧ nd[x.p + 3]? = some x.h
def Off (x y : Nd) : Prop := x.p + 4 + x.h ≤ y.p ∨ y.p + 4 + y.h ≤ x.p
theorem Off.symm {x y : Nd} (h : Off x y) : Off y x := Or.symm h
structure Skip (nd : List Nat) (mh : Nat) (ns : List Nd) : Prop where
  stored : ∀ x ∈ hdN :: ns, Stored nd x
  linked : Linked nd (hdN :: ns)
  room : ∀ x ∈ hdN :: ns, x.p + 4 + x.h ≤ nd.length
  off : (hdN :: ns).Pairwise Off
  high : ∀ x ∈ ns, 1 ≤ x.h ∧ x.h ≤ mh
  m1 : 1 ≤ mh
  m2 : mh ≤ 12

theorem nx_skip {i : Nat} : ∀ {Q : List Nd} (R : List Nd), (∀ y ∈ Q, y.h ≤ i) → nx i (Q ++ R) = nx i R
  | [], _, _ => rfl
  | y :: Q, R, h => by
    have := h y (by simp)
    rw [List.cons_append, nx, if_neg (by omega), nx_skip R fun z hz => h z (by simp [hz])]
theorem nx_hit {i : Nat} {y : Nd} (R : List Nd) (h : i < y.h) : nx i (y :: R) = y.p := by rw [nx, if_pos h]
theorem nx_same {i : Nat} : ∀ {Q : List Nd} (R R' : List Nd), (∃ y ∈ Q, i < y.h) → nx i (Q ++ R) = nx i (Q ++ R')
  | [], _, _, h => by obtain ⟨y, hy, _⟩ := h; cases hy
  | y :: Q, R, R', h => by
    rw [List.cons_append, List.cons_append, nx, nx]
    by_cases hy : i < y.h
    · rw [if_pos hy, if_pos hy]
    · rw [if_neg hy, if_neg hy]
      refine nx_same R R' ?_
      obtain ⟨z, hz, h'⟩ := h
      rcases List.mem_cons.1 hz with rfl | hz
      · exact absurd h' hy
      · exact ⟨z, hz, h'⟩
theorem pv_none {i : Nat} : ∀ {Q : List Nd} (d : Nat), (∀ y ∈ Q, y.h ≤ i) → pv i Q d = d
  | [], _, _ => rfl
  | y :: Q, d, h => by
    have := h y (by simp)
    rw [pv, if_neg (by omega), pv_none d fun z hz => h z (by simp [hz])]
theorem pv_append {i : Nat} : ∀ (P Q : List Nd) (d : Nat), pv i (P ++ Q) d = pv i Q (pv i P d)
  | [], _, _ => rfl
  | x :: P, Q, d => by rw [List.cons_append, pv, pv, pv_append P Q]
theorem pv_last {i : Nat} {P Q : List Nd} {x : Nd} (d : Nat) (h : i < x.h) (hQ : ∀ y ∈ Q, y.h ≤ i) : pv i (P ++ x :: Q) d = x.p := by
  rw [pv_append, pv, if_pos h, pv_none _ hQ]
/-- Of a level either none is here, or there is a first one, or a last one. -/
theorem level_first (i : Nat) : ∀ Q : List Nd, (∀ y ∈ Q, y.h ≤ i) ∨ ∃ Q1 y Q2, Q = Q1 ++ y :: Q2 ∧ (∀ z ∈ Q1, z.h ≤ i) ∧ i < y.h
  | [] => .inl (by simp)
  | x :: Q => by
    by_cases hx : i < x.h
    · exact .inr ⟨[], x, Q, rfl, by simp, hx⟩
    · rcases level_first i Q with h | ⟨Q1, y, Q2, rfl, h1, h2⟩
      · exact .inl fun y hy => by
          rcases List.mem_cons.1 hy with rfl | hy
          · omega
          · exact h y hy
      · exact .inr ⟨x :: Q1, y, Q2, rfl, fun z hz => by
          rcases List.mem_cons.1 hz with rfl | hz
          · omega
          · exact h1 z hz, h2⟩
theorem level_last (i : Nat) : ∀ Q : List Nd, (∀ y ∈ Q, y.h ≤ i) ∨ ∃ Q1 y Q2, Q = Q1 ++ y :: Q2 ∧ (∀ z ∈ Q2, z.h ≤ i) ∧ i < y.h
  | [] => .inl (by simp)
  | x :: Q => by
    rcases level_last i Q with h | ⟨Q1, y, Q2, rfl, h1, h2⟩
    · by_cases hx : i < x.h
      · exact .inr ⟨[], x, Q, rfl, h, hx⟩
      · exact .inl fun y hy => by
          rcases List.mem_cons.1 hy with rfl | hy
          · omega
          · exact h y hy
    · exact .inr ⟨x :: Q1, y, Q2, rfl, h1, h2⟩
theorem off_p {L : List Nd} (h : L.Pairwise Off) {x y : Nd} (hx : x ∈ L) (hy : y ∈ L) {i j : Nat} (hi : i < x.h) (hj : j < y.h) (e : x.p + 4 + i = y.p + 4 + j) : x = y ∧ i = j := by
  by_cases hxy : x = y
  · subst hxy; exact ⟨rfl, by omega⟩
  · exfalso
    have hs : ∀ (L : List Nd), L.Pairwise Off → x ∈ L → y ∈ L → Off x y := by
      intro L hL hx hy
      induction L with
      | nil => cases hx
      | cons z L ih =>
        obtain ⟨h1, h2⟩ := List.pairwise_cons.1 hL
        rcases List.mem_cons.1 hx with ex | hx1
        · rcases List.mem_cons.1 hy with ey | hy1
          · exact absurd (ex.trans ey.symm) hxy
          · rw [ex]; exact h1 _ hy1
        · rcases List.mem_cons.1 hy with ey | hy1
          · rw [ey]; exact (h1 _ hx1).symm
          · exact ih h2 hx1 hy1
    rcases hs L h hx hy with h1 | h1 <;> omega
theorem off_p0 {L : List Nd} (h : L.Pairwise Off) {x y : Nd} (hx : x ∈ L) (hy : y ∈ L) (hi : 0 < x.h) (hj : 0 < y.h) (e : x.p = y.p) : x = y :=
  (off_p h hx hy hi hj (by omega)).1
/-- What stands behind the node that a level's last one of the front is. -/
theorem front_last {nd : List Nat} {A B : List Nd} (hl : Linked nd (hdN :: (A ++ B))) {i : Nat} (hi : i < 12) :
    ∃ x ∈ hdN :: A, i < x.h ∧ pv i (hdN :: A) 0 = x.p ∧ nd[x.p + 4 + i]? = some (nx i B) := by
  rcases level_last i (hdN :: A) with h | ⟨Q1, y, Q2, e, h1, h2⟩
  · have := h hdN (by simp); simp [hdN] at this; omega
  · refine ⟨y, by rw [e]; simp, h2, by rw [e, pv_last _ h2 h1], ?_⟩
    have := hl Q1 y (Q2 ++ B) (by rw [← List.cons_append, e]; simp) i h2
    rwa [nx_skip _ h1] at this

/-! ### a node laid in -/
/-- The row with a new node's head behind it, and its first k levels. -/
def insN (nd : List Nat) (z : Nd) (P : Nat → Nat) : Nat → List Nat
  | 0 => nd ++ [z.ko, z.kl, z.vl, z.h]
  | i + 1 => (insN nd z P i ++ [(insN nd z P i).getD (P i + 4 + i) 0]).set (P i + 4 + i) z.p
theorem insN_length (nd : List Nat) (z : Nd) (P : Nat → Nat) : ∀ k, (insN nd z P k).length = nd.length + 4 + k
  | 0 => by simp [insN]
  | k + 1 => by rw [insN, List.length_set, List.length_append, insN_length nd z P k]; rfl
theorem insN_get {nd : List Nat} {z : Nd} {P : Nat → Nat} {n : Nat} (hP : ∀ i, i < n → P i + 4 + i < nd.length) (hinj : ∀ i j, i < n → j < n → P i + 4 + i = P j + 4 + j → i = j) : ∀ k, k ≤ n →
    (∀ q, q < nd.length → (∀ i, i < k → q ≠ P i + 4 + i) → (insN nd z P k)[q]? = nd[q]?) ∧ (∀ i, i < k → (insN nd z P k)[P i + 4 + i]? = some z.p) ∧
    (insN nd z P k)[nd.length]? = some z.ko ∧ (insN nd z P k)[nd.length + 1]? = some z.kl ∧ (insN nd z P k)[nd.length + 2]? = some z.vl ∧ (insN nd z P k)[nd.length + 3]? = some z.h ∧
    (∀ i, i < k → (insN nd z P k)[nd.length + 4 + i]? = nd[P i + 4 + i]?)
  | 0, _ => by
    refine ⟨fun q hq _ => ?_, fun i hi => absurd hi (by omega), ?_, ?_, ?_, ?_, fun i hi => absurd hi (by omega)⟩
    · rw [insN, List.getElem?_append_left hq]
    all_goals simp [insN]
  | k + 1, hk => by
    obtain ⟨h1, h2, h3, h4, h5, h6, h7⟩ := insN_get hP hinj k (by omega)
    have hl := insN_length nd z P k
    have hPk := hP k (by omega)
    have hstay : ∀ q, q < nd.length + 4 + k → q ≠ P k + 4 + k → (insN nd z P (k + 1))[q]? = (insN nd z P k)[q]? := fun q hq hne => by
      rw [insN, List.getElem?_set_ne (Ne.symm hne), List.getElem?_append_left (by omega)]
    have hself : (insN nd z P k)[P k + 4 + k]? = nd[P k + 4 + k]? := h1 _ hPk fun i hi e => by have := hinj k i (by omega) (by omega) e; omega
    refine ⟨fun q hq hne => ?_, fun i hi => ?_, ?_, ?_, ?_, ?_, fun i hi => ?_⟩
    · rw [hstay q (by omega) (hne k (by omega)), h1 q hq fun i hi => hne i (by omega)]
    · rcases Nat.lt_or_eq_of_le (Nat.le_of_lt_succ hi) with hi' | rfl
      · have hPi := hP i (by omega)
        rw [hstay _ (by omega) (fun e => by have := hinj i k (by omega) (by omega) e; omega), h2 i hi']
      · rw [insN, List.getElem?_set_self (by rw [List.length_append, hl]; simp; omega)]
    · rw [hstay _ (by omega) (by omega), h3]
    · rw [hstay _ (by omega) (by omega), h4]
    · rw [hstay _ (by omega) (by omega), h5]
    · rw [hstay _ (by omega) (by omega), h6]
    · rcases Nat.lt_or_eq_of_le (Nat.le_of_lt_succ hi) with hi' | rfl
      · rw [hstay _ (by omega) (by omega), h7 i hi']
      · rw [insN, List.getElem?_set_ne (by omega), List.getElem?_append_right (by omega), hl, Nat.sub_self, List.getElem?_cons_zero, List.getD_eq_getElem?_getD, hself, List.getElem?_eq_getElem hPk, Option.getD_some]
/-- The whole list with the new node. -/
theorem skip_ins {nd : List Nat} {mh : Nat} {A B : List Nd} (hs : Skip nd mh (A ++ B)) {z : Nd} (hz : z.p = nd.length) (h1 : 1 ≤ z.h) (h2 : z.h ≤ 12) {P : Nat → Nat} (hP : ∀ i, i < z.h → P i = pv i (hdN :: A) 0) :
    Skip (insN nd z P z.h) (max mh z.h) (A ++ z :: B) := by
  have hfr : ∀ i, i < z.h → ∃ x ∈ hdN :: A, i < x.h ∧ P i = x.p ∧ nd[x.p + 4 + i]? = some (nx i B) := fun i hi => by
    obtain ⟨x, hx, q1, q2, q3⟩ := front_last hs.linked (i := i) (by omega)
    exact ⟨x, hx, q1, (hP i hi).trans q2, q3⟩
  have hsub : ∀ x ∈ hdN :: A, x ∈ hdN :: (A ++ B) := fun x hx => by
    rcases List.mem_cons.1 hx with rfl | hx
    · simp
    · simp [hx]
  have hPl : ∀ i, i < z.h → P i + 4 + i < nd.length := fun i hi => by
    obtain ⟨x, hx, q1, q2, q3⟩ := hfr i hi
    rw [q2]
    exact (List.getElem?_eq_some_iff.1 q3).1
  have hinj : ∀ i j, i < z.h → j < z.h → P i + 4 + i = P j + 4 + j → i = j := fun i j hi hj e => by
    obtain ⟨x, hx, q1, q2, _⟩ := hfr i hi
    obtain ⟨y, hy, r1, r2, _⟩ := hfr j hj
    exact (off_p hs.off (hsub x hx) (hsub y hy) q1 r1 (by omega)).2
  obtain ⟨g1, g2, g3, g4, g5, g6, g7⟩ := insN_get (z := z) hPl hinj z.h (Nat.le_refl _)
  have hlen := insN_length nd z P z.h
  have hmem : ∀ x, x ∈ hdN :: (A ++ z :: B) → x = z ∨ x ∈ hdN :: (A ++ B) := fun x hx => by simp at hx ⊢; grind
  -- a slot of an old node that is none of its levels
  have hhead : ∀ x ∈ hdN :: (A ++ B), ∀ j, j < 4 → ∀ i, i < z.h → x.p + j ≠ P i + 4 + i := fun x hx j hj i hi e => by
    obtain ⟨y, hy, r1, r2, _⟩ := hfr i hi
    rw [r2] at e
    by_cases hxy : x = y
    · subst hxy; omega
    · have hoff : Off x y := by
        have := hs.off
        rcases List.mem_iff_append.1 hx with ⟨u, v, hu⟩
        rw [hu] at this
        have hy' := hsub y hy
        rw [hu] at hy'
        obtain ⟨_, p2, p3⟩ := List.pairwise_append.1 this
        rcases List.mem_append.1 hy' with hy' | hy'
        · exact (p3 _ hy' _ (by simp)).symm
        · rcases List.mem_cons.1 hy' with rfl | hy'
          · exact absurd rfl hxy
          · exact (List.pairwise_cons.1 p2).1 _ hy'
      rcases hoff with h | h <;> omega
  refine ⟨fun x hx => ?_, ?_, fun x hx => ?_, ?_, fun x hx => ?_, by omega, by have := hs.m2; omega⟩
  · rcases hmem x hx with rfl | hx
    · unfold Stored; rw [hz]; exact ⟨g3, g4, g5, g6⟩
    · obtain ⟨s1, s2, s3, s4⟩ := hs.stored x hx
      have hr := hs.room x hx
      refine ⟨?_, ?_, ?_, ?_⟩
      · rw [g1 _ (by omega) (fun i hi => by have := hhead x hx 0 (by omega) i hi; omega), s1]
      · rw [g1 _ (by omega) (hhead x hx 1 (by omega)), s2]
      · rw [g1 _ (by omega) (hhead x hx 2 (by omega)), s3]
      · rw [g1 _ (by omega) (hhead x hx 3 (by omega)), s4]
  · -- the levels
    intro R x Q e i hi
    rw [← List.cons_append] at e
    rcases List.append_eq_append_iff.1 e with ⟨S, rfl, e2⟩ | ⟨S, e1, e2⟩
    · -- x is the new one, or behind it
      rcases S with _ | ⟨s, S⟩
      · simp at e2
        obtain ⟨rfl, rfl⟩ := e2
        obtain ⟨y, hy, r1, r2, r3⟩ := hfr i hi
        rw [hz, g7 i hi, r2, r3]
      · simp at e2
        obtain ⟨rfl, rfl⟩ := e2
        have hx : x ∈ hdN :: (A ++ (S ++ x :: Q)) := by simp
        have hr := hs.room x hx
        rw [g1 _ (by omega) (fun j hj e => ?_)]
        · exact hs.linked (hdN :: (A ++ S)) x Q (by simp) i hi
        · obtain ⟨y, hy, r1, r2, _⟩ := hfr j hj
          rw [r2] at e
          obtain ⟨rfl, rfl⟩ := off_p hs.off hx (hsub y hy) hi r1 e
          -- x would stand in the front
          have hoff := hs.off
          rw [show hdN :: (A ++ (S ++ x :: Q)) = (hdN :: A) ++ (S ++ x :: Q) by simp] at hoff
          have := (List.pairwise_append.1 hoff).2.2 x hy x (by simp)
          rcases this with h | h <;> omega
    · -- x stands in the front
      rcases S with _ | ⟨s, S⟩
      · simp at e1 e2
        obtain ⟨rfl, rfl⟩ := e2
        obtain ⟨y, hy, r1, r2, r3⟩ := hfr i hi
        rw [hz, g7 i hi, r2, r3]
      · simp at e2
        obtain ⟨rfl, rfl⟩ := e2
        have hx : x ∈ hdN :: (A ++ B) := hsub x (by rw [e1]; simp)
        have hr := hs.room x hx
        have hold := hs.linked R x (S ++ B) (by rw [← List.cons_append, e1]; simp) i hi
        rcases level_last i S with hS | ⟨S1, y, S2, rfl, hS1, hy⟩
        · rw [nx_skip _ hS] at hold ⊢
          by_cases hiz : i < z.h
          · rw [nx_hit _ hiz]
            have : P i = x.p := by rw [hP i hiz, e1, pv_last _ hi hS]
            rw [← this, g2 i hiz]
          · rw [nx, if_neg hiz, ← hold]
            refine g1 _ (by omega) fun j hj e => ?_
            obtain ⟨y, hy, r1, r2, _⟩ := hfr j hj
            rw [r2] at e
            have := (off_p hs.off hx (hsub y hy) hi r1 e).2
            omega
        · rw [← nx_same B (z :: B) ⟨y, by simp, hy⟩, ← hold]
          refine g1 _ (by omega) fun j hj e => ?_
          obtain ⟨u, hu, r1, r2, _⟩ := hfr j hj
          rw [r2] at e
          obtain ⟨rfl, rfl⟩ := off_p hs.off hx (hsub u hu) hi r1 e
          have hpy : P i = y.p := by rw [hP i hj, e1, show R ++ x :: (S1 ++ y :: S2) = (R ++ x :: S1) ++ y :: S2 by simp, pv_last _ hy hS1]
          have hoff := hs.off
          rw [show hdN :: (A ++ B) = (R ++ x :: (S1 ++ y :: S2)) ++ B by rw [← e1]; simp] at hoff
          have := (List.pairwise_cons.1 (List.pairwise_append.1 (List.pairwise_append.1 hoff).1).2.1).1 y (by simp)
          rcases this with h | h <;> omega
  · rcases hmem x hx with rfl | hx
    · omega
    · have := hs.room x hx; omega
  · have hoff := hs.off
    rw [← List.cons_append] at hoff ⊢
    obtain ⟨p1, p2, p3⟩ := List.pairwise_append.1 hoff
    refine List.pairwise_append.2 ⟨p1, List.pairwise_cons.2 ⟨fun y hy => ?_, p2⟩, fun x hx y hy => ?_⟩
    · have := hs.room y (by simp [hy]); exact .inr (by omega)
    · rcases List.mem_cons.1 hy with rfl | hy
      · have := hs.room x (hsub x hx); exact .inl (by omega)
      · exact p3 x hx y hy
  · simp at hx
    rcases hx with hx | rfl | hx
    · have := hs.high x (by simp [hx]); omega
    · omega
    · have := hs.high x (by simp [hx]); omega

/-! ### a node taken out -/
def delN (nd : List Nat) (P : Nat → Nat) : Nat → List Nat
  | 0 => nd
  | i + 1 => (delN nd P i).set (P i + 4 + i) ((delN nd P i).getD ((delN nd P i).getD (P i + 4 + i) 0 + 4 + i) 0)
theorem delN_length (nd : List Nat) (P : Nat → Nat) : ∀ k, (delN nd P k).length = nd.length
  | 0 => rfl
  | k + 1 => by rw [delN, List.length_set, delN_length nd P k]
theorem delN_get {nd : List Nat} {z : Nd} {P : Nat → Nat} (hP : ∀ i, i < z.h → nd[P i + 4 + i]? = some z.p) (hz : ∀ i, i < z.h → z.p + 4 + i < nd.length) (hne : ∀ i j, i < z.h → j < z.h → P i + 4 + i ≠ z.p + 4 + j)
    (hinj : ∀ i j, i < z.h → j < z.h → P i + 4 + i = P j + 4 + j → i = j) : ∀ k, k ≤ z.h →
    (∀ q, (∀ i, i < k → q ≠ P i + 4 + i) → (delN nd P k)[q]? = nd[q]?) ∧ (∀ i, i < k → (delN nd P k)[P i + 4 + i]? = nd[z.p + 4 + i]?)
  | 0, _ => ⟨fun _ _ => rfl, fun i hi => absurd hi (by omega)⟩
  | k + 1, hk => by
    obtain ⟨h1, h2⟩ := delN_get hP hz hne hinj k (by omega)
    have hl := delN_length nd P k
    have hPk := (List.getElem?_eq_some_iff.1 (hP k (by omega))).1
    have hself : (delN nd P k)[P k + 4 + k]? = some z.p := by rw [h1 _ fun i hi e => by have := hinj k i (by omega) (by omega) e; omega]; exact hP k (by omega)
    have hzk : (delN nd P k)[z.p + 4 + k]? = nd[z.p + 4 + k]? := h1 _ fun i hi e => hne i k (by omega) (by omega) e.symm
    refine ⟨fun q hq => ?_, fun i hi => ?_⟩
    · rw [delN, List.getElem?_set_ne (Ne.symm (hq k (by omega))), h1 q fun i hi => hq i (by omega)]
    · rcases Nat.lt_or_eq_of_le (Nat.le_of_lt_succ hi) with hi' | rfl
      · rw [delN, List.getElem?_set_ne (fun e => by have := hinj k i (by omega) (by omega) e; omega), h2 i hi']
      · rw [delN, List.getElem?_set_self (by omega), List.getD_eq_getElem?_getD, List.getD_eq_getElem?_getD, hself, Option.getD_some, hzk, List.getElem?_eq_getElem (hz i (by omega)), Option.getD_some]
theorem skip_del {nd : List Nat} {mh : Nat} {A B : List Nd} {z : Nd} (hs : Skip nd mh (A ++ z :: B)) {P : Nat → Nat} (hP : ∀ i, i < z.h → P i = pv i (hdN :: A) 0) :
    Skip (delN nd P z.h) mh (A ++ B) ∧ ∀ i, i < z.h → P i + 4 + i < nd.length ∧ nd[P i + 4 + i]? = some z.p := by
  have hz12 : z.h ≤ 12 := by have := (hs.high z (by simp)).2; have := hs.m2; omega
  have hzm : z ∈ hdN :: (A ++ z :: B) := by simp
  have hsub : ∀ x ∈ hdN :: A, x ∈ hdN :: (A ++ z :: B) := fun x hx => by
    rcases List.mem_cons.1 hx with rfl | hx
    · simp
    · simp [hx]
  have hsub2 : ∀ x ∈ hdN :: (A ++ B), x ∈ hdN :: (A ++ z :: B) := fun x hx => by simp at hx ⊢; grind
  have hoff' := hs.off
  rw [← List.cons_append] at hoff'
  obtain ⟨p1, p2, p3⟩ := List.pairwise_append.1 hoff'
  obtain ⟨p4, p5⟩ := List.pairwise_cons.1 p2
  have hfr : ∀ i, i < z.h → ∃ x ∈ hdN :: A, i < x.h ∧ P i = x.p ∧ nd[x.p + 4 + i]? = some z.p := fun i hi => by
    obtain ⟨x, hx, q1, q2, q3⟩ := front_last hs.linked (i := i) (by omega)
    rw [nx_hit _ hi] at q3
    exact ⟨x, hx, q1, (hP i hi).trans q2, q3⟩
  have hPz : ∀ i, i < z.h → nd[P i + 4 + i]? = some z.p := fun i hi => by
    obtain ⟨x, hx, q1, q2, q3⟩ := hfr i hi
    rw [q2]; exact q3
  have hzr := hs.room z hzm
  have hinj : ∀ i j, i < z.h → j < z.h → P i + 4 + i = P j + 4 + j → i = j := fun i j hi hj e => by
    obtain ⟨x, hx, q1, q2, _⟩ := hfr i hi
    obtain ⟨y, hy, r1, r2, _⟩ := hfr j hj
    exact (off_p hs.off (hsub x hx) (hsub y hy) q1 r1 (by omega)).2
  have hne : ∀ i j, i < z.h → j < z.h → P i + 4 + i ≠ z.p + 4 + j := fun i j hi hj e => by
    obtain ⟨x, hx, q1, q2, _⟩ := hfr i hi
    rcases p3 x hx z (by simp) with h | h <;> omega
  obtain ⟨g1, g2⟩ := delN_get hPz (fun i hi => by omega) hne hinj z.h (Nat.le_refl _)
  have hlen := delN_length nd P z.h
  have hhead : ∀ x ∈ hdN :: (A ++ B), ∀ j, j < 4 → ∀ i, i < z.h → x.p + j ≠ P i + 4 + i := fun x hx j hj i hi e => by
    obtain ⟨y, hy, r1, r2, _⟩ := hfr i hi
    rw [r2] at e
    by_cases hxy : x = y
    · subst hxy; omega
    · have hoff : Off x y := by
        have hy' := hsub y hy
        have hx' := hsub2 x hx
        rcases List.mem_iff_append.1 hx' with ⟨u, v, hu⟩
        have := hs.off
        rw [hu] at this hy'
        obtain ⟨_, p2, p3⟩ := List.pairwise_append.1 this
        rcases List.mem_append.1 hy' with hy' | hy'
        · exact (p3 _ hy' _ (by simp)).symm
        · rcases List.mem_cons.1 hy' with rfl | hy'
          · exact absurd rfl hxy
          · exact (List.pairwise_cons.1 p2).1 _ hy'
      rcases hoff with h | h <;> omega
  refine ⟨⟨fun x hx => ?_, ?_, fun x hx => ?_, ?_, fun x hx => ?_, hs.m1, hs.m2⟩, fun i hi => ⟨(List.getElem?_eq_some_iff.1 (hPz i hi)).1, hPz i hi⟩⟩
  · obtain ⟨s1, s2, s3, s4⟩ := hs.stored x (hsub2 x hx)
    refine ⟨?_, ?_, ?_, ?_⟩
    · rw [g1 _ (fun i hi => by have := hhead x hx 0 (by omega) i hi; omega), s1]
    · rw [g1 _ (hhead x hx 1 (by omega)), s2]
    · rw [g1 _ (hhead x hx 2 (by omega)), s3]
    · rw [g1 _ (hhead x hx 3 (by omega)), s4]
  · intro R x Q e i hi
    rw [← List.cons_append] at e
    rcases List.append_eq_append_iff.1 e with ⟨S, rfl, e2⟩ | ⟨S, e1, e2⟩
    · -- x stands behind
      subst e2
      have hx : x ∈ hdN :: (A ++ z :: (S ++ x :: Q)) := by simp
      rw [g1 _ (fun j hj e => ?_)]
      · exact hs.linked (hdN :: (A ++ z :: S)) x Q (by simp) i hi
      · obtain ⟨y, hy, r1, r2, _⟩ := hfr j hj
        rw [r2] at e
        obtain ⟨rfl, rfl⟩ := off_p hs.off hx (hsub y hy) hi r1 e
        rcases p3 x hy x (by simp) with h | h <;> omega
    · rcases S with _ | ⟨s, S⟩
      · simp at e1 e2
        subst e2
        have hx : x ∈ hdN :: (A ++ z :: (x :: Q)) := by simp
        rw [g1 _ (fun j hj e => ?_)]
        · exact hs.linked (hdN :: (A ++ [z])) x Q (by simp) i hi
        · obtain ⟨y, hy, r1, r2, _⟩ := hfr j hj
          rw [r2] at e
          obtain ⟨rfl, rfl⟩ := off_p hs.off hx (hsub y hy) hi r1 e
          rcases p3 x hy x (by simp) with h | h <;> omega
      · simp at e2
        obtain ⟨rfl, rfl⟩ := e2
        have hxA : x ∈ hdN :: A := by rw [e1]; simp
        have hx := hsub x hxA
        have hold := hs.linked R x (S ++ z :: B) (by rw [← List.cons_append, e1]; simp) i hi
        rcases level_last i S with hS | ⟨S1, y, S2, rfl, hS1, hy⟩
        · rw [nx_skip _ hS] at hold ⊢
          by_cases hiz : i < z.h
          · rw [nx_hit _ hiz] at hold
            have : P i = x.p := by rw [hP i hiz, e1, pv_last _ hi hS]
            rw [← this, g2 i hiz]
            exact hs.linked (hdN :: A) z B (by simp) i hiz
          · rw [nx, if_neg hiz] at hold
            rw [← hold]
            refine g1 _ fun j hj e => ?_
            obtain ⟨y, hy, r1, r2, _⟩ := hfr j hj
            rw [r2] at e
            have := (off_p hs.off hx (hsub y hy) hi r1 e).2
            omega
        · rw [nx_same B (z :: B) ⟨y, by simp, hy⟩, ← hold]
          refine g1 _ fun j hj e => ?_
          obtain ⟨u, hu, r1, r2, _⟩ := hfr j hj
          rw [r2] at e
          obtain ⟨rfl, rfl⟩ := off_p hs.off hx (hsub u hu) hi r1 e
          have hpy : P i = y.p := by rw [hP i hj, e1, show R ++ x :: (S1 ++ y :: S2) = (R ++ x :: S1) ++ y :: S2 by simp, pv_last _ hy hS1]
          rw [e1] at p1
          have := (List.pairwise_cons.1 (List.pairwise_append.1 p1).2.1).1 y (by simp)
          rcases this with h | h <;> omega
  · have := hs.room x (hsub2 x hx); omega
  · rw [← List.cons_append]
    exact List.pairwise_append.2 ⟨p1, p5, fun x hx y hy => p3 x hx y (by simp [hy])⟩
  · exact hs.high x (by simp at hx ⊢; grind)
/-- Another value for a node: its place, and its length. -/
theorem skip_turn {nd : List Nat} {mh : Nat} {A B : List Nd} {z z' : Nd} (hs : Skip nd mh (A ++ z :: B)) (hp : z'.p = z.p) (hh : z'.h = z.h) (hk : z'.kl = z.kl) :
    Skip ((nd.set z.p z'.ko).set (z.p + 2) z'.vl) mh (A ++ z' :: B) := by
  have hzm : z ∈ hdN :: (A ++ z :: B) := by simp
  have hzr := hs.room z hzm
  have hoff' := hs.off
  rw [← List.cons_append] at hoff'
  obtain ⟨p1, p2, p3⟩ := List.pairwise_append.1 hoff'
  obtain ⟨p4, p5⟩ := List.pairwise_cons.1 p2
  have hoz : ∀ x, x ∈ hdN :: A ∨ x ∈ B → Off x z := fun x hx => by
    rcases hx with hx | hx
    · exact p3 x hx z (by simp)
    · exact (p4 x hx).symm
  have hget : ∀ q, q ≠ z.p → q ≠ z.p + 2 → ((nd.set z.p z'.ko).set (z.p + 2) z'.vl)[q]? = nd[q]? := fun q h1 h2 => by
    rw [List.getElem?_set_ne (Ne.symm h2), List.getElem?_set_ne (Ne.symm h1)]
  have hnx : ∀ i (Q : List Nd), nx i (Q ++ z' :: B) = nx i (Q ++ z :: B) := fun i Q => by
    induction Q with
    | nil => rw [List.nil_append, List.nil_append, nx, nx, hp, hh]
    | cons y Q ih => rw [List.cons_append, List.cons_append, nx, nx, ih]
  refine ⟨fun x hx => ?_, ?_, fun x hx => ?_, ?_, fun x hx => ?_, hs.m1, hs.m2⟩
  · have hx' : x = z' ∨ (x ∈ hdN :: A ∨ x ∈ B) := by simp at hx ⊢; grind
    rcases hx' with rfl | hx'
    · obtain ⟨s1, s2, s3, s4⟩ := hs.stored z hzm
      unfold Stored
      rw [hp, hh, hk]
      refine ⟨?_, ?_, ?_, ?_⟩
      · rw [List.getElem?_set_ne (by omega), List.getElem?_set_self (by omega)]
      · rw [hget _ (by omega) (by omega), s2]
      · rw [List.getElem?_set_self (by rw [List.length_set]; omega)]
      · rw [hget _ (by omega) (by omega), s4]
    · obtain ⟨s1, s2, s3, s4⟩ := hs.stored x (by simp at hx' ⊢; grind)
      have := hoz x hx'
      refine ⟨?_, ?_, ?_, ?_⟩
      · rw [hget _ (by rcases this with h | h <;> omega) (by rcases this with h | h <;> omega), s1]
      · rw [hget _ (by rcases this with h | h <;> omega) (by rcases this with h | h <;> omega), s2]
      · rw [hget _ (by rcases this with h | h <;> omega) (by rcases this with h | h <;> omega), s3]
      · rw [hget _ (by rcases this with h | h <;> omega) (by rcases this with h | h <;> omega), s4]
  · intro R x Q e i hi
    rw [← List.cons_append] at e
    have hlev : ∀ x, (x = z ∨ (x ∈ hdN :: A ∨ x ∈ B)) → i < x.h → ((nd.set z.p z'.ko).set (z.p + 2) z'.vl)[x.p + 4 + i]? = nd[x.p + 4 + i]? := fun x hx hi => by
      rcases hx with rfl | hx
      · exact hget _ (by omega) (by omega)
      · have := hoz x hx
        exact hget _ (by rcases this with h | h <;> omega) (by rcases this with h | h <;> omega)
    rcases List.append_eq_append_iff.1 e with ⟨S, rfl, e2⟩ | ⟨S, e1, e2⟩
    · rcases S with _ | ⟨s, S⟩
      · simp at e2
        obtain ⟨rfl, rfl⟩ := e2
        rw [hh] at hi
        rw [hp, hlev z (.inl rfl) hi]
        exact hs.linked (hdN :: A) z _ (by simp) i hi
      · simp at e2
        obtain ⟨rfl, rfl⟩ := e2
        rw [hlev x (.inr (.inr (by simp))) hi]
        exact hs.linked (hdN :: (A ++ z :: S)) x Q (by simp) i hi
    · rcases S with _ | ⟨s, S⟩
      · simp at e1 e2
        obtain ⟨rfl, rfl⟩ := e2
        rw [hh] at hi
        rw [hp, hlev z (.inl rfl) hi]
        exact hs.linked (hdN :: A) z _ (by simp) i hi
      · simp at e2
        obtain ⟨rfl, rfl⟩ := e2
        rw [hnx, hlev x (.inr (.inl (by rw [e1]; simp))) hi]
        exact hs.linked R x (S ++ z :: B) (by rw [← List.cons_append, e1]; simp) i hi
  · rw [List.length_set, List.length_set]
    have hx' : x = z' ∨ (x ∈ hdN :: A ∨ x ∈ B) := by simp at hx ⊢; grind
    rcases hx' with rfl | hx'
    · omega
    · exact hs.room x (by simp at hx' ⊢; grind)
  · rw [← List.cons_append]
    refine List.pairwise_append.2 ⟨p1, List.pairwise_cons.2 ⟨fun y hy => ?_, p5⟩, fun x hx y hy => ?_⟩
    · have := p4 y hy
      unfold Off at this ⊢
      rwa [hp, hh]
    · rcases List.mem_cons.1 hy with rfl | hy
      · have := p3 x hx z (by simp)
        unfold Off at this ⊢
        rwa [hp, hh]
      · exact p3 x hx y (by simp [hy])
  · have hx' : x = z' ∨ (x ∈ A ∨ x ∈ B) := by simp at hx ⊢; grind
    rcases hx' with rfl | hx'
    · rw [hh]; exact hs.high z (by simp)
    · exact hs.high x (by simp; grind)
/-- The row of an empty list. -/
def nd0 : List Nat := [0, 0, 0, 12, 0, 0, 0, 0, 0, 0, 0, 0, 0, 0, 0, 0]
theorem skip_new : Skip nd0 1 [] := by
  refine ⟨fun x hx => ?_, fun P x Q e i hi => ?_, fun x hx => ?_, by simp, by simp, by decide, by decide⟩
  · simp at hx; subst hx; exact ⟨rfl, rfl, rfl, rfl⟩
  · have hl := congrArg List.length e
    simp at hl
    obtain rfl : P = [] := List.eq_nil_of_length_eq_zero (by omega)
    simp at e
    obtain ⟨rfl, rfl⟩ := e
    have : i < 12 := hi
    have : i = 0 ∨ i = 1 ∨ i = 2 ∨ i = 3 ∨ i = 4 ∨ i = 5 ∨ i = 6 ∨ i = 7 ∨ i = 8 ∨ i = 9 ∨ i = 10 ∨ i = 11 := by omega
    rcases this with rfl | rfl | rfl | rfl | rfl | rfl | rfl | rfl | rfl | rfl | rfl | rfl <;> rfl
  · simp at hx; subst hx; decide
/-! ### the search -/
theorem Skip.p16 {nd : List Nat} {mh : Nat} {ns : List Nd} (hs : Skip nd mh ns) {x : Nd} (hx : x ∈ ns) : 16 ≤ x.p := by
  rcases (List.pairwise_cons.1 hs.off).1 x hx with h | h
  · exact h
  · simp [hdN] at h
/-- From a node of the front, one level: along the list, or at its end. -/
theorem search_step {nd : List Nat} {P Q B : List Nd} {x : Nd} {h : Nat} (hl : Linked nd (P ++ x :: (Q ++ B))) (hx : h < x.h) :
    (∃ Q1 y Q2, Q = Q1 ++ y :: Q2 ∧ h < y.h ∧ nd[x.p + 4 + h]? = some y.p) ∨ ((∀ y ∈ Q, y.h ≤ h) ∧ nd[x.p + 4 + h]? = some (nx h B)) := by
  have h0 := hl P x (Q ++ B) rfl h hx
  rcases level_first h Q with hq | ⟨Q1, y, Q2, rfl, h1, h2⟩
  · rw [nx_skip _ hq] at h0
    exact .inr ⟨hq, h0⟩
  · rw [List.append_assoc, nx_skip _ h1, List.cons_append, nx_hit _ h2] at h0
    exact .inl ⟨Q1, y, Q2, rfl, h2, h0⟩
theorem nx_some {i : Nat} {B : List Nd} : nx i B = 0 ∨ ∃ B1 y B2, B = B1 ++ y :: B2 ∧ (∀ z ∈ B1, z.h ≤ i) ∧ i < y.h ∧ nx i B = y.p := by
  rcases level_first i B with hq | ⟨B1, y, B2, rfl, h1, h2⟩
  · have := nx_skip [] hq
    rw [List.append_nil] at this
    exact .inl this
  · exact .inr ⟨B1, y, B2, rfl, h1, h2, by rw [nx_skip _ h1, nx_hit _ h2]⟩
end Go.Proofs.YtloflmcgbbbnjaaDoor.Plain
namespace Go.Proofs.YtloflmcgbbbnjaaDoor.Plain
set_option linter.all false

structure En where
  nd : Nd
  k : List UInt8
  v : List UInt8
/-- The node at a place; 0: none. -/
def nodeOf (es : List En) (i : Nat) : Nat := match es[i]? with | some e => e.nd.p | none => 0
structure DbOk (kv : List UInt8) (nd : List Nat) (mh : Nat) (es : List En) : Prop where
  skip : Skip nd mh (es.map En.nd)
  key : ∀ e ∈ es, e.nd.kl = e.k.length ∧ (kv.drop e.nd.ko).take e.nd.kl = e.k
  val : ∀ e ∈ es, e.nd.vl = e.v.length ∧ (kv.drop (e.nd.ko + e.nd.kl)).take e.nd.vl = e.v
  fit : ∀ e ∈ es, e.nd.ko + e.nd.kl + e.nd.vl ≤ kv.length
  asc : Asc En.k es
/-- The front: the head and the nodes below a key. -/
def front (es : List En) (m : Nat) : List Nd := hdN :: (es.take m).map En.nd
theorem front_back (es : List En) (m : Nat) : hdN :: es.map En.nd = front es m ++ (es.drop m).map En.nd := by
  unfold front
  rw [List.cons_append, ← List.map_append, List.take_append_drop]
theorem nx0 {es : List En} (hh : ∀ e ∈ es, 1 ≤ e.nd.h) : nx 0 (es.map En.nd) = nodeOf es 0 := by
  cases es with
  | nil => rfl
  | cons e es =>
    have := hh e (by simp)
    rw [List.map_cons, nx, if_pos (by omega)]; rfl
theorem nodeOf_drop (es : List En) (m i : Nat) : nodeOf (es.drop m) i = nodeOf es (m + i) := by unfold nodeOf; rw [List.getElem?_drop]
section
variable {kv : List UInt8} {nd : List Nat} {mh : Nat} {es : List En}
theorem DbOk.high (ok : DbOk kv nd mh es) {e : En} (he : e ∈ es) : 1 ≤ e.nd.h ∧ e.nd.h ≤ mh := ok.skip.high _ (List.mem_map_of_mem he)
theorem DbOk.p16 (ok : DbOk kv nd mh es) {e : En} (he : e ∈ es) : 16 ≤ e.nd.p := ok.skip.p16 (List.mem_map_of_mem he)
theorem DbOk.at_ (ok : DbOk kv nd mh es) {e : En} (he : e ∈ es) : nd[e.nd.p]? = some e.nd.ko ∧ nd[e.nd.p + 1]? = some e.nd.kl ∧ nd[e.nd.p + 2]? = some e.nd.vl ∧ nd[e.nd.p + 3]? = some e.nd.h :=
  ok.skip.stored _ (List.mem_cons_of_mem _ (List.mem_map_of_mem he))
theorem DbOk.hd (ok : DbOk kv nd mh es) : nd[0]? = some 0 := (ok.skip.stored hdN (by simp)).1
theorem DbOk.nx_in (ok : DbOk kv nd mh es) {m h : Nat} : nx h ((es.drop m).map En.nd) = 0 ∨ ∃ i e, es[m + i]? = some e ∧ nx h ((es.drop m).map En.nd) = e.nd.p ∧ (h = 0 → i = 0) := by
  rcases nx_some (i := h) (B := (es.drop m).map En.nd) with h0 | ⟨B1, y, B2, e1, h1, h2, h3⟩
  · exact .inl h0
  · have hl := congrArg List.length e1
    have hi : ((es.drop m).map En.nd)[B1.length]? = some y := by rw [e1]; simp
    rw [List.getElem?_map, Option.map_eq_some_iff] at hi
    obtain ⟨e, he, rfl⟩ := hi
    rw [List.getElem?_drop] at he
    refine .inr ⟨B1.length, e, he, h3, fun hz => ?_⟩
    subst hz
    rcases B1 with _ | ⟨b, B1⟩
    · rfl
    · have hb : b ∈ (es.drop m).map En.nd := by rw [e1]; simp
      obtain ⟨e', he', rfl⟩ := List.mem_map.1 hb
      have := (ok.high (List.mem_of_mem_drop he')).1
      have := h1 e'.nd (by simp)
      omega
theorem DbOk.front_mem (ok : DbOk kv nd mh es) {m : Nat} {x : Nd} (hx : x ∈ front es m) : x = hdN ∨ ∃ e ∈ es.take m, e.nd = x := by
  unfold front at hx
  rcases List.mem_cons.1 hx with rfl | hx
  · exact .inl rfl
  · obtain ⟨e, he, rfl⟩ := List.mem_map.1 hx
    exact .inr ⟨e, he, rfl⟩
/-- One step along a level: along the front, or at its end. -/
theorem DbOk.step (ok : DbOk kv nd mh es) {m h : Nat} {P Q : List Nd} {x : Nd} (hs : front es m = P ++ x :: Q) (hx : h < x.h) :
    ∃ v, nd[x.p + 4 + h]? = some v ∧ ((v ≠ 0 ∧ ∃ e ∈ es.take m, e.nd.p = v ∧ ∃ P' Q', front es m = P' ++ e.nd :: Q' ∧ h < e.nd.h ∧ P.length < P'.length) ∨
      (pv h (front es m) 0 = x.p ∧ (h = 0 → v = nodeOf es m ∧ Q = []) ∧ (v = 0 ∨ v ≠ 0 ∧ ∃ i e, es[m + i]? = some e ∧ e.nd.p = v ∧ (h = 0 → i = 0)))) := by
  have hl := ok.skip.linked
  rw [front_back es m, hs, List.append_assoc, List.cons_append] at hl
  rcases search_step hl hx with ⟨Q1, y, Q2, e1, e2, e3⟩ | ⟨e1, e2⟩
  · refine ⟨_, e3, .inl ?_⟩
    have hy : y ∈ front es m := by rw [hs, e1]; simp
    have hne : y ≠ hdN := by
      rintro rfl
      have hoff := ok.skip.off
      rw [front_back es m, hs, e1] at hoff
      have h1 := hs
      rw [e1] at h1
      rcases P with _ | ⟨p, P⟩
      · unfold front at h1
        simp at h1
        obtain ⟨rfl, h1⟩ := h1
        have h3 := (List.pairwise_cons.1 (List.pairwise_append.1 hoff).1).1 hdN (by simp)
        rcases h3 with h3 | h3 <;> simp [hdN] at h3
      · unfold front at h1
        simp at h1
        obtain ⟨rfl, h1⟩ := h1
        have h3 := (List.pairwise_cons.1 (List.pairwise_append.1 hoff).1).1 hdN (by simp)
        rcases h3 with h3 | h3 <;> simp [hdN] at h3
    rcases ok.front_mem hy with h1 | ⟨e, he, rfl⟩
    · exact absurd h1 hne
    · refine ⟨?_, e, he, rfl, P ++ x :: Q1, Q2, by rw [hs, e1]; simp, e2, by simp⟩
      have := ok.p16 (List.mem_of_mem_take he)
      omega
  · refine ⟨_, e2, .inr ⟨?_, fun hz => ?_, ?_⟩⟩
    · rw [hs, pv_last _ hx e1]
    · subst hz
      refine ⟨?_, ?_⟩
      · rw [nx0 fun e he => (ok.high (List.mem_of_mem_drop he)).1, nodeOf_drop, Nat.add_zero]
      · rcases Q with _ | ⟨q, Q⟩
        · rfl
        · have h1 := e1 q (by simp)
          have hq : q ∈ front es m := by rw [hs]; simp
          rcases ok.front_mem hq with rfl | ⟨e, he, rfl⟩
          · simp [hdN] at h1
          · have := (ok.high (List.mem_of_mem_take he)).1
            omega
    · rcases ok.nx_in (m := m) (h := h) with h0 | ⟨i, e, h1, h2, h3⟩
      · exact .inl h0
      · refine .inr ⟨?_, i, e, h1, h2.symm, h3⟩
        have := ok.p16 (List.mem_of_getElem? h1)
        omega
/-- The node of a place in the front is its last one where nothing stands behind it. -/
theorem front_end {m : Nat} {P : List Nd} {x : Nd} (hs : front es m = P ++ [x]) (hm : m ≤ es.length) : x.p = if m = 0 then 0 else nodeOf es (m - 1) := by
  unfold front at hs
  by_cases h0 : m = 0
  · subst h0
    rw [if_pos rfl]
    rw [List.take_zero, List.map_nil] at hs
    rcases P with _ | ⟨p, P⟩
    · simp at hs; rw [← hs]; rfl
    · have := congrArg List.length hs; simp at this
  · rw [if_neg h0]
    have h1 := congrArg List.getLast? hs
    rw [List.getLast?_append, List.getLast?_cons, List.getLast?_map] at h1
    have h2 : (es.take m).getLast? = es[m - 1]? := by
      rw [List.getLast?_eq_getElem?, List.length_take, Nat.min_eq_left hm, List.getElem?_take, if_pos (by omega)]
    rw [h2] at h1
    have h3 : es[m - 1]? = some es[m - 1] := List.getElem?_eq_getElem (by omega)
    unfold nodeOf
    rw [h3] at h1 ⊢
    simp at h1
    rw [← h1]
/-- The place of a node in the front. -/
def fIdx (es : List En) (m p : Nat) : Nat := ((front es m).map Nd.p).idxOf p
theorem DbOk.nodup (ok : DbOk kv nd mh es) : ((hdN :: es.map En.nd).map Nd.p).Nodup := by
  unfold List.Nodup
  rw [List.pairwise_map]
  refine ok.skip.off.imp ?_
  rintro a b (h | h) e <;> omega
theorem DbOk.fIdx (ok : DbOk kv nd mh es) {m : Nat} {P Q : List Nd} {x : Nd} (hs : front es m = P ++ x :: Q) : Plain.fIdx es m x.p = P.length := by
  have hn := ok.nodup
  rw [front_back es m, hs] at hn
  unfold Plain.fIdx
  rw [hs, List.map_append, List.map_cons, List.idxOf_append]
  rw [List.append_assoc, List.cons_append, List.map_append, List.map_cons] at hn
  have h1 : x.p ∉ P.map Nd.p := fun h => by
    have := (List.nodup_append.1 hn).2.2 _ h x.p (by simp)
    exact this rfl
  rw [if_neg h1, List.idxOf_cons_self, List.length_map, Nat.add_comm]; simp
theorem front_len (es : List En) (m : Nat) : (front es m).length ≤ es.length + 1 := by unfold front; simp; omega
theorem DbOk.same (ok : DbOk kv nd mh es) {a c : En} (ha : a ∈ es) (hc : c ∈ es) (e : a.nd.p = c.nd.p) : a = c := by
  have h := ok.nodup
  rw [List.map_cons, List.map_map] at h
  have h := (List.nodup_cons.1 h).2
  obtain ⟨i, hi, rfl⟩ := List.getElem_of_mem ha
  obtain ⟨j, hj, rfl⟩ := List.getElem_of_mem hc
  have hij : i = j := by
    rw [List.Nodup, List.pairwise_map] at h
    have h := List.pairwise_iff_getElem.1 h
    rcases Nat.lt_trichotomy i j with h1 | h1 | h1
    · exact absurd e (h i j hi hj h1)
    · exact h1
    · exact absurd e.symm (h j i hj hi h1)
  subst hij; rfl
/-- A key of the front is below, one behind is not. -/
theorem DbOk.below (ok : DbOk kv nd mh es) (k : List UInt8) {e : En} (he : e ∈ es.take (mAt En.k es k)) : cmpI e.k k < 0 := (asc_split En.k ok.asc k).1 e he
theorem DbOk.above (ok : DbOk kv nd mh es) (k : List UInt8) {i : Nat} {e : En} (he : es[mAt En.k es k + i]? = some e) : 0 ≤ cmpI e.k k :=
  (asc_split En.k ok.asc k).2 e (List.mem_of_getElem? (i := i) (by rw [List.getElem?_drop]; exact he))
theorem DbOk.exact (ok : DbOk kv nd mh es) (k : List UInt8) {i : Nat} {e : En} (he : es[mAt En.k es k + i]? = some e) (hc : cmpI e.k k = 0) : i = 0 ∧ mIs En.k es k = true := by
  have hi : i = 0 := by
    rcases Nat.eq_zero_or_pos i with h | h
    · exact h
    · exfalso
      obtain ⟨hl, he'⟩ := List.getElem?_eq_some_iff.1 he
      have h3 := (List.pairwise_iff_getElem.1 ok.asc) (mAt En.k es k) (mAt En.k es k + i) (by omega) hl (by omega)
      rw [he'] at h3
      have h4 := ok.above k (i := 0) (List.getElem?_eq_getElem (by omega))
      have h5 := cmpI_eq.1 hc
      rw [h5] at h3
      simp only [Nat.add_zero] at h4
      omega
  refine ⟨hi, ?_⟩
  subst hi
  rw [Nat.add_zero] at he
  unfold mIs
  rw [he]
  simp [hc]
theorem mIs_none {k : List UInt8} (h : es[mAt En.k es k]? = none) : mIs En.k es k = false := by unfold mIs; rw [h]
theorem mIs_some {k : List UInt8} {e : En} (h : es[mAt En.k es k]? = some e) : mIs En.k es k = decide (cmpI e.k k = 0) := by unfold mIs; rw [h]
end
end Go.Proofs.YtloflmcgbbbnjaaDoor.Plain
namespace Go.Proofs.YtloflmcgbbbnjaaDoor.Plain
set_option linter.all false

def En.kv (e : En) : List UInt8 × List UInt8 := (e.k, e.v)
theorem mAt_map (es : List En) (k : List UInt8) : mAt Prod.fst (es.map En.kv) k = mAt En.k es k := by
  induction es with
  | nil => rfl
  | cons e es ih => rw [List.map_cons, mAt, mAt, ih]; rfl
theorem mIs_map (es : List En) (k : List UInt8) : mIs Prod.fst (es.map En.kv) k = mIs En.k es k := by
  unfold mIs
  rw [mAt_map, List.getElem?_map]
  cases es[mAt En.k es k]? <;> rfl
def szKv (l : List (List UInt8 × List UInt8)) : Nat := (l.map fun p => p.1.length + p.2.length).sum
theorem szKv_append (a b : List (List UInt8 × List UInt8)) : szKv (a ++ b) = szKv a + szKv b := by simp [szKv]
theorem szKv_cons (x : List UInt8 × List UInt8) (b : List (List UInt8 × List UInt8)) : szKv (x :: b) = x.1.length + x.2.length + szKv b := by simp [szKv]
theorem piece_app {kv x : List UInt8} {o l : Nat} (h : o + l ≤ kv.length) : ((kv ++ x).drop o).take l = (kv.drop o).take l := by
  rw [List.drop_append_of_le_length (by omega), List.take_append_of_le_length (by rw [List.length_drop]; omega)]
theorem piece_key (kv key val : List UInt8) : ((kv ++ key ++ val).drop kv.length).take key.length = key := by
  rw [List.append_assoc, List.drop_left, List.take_left]
theorem piece_val (kv key val : List UInt8) : ((kv ++ key ++ val).drop (kv.length + key.length)).take val.length = val := by
  rw [← List.length_append, List.drop_left, List.take_of_length_le (Nat.le_refl _)]
section
variable {kv : List UInt8} {nd : List Nat} {mh : Nat} {es : List En}
theorem mIs_get {k : List UInt8} (h : mIs En.k es k = true) : ∃ e, es[mAt En.k es k]? = some e ∧ e.k = k := by
  unfold mIs at h
  cases he : es[mAt En.k es k]? with
  | none => rw [he] at h; cases h
  | some e => rw [he] at h; exact ⟨e, rfl, cmpI_eq.1 (by simpa using h)⟩
theorem DbOk.ins (ok : DbOk kv nd mh es) {key val : List UInt8} {h : Nat} (h1 : 1 ≤ h) (h2 : h ≤ 12) (hn : mIs En.k es key = false) {P : Nat → Nat} (hP : ∀ i, i < h → P i = pv i (front es (mAt En.k es key)) 0) :
    DbOk (kv ++ key ++ val) (insN nd ⟨nd.length, h, kv.length, key.length, val.length⟩ P h) (max mh h) (es.take (mAt En.k es key) ++ ⟨⟨nd.length, h, kv.length, key.length, val.length⟩, key, val⟩ :: es.drop (mAt En.k es key)) := by
  have hs := ok.skip
  rw [← List.take_append_drop (mAt En.k es key) es, List.map_append] at hs
  have hmem : ∀ {e : En}, e ∈ es.take (mAt En.k es key) ++ ⟨⟨nd.length, h, kv.length, key.length, val.length⟩, key, val⟩ :: es.drop (mAt En.k es key) → e = ⟨⟨nd.length, h, kv.length, key.length, val.length⟩, key, val⟩ ∨ e ∈ es := fun he => by
    rcases List.mem_append.1 he with he | he
    · exact .inr (List.mem_of_mem_take he)
    · rcases List.mem_cons.1 he with he | he
      · exact .inl he
      · exact .inr (List.mem_of_mem_drop he)
  refine ⟨?_, fun e he => ?_, fun e he => ?_, fun e he => ?_, ?_⟩
  · rw [List.map_append, List.map_cons]
    exact skip_ins hs (z := ⟨nd.length, h, kv.length, key.length, val.length⟩) rfl h1 h2 hP
  · rcases hmem he with rfl | he
    · exact ⟨rfl, piece_key _ _ _⟩
    · have := ok.fit e he
      obtain ⟨q1, q2⟩ := ok.key e he
      exact ⟨q1, by rw [List.append_assoc, piece_app (by omega), q2]⟩
  · rcases hmem he with rfl | he
    · exact ⟨rfl, piece_val _ _ _⟩
    · have := ok.fit e he
      obtain ⟨q1, q2⟩ := ok.val e he
      exact ⟨q1, by rw [List.append_assoc, piece_app (by omega), q2]⟩
  · rcases hmem he with rfl | he
    · simp [Nat.add_assoc]
    · have := ok.fit e he
      simp only [List.length_append]; omega
  · have := asc_put En.k ok.asc ⟨⟨nd.length, h, kv.length, key.length, val.length⟩, key, val⟩
    unfold mPut at this
    rw [if_neg (by rw [hn]; simp)] at this
    exact this
theorem set_split {α : Type} {l : List α} {m : Nat} {x : α} (h : l[m]? = some x) (y : α) : l = l.take m ++ x :: l.drop (m + 1) ∧ l.set m y = l.take m ++ y :: l.drop (m + 1) := by
  obtain ⟨hlt, he⟩ := List.getElem?_eq_some_iff.1 h
  refine ⟨?_, by rw [List.set_eq_take_append_cons_drop, if_pos hlt]⟩
  conv => lhs; rw [← List.take_append_drop m l]
  rw [List.drop_eq_getElem_cons hlt, he]
theorem DbOk.turn (ok : DbOk kv nd mh es) {key val : List UInt8} {e : En} (he : es[mAt En.k es key]? = some e) (hk : e.k = key) :
    DbOk (kv ++ key ++ val) ((nd.set e.nd.p kv.length).set (e.nd.p + 2) val.length) mh (es.set (mAt En.k es key) ⟨⟨e.nd.p, e.nd.h, kv.length, key.length, val.length⟩, key, val⟩) := by
  obtain ⟨hs1, hs2⟩ := set_split he ⟨⟨e.nd.p, e.nd.h, kv.length, key.length, val.length⟩, key, val⟩
  have hs := ok.skip
  have hem := List.mem_of_getElem? he
  have hkl := (ok.key e hem).1
  rw [hk] at hkl
  conv at hs => arg 3; rw [hs1]
  rw [List.map_append, List.map_cons] at hs
  have hmem : ∀ {c : En}, c ∈ es.set (mAt En.k es key) ⟨⟨e.nd.p, e.nd.h, kv.length, key.length, val.length⟩, key, val⟩ → c = ⟨⟨e.nd.p, e.nd.h, kv.length, key.length, val.length⟩, key, val⟩ ∨ c ∈ es := fun hc => by
    rcases List.mem_or_eq_of_mem_set hc with hc | hc
    · exact .inr hc
    · exact .inl hc
  refine ⟨?_, fun c hc => ?_, fun c hc => ?_, fun c hc => ?_, ?_⟩
  · rw [hs2, List.map_append, List.map_cons]
    exact skip_turn hs (z' := ⟨e.nd.p, e.nd.h, kv.length, key.length, val.length⟩) rfl rfl hkl.symm
  · rcases hmem hc with rfl | hc
    · exact ⟨rfl, piece_key _ _ _⟩
    · have := ok.fit c hc
      obtain ⟨q1, q2⟩ := ok.key c hc
      exact ⟨q1, by rw [List.append_assoc, piece_app (by omega), q2]⟩
  · rcases hmem hc with rfl | hc
    · exact ⟨rfl, piece_val _ _ _⟩
    · have := ok.fit c hc
      obtain ⟨q1, q2⟩ := ok.val c hc
      exact ⟨q1, by rw [List.append_assoc, piece_app (by omega), q2]⟩
  · rcases hmem hc with rfl | hc
    · simp [Nat.add_assoc]
    · have := ok.fit c hc
      simp only [List.length_append]; omega
  · have h1 := asc_put En.k ok.asc ⟨⟨e.nd.p, e.nd.h, kv.length, key.length, val.length⟩, key, val⟩
    unfold mPut at h1
    have hi : mIs En.k es key = true := (mIs_iff En.k ok.asc key).2 ⟨e, hem, hk⟩
    rw [if_pos hi] at h1
    exact h1
theorem DbOk.del (ok : DbOk kv nd mh es) {key : List UInt8} {e : En} (he : es[mAt En.k es key]? = some e) {P : Nat → Nat} (hP : ∀ i, i < e.nd.h → P i = pv i (front es (mAt En.k es key)) 0) :
    DbOk kv (delN nd P e.nd.h) mh (es.take (mAt En.k es key) ++ es.drop (mAt En.k es key + 1)) ∧ ∀ i, i < e.nd.h → P i + 4 + i < nd.length ∧ nd[P i + 4 + i]? = some e.nd.p := by
  obtain ⟨hs1, -⟩ := set_split he e
  have hs := ok.skip
  conv at hs => arg 3; rw [hs1]
  rw [List.map_append, List.map_cons] at hs
  obtain ⟨g1, g2⟩ := skip_del hs hP
  have hmem : ∀ {c : En}, c ∈ es.take (mAt En.k es key) ++ es.drop (mAt En.k es key + 1) → c ∈ es := fun hc => by
    rcases List.mem_append.1 hc with hc | hc
    · exact List.mem_of_mem_take hc
    · exact List.mem_of_mem_drop hc
  refine ⟨⟨?_, fun c hc => ok.key c (hmem hc), fun c hc => ok.val c (hmem hc), fun c hc => ok.fit c (hmem hc), ?_⟩, g2⟩
  · rw [List.map_append]; exact g1
  · have ha := ok.asc
    rw [Asc, hs1] at ha
    obtain ⟨p1, p2, p3⟩ := List.pairwise_append.1 ha
    exact List.pairwise_append.2 ⟨p1, (List.pairwise_cons.1 p2).2, fun x hx y hy => p3 x hx y (by simp [hy])⟩
theorem DbOk.empty : DbOk [] nd0 1 [] := ⟨skip_new, by simp, by simp, by simp, List.Pairwise.nil⟩
/-- The pairs behind a put. -/
theorem put_new {key val : List UInt8} {z : Nd} (hn : mIs En.k es key = false) : (es.take (mAt En.k es key) ++ ⟨z, key, val⟩ :: es.drop (mAt En.k es key)).map En.kv = mPut Prod.fst (es.map En.kv) (key, val) := by
  unfold mPut
  rw [mIs_map, hn, if_neg (by simp), mAt_map, List.map_append, List.map_cons, List.map_take, List.map_drop]
  rfl
theorem put_old {key val : List UInt8} {z : Nd} (hn : mIs En.k es key = true) : (es.set (mAt En.k es key) ⟨z, key, val⟩).map En.kv = mPut Prod.fst (es.map En.kv) (key, val) := by
  unfold mPut
  rw [mIs_map, hn, if_pos rfl, mAt_map, List.map_set]
  rfl
theorem del_is {key : List UInt8} (hn : mIs En.k es key = true) : (es.take (mAt En.k es key) ++ es.drop (mAt En.k es key + 1)).map En.kv = mDel Prod.fst (es.map En.kv) key := by
  unfold mDel
  rw [mIs_map, hn, if_pos rfl, mAt_map, List.map_append, List.map_take, List.map_drop]
theorem sz_new {key val : List UInt8} {es' : List (List UInt8 × List UInt8)} (hn : mIs Prod.fst es' key = false) : szKv (mPut Prod.fst es' (key, val)) = szKv es' + (key.length + val.length) := by
  unfold mPut
  rw [show mIs Prod.fst es' (Prod.fst (key, val)) = false from hn, if_neg (by simp), szKv_append, szKv_cons]
  conv => rhs; rw [← List.take_append_drop (mAt Prod.fst es' key) es', szKv_append]
  dsimp only
  omega
theorem sz_old {key val v0 : List UInt8} {es' : List (List UInt8 × List UInt8)} (hn : mIs Prod.fst es' key = true) (he : es'[mAt Prod.fst es' key]? = some (key, v0)) : szKv (mPut Prod.fst es' (key, val)) + v0.length = szKv es' + val.length := by
  unfold mPut
  obtain ⟨hs1, hs2⟩ := set_split he (key, val)
  rw [show mIs Prod.fst es' (Prod.fst (key, val)) = true from hn, if_pos rfl]
  rw [show (es'.set (mAt Prod.fst es' (Prod.fst (key, val))) (key, val)) = _ from hs2]
  conv => rhs; rw [hs1]
  rw [szKv_append, szKv_append, szKv_cons, szKv_cons]
  dsimp only
  omega
theorem sz_del {key v0 : List UInt8} {es' : List (List UInt8 × List UInt8)} (hn : mIs Prod.fst es' key = true) (he : es'[mAt Prod.fst es' key]? = some (key, v0)) : szKv (mDel Prod.fst es' key) + (key.length + v0.length) = szKv es' := by
  unfold mDel
  obtain ⟨hs1, -⟩ := set_split he (key, v0)
  rw [hn, if_pos rfl]
  conv => rhs; rw [hs1]
  rw [szKv_append, szKv_append, szKv_cons]
  dsimp only
  omega
end
end Go.Proofs.YtloflmcgbbbnjaaDoor.Plain
namespace Go.Proofs.YtloflmcgbbbnjaaDoor.Plain
set_option linter.all false

section
variable {α : Type} (kf : α → List UInt8)
theorem mAt_take : ∀ (m : List α) (n : Nat) (k : List UInt8), mAt kf (m.take n) k = min (mAt kf m k) n
  | [], n, k => by simp [mAt]
  | x :: m, 0, k => by simp [mAt]
  | x :: m, n + 1, k => by
    rw [List.take_succ_cons, mAt, mAt]
    split
    · rw [mAt_take m n k]; omega
    · simp
theorem filter_from {m : List α} (h : Asc kf m) (s : List UInt8) : m.filter (fun x => decide (0 ≤ cmpI (kf x) s)) = m.drop (mAt kf m s) := by
  obtain ⟨h1, h2⟩ := asc_split kf h s
  conv => lhs; rw [← List.take_append_drop (mAt kf m s) m]
  rw [List.filter_append, List.filter_eq_nil_iff.2 (fun x hx => by have := h1 x hx; simp; omega), List.filter_eq_self.2 (fun x hx => by have := h2 x hx; simpa using this), List.nil_append]
theorem range_none {m : List α} (h : Asc kf m) (s : List UInt8) : mRange kf m s none = m.drop (mAt kf m s) := by
  rw [← filter_from kf h s]
  unfold mRange
  congr 1
  funext x
  simp
theorem range_some {m : List α} (h : Asc kf m) (s e : List UInt8) : mRange kf m s (some e) = (m.take (mAt kf m e)).drop (mAt kf m s) := by
  obtain ⟨h1, h2⟩ := asc_split kf h e
  unfold mRange
  conv => lhs; rw [← List.take_append_drop (mAt kf m e) m]
  rw [List.filter_append, List.filter_eq_nil_iff (l := List.drop _ _) |>.2 (fun x hx => by have := h2 x hx; simp; omega), List.append_nil]
  have e1 : (m.take (mAt kf m e)).filter (fun x => decide (0 ≤ cmpI (kf x) s) && (match some e with | none => true | some e => decide (cmpI (kf x) e < 0))) = (m.take (mAt kf m e)).filter (fun x => decide (0 ≤ cmpI (kf x) s)) := by
    refine List.filter_congr fun x hx => ?_
    have := h1 x hx
    simp [this]
  rw [e1, filter_from kf (List.Pairwise.sublist (List.take_sublist _ _) h), mAt_take]
  rcases Nat.le_total (mAt kf m s) (mAt kf m e) with h3 | h3
  · rw [Nat.min_eq_left h3]
  · rw [Nat.min_eq_right h3, List.drop_of_length_le (by rw [List.length_take]; omega), List.drop_of_length_le (by rw [List.length_take]; omega)]
end
/-- The first place, and the one behind the last, of a range; an empty bound is none. -/
def rLo (es : List En) (s : List UInt8) : Nat := if s = [] then 0 else mAt En.k es s
def rHi (es : List En) (e : List UInt8) : Nat := if e = [] then es.length else mAt En.k es e
def bnd (e : List UInt8) : Option (List UInt8) := if e = [] then none else some e
theorem mAt_nil (es : List En) : mAt En.k es [] = 0 := by
  cases es with
  | nil => rfl
  | cons x es => rw [mAt, if_neg (by cases h : x.k <;> simp [cmpI] <;> omega)]
def rng (es : List En) (s e : List UInt8) : List En := (es.take (rHi es e)).drop (rLo es s)
theorem asc_kv {es : List En} (h : Asc En.k es) : Asc Prod.fst (es.map En.kv) := by
  unfold Asc
  rw [List.pairwise_map]
  exact h
theorem rng_range {es : List En} (h : Asc En.k es) (s e : List UInt8) : (rng es s e).map En.kv = mRange Prod.fst (es.map En.kv) s (bnd e) := by
  have hlo : rLo es s = mAt En.k es s := by
    unfold rLo
    split
    · rename_i h0; rw [h0, mAt_nil]
    · rfl
  unfold rng rHi bnd
  rw [hlo]
  split
  · rw [range_none Prod.fst (asc_kv h), mAt_map, List.take_of_length_le (Nat.le_refl _), List.map_drop]
  · rw [range_some Prod.fst (asc_kv h), mAt_map, mAt_map, List.map_drop, List.map_take]
theorem rHi_le (es : List En) (e : List UInt8) : rHi es e ≤ es.length := by
  unfold rHi
  split
  · exact Nat.le_refl _
  · exact mAt_le _ _ _
end Go.Proofs.YtloflmcgbbbnjaaDoor.Plain
