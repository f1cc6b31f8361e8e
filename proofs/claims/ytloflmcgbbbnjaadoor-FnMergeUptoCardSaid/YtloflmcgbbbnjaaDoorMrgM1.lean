/-
  PLAIN: lists of bytes, compared byte by byte. No Go in sight.
  PLAIN: numbers in groups of seven bits. No Go in sight.
  PLAIN: an ordered map as a list of records in the order of their keys. No Go in sight.
  PLAIN: lists in order, walked side by side: how many of each lie ahead of a place of them all. No Go in sight.
  PLAIN: the range of a prefix; the separator and the successor of keys. No Go in sight.
-/
namespace Go.Proofs.YtloflmcgbbbnjaaDoor.Plain

/-- As the reference compares: below 0, 0, above 0. -/
def cmpI : List UInt8 → List UInt8 → Int
  | [], b => -(b.length : Int)
  | a :: as, [] => ((a :: as).length : Int)
  | a :: as, b :: bs => if a = b then cmpI as bs else (a.toNat : Int) - (b.toNat : Int)

@[simp] theorem cmpI_nil (b : List UInt8) : cmpI [] b = -(b.length : Int) := by cases b <;> rfl
@[simp] theorem cmpI_cons_nil (a : UInt8) (as : List UInt8) : cmpI (a :: as) [] = (as.length : Int) + 1 := by simp [cmpI]
theorem cmpI_cons (a b : UInt8) (as bs : List UInt8) : cmpI (a :: as) (b :: bs) = if a = b then cmpI as bs else (a.toNat : Int) - (b.toNat : Int) := rfl

theorem u8_ne {a b : UInt8} (h : a ≠ b) : a.toNat ≠ b.toNat := fun e => h (UInt8.toNat_inj.1 e)
theorem u8_lt (a : UInt8) : a.toNat < 256 := a.toNat_lt

theorem cmpI_refl (a : List UInt8) : cmpI a a = 0 := by
  induction a with
  | nil => rfl
  | cons x a ih => rw [cmpI_cons, if_pos rfl, ih]

theorem cmpI_anti (a b : List UInt8) : cmpI a b = - cmpI b a := by
  induction a generalizing b with
  | nil => cases b <;> simp [cmpI]
  | cons x a ih =>
    cases b with
    | nil => simp [cmpI]
    | cons y b =>
      rw [cmpI_cons, cmpI_cons]
      by_cases e : x = y
      · subst e; rw [if_pos rfl, if_pos rfl, ih]
      · rw [if_neg e, if_neg (Ne.symm e)]; omega

theorem cmpI_eq {a b : List UInt8} : cmpI a b = 0 ↔ a = b := by
  constructor
  · intro h
    induction a generalizing b with
    | nil => cases b with
      | nil => rfl
      | cons y b => simp at h; omega
    | cons x a ih =>
      cases b with
      | nil => simp at h; omega
      | cons y b =>
        rw [cmpI_cons] at h
        by_cases e : x = y
        · rw [if_pos e] at h; rw [e, ih h]
        · rw [if_neg e] at h; have := u8_ne e; omega
  · rintro rfl; exact cmpI_refl a

theorem cmpI_trans {a b c : List UInt8} (h1 : cmpI a b < 0) (h2 : cmpI b c < 0) : cmpI a c < 0 := by
  induction a generalizing b c with
  | nil =>
    cases c with
    | nil => cases b with
      | nil => simp at h2
      | cons y b => simp at h2; omega
    | cons z c => simp
  | cons x a ih =>
    cases b with
    | nil => simp at h1; omega
    | cons y b =>
      cases c with
      | nil => simp at h2; omega
      | cons z c =>
        rw [cmpI_cons] at h1 h2 ⊢
        by_cases e1 : x = y
        · subst e1
          rw [if_pos rfl] at h1
          by_cases e2 : x = z
          · rw [if_pos e2] at h2 ⊢; exact ih h1 h2
          · rw [if_neg e2] at h2 ⊢; exact h2
        · rw [if_neg e1] at h1
          by_cases e2 : y = z
          · subst e2; rw [if_neg e1]; exact h1
          · rw [if_neg e2] at h2
            by_cases e3 : x = z
            · subst e3; omega
            · rw [if_neg e3]; omega

theorem cmpI_le_trans {a b c : List UInt8} (h1 : cmpI a b ≤ 0) (h2 : cmpI b c ≤ 0) : cmpI a c ≤ 0 := by
  rcases Int.lt_or_eq_of_le h1 with h1 | h1
  · rcases Int.lt_or_eq_of_le h2 with h2 | h2
    · exact Int.le_of_lt (cmpI_trans h1 h2)
    · rw [cmpI_eq] at h2; subst h2; exact Int.le_of_lt h1
  · rw [cmpI_eq] at h1; subst h1; exact h2
theorem cmpI_lt_le {a b c : List UInt8} (h1 : cmpI a b < 0) (h2 : cmpI b c ≤ 0) : cmpI a c < 0 := by
  rcases Int.lt_or_eq_of_le h2 with h2 | h2
  · exact cmpI_trans h1 h2
  · rw [cmpI_eq] at h2; subst h2; exact h1
theorem cmpI_le_lt {a b c : List UInt8} (h1 : cmpI a b ≤ 0) (h2 : cmpI b c < 0) : cmpI a c < 0 := by
  rcases Int.lt_or_eq_of_le h1 with h1 | h1
  · exact cmpI_trans h1 h2
  · rw [cmpI_eq] at h1; subst h1; exact h2

theorem cmpI_range (a b : List UInt8) : -((b.length : Int) + 256) ≤ cmpI a b ∧ cmpI a b ≤ (a.length : Int) + 256 := by
  induction a generalizing b with
  | nil => simp; omega
  | cons x a ih =>
    cases b with
    | nil => simp; omega
    | cons y b =>
      rw [cmpI_cons]
      have h1 := u8_lt x; have h2 := u8_lt y
      have := ih b
      split <;> simp only [List.length_cons] <;> omega

/-- How much two lists share at their heads. -/
def shared : List UInt8 → List UInt8 → Nat
  | a :: as, b :: bs => if a = b then shared as bs + 1 else 0
  | _, _ => 0
@[simp] theorem shared_nil (b : List UInt8) : shared [] b = 0 := by cases b <;> rfl
@[simp] theorem shared_nil' (a : List UInt8) : shared a [] = 0 := by cases a <;> rfl
theorem shared_cons (a b : UInt8) (as bs : List UInt8) : shared (a :: as) (b :: bs) = if a = b then shared as bs + 1 else 0 := rfl
theorem shared_le (a b : List UInt8) : shared a b ≤ a.length ∧ shared a b ≤ b.length := by
  induction a generalizing b with
  | nil => simp
  | cons x a ih =>
    cases b with
    | nil => simp
    | cons y b =>
      rw [shared_cons]
      have := ih b
      split <;> simp only [List.length_cons] <;> omega

/-- A byte of a list; 0 behind its end. -/
def at_ (l : List UInt8) (i : Nat) : UInt8 := l[i]?.getD 0
theorem at_get {l : List UInt8} {i : Nat} (h : i < l.length) : at_ l i = l[i] := by simp [at_, List.getElem?_eq_getElem h]
theorem at_some {l : List UInt8} {i : Nat} (h : i < l.length) : l[i]? = some (at_ l i) := by simp [at_, List.getElem?_eq_getElem h]
theorem drop_at {l : List UInt8} {i : Nat} (h : i < l.length) : l.drop i = at_ l i :: l.drop (i + 1) := by
  rw [at_get h]; exact List.drop_eq_getElem_cons h
theorem take_at {l : List UInt8} {i : Nat} (h : i < l.length) : l.take (i + 1) = l.take i ++ [at_ l i] := by
  rw [at_get h]; exact List.take_succ_eq_append_getElem h

/-- Two lists that agree on their first n bytes are compared behind them. -/
theorem cmpI_drop {a b : List UInt8} {n : Nat} (ha : n ≤ a.length) (hb : n ≤ b.length) (h : ∀ i, i < n → at_ a i = at_ b i) : cmpI a b = cmpI (a.drop n) (b.drop n) := by
  induction n generalizing a b with
  | zero => simp
  | succ n ih =>
    cases a with
    | nil => simp at ha
    | cons x a =>
      cases b with
      | nil => simp at hb
      | cons y b =>
        have h0 : x = y := by simpa [at_] using h 0 (by omega)
        rw [cmpI_cons, if_pos h0, List.drop_succ_cons, List.drop_succ_cons]
        exact ih (by simpa using ha) (by simpa using hb) (fun i hi => by simpa [at_] using h (i + 1) (by omega))
theorem shared_drop {a b : List UInt8} {n : Nat} (ha : n ≤ a.length) (hb : n ≤ b.length) (h : ∀ i, i < n → at_ a i = at_ b i) : shared a b = n + shared (a.drop n) (b.drop n) := by
  induction n generalizing a b with
  | zero => simp
  | succ n ih =>
    cases a with
    | nil => simp at ha
    | cons x a =>
      cases b with
      | nil => simp at hb
      | cons y b =>
        have h0 : x = y := by simpa [at_] using h 0 (by omega)
        rw [shared_cons, if_pos h0, List.drop_succ_cons, List.drop_succ_cons, ih (by simpa using ha) (by simpa using hb) (fun i hi => by simpa [at_] using h (i + 1) (by omega))]
        omega
theorem shared_at {a b : List UInt8} {i : Nat} (h : i < shared a b) : at_ a i = at_ b i := by
  induction a generalizing b i with
  | nil => simp at h
  | cons x a ih =>
    cases b with
    | nil => simp at h
    | cons y b =>
      rw [shared_cons] at h
      by_cases e : x = y
      · rw [if_pos e] at h
        cases i with
        | zero => simp [at_, e]
        | succ i => simpa [at_] using ih (b := b) (i := i) (by omega)
      · rw [if_neg e] at h; omega
theorem shared_parts {a b : List UInt8} (ha : shared a b < a.length) (hb : shared a b < b.length) : at_ a (shared a b) ≠ at_ b (shared a b) := by
  induction a generalizing b with
  | nil => simp at ha
  | cons x a ih =>
    cases b with
    | nil => simp at hb
    | cons y b =>
      rw [shared_cons] at ha hb ⊢
      by_cases e : x = y
      · rw [if_pos e] at ha hb ⊢
        simpa [at_] using ih (b := b) (by simpa using ha) (by simpa using hb)
      · rw [if_neg e]; simpa [at_] using e
theorem shared_take (a b : List UInt8) : a.take (shared a b) = b.take (shared a b) := by
  induction a generalizing b with
  | nil => simp
  | cons x a ih =>
    cases b with
    | nil => simp
    | cons y b =>
      rw [shared_cons]
      by_cases e : x = y
      · rw [if_pos e, List.take_succ_cons, List.take_succ_cons, e, ih]
      · rw [if_neg e]; simp
theorem cmpI_at {a b : List UInt8} (n : Nat) (hn : n = shared a b) (ha : n < a.length) (hb : n < b.length) : cmpI a b = ((at_ a n).toNat : Int) - ((at_ b n).toNat : Int) := by
  subst hn
  rw [cmpI_drop (Nat.le_of_lt ha) (Nat.le_of_lt hb) (fun i hi => shared_at hi), drop_at ha, drop_at hb, cmpI_cons, if_neg (shared_parts ha hb)]
theorem cmpI_end {a b : List UInt8} (h : ¬ (shared a b < a.length ∧ shared a b < b.length)) : cmpI a b = (a.length : Int) - b.length := by
  have h1 := shared_le a b
  rw [cmpI_drop h1.1 h1.2 (fun i hi => shared_at hi)]
  rcases Nat.lt_or_ge (shared a b) a.length with h2 | h2
  · have h3 : b.drop (shared a b) = [] := List.drop_eq_nil_of_le (by omega)
    rw [h3]
    have h4 : (a.drop (shared a b)).length = a.length - shared a b := List.length_drop
    cases hh : a.drop (shared a b) with
    | nil => rw [hh] at h4; simp at h4; omega
    | cons x l => rw [hh] at h4; simp at h4 ⊢; omega
  · have h3 : a.drop (shared a b) = [] := List.drop_eq_nil_of_le (by omega)
    rw [h3, cmpI_nil, List.length_drop]; omega
/-- One step more is shared. -/
theorem shared_step {a b : List UInt8} {k : Nat} (hk : k ≤ shared a b) (h1 : k < a.length) (h2 : k < b.length) (e : at_ a k = at_ b k) : k + 1 ≤ shared a b := by
  rcases Nat.lt_or_eq_of_le hk with h | h
  · exact h
  · exfalso; subst h; exact shared_parts h1 h2 e
/-- Here they part. -/
theorem shared_stop {a b : List UInt8} {k : Nat} (hk : k ≤ shared a b) (e : at_ a k ≠ at_ b k) : k = shared a b := by
  rcases Nat.lt_or_eq_of_le hk with h | h
  · exact absurd (shared_at h) e
  · exact h
/-- A byte as a number (closed to the walk). -/
def bz (l : List UInt8) (i : Nat) : Int := ((at_ l i).toNat : Int)
theorem bz_lo (l : List UInt8) (i : Nat) : 0 ≤ bz l i := by unfold bz; omega
theorem bz_hi (l : List UInt8) (i : Nat) : bz l i < 256 := by have := u8_lt (at_ l i); unfold bz; omega
theorem bz_eq {a b : List UInt8} {i j : Nat} : bz a i = bz b j ↔ at_ a i = at_ b j := by
  unfold bz
  rw [← UInt8.toNat_inj]
  omega
theorem at_ext {l l' : List UInt8} (hl : l.length = l'.length) (h : ∀ i, i < l.length → at_ l i = at_ l' i) : l = l' := by
  apply List.ext_getElem hl
  intro i h1 h2
  rw [← at_get h1, ← at_get h2, h i h1]
end Go.Proofs.YtloflmcgbbbnjaaDoor.Plain
namespace Go.Proofs.YtloflmcgbbbnjaaDoor.Plain

def uv (x : Nat) : List UInt8 := if h : x < 128 then [UInt8.ofNat x] else UInt8.ofNat (x % 128 + 128) :: uv (x / 128)
theorem uv_small {x : Nat} (h : x < 128) : uv x = [UInt8.ofNat x] := by unfold uv; rw [dif_pos h]
theorem uv_big {x : Nat} (h : ¬ x < 128) : uv x = UInt8.ofNat (x % 128 + 128) :: uv (x / 128) := by
  rw [uv]
  simp [h]
theorem uv_pos (x : Nat) : 0 < (uv x).length := by
  by_cases h : x < 128
  · rw [uv_small h]; simp
  · rw [uv_big h]; simp
theorem uv_len : ∀ (k : Nat) (x : Nat), x < 128 ^ (k + 1) → (uv x).length ≤ k + 1
  | 0, x, h => by rw [uv_small (by omega)]; simp
  | k + 1, x, h => by
    by_cases h' : x < 128
    · rw [uv_small h']; simp
    · rw [uv_big h', List.length_cons]
      have := uv_len k (x / 128) (by rw [Nat.div_lt_iff_lt_mul (by decide)]; rwa [Nat.pow_succ] at h)
      omega
theorem uv_len5 {x : Nat} (h : x < 34359738368) : (uv x).length ≤ 5 := uv_len 4 x (by omega)
theorem uv_len10 {x : Nat} (h : x < 18446744073709551616) : (uv x).length ≤ 10 := uv_len 9 x (by omega)
end Go.Proofs.YtloflmcgbbbnjaaDoor.Plain
namespace Go.Proofs.YtloflmcgbbbnjaaDoor.Plain

section
variable {α : Type} (kf : α → List UInt8)
/-- The place of the first record whose key is at least a key. -/
def mAt : List α → List UInt8 → Nat
  | [], _ => 0
  | x :: m, k => if cmpI (kf x) k < 0 then mAt m k + 1 else 0
def mIs (m : List α) (k : List UInt8) : Bool := match m[mAt kf m k]? with | some x => decide (cmpI (kf x) k = 0) | none => false
def mPut (m : List α) (x : α) : List α := if mIs kf m (kf x) then m.set (mAt kf m (kf x)) x else m.take (mAt kf m (kf x)) ++ x :: m.drop (mAt kf m (kf x))
def mDel (m : List α) (k : List UInt8) : List α := if mIs kf m k then m.take (mAt kf m k) ++ m.drop (mAt kf m k + 1) else m
def mRange (m : List α) (s : List UInt8) (e : Option (List UInt8)) : List α := m.filter fun x => decide (0 ≤ cmpI (kf x) s) && (match e with | none => true | some e => decide (cmpI (kf x) e < 0))
/-- In the order of their keys, none twice. -/
def Asc (m : List α) : Prop := m.Pairwise fun x y => cmpI (kf x) (kf y) < 0

theorem mAt_le : ∀ (m : List α) (k : List UInt8), mAt kf m k ≤ m.length
  | [], _ => Nat.le_refl _
  | x :: m, k => by
    rw [mAt]
    split
    · have := mAt_le m k; simp; omega
    · exact Nat.zero_le _
theorem mAt_below : ∀ (m : List α) (k : List UInt8) (i : Nat) (x : α), m[i]? = some x → i < mAt kf m k → cmpI (kf x) k < 0
  | [], _, _, _, h, _ => by simp at h
  | y :: m, k, i, x, h, hi => by
    rw [mAt] at hi
    split at hi
    · rename_i hy
      cases i with
      | zero => simp at h; subst h; exact hy
      | succ i => exact mAt_below m k i x (by simpa using h) (by omega)
    · omega
theorem mAt_at : ∀ (m : List α) (k : List UInt8) (x : α), m[mAt kf m k]? = some x → 0 ≤ cmpI (kf x) k
  | [], _, _, h => by simp at h
  | y :: m, k, x, h => by
    rw [mAt] at h
    split at h
    · exact mAt_at m k x (by simpa using h)
    · simp at h; subst h; omega
/-- Where an ascending list parts. -/
theorem mAt_split : ∀ (A B : List α) (k : List UInt8), (∀ x ∈ A, cmpI (kf x) k < 0) → (∀ x ∈ B, 0 ≤ cmpI (kf x) k) → mAt kf (A ++ B) k = A.length
  | [], [], _, _, _ => rfl
  | [], y :: B, k, _, hB => by have := hB y (by simp); rw [List.nil_append, mAt, if_neg (by omega)]; rfl
  | x :: A, B, k, hA, hB => by
    rw [List.cons_append, mAt, if_pos (hA x (by simp)), mAt_split A B k (fun y hy => hA y (by simp [hy])) hB, List.length_cons]
theorem asc_split {m : List α} (h : Asc kf m) (k : List UInt8) : (∀ x ∈ m.take (mAt kf m k), cmpI (kf x) k < 0) ∧ (∀ x ∈ m.drop (mAt kf m k), 0 ≤ cmpI (kf x) k) := by
  constructor
  · intro x hx
    obtain ⟨i, hi⟩ := List.mem_iff_getElem?.1 hx
    rw [List.getElem?_take] at hi
    split at hi
    · exact mAt_below kf m k i x hi (by assumption)
    · cases hi
  · intro x hx
    obtain ⟨i, hi⟩ := List.mem_iff_getElem?.1 hx
    rw [List.getElem?_drop] at hi
    have hlt := (List.getElem?_eq_some_iff.1 hi).1
    have h0 : m[mAt kf m k]? = some m[mAt kf m k] := List.getElem?_eq_getElem (by omega)
    have hz := mAt_at kf m k _ h0
    cases i with
    | zero =>
      rw [Nat.add_zero, h0] at hi
      injection hi with hi
      rw [← hi]; exact hz
    | succ i =>
      obtain ⟨h1, h2⟩ := List.getElem?_eq_some_iff.1 hi
      have h3 := (List.pairwise_iff_getElem.1 h) (mAt kf m k) (mAt kf m k + (i + 1)) (by omega) h1 (by omega)
      rw [h2] at h3
      have h4 := cmpI_anti (kf m[mAt kf m k]) k
      have h5 := cmpI_anti (kf x) k
      rcases Int.lt_or_le (cmpI (kf x) k) 0 with h6 | h6
      · have := cmpI_trans h3 h6; omega
      · exact h6
theorem mIs_iff {m : List α} (h : Asc kf m) (k : List UInt8) : mIs kf m k = true ↔ ∃ x ∈ m, kf x = k := by
  obtain ⟨h1, h2⟩ := asc_split kf h k
  unfold mIs
  constructor
  · intro hm
    cases hx : m[mAt kf m k]? with
    | none => rw [hx] at hm; cases hm
    | some x =>
      rw [hx] at hm
      exact ⟨x, List.mem_of_getElem? hx, cmpI_eq.1 (by simpa using hm)⟩
  · rintro ⟨x, hx, rfl⟩
    have e : m = m.take (mAt kf m (kf x)) ++ m.drop (mAt kf m (kf x)) := (List.take_append_drop _ _).symm
    have hx' : x ∈ m.drop (mAt kf m (kf x)) := by
      rw [e] at hx
      rcases List.mem_append.1 hx with hx | hx
      · have := h1 x hx; rw [cmpI_refl] at this; omega
      · exact hx
    have hlt : mAt kf m (kf x) < m.length := by
      have := List.length_pos_of_mem hx'
      rw [List.length_drop] at this; omega
    rw [List.getElem?_eq_getElem hlt]
    simp only [decide_eq_true_eq]
    rw [List.drop_eq_getElem_cons hlt] at hx'
    rcases List.mem_cons.1 hx' with e2 | hx'
    · rw [← e2]; exact cmpI_refl _
    · obtain ⟨j, hj⟩ := List.mem_iff_getElem?.1 hx'
      rw [List.getElem?_drop] at hj
      obtain ⟨hj1, hj2⟩ := List.getElem?_eq_some_iff.1 hj
      have h3 := (List.pairwise_iff_getElem.1 h) (mAt kf m (kf x)) (mAt kf m (kf x) + 1 + j) hlt hj1 (by omega)
      rw [hj2] at h3
      have := h2 _ (List.mem_of_mem_head? (by rw [List.drop_eq_getElem_cons hlt]; rfl))
      omega
theorem asc_put {m : List α} (h : Asc kf m) (x : α) : Asc kf (mPut kf m x) := by
  obtain ⟨h1, h2⟩ := asc_split kf h (kf x)
  have e : m = m.take (mAt kf m (kf x)) ++ m.drop (mAt kf m (kf x)) := (List.take_append_drop _ _).symm
  have h' := h
  rw [e] at h'
  obtain ⟨p1, p2, p3⟩ := List.pairwise_append.1 h'
  unfold mPut
  by_cases hi : mIs kf m (kf x) = true
  · rw [if_pos hi]
    unfold mIs at hi
    cases hy : m[mAt kf m (kf x)]? with
    | none => rw [hy] at hi; cases hi
    | some y =>
      rw [hy] at hi
      have hk : kf y = kf x := cmpI_eq.1 (by simpa using hi)
      obtain ⟨hlt, hy'⟩ := List.getElem?_eq_some_iff.1 hy
      rw [List.drop_eq_getElem_cons hlt, hy'] at p2 p3
      obtain ⟨p4, p5⟩ := List.pairwise_cons.1 p2
      rw [List.set_eq_take_append_cons_drop, if_pos hlt]
      refine List.pairwise_append.2 ⟨p1, List.pairwise_cons.2 ⟨fun z hz => by rw [← hk]; exact p4 z hz, p5⟩, fun a ha b hb => ?_⟩
      rcases List.mem_cons.1 hb with rfl | hb
      · rw [← hk]; exact p3 a ha y (by simp)
      · exact p3 a ha b (by simp [hb])
  · rw [if_neg hi]
    refine List.pairwise_append.2 ⟨p1, List.pairwise_cons.2 ⟨fun z hz => ?_, p2⟩, fun a ha b hb => ?_⟩
    · have h3 := h2 z hz
      have h4 := cmpI_anti (kf x) (kf z)
      rcases Int.lt_or_eq_of_le h3 with h5 | h5
      · omega
      · exact absurd ((mIs_iff kf h (kf x)).2 ⟨z, List.mem_of_mem_drop hz, cmpI_eq.1 h5.symm⟩) hi
    · rcases List.mem_cons.1 hb with rfl | hb
      · exact h1 a ha
      · exact p3 a ha b hb
theorem asc_del {m : List α} (h : Asc kf m) (k : List UInt8) : Asc kf (mDel kf m k) := by
  unfold mDel
  split
  · have e : m = m.take (mAt kf m k) ++ m.drop (mAt kf m k) := (List.take_append_drop _ _).symm
    have h' := h
    rw [e] at h'
    obtain ⟨p1, p2, p3⟩ := List.pairwise_append.1 h'
    have hs : (m.drop (mAt kf m k + 1)).Sublist (m.drop (mAt kf m k)) := by
      rw [← List.drop_drop]; exact List.drop_sublist _ _
    exact List.pairwise_append.2 ⟨p1, p2.sublist hs, fun a ha b hb => p3 a ha b (hs.subset hb)⟩
  · exact h
theorem asc_range {m : List α} (h : Asc kf m) (s : List UInt8) (e : Option (List UInt8)) : Asc kf (mRange kf m s e) := h.sublist List.filter_sublist
theorem mPut_len (m : List α) (x : α) : (mPut kf m x).length = if mIs kf m (kf x) then m.length else m.length + 1 := by
  unfold mPut
  split
  · simp
  · have := mAt_le kf m (kf x)
    simp only [List.length_append, List.length_take, List.length_cons, List.length_drop]; omega
end
end Go.Proofs.YtloflmcgbbbnjaaDoor.Plain
namespace Go.Proofs.YtloflmcgbbbnjaaDoor.Plain

section
variable {α : Type} (kf : α → List UInt8)
/-- How many of L lie ahead of place P of m. -/
def cut (m : List α) (P : Nat) (L : List α) : Nat := match m[P]? with | some x => mAt kf L (kf x) | none => L.length
/-- m has all of the lists, each key once. -/
structure Mgd (Ls : List (List α)) (m : List α) : Prop where
  asc : Asc kf m
  ls : ∀ L ∈ Ls, Asc kf L
  sub : ∀ L ∈ Ls, ∀ x ∈ L, x ∈ m
  cov : ∀ x ∈ m, ∃ L ∈ Ls, x ∈ L
  one : ∀ (i j : Nat) L L' x y, Ls[i]? = some L → Ls[j]? = some L' → x ∈ L → y ∈ L' → kf x = kf y → i = j
variable {kf}
theorem asc_lt {m : List α} (h : Asc kf m) {i j : Nat} {x y : α} (hx : m[i]? = some x) (hy : m[j]? = some y) : cmpI (kf x) (kf y) < 0 ↔ i < j := by
  obtain ⟨hi, rfl⟩ := List.getElem?_eq_some_iff.1 hx
  obtain ⟨hj, rfl⟩ := List.getElem?_eq_some_iff.1 hy
  constructor
  · intro hc
    rcases Nat.lt_trichotomy i j with h1 | h1 | h1
    · exact h1
    · subst h1; rw [cmpI_refl] at hc; omega
    · have := List.pairwise_iff_getElem.1 h j i hj hi h1
      have h2 := cmpI_trans hc this
      rw [cmpI_refl] at h2; omega
  · exact fun h1 => List.pairwise_iff_getElem.1 h i j hi hj h1
theorem asc_inj {m : List α} (h : Asc kf m) {i j : Nat} {x y : α} (hx : m[i]? = some x) (hy : m[j]? = some y) (e : kf x = kf y) : i = j := by
  rcases Nat.lt_trichotomy i j with h1 | h1 | h1
  · have := (asc_lt h hx hy).2 h1; rw [e, cmpI_refl] at this; omega
  · exact h1
  · have := (asc_lt h hy hx).2 h1; rw [e, cmpI_refl] at this; omega
theorem mAt_iff {L : List α} (h : Asc kf L) (k : List UInt8) {i : Nat} {y : α} (hy : L[i]? = some y) : i < mAt kf L k ↔ cmpI (kf y) k < 0 := by
  constructor
  · exact fun h1 => mAt_below kf L k i y hy h1
  · intro hc
    rcases Nat.lt_or_ge i (mAt kf L k) with h1 | h1
    · exact h1
    · have hm := (asc_split kf h k).2 y (List.mem_of_getElem? (i := i - mAt kf L k) (by rw [List.getElem?_drop, show mAt kf L k + (i - mAt kf L k) = i by omega]; exact hy))
      omega
theorem cut_le (m : List α) (P : Nat) (L : List α) : cut kf m P L ≤ L.length := by
  unfold cut
  split
  · exact mAt_le kf L _
  · exact Nat.le_refl _
theorem Mgd.cut_iff {Ls : List (List α)} {m : List α} (h : Mgd kf Ls m) {L : List α} (hL : L ∈ Ls) (P : Nat) {i j : Nat} {y : α} (hy : L[i]? = some y) (hj : m[j]? = some y) : i < cut kf m P L ↔ j < P := by
  unfold cut
  cases hx : m[P]? with
  | some x => exact (mAt_iff (h.ls L hL) (kf x) hy).trans (asc_lt h.asc hj hx)
  | none =>
    have h1 := (List.getElem?_eq_some_iff.1 hy).1
    have h2 := (List.getElem?_eq_some_iff.1 hj).1
    have h3 := List.getElem?_eq_none_iff.1 hx
    simp only
    constructor <;> intro _ <;> omega
theorem Mgd.at_ {Ls : List (List α)} {m : List α} (h : Mgd kf Ls m) {L : List α} (hL : L ∈ Ls) {i : Nat} {y : α} (hy : L[i]? = some y) : ∃ j : Nat, m[j]? = some y := by
  obtain ⟨j, hj, e⟩ := List.getElem_of_mem (h.sub L hL y (List.mem_of_getElem? hy))
  exact ⟨j, by rw [List.getElem?_eq_getElem hj, e]⟩
theorem nat_cut {a b n : Nat} (ha : a ≤ n) (hb : b ≤ n) (h : ∀ i, i < n → (i < a ↔ i < b)) : a = b := by
  rcases Nat.lt_trichotomy a b with h1 | h1 | h1
  · have := (h a (by omega)).2 h1; omega
  · exact h1
  · have := (h b (by omega)).1 h1; omega
/-- Where the pair of place P lies. -/
theorem Mgd.own {Ls : List (List α)} {m : List α} (h : Mgd kf Ls m) {P : Nat} {x : α} (hx : m[P]? = some x) : ∃ (j : Nat) (L : List α), Ls[j]? = some L ∧ L[cut kf m P L]? = some x ∧ cut kf m (P + 1) L = cut kf m P L + 1 := by
  obtain ⟨L, hL, hxL⟩ := h.cov x (List.mem_of_getElem? hx)
  obtain ⟨j, hj, rfl⟩ := List.getElem_of_mem hL
  obtain ⟨i0, hi0, rfl⟩ := List.getElem_of_mem hxL
  have hg := List.getElem?_eq_getElem hi0
  have h1 : cut kf m P Ls[j] ≤ i0 := by
    have := (h.cut_iff hL P hg hx)
    omega
  have h2 : cut kf m P Ls[j] = i0 := by
    rcases Nat.lt_or_ge (cut kf m P Ls[j]) i0 with h3 | h3
    · exfalso
      have hlt : cut kf m P Ls[j] < Ls[j].length := by omega
      have hy := List.getElem?_eq_getElem hlt
      obtain ⟨k, hk⟩ := h.at_ hL hy
      have h4 := h.cut_iff hL P hy hk
      have h5 := (asc_lt (h.ls _ hL) hy hg).2 h3
      have h6 := (asc_lt h.asc hk hx).1 h5
      omega
    · omega
  refine ⟨j, Ls[j], List.getElem?_eq_getElem hj, by rw [h2]; exact hg, ?_⟩
  refine nat_cut (n := Ls[j].length) (cut_le _ _ _) (by omega) fun i hi => ?_
  have hy := List.getElem?_eq_getElem hi
  obtain ⟨k, hk⟩ := h.at_ hL hy
  have h4 := h.cut_iff hL (P + 1) hy hk
  have h5 := asc_lt (h.ls _ hL) hg hy
  have h6 := asc_lt h.asc hx hk
  rw [h2]
  omega
/-- In every other list nothing turns. -/
theorem Mgd.other {Ls : List (List α)} {m : List α} (h : Mgd kf Ls m) {P : Nat} {x : α} (hx : m[P]? = some x) {j j' : Nat} {L L' : List α} (hL : Ls[j]? = some L) (hxL : x ∈ L) (hL' : Ls[j']? = some L') (hne : j' ≠ j) : cut kf m (P + 1) L' = cut kf m P L' := by
  have hm' := List.mem_of_getElem? hL'
  refine nat_cut (cut_le _ _ _) (cut_le _ _ _) fun i hi => ?_
  have hy := List.getElem?_eq_getElem hi
  obtain ⟨k, hk⟩ := h.at_ hm' hy
  have h4 := h.cut_iff hm' (P + 1) hy hk
  have h5 := h.cut_iff hm' P hy hk
  have h6 : k ≠ P := fun e => by
    subst e
    rw [hx] at hk
    have e2 : x = L'[i] := Option.some.inj hk
    exact hne (h.one j' j L' L L'[i] x hL' hL (List.getElem_mem hi) hxL (by rw [← e2]))
  omega
/-- What stands next in a list is not ahead of the pair of the place. -/
theorem Mgd.ge {Ls : List (List α)} {m : List α} (h : Mgd kf Ls m) {P : Nat} {x : α} (hx : m[P]? = some x) {L : List α} (hL : L ∈ Ls) {y : α} (hy : L[cut kf m P L]? = some y) : cmpI (kf x) (kf y) ≤ 0 := by
  obtain ⟨k, hk⟩ := h.at_ hL hy
  have h4 := h.cut_iff hL P hy hk
  rcases Nat.lt_trichotomy P k with h1 | h1 | h1
  · exact Int.le_of_lt ((asc_lt h.asc hx hk).2 h1)
  · subst h1; rw [hx] at hk; rw [Option.some.inj hk, cmpI_refl]; omega
  · omega
theorem Mgd.le {Ls : List (List α)} {m : List α} (h : Mgd kf Ls m) {P : Nat} {x : α} (hx : m[P]? = some x) {L : List α} (hL : L ∈ Ls) {c : Nat} (hc : cut kf m (P + 1) L = c + 1) {y : α} (hy : L[c]? = some y) : cmpI (kf y) (kf x) ≤ 0 := by
  obtain ⟨k, hk⟩ := h.at_ hL hy
  have h4 := h.cut_iff hL (P + 1) hy hk
  rcases Nat.lt_trichotomy P k with h1 | h1 | h1
  · omega
  · subst h1; rw [hx] at hk; rw [Option.some.inj hk, cmpI_refl]; omega
  · exact Int.le_of_lt ((asc_lt h.asc hk hx).2 h1)
theorem Mgd.cut0 {Ls : List (List α)} {m : List α} (h : Mgd kf Ls m) {L : List α} (hL : L ∈ Ls) : cut kf m 0 L = 0 := by
  rcases Nat.eq_zero_or_pos (cut kf m 0 L) with h1 | h1
  · exact h1
  · have hl := cut_le (kf := kf) m 0 L
    have hy := List.getElem?_eq_getElem (show 0 < L.length by omega)
    obtain ⟨k, hk⟩ := h.at_ hL hy
    have := h.cut_iff hL 0 hy hk
    omega
theorem cut_end {m : List α} {P : Nat} (hP : m.length ≤ P) (L : List α) : cut kf m P L = L.length := by
  unfold cut; rw [List.getElem?_eq_none hP]
/-- Where a key is sought. -/
theorem Mgd.seek {Ls : List (List α)} {m : List α} (h : Mgd kf Ls m) {L : List α} (hL : L ∈ Ls) (key : List UInt8) : mAt kf L key = cut kf m (mAt kf m key) L := by
  refine nat_cut (mAt_le kf L key) (cut_le _ _ _) fun i hi => ?_
  have hy := List.getElem?_eq_getElem hi
  obtain ⟨k, hk⟩ := h.at_ hL hy
  rw [h.cut_iff hL _ hy hk, mAt_iff (h.ls L hL) key hy, mAt_iff h.asc key hk]
theorem cut_seekP {m : List α} {P : Nat} {x : α} (hx : m[P]? = some x) (L : List α) : mAt kf L (kf x) = cut kf m P L := by
  unfold cut; rw [hx]
theorem Mgd.sum {Ls : List (List α)} {m : List α} (h : Mgd kf Ls m) {L : List α} (hL : L ∈ Ls) : L.length ≤ m.length := by
  have hd : ∀ i (hi : i < L.length), ∃ j : Nat, m[j]? = some L[i] := fun i hi => h.at_ hL (List.getElem?_eq_getElem hi)
  rcases Nat.lt_or_ge m.length L.length with h1 | h1
  · exfalso
    have key : ∀ i, i < L.length → ∀ j, m[j]? = L[i]? → i ≤ j := by
      intro i
      induction i with
      | zero => intro _ _ _; omega
      | succ i ih =>
        intro hi j hj
        have hy := List.getElem?_eq_getElem (show i < L.length by omega)
        obtain ⟨k, hk⟩ := h.at_ hL hy
        have h2 := ih (by omega) k (by rw [hk, hy])
        have hy' := List.getElem?_eq_getElem hi
        have h3 := (asc_lt (h.ls L hL) hy hy').2 (by omega)
        have h4 := (asc_lt h.asc hk (by rw [hj, hy'])).1 h3
        omega
    obtain ⟨j, hj⟩ := hd m.length h1
    have h2 := key m.length h1 j (by rw [hj, List.getElem?_eq_getElem h1])
    have h3 := (List.getElem?_eq_some_iff.1 hj).1
    omega
  · exact h1
end
end Go.Proofs.YtloflmcgbbbnjaaDoor.Plain
namespace Go.Proofs.YtloflmcgbbbnjaaDoor.Plain

/-- One more. -/
def up (c : UInt8) : UInt8 := UInt8.ofNat (c.toNat + 1)
theorem up_toNat {c : UInt8} (h : c.toNat < 255) : (up c).toNat = c.toNat + 1 := by
  have : c.toNat + 1 < 256 := by omega
  simp [up, Nat.mod_eq_of_lt this]

/-- The end of a prefix's range. -/
def lim : List UInt8 → Option (List UInt8)
  | [] => none
  | x :: p => match lim p with
    | some l => some (x :: l)
    | none => if x.toNat < 255 then some [up x] else none
theorem lim_snoc (l : List UInt8) (c : UInt8) : lim (l ++ [c]) = if c.toNat < 255 then some (l ++ [up c]) else lim l := by
  induction l with
  | nil => simp [lim]
  | cons x l ih =>
    simp only [List.cons_append, lim, ih]
    by_cases hc : c.toNat < 255
    · simp [hc]
    · simp [hc]

/-- The range of a prefix has just the keys that begin with it. -/
theorem prefix_law (p key : List UInt8) :
    (0 ≤ cmpI key p ∧ (lim p = none ∨ ∃ l, lim p = some l ∧ cmpI key l < 0)) ↔ (p.length ≤ key.length ∧ key.take p.length = p) := by
  induction p generalizing key with
  | nil => cases key <;> simp [lim]; omega
  | cons x p ih =>
    cases key with
    | nil => simp; omega
    | cons y k =>
      rw [cmpI_cons]
      by_cases e : y = x
      · subst e
        rw [if_pos rfl]
        have ih' := ih k
        simp only [List.length_cons, List.take_succ_cons, List.cons.injEq, true_and, Nat.add_le_add_iff_right]
        rw [← ih']
        cases hl : lim p with
        | some l => simp [lim, hl, cmpI_cons]
        | none =>
          simp only [lim, hl]
          by_cases hx : y.toNat < 255
          · rw [if_pos hx]
            have hu := up_toNat hx
            have hne : y ≠ up y := fun e => by rw [← e] at hu; omega
            simp [cmpI_cons, hne]
            omega
          · rw [if_neg hx]; simp
      · have hne := u8_ne e
        simp only [e, if_false, List.length_cons, List.take_succ_cons, List.cons.injEq, false_and, and_false, iff_false, not_and, not_or, not_exists]
        intro h0
        cases hl : lim p with
        | some l => simp [lim, hl, cmpI_cons, e]; omega
        | none =>
          simp only [lim, hl]
          have hy := u8_lt y
          by_cases hx : x.toNat < 255
          · rw [if_pos hx]
            have hu := up_toNat hx
            simp only [reduceCtorEq, not_false_eq_true, Option.some.injEq, true_and]
            rintro l rfl
            rw [cmpI_cons]
            split
            · cases k <;> simp
              omega
            · omega
          · exfalso; omega

theorem lim_length {p l : List UInt8} (h : lim p = some l) : l.length ≤ p.length := by
  induction p generalizing l with
  | nil => cases h
  | cons x p ih =>
    simp only [lim] at h
    cases hp : lim p with
    | some l' => rw [hp] at h; cases h; have := ih hp; simp; omega
    | none =>
      rw [hp] at h
      simp only at h
      split at h
      · cases h; simp
      · cases h
/-- The ways on which a prefix's law is walked. -/
theorem prefix_ways (p K : List UInt8) :
    (decide ((p.length : Int) ≤ (K.length : Int)) = true ∧ (K.take p.length == p) = true ∧ decide (0 ≤ cmpI K p) = true ∧ lim p = none) ∨
    (∃ l, decide ((p.length : Int) ≤ (K.length : Int)) = true ∧ (K.take p.length == p) = true ∧ decide (0 ≤ cmpI K p) = true ∧ lim p = some l ∧ decide (cmpI K l < 0) = true) ∨
    (decide ((p.length : Int) ≤ (K.length : Int)) = false ∧ decide (0 ≤ cmpI K p) = false) ∨
    (∃ l, decide ((p.length : Int) ≤ (K.length : Int)) = false ∧ decide (0 ≤ cmpI K p) = true ∧ lim p = some l ∧ decide (cmpI K l < 0) = false) ∨
    (decide ((p.length : Int) ≤ (K.length : Int)) = true ∧ (K.take p.length == p) = false ∧ decide (0 ≤ cmpI K p) = false) ∨
    (∃ l, decide ((p.length : Int) ≤ (K.length : Int)) = true ∧ (K.take p.length == p) = false ∧ decide (0 ≤ cmpI K p) = true ∧ lim p = some l ∧ decide (cmpI K l < 0) = false) := by
  have h := prefix_law p K
  simp only [decide_eq_true_eq, decide_eq_false_iff_not, beq_iff_eq, beq_eq_false_iff_ne, ne_eq]
  by_cases h1 : p.length ≤ K.length
  · have h1' : (p.length : Int) ≤ (K.length : Int) := by omega
    by_cases h2 : K.take p.length = p
    · obtain ⟨h3, h4⟩ := h.2 ⟨h1, h2⟩
      rcases h4 with h4 | ⟨l, h4, h5⟩
      · exact .inl ⟨h1', h2, h3, h4⟩
      · exact .inr (.inl ⟨l, h1', h2, h3, h4, h5⟩)
    · have h3 : ¬ (0 ≤ cmpI K p ∧ (lim p = none ∨ ∃ l, lim p = some l ∧ cmpI K l < 0)) := fun hh => h2 (h.1 hh).2
      by_cases h4 : 0 ≤ cmpI K p
      · cases hl : lim p with
        | none => exact absurd ⟨h4, .inl hl⟩ h3
        | some l => exact .inr (.inr (.inr (.inr (.inr ⟨l, h1', h2, h4, rfl, fun h5 => h3 ⟨h4, .inr ⟨l, hl, h5⟩⟩⟩))))
      · exact .inr (.inr (.inr (.inr (.inl ⟨h1', h2, h4⟩))))
  · have h1' : ¬ (p.length : Int) ≤ (K.length : Int) := by omega
    have h3 : ¬ (0 ≤ cmpI K p ∧ (lim p = none ∨ ∃ l, lim p = some l ∧ cmpI K l < 0)) := fun hh => h1 (h.1 hh).1
    by_cases h4 : 0 ≤ cmpI K p
    · cases hl : lim p with
      | none => exact absurd ⟨h4, .inl hl⟩ h3
      | some l => exact .inr (.inr (.inr (.inl ⟨l, h1', h4, rfl, fun h5 => h3 ⟨h4, .inr ⟨l, hl, h5⟩⟩⟩)))
    · exact .inr (.inr (.inl ⟨h1', h4⟩))

theorem at_append_left {a b : List UInt8} {i : Nat} (h : i < a.length) : at_ (a ++ b) i = at_ a i := by simp [at_, List.getElem?_append_left h]

/-- What is above the first at the place where its copy ends. -/
theorem bumped_ge (a : List UInt8) (n : Nat) (hn : n < a.length) (h : (at_ a n).toNat < 255) : 0 ≤ cmpI (a.take n ++ [up (at_ a n)]) a := by
  have hl : (a.take n).length = n := by rw [List.length_take]; omega
  rw [cmpI_drop (a := a.take n ++ [up (at_ a n)]) (n := n) (by simp; omega) (by omega) (fun i hi => by rw [at_append_left (by omega)]; simp [at_, hi])]
  rw [List.drop_append, hl, drop_at hn]
  have hu := up_toNat h
  simp only [Nat.sub_self, List.drop_zero, List.drop_of_length_le (Nat.le_of_eq hl), List.nil_append]
  rw [cmpI_cons]
  split
  · cases a.drop (n + 1) with
    | nil => simp
    | cons y l => rename_i e; rw [e] at hu; omega
  · omega
theorem bumped_lt (a b : List UInt8) (n : Nat) (hn : n = shared a b) (ha : n < a.length) (hb : n < b.length) (h : (at_ a n).toNat + 1 < (at_ b n).toNat) :
    cmpI (a.take n ++ [up (at_ a n)]) b < 0 := by
  have hl : (a.take n).length = n := by rw [List.length_take]; omega
  have hb8 := u8_lt (at_ b n)
  rw [cmpI_drop (a := a.take n ++ [up (at_ a n)]) (n := n) (by simp; omega) (by omega) (fun i hi => by
    rw [at_append_left (by omega)]
    have : at_ (a.take n) i = at_ a i := by simp [at_, hi]
    rw [this]; exact shared_at (by omega))]
  rw [List.drop_append, hl, drop_at hb]
  have hu := up_toNat (c := at_ a n) (by omega)
  simp only [Nat.sub_self, List.drop_zero, List.drop_of_length_le (Nat.le_of_eq hl), List.nil_append]
  rw [cmpI_cons]
  split
  · rename_i e; rw [e] at hu; omega
  · omega
theorem bumped_length (a : List UInt8) (n : Nat) (hn : n < a.length) (c : UInt8) : (a.take n ++ [c]).length = n + 1 := by simp; omega

/-- The separator of the default comparer. -/
def sep (a b : List UInt8) : Option (List UInt8) :=
  let n := shared a b
  if n < a.length ∧ n < b.length ∧ (at_ a n).toNat < 255 ∧ (at_ a n).toNat + 1 < (at_ b n).toNat then some (a.take n ++ [up (at_ a n)]) else none
theorem sep_law {a b x : List UInt8} (h : sep a b = some x) : 0 ≤ cmpI x a ∧ cmpI x b < 0 ∧ x.length ≤ a.length ∧ x.length = shared a b + 1 := by
  unfold sep at h
  simp only at h
  split at h
  · rename_i hc
    cases h
    obtain ⟨h1, h2, h3, h4⟩ := hc
    have := bumped_length a _ h1 (up (at_ a (shared a b)))
    exact ⟨bumped_ge a _ h1 h3, bumped_lt a b _ rfl h1 h2 h4, by omega, this⟩
  · cases h

/-- The first place from n on whose byte is not 255. -/
def fresh (b : List UInt8) : Nat → Option Nat
  | n => if h : n < b.length then if (at_ b n).toNat ≠ 255 then some n else fresh b (n + 1) else none
  termination_by n => b.length - n
/-- The successor of the default comparer, looked for from n on. -/
def succ (b : List UInt8) (n : Nat) : Option (List UInt8) := (fresh b n).map fun i => b.take i ++ [up (at_ b i)]
theorem fresh_lt {b : List UInt8} {n i : Nat} : fresh b n = some i → i < b.length ∧ (at_ b i).toNat < 255 := by
  fun_induction fresh b n with
  | case1 x m h1 h2 =>
    intro h
    simp only [Option.some.injEq] at h
    subst h
    have := u8_lt (at_ b m)
    exact ⟨h1, by omega⟩
  | case2 x m h1 h2 ih => exact ih
  | case3 x m h1 => intro h; cases h
theorem succ_law {b x : List UInt8} {n : Nat} (h : succ b n = some x) : 0 ≤ cmpI x b ∧ x.length ≤ b.length := by
  unfold succ at h
  cases hf : fresh b n with
  | none => rw [hf] at h; cases h
  | some i =>
    rw [hf] at h
    cases h
    obtain ⟨h1, h2⟩ := fresh_lt hf
    have := bumped_length b i h1 (up (at_ b i))
    exact ⟨bumped_ge b i h1 h2, by show (b.take i ++ [up (at_ b i)]).length ≤ _; omega⟩
theorem sep_none {a b : List UInt8} (h : sep a b = none) : ¬ (shared a b < a.length ∧ shared a b < b.length ∧ bz a (shared a b) < 255 ∧ bz a (shared a b) + 1 < bz b (shared a b)) := by
  intro hc
  unfold sep at h
  unfold bz at hc
  rw [if_pos ⟨hc.1, hc.2.1, by omega, by omega⟩] at h
  cases h
theorem sep_in {a b x : List UInt8} (h : sep a b = some x) : shared a b < a.length ∧ shared a b < b.length ∧ bz a (shared a b) < 255 ∧ bz a (shared a b) + 1 < bz b (shared a b) := by
  unfold sep at h
  simp only at h
  split at h
  · rename_i hc
    unfold bz
    exact ⟨hc.1, hc.2.1, by omega, by omega⟩
  · cases h
theorem succ_pos {b x : List UInt8} {n : Nat} (h : succ b n = some x) : 0 < x.length := by
  unfold succ at h
  cases hf : fresh b n with
  | none => rw [hf] at h; cases h
  | some i => rw [hf] at h; cases h; simp
end Go.Proofs.YtloflmcgbbbnjaaDoor.Plain
