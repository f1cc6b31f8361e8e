/-
  SLICES OF STRUCTS: a row of records lies in one block, S cells a record; what came in is read as such a row.
  PAIRS: a key and its value as a record; rows of them; their bounds, their weight; that they came in, read.
  impl.copied: a copy of bytes, a row of the call's own.
  spec.chooser: of.
  impl.copied; laws.below, laws.pairs, laws.tabled; spec.Ordered.
  table.ZZBlock, impl.Block: what they return.
-/
import Derived.Test.YtloflmcgbbbnjaaDoorTabM2
import Derived.Test.YtloflmcgbbbnjaaDoorTabM3
import Derived.Test.YtloflmcgbbbnjaaDoorTabM7
import Derived.Test.YtloflmcgbbbnjaaDoorTabM4
namespace Go.Proofs.YtloflmcgbbbnjaaDoor
open Go.RowKit Plain Go.ChangeShapes Go.WideShapes Go.ChangeAt

theorem choose_list {α : Type} (n : Nat) (p : Nat → α → Prop) (h : ∀ i, i < n → ∃ x, p i x) : ∃ l : List α, l.length = n ∧ ∀ i x, l[i]? = some x → p i x := by
  induction n with
  | zero => exact ⟨[], rfl, fun i x h => by simp at h⟩
  | succ n ih =>
    obtain ⟨l, hl, hp⟩ := ih fun i hi => h i (by omega)
    obtain ⟨x, hx⟩ := h n (by omega)
    refine ⟨l ++ [x], by simp [hl], fun i y hy => ?_⟩
    rcases Nat.lt_or_ge i l.length with hi | hi
    · rw [List.getElem?_append_left hi] at hy; exact hp i y hy
    · rw [List.getElem?_append_right hi] at hy
      have : i = n := by
        have := (List.getElem?_eq_some_iff.1 hy).1
        simp at this; omega
      subst this
      simp [hl] at hy
      exact hy ▸ hx

section
variable {α : Type} (f : α → List Value) (S : Nat)
theorem flat_length (hS : ∀ x, (f x).length = S) : ∀ l : List α, (l.flatMap f).length = l.length * S
  | [] => by simp
  | x :: l => by rw [List.flatMap_cons, List.length_append, hS, flat_length hS l, List.length_cons, Nat.add_mul, Nat.one_mul, Nat.add_comm]
theorem flat_get (hS : ∀ x, (f x).length = S) : ∀ (l : List α) (i : Nat) (x : α) (j : Nat), l[i]? = some x → j < S → (l.flatMap f)[i * S + j]? = (f x)[j]?
  | [], i, x, j, h, _ => by simp at h
  | y :: l, 0, x, j, h, hj => by
    simp at h
    subst h
    rw [List.flatMap_cons, Nat.zero_mul, Nat.zero_add, List.getElem?_append_left (by rw [hS]; exact hj)]
  | y :: l, i + 1, x, j, h, hj => by
    have h' : l[i]? = some x := by simpa using h
    rw [List.flatMap_cons, List.getElem?_append_right (by rw [hS, Nat.add_mul, Nat.one_mul]; omega), hS, show (i + 1) * S + j - S = i * S + j by rw [Nat.add_mul, Nat.one_mul]; omega]
    exact flat_get hS l i x j h' hj
/-- The cells of one record of a row. -/
theorem CsAt.at_row {w : World} {A : Option Addr} {l : List α} (hS : ∀ x, (f x).length = S) (h0 : 0 < S) (h : CsAt w A (l.flatMap f)) {i : Nat} {x : α} (hx : l[i]? = some x) :
    ∃ g o, A = some ⟨g, o, none⟩ ∧ ∀ j, j < S → w.cell? ⟨g, o + (i * S + j), none⟩ = (f x)[j]? := by
  have hi := (List.getElem?_eq_some_iff.1 hx).1
  have hlt : ∀ j, j < S → i * S + j < (l.flatMap f).length := fun j hj => by
    rw [flat_length f S hS]
    have : (i + 1) * S ≤ l.length * S := Nat.mul_le_mul_right S hi
    rw [Nat.add_mul, Nat.one_mul] at this; omega
  obtain ⟨g, o, e, _, hc⟩ := h.addr (by have := hlt 0 h0; omega)
  exact ⟨g, o, e, fun j hj => by rw [hc _ (hlt j hj), flat_get f S hS l i x j hx hj]⟩
end

section
variable {H : Type} {enc : TypeId × Value → H} {P : Program} {W : World} {base : Nat} {spare : Nat → Bool} {held : Bool}
theorem open_bytes_f {fuel : Nat} {t e : TypeId} {cs : List Value} {x : DataW H × List MemPlace} (ht : P.underlying t = some (.slice e)) (he : P.underlying e = some (.int .u8)) (hc : P.cellsOf e = 1)
    (h : DataW.trod enc P W base spare held fuel t cs = some x) : ∃ (A : Option Addr) (l : List UInt8) (c : Nat), cs = [.slice A l.length c] ∧ l.length ≤ c ∧ c ≤ maxLen ∧ BsAt W A l := by
  rcases DataW.trod_slice ht h with ⟨rfl, _⟩ | ⟨a, len, cap, _, _, _, _, rfl, _⟩
  · exact ⟨none, [], 0, rfl, Nat.le_refl _, Nat.zero_le _, BsAt.nil _ _⟩
  · have h' : DataW.Trod enc P W base spare held t (.slice (some a) len cap) x.1 x.2 := ⟨fuel, by simpa [Value.cells] using h⟩
    obtain ⟨l, rfl, hl, hm, hb⟩ := open_bytes ht he hc h'
    exact ⟨some a, l, cap, rfl, hl, hm, hb⟩

/-- A row of records that came in. -/
theorem open_rows {α : Type} (f : α → List Value) (ok : α → Prop) (S : Nat) {fuel : Nat} {t e : TypeId} {cs : List Value} {x : DataW H × List MemPlace} (ht : P.underlying t = some (.slice e)) (hc : P.cellsOf e = S) (hS : ∀ x, (f x).length = S) (h0 : 0 < S)
    (hop : ∀ (n : Nat) (c : List Value) (y : DataW H × List MemPlace), DataW.trod enc P W base spare held n e c = some y → ∃ x, c = f x ∧ ok x)
    (h : DataW.trod enc P W base spare held fuel t cs = some x) : ∃ (A : Option Addr) (l : List α) (c : Nat), cs = [.slice A l.length c] ∧ l.length ≤ c ∧ c ≤ maxLen ∧ CsAt W A (l.flatMap f) ∧ ∀ y ∈ l, ok y := by
  rcases DataW.trod_slice ht h with ⟨rfl, _⟩ | ⟨a, len, cap, elems, rest, n, _, rfl, _, _, hl, hm, hlen, hel, _⟩
  · exact ⟨none, [], 0, rfl, Nat.le_refl _, Nat.zero_le _, CsAt.nil _ _, fun y hy => by simp at hy⟩
  · obtain ⟨l, hll, hp⟩ := choose_list (α := α) len (fun i x => (∀ j, j < S → W.cell? ((a.add (i * S)).add j) = (f x)[j]?) ∧ ok x) fun i hi => by
      have h1 := hel i hi
      rw [List.getElem?_eq_getElem (by omega), Option.bind_eq_some_iff, hc] at h1
      obtain ⟨c, hcs, hy⟩ := h1
      obtain ⟨x, rfl, hx⟩ := hop n c _ hy
      obtain ⟨_, _, hcell⟩ := World.cells?_some hcs
      exact ⟨x, hcell, hx⟩
    subst hll
    refine ⟨some a, l, cap, rfl, hl, hm, fun k hk => ?_, fun y hy => ?_⟩
    · rw [flat_length f S hS] at hk
      have hi : k / S < l.length := (Nat.div_lt_iff_lt_mul h0).2 hk
      have hj : k % S < S := Nat.mod_lt _ h0
      obtain ⟨g, o, spot⟩ := a
      have hc0 := (hp (k / S) l[k / S] (List.getElem?_eq_getElem hi)).1 (k % S) hj
      have hsp : spot = none := by
        have hl0 : 0 < l.length := Nat.lt_of_le_of_lt (Nat.zero_le _) hi
        have hs0 : 0 < (f l[0]).length := by rw [hS]; exact h0
        have hs := (hp 0 l[0] (List.getElem?_eq_getElem hl0)).1 0 h0
        rw [List.getElem?_eq_getElem hs0, Nat.zero_mul] at hs
        have h0' := World.cell?_spot hs
        simpa [Addr.add] using h0'
      subst hsp
      rw [add_none, add_none] at hc0
      refine ⟨g, o, rfl, ?_⟩
      have hk' : k / S * S + k % S = k := by rw [Nat.mul_comm]; exact Nat.div_add_mod k S
      have hfl := flat_get f S hS l (k / S) l[k / S] (k % S) (List.getElem?_eq_getElem hi) hj
      rw [hk'] at hfl
      rw [hfl, ← hc0, show o + k / S * S + k % S = o + k by omega]
    · obtain ⟨i, hi, rfl⟩ := List.getElem_of_mem hy
      exact (hp i _ (List.getElem?_eq_getElem hi)).2
end
end Go.Proofs.YtloflmcgbbbnjaaDoor
namespace Go.Proofs.YtloflmcgbbbnjaaDoor
open Go.RowKit Plain Go.ChangeShapes Go.WideShapes Go.ChangeAt

structure Pr where
  ka : Option Addr
  kc : Nat
  k : List UInt8
  va : Option Addr
  vc : Nat
  v : List UInt8
def Pr.cells (r : Pr) : List Value := [.slice r.ka r.k.length r.kc, .slice r.va r.v.length r.vc]
theorem Pr.cells_length (r : Pr) : r.cells.length = 2 := rfl
structure Pr.Ok (w : World) (r : Pr) : Prop where
  hk : BsAt w r.ka r.k
  hv : BsAt w r.va r.v
  hkc : r.k.length ≤ r.kc
  hvc : r.v.length ≤ r.vc
  hkm : r.kc ≤ maxLen
  hvm : r.vc ≤ maxLen
theorem Pr.Ok.keep0 {w w' : World} {r : Pr} (h : Pr.Ok w r) (hb : Only [] w w') : Pr.Ok w' r := ⟨h.hk.keep0 hb, h.hv.keep0 hb, h.hkc, h.hvc, h.hkm, h.hvm⟩
/-- A row of such records. -/
structure Prs (w : World) (A : Option Addr) (l : List Pr) : Prop where
  row : CsAt w A (l.flatMap Pr.cells)
  ok : ∀ r ∈ l, r.Ok w
theorem Prs.keep0 {w w' : World} {A : Option Addr} {l : List Pr} (h : Prs w A l) (hb : Only [] w w') : Prs w' A l := ⟨h.row.keep0 hb, fun r hr => (h.ok r hr).keep0 hb⟩
theorem Prs.at_ {w : World} {A : Option Addr} {l : List Pr} (h : Prs w A l) {i : Nat} {r : Pr} (hr : l[i]? = some r) :
    ∃ g o, A = some ⟨g, o, none⟩ ∧ w.cell? ⟨g, o + i * 2, none⟩ = some (.slice r.ka r.k.length r.kc) ∧ w.cell? ⟨g, o + i * 2 + 1, none⟩ = some (.slice r.va r.v.length r.vc) := by
  obtain ⟨g, o, e, hc⟩ := CsAt.at_row Pr.cells 2 Pr.cells_length (by omega) h.row hr
  exact ⟨g, o, e, hc 0 (by omega), hc 1 (by omega)⟩
theorem pr_one {l : List Pr} : ∀ u ∈ l.flatMap Pr.cells, u.oneCell' = true := by
  intro u hu
  obtain ⟨r, _, hr⟩ := List.mem_flatMap.1 hu
  simp [Pr.cells] at hr
  rcases hr with rfl | rfl <;> rfl

set_option maxRecDepth 100000 in
theorem open_pr {H : Type} {enc : TypeId × Value → H} {W : World} {base : Nat} {spare : Nat → Bool} {held : Bool} {n : Nat} {c : List Value} {y : DataW H × List MemPlace}
    (h : DataW.trod enc Tryd.prog W base spare held n 36 c = some y) : ∃ r : Pr, c = r.cells ∧ r.Ok W := by
  obtain ⟨xs, k, _, _, hl, hlen, hf⟩ := DataW.trod_struct Tryd.underlying36 h
  rw [show Tryd.prog.cellsOf 36 = 2 by kernel_rfl] at hl
  match c, hl, xs, hlen with
  | [c1, c2], _, [y1, y2], _ =>
    have u1 := hf 0 _ rfl
    have u2 := hf 1 _ rfl
    rw [show Tryd.prog.cellsOf _ = 1 by kernel_rfl] at u1 u2
    simp at u1 u2
    obtain ⟨A, l, cc, e1, h1, h2, h3⟩ := open_bytes_f Tryd.underlying25 Tryd.underlying5 (by kernel_rfl) u1
    obtain ⟨B, m, cd, e2, h4, h5, h6⟩ := open_bytes_f Tryd.underlying25 Tryd.underlying5 (by kernel_rfl) u2
    simp at e1 e2
    subst e1; subst e2
    exact ⟨⟨A, cc, l, B, cd, m⟩, rfl, ⟨h3, h6, h1, h4, h2, h5⟩⟩
theorem open_prs {H : Type} {enc : TypeId × Value → H} {W : World} {base : Nat} {spare : Nat → Bool} {held : Bool} {a : Option Addr} {len cap : Nat} {d : DataW H} {ps : List MemPlace}
    (h : DataW.Trod enc Tryd.prog W base spare held 22 (.slice a len cap) d ps) : ∃ l : List Pr, len = l.length ∧ l.length ≤ cap ∧ cap ≤ maxLen ∧ Prs W a l := by
  obtain ⟨fuel, hf⟩ := h
  obtain ⟨A, l, c, e, h1, h2, h3, h4⟩ := open_rows Pr.cells (fun r => r.Ok W) 2 Tryd.underlying22 (by kernel_rfl) Pr.cells_length (by omega) (fun n c y h => open_pr h) hf
  simp [Value.cells] at e
  obtain ⟨rfl, rfl, rfl⟩ := e
  exact ⟨l, rfl, h1, h2, ⟨h3, h4⟩⟩

/-! ### bounds, weight -/
def fits6 (l : List Pr) : Bool := l.all fun r => decide (r.k.length ≤ 2147483647) && decide (r.v.length ≤ 2147483647)

set_option maxHeartbeats 800000 in
theorem fits7_any (r : Pr) (w : World) :
    Calls Tryd.prog 34 #[.agg #[.slice r.ka r.k.length r.kc, .slice r.va r.v.length r.vc]] w
      fun e w' => e = .returned (.bool (decide (r.k.length ≤ 2147483647) && decide (r.v.length ≤ 2147483647))) ∧ Only [] w w' := by
  obtain ⟨ka, kc, k, va, vc, v⟩ := r
  simp only
  go_enter Tryd.func34, Tryd.ntmps34
  by_cases h1 : k.length ≤ 2147483647
  · have d1 : decide (2147483647 < (k.length : Int)) = false := decide_eq_false (by omega)
    have d1' : decide (2147483647 < k.length) = false := decide_eq_false (by omega)
    by_cases h2 : v.length ≤ 2147483647
    · have d2 : decide (2147483647 < (v.length : Int)) = false := decide_eq_false (by omega)
      have d2' : decide (2147483647 < v.length) = false := decide_eq_false (by omega)
      have HR := hid (show (true : Bool) = (decide (k.length ≤ 2147483647) && decide (v.length ≤ 2147483647)) by simp [h1, h2])
      clear h1 h2
      go_wp2
      go_ret
      exact ⟨ret_bool HR.out, (Only.refl _ _).alloc _⟩
    · have d2 : decide (2147483647 < (v.length : Int)) = true := decide_eq_true (by omega)
      have d2' : decide (2147483647 < v.length) = true := decide_eq_true (by omega)
      have HR := hid (show (false : Bool) = (decide (k.length ≤ 2147483647) && decide (v.length ≤ 2147483647)) by simp [h2])
      clear h1 h2
      go_wp2
      go_ret
      exact ⟨ret_bool HR.out, (Only.refl _ _).alloc _⟩
  · have d1 : decide (2147483647 < (k.length : Int)) = true := decide_eq_true (by omega)
    have d1' : decide (2147483647 < k.length) = true := decide_eq_true (by omega)
    have HR := hid (show (false : Bool) = (decide (k.length ≤ 2147483647) && decide (v.length ≤ 2147483647)) by simp [h1])
    clear h1
    go_wp2
    go_ret
    exact ⟨ret_bool HR.out, (Only.refl _ _).alloc _⟩

set_option maxHeartbeats 800000 in
theorem fits6_in (A : Option Addr) (c : Nat) (l : List Pr) (w : World) (h : Prs w A l) (hl : l.length ≤ 2147483647) :
    Calls Tryd.prog 10 #[.slice A l.length c] w fun e w' => e = .returned (.bool (fits6 l)) ∧ Only [] w w' := by
  have d0 : decide (2147483647 < (l.length : Int)) = false := decide_eq_false (by omega)
  have d0' : decide (2147483647 < l.length) = false := decide_eq_false (by omega)
  go_enter Tryd.func10, Tryd.ntmps10
  go_wp2
  go_loopw [10] (fun i wr => ∃ k : Nat, i = .int .i64 k ∧ k ≤ l.length ∧ fits6 l = fits6 (l.drop k) ∧ Only [] w wr) (fun i _ => l.length - (intOf i).toNat)
  case atStart => exact ⟨0, rfl, Nat.zero_le _, rfl, Only.refl _ _⟩
  case round =>
    obtain ⟨k, rfl, hk, hx, ho⟩ := hrel
    have HX := hid hx
    clear hx
    by_cases h4 : k < l.length
    · have h4' : (k : Int) < (l.length : Int) := by omega
      have hr : l[k]? = some l[k] := List.getElem?_eq_getElem h4
      have hd : fits6 (l.drop k) = ((decide (l[k].k.length ≤ 2147483647) && decide (l[k].v.length ≤ 2147483647)) && fits6 (l.drop (k + 1))) := by
        rw [← List.getElem_cons_drop h4]; simp only [fits6, List.all_cons]
      have HD := hid hd
      clear hd
      generalize l[k] = r at hr HD
      obtain ⟨g, o, rfl, c1, c2⟩ := (h.keep0 ho).at_ hr
      cases hb : (decide (r.k.length ≤ 2147483647) && decide (r.v.length ≤ 2147483647)) with
      | true =>
        have HB := hid hb
        clear hb
        go_wp2_with (go_at_call 34; refine (fits7_any r _).mono ?_; rintro e w4 ⟨rfl, ho4⟩; rw [HB.out])
        exact ⟨⟨k + 1, rfl, h4, by rw [HX.out, HD.out, HB.out, Bool.true_and], ((ho.alloc _).new ho4)⟩, by simp [intOf]; omega⟩
      | false =>
        have HB := hid hb
        clear hb
        go_wp2_with (go_at_call 34; refine (fits7_any r _).mono ?_; rintro e w4 ⟨rfl, ho4⟩; rw [HB.out])
        go_ret
        exact ⟨ret_bool (by rw [HX.out, HD.out, HB.out, Bool.false_and]), ((ho.alloc _).new ho4)⟩
    · have h4' : ¬ (k : Int) < (l.length : Int) := by omega
      have HR := hid (show (true : Bool) = fits6 l by rw [HX.out, List.drop_eq_nil_of_le (by omega)]; rfl)
      clear HX
      go_wp2
      go_ret
      exact ⟨ret_bool HR.out, ho⟩
def okP (l : List Pr) : Bool := decide (l.length ≤ 2147483647) && fits6 l
set_option maxHeartbeats 800000 in
theorem fits6_any (A : Option Addr) (c : Nat) (l : List Pr) (w : World) (h : Prs w A l) :
    Calls Tryd.prog 10 #[.slice A l.length c] w fun e w' => e = .returned (.bool (okP l)) ∧ Only [] w w' := by
  unfold okP
  by_cases hl : l.length ≤ 2147483647
  · simpa [hl] using fits6_in A c l w h hl
  · have d0 : decide (2147483647 < (l.length : Int)) = true := decide_eq_true (by omega)
    have d0' : decide (2147483647 < l.length) = true := decide_eq_true (by omega)
    have HR := hid (show (false : Bool) = (decide (l.length ≤ 2147483647) && fits6 l) by simp [hl])
    clear hl
    go_enter Tryd.func10, Tryd.ntmps10
    go_wp2
    go_ret
    exact ⟨ret_bool HR.out, Only.refl _ _⟩

def wgt (l : List Pr) : Nat := (l.map fun r => r.k.length + r.v.length + 1).sum
theorem wgt_bound {M : Nat} : ∀ {l : List Pr}, (∀ r ∈ l, r.k.length ≤ M ∧ r.v.length ≤ M) → wgt l ≤ l.length * (2 * M + 1)
  | [], _ => by simp [wgt]
  | r :: l, h => by
    have h1 := h r (by simp)
    have h2 := wgt_bound (l := l) fun r hr => h r (by simp [hr])
    simp only [wgt, List.map_cons, List.sum_cons, List.length_cons, Nat.add_mul, Nat.one_mul] at h2 ⊢
    omega
theorem fits6_mem {l : List Pr} (h : fits6 l = true) : ∀ r ∈ l, r.k.length ≤ 2147483647 ∧ r.v.length ≤ 2147483647 := by
  simpa [fits6] using h
theorem okP_len {l : List Pr} (h : okP l = true) : l.length ≤ 2147483647 ∧ wgt l ≤ 9223372036854775807 ∧ ∀ r ∈ l, r.k.length ≤ 2147483647 ∧ r.v.length ≤ 2147483647 := by
  simp only [okP, Bool.and_eq_true, decide_eq_true_eq] at h
  have := wgt_bound (fits6_mem h.2)
  refine ⟨h.1, Nat.le_trans this ?_, fits6_mem h.2⟩
  have : l.length * (2 * 2147483647 + 1) ≤ 2147483647 * (2 * 2147483647 + 1) := Nat.mul_le_mul_right _ h.1
  omega
theorem wgt_drop {l : List Pr} {k : Nat} (h : k < l.length) : wgt (l.drop k) = (l[k].k.length + l[k].v.length + 1) + wgt (l.drop (k + 1)) := by
  rw [← List.getElem_cons_drop h]; simp only [wgt, List.map_cons, List.sum_cons]
theorem wgt_len (l : List Pr) : l.length ≤ wgt l := by
  induction l with
  | nil => simp
  | cons r l ih => simp only [wgt, List.map_cons, List.sum_cons, List.length_cons] at ih ⊢; omega
theorem wgt_mem {l : List Pr} {r : Pr} (h : r ∈ l) : r.k.length + r.v.length + 1 ≤ wgt l := by
  induction l with
  | nil => cases h
  | cons x l ih =>
    simp only [wgt, List.map_cons, List.sum_cons] at ih ⊢
    rcases List.mem_cons.1 h with rfl | h
    · omega
    · have := ih h; omega
theorem i64_id63 {x : Int} (h0 : -9223372036854775808 ≤ x) (h1 : x ≤ 9223372036854775807) : IntKind.i64.wrap x = x := by
  simp [IntKind.wrap, IntKind.bits, IntKind.signed]; omega
set_option maxHeartbeats 800000 in
theorem few_any (A : Option Addr) (c : Nat) (l : List Pr) (w : World) (h : Prs w A l) (hb : wgt l ≤ 9223372036854775807) (hl : l.length ≤ 2147483647) :
    Calls Tryd.prog 16 #[.slice A l.length c] w fun e w' => e = .returned (.bool (decide (wgt l ≤ 1048576))) ∧ Only [] w w' := by
  go_enter Tryd.func16, Tryd.ntmps16
  go_wp2
  go_loopw [8, 3] (fun i s wr => ∃ k n : Nat, i = .int .i64 k ∧ s = .int .i64 n ∧ k ≤ l.length ∧ wgt l = n + wgt (l.drop k) ∧ Only [] w wr) (fun i _ _ => l.length - (intOf i).toNat)
  case atStart => exact ⟨0, 0, rfl, rfl, Nat.zero_le _, by simp, Only.refl _ _⟩
  case round =>
    obtain ⟨k, n, rfl, rfl, hk, hx, ho⟩ := hrel
    by_cases h4 : k < l.length
    · have h4' : (k : Int) < (l.length : Int) := by omega
      have hr : l[k]? = some l[k] := List.getElem?_eq_getElem h4
      have hd := wgt_drop h4
      generalize l[k] = r at hr hd
      obtain ⟨g, o, rfl, c1, c2⟩ := (h.keep0 ho).at_ hr
      have e1 : IntKind.i64.wrap ((r.k.length : Int) + (r.v.length : Int)) = (r.k.length : Int) + (r.v.length : Int) := i64_id63 (by omega) (by omega)
      have e2 : IntKind.i64.wrap ((r.k.length : Int) + (r.v.length : Int) + 1) = (r.k.length : Int) + (r.v.length : Int) + 1 := i64_id63 (by omega) (by omega)
      have e3 : IntKind.i64.wrap ((n : Int) + ((r.k.length : Int) + (r.v.length : Int) + 1)) = (n : Int) + ((r.k.length : Int) + (r.v.length : Int) + 1) := i64_id63 (by omega) (by omega)
      have HD := hid (show wgt l = (n + (r.k.length + r.v.length + 1)) + wgt (l.drop (k + 1)) by omega)
      clear hd hx hb
      go_wp2
      exact ⟨⟨k + 1, n + (r.k.length + r.v.length + 1), rfl, by simp, h4, HD.out, ho.alloc _⟩, by simp [intOf]; omega⟩
    · have h4' : ¬ (k : Int) < (l.length : Int) := by omega
      have HR := hid (show decide ((n : Int) ≤ 1048576) = decide (wgt l ≤ 1048576) by rw [hx, List.drop_eq_nil_of_le (by omega)]; simp [wgt]; omega)
      clear hx hb
      go_wp2
      go_ret
      exact ⟨ret_bool HR.out, ho⟩
end Go.Proofs.YtloflmcgbbbnjaaDoor
namespace Go.Proofs.YtloflmcgbbbnjaaDoor
open Go.RowKit Plain
set_option linter.all false

set_option maxHeartbeats 800000 in
theorem copied_own (A : Option Addr) (n c : Nat) (l : List UInt8) (R : List Fr) (w0 w : World) (h : BsAt w A l) (hO : Own R w0 w) (hn : n = l.length) (hl : l.length ≤ 140737488355328) :
    Calls Tryd.prog 35 #[.slice A n c] w (RetH R w0 l) := by
  subst hn
  go_enter Tryd.func35, Tryd.ntmps35
  go_wp2_with (at_builtin; refine own_append rfl (.tmp 3) (.tmp 4) 25 rfl 5 (.int .u8 0) 1 1 Tryd.underlying25 Tryd.info_u8 rfl (by decide) (some ⟨w.heap.size, 0, none⟩) 0 0 [] [fw w.heap.size 5 []] rfl ⟨by simp, .inr ⟨_, [], rfl, rfl, by omega, by simp [maxLen], by simp, by simp⟩⟩ (R := R) (hO.alloc 5 []) A l.length c (bc l) rfl (by simp [bc_length]) (h.alloc _).cs (bc_one l) (by simp [maxLen]; omega) (by omega) ?_; intro A2 c2 F2 w2 hr2 hO2 _)
  go_ret
  rw [Nat.zero_add] at hr2
  exact ⟨A2, c2, F2, _, hid rfl, by simp, hid (by simpa using hr2), hid hO2⟩

end Go.Proofs.YtloflmcgbbbnjaaDoor
namespace Go.Proofs.YtloflmcgbbbnjaaDoor
open Go.RowKit Plain

def ci64 (l : List Int) : List Value := l.map fun x => .int .i64 x
theorem ci64_length (l : List Int) : (ci64 l).length = l.length := by simp [ci64]
theorem emod_tmod (v n : Int) (hn : 0 < n) : v % n = if v.tmod n < 0 then v.tmod n + n else v.tmod n := by
  have h1 := Int.emod_nonneg v (show n ≠ 0 by omega)
  have h2 := Int.emod_lt_of_pos v hn
  have h3 := Int.emod_add_mul_ediv v n
  have h4 := Int.tmod_add_mul_tdiv v n
  rcases (show v < 0 ∨ 0 ≤ v by omega) with hv | hv
  · have h5 : v.tmod n = -((-v) % n) := by
      rw [← Int.tmod_eq_emod_of_nonneg (show 0 ≤ -v by omega), Int.neg_tmod, Int.neg_neg]
    have h6 := Int.emod_nonneg (-v) (show n ≠ 0 by omega)
    have h7 := Int.emod_lt_of_pos (-v) hn
    have h8 : (v + (-v) % n) % n = 0 := by
      rw [Int.add_emod, Int.emod_emod_of_dvd _ (Int.dvd_refl n), ← Int.add_emod]
      simp [Int.add_right_neg]
    split
    · rename_i hlt
      rw [h5] at hlt ⊢
      have h9 : v % n + (-v) % n = n := by
        have h10 : (v % n + (-v) % n) % n = 0 := by rw [← Int.add_emod]; simp [Int.add_right_neg]
        obtain ⟨q, hq⟩ := Int.dvd_of_emod_eq_zero h10
        have hq1 : q = 1 := by
          have hq0 : 0 < q := by
            rcases (show 0 < q ∨ q ≤ 0 by omega) with h | h
            · exact h
            · have := Int.mul_nonpos_of_nonneg_of_nonpos (show 0 ≤ n by omega) h; omega
          have hq2 : q < 2 := by
            rcases (show q < 2 ∨ 2 ≤ q by omega) with h | h
            · exact h
            · have := Int.mul_le_mul_of_nonneg_left h (show 0 ≤ n by omega); omega
          omega
        rw [hq, hq1]; omega
      omega
    · rename_i hlt
      rw [h5] at hlt ⊢
      have h9 : (-v) % n = 0 := by omega
      have h10 : v % n = 0 := by
        have := Int.dvd_of_emod_eq_zero h9
        exact Int.emod_eq_zero_of_dvd (by simpa using this)
      omega
  · rw [Int.tmod_eq_emod_of_nonneg hv, if_neg (by omega)]
theorem tmod_range (v n : Int) (hn : 0 < n) : -n ≤ v.tmod n ∧ v.tmod n < n := by
  have h := emod_tmod v n hn
  have h1 := Int.emod_nonneg v (show n ≠ 0 by omega)
  have h2 := Int.emod_lt_of_pos v hn
  split at h <;> omega

set_option maxHeartbeats 1600000 in
theorem of_any (b n a nc : Nat) (nA : Option Addr) (ns : List Int) (R : List Fr) (w0 w : World) (hO : Own (fw b 79 [.slice nA ns.length nc, .int .i64 a] :: R) w0 w) (hns : St R w0 fun w => CsAt w nA (ci64 ns))
    (hn : n ≤ 4611686018427387904) (ha : a ≤ 4611686018427387903) (hl : ns.length ≤ 140737488355328) :
    Calls Tryd.prog 39 #[.pointer (some ⟨b, 0, none⟩), .int .i64 n] w fun e w' => e = .returned (.int .i64 ((pick ns n a).1 : Int)) ∧ Own (fw b 79 [.slice nA ns.length nc, .int .i64 ((pick ns n a).2 : Int)] :: R) w0 w' := by
  have c0 : w.cell? ⟨b, 0, none⟩ = some (.slice nA ns.length nc) := hO.cell 0 rfl 0 rfl (by simp)
  have c1 : w.cell? ⟨b, 1, none⟩ = some (.int .i64 a) := hO.cell 0 rfl 1 rfl (by simp)
  have f0 : ∀ k, w.frozen? ⟨b, k, none⟩ = false := fun k => hO.frozen 0 rfl k
  have HO := hid hO
  clear hO
  by_cases h1 : ns.length = 0
  · have e1 : ((ns.length : Int) == 0) = true := by rw [h1]; rfl
    obtain rfl : ns = [] := List.eq_nil_of_length_eq_zero h1
    have HP := hid (pick_nil n a)
    clear h1
    go_enter Tryd.func39, Tryd.ntmps39
    go_wp2
    go_ret
    exact ⟨by rw [HP.out]; rfl, by rw [HP.out]; exact HO.out⟩
  · have e1 : ((ns.length : Int) == 0) = false := by simpa using h1
    by_cases h2 : n < 2
    · have e2 : decide ((n : Int) < 2) = true := decide_eq_true (by omega)
      have HP := hid (show pick ns n a = (0, a) by simp [pick, h2])
      clear h1
      go_enter Tryd.func39, Tryd.ntmps39
      go_wp2
      go_ret
      exact ⟨by rw [HP.out]; rfl, by rw [HP.out]; exact HO.out⟩
    · have e2 : decide ((n : Int) < 2) = false := decide_eq_false (by omega)
      have hlt : a % ns.length < ns.length := Nat.mod_lt _ (by omega)
      obtain ⟨i, hi⟩ : ∃ i, a % ns.length = i := ⟨_, rfl⟩
      rw [hi] at hlt
      have hcs := HO.out.st hns (by intro x hx; simp [hx])
      obtain ⟨g, o, rfl, hc⟩ := hcs i (by rw [ci64_length]; exact hlt)
      have hv : (ci64 ns)[i]? = some (.int .i64 (ns.getD i 0)) := by simp [ci64, List.getD_eq_getElem?_getD, List.getElem?_eq_getElem hlt]
      rw [hv] at hc
      have hp : pick ns n a = ((ns.getD i 0 % (n : Int)).toNat, a + 1) := by
        have : ¬ (ns = [] ∨ n < 2) := by
          rintro (h | h)
          · exact h1 (by simp [h])
          · omega
        simp only [pick, if_neg this, hi]
      have ht : ((a : Nat) : Int).tmod ((ns.length : Nat) : Int) = (i : Int) := by rw [Int.tmod_eq_emod_of_nonneg (by omega)]; omega
      have hem := emod_tmod (ns.getD i 0) n (by omega)
      have htr := tmod_range (ns.getD i 0) n (by omega)
      generalize ns.getD i 0 = v at hc hp hem htr
      obtain ⟨r, hr⟩ : ∃ r, v.tmod (n : Int) = r := ⟨_, rfl⟩
      rw [hr] at hem htr
      have hi2 : (i : Int) < (ns.length : Int) := by omega
      have w1 : IntKind.i64.wrap (i : Int) = i := i64_id (by omega) (by omega)
      have w2 : IntKind.i64.wrap r = r := i64_id (by omega) (by omega)
      have w3 : IntKind.i64.wrap ((a : Int) + 1) = (a : Int) + 1 := by simp [IntKind.wrap, IntKind.bits, IntKind.signed]; omega
      have w4 : ¬ (ns.length : Int) = 0 := by omega
      have w5 : ¬ (n : Int) = 0 := by omega
      have HP := hid hp
      have HE := hid hem
      clear hv hcs h1 hp hem hi
      have hfin : ∀ w', Own (fw b 79 [.slice (some ⟨g, o, none⟩) ns.length nc, .int .i64 (((a + 1 : Nat)) : Int)] :: R) w0 w' → Own (fw b 79 [.slice (some ⟨g, o, none⟩) ns.length nc, .int .i64 ((pick ns n a).2 : Int)] :: R) w0 w' := fun w' h => by rw [HP.out]; exact h
      have HF := hid hfin
      clear hfin
      by_cases h3 : r < 0
      · have e3 : decide (r < 0) = true := decide_eq_true h3
        have w6 : IntKind.i64.wrap (r + (n : Int)) = r + (n : Int) := i64_id (by omega) (by omega)
        go_enter Tryd.func39, Tryd.ntmps39
        go_wp2
        go_quiet (fail)
        go_wp2
        go_ret
        refine ⟨ret_int ?_, HF.out _ ?_⟩
        · rw [HP.out, HE.out, if_pos h3]; simp only; omega
        · exact (HO.out.drewN nq).set 1 rfl (by simp) _
      · have e3 : decide (r < 0) = false := decide_eq_false h3
        go_enter Tryd.func39, Tryd.ntmps39
        go_wp2
        go_quiet (fail)
        go_wp2
        go_ret
        refine ⟨ret_int ?_, HF.out _ ?_⟩
        · rw [HP.out, HE.out, if_neg (by omega)]; simp only; omega
        · exact (HO.out.drewN nq).set 1 rfl (by simp) _
theorem of_n (b n a nc : Nat) (x y : Int) (nA : Option Addr) (ns : List Int) (R : List Fr) (w0 w : World) (hx : x = (n : Int)) (hy : y = (a : Int)) (hO : Own (fw b 79 [.slice nA ns.length nc, .int .i64 y] :: R) w0 w) (hns : St R w0 fun w => CsAt w nA (ci64 ns))
    (hn : n ≤ 4611686018427387904) (ha : a ≤ 4611686018427387903) (hl : ns.length ≤ 140737488355328) :
    Calls Tryd.prog 39 #[.pointer (some ⟨b, 0, none⟩), .int .i64 x] w fun e w' => e = .returned (.int .i64 ((pick ns n a).1 : Int)) ∧ Own (fw b 79 [.slice nA ns.length nc, .int .i64 ((pick ns n a).2 : Int)] :: R) w0 w' := by
  subst hx; subst hy; exact of_any b n a nc nA ns R w0 w hO hns hn ha hl
end Go.Proofs.YtloflmcgbbbnjaaDoor
namespace Go.Proofs.YtloflmcgbbbnjaaDoor
open Go.RowKit Plain
set_option linter.all false

theorem Tryd.info_pair : (Tryd.prog.info? 38).map (fun i => (i.zero, i.size, i.bytes)) = some (some (.agg #[.slice none 0 0, .slice none 0 0]), 2, 48) := by kernel_rfl
theorem csAt_new (w : World) (cs : List Value) (t : TypeId) : CsAt (w.alloc (.cells cs.toArray t)) (some ⟨w.heap.size, 0, none⟩) cs := by
  have := CsAt.of_blk (Blk.new w t cs) 0 cs.length
  simpa using this
theorem csAt_new' {w : World} {g : Nat} (hg : w.heap.size = g) (cs : List Value) (t : TypeId) : CsAt (w.alloc (.cells cs.toArray t)) (some ⟨g, 0, none⟩) cs := hg ▸ csAt_new w cs t

def kvs (l : List Pr) : List KV := l.map fun r => (r.k, r.v)
theorem kvs_length (l : List Pr) : (kvs l).length = l.length := by simp [kvs]
theorem key_kvs {l : List Pr} {j : Nat} {r : Pr} (h : l[j]? = some r) : key (kvs l) j = r.k := by simp [key, kvs, List.getD_eq_getElem?_getD, h]
theorem val_kvs {l : List Pr} {j : Nat} {r : Pr} (h : l[j]? = some r) : val (kvs l) j = r.v := by simp [val, kvs, List.getD_eq_getElem?_getD, h]
theorem kvw_kvs (l : List Pr) : kvw (kvs l) = wgt l := by simp [kvw, kvs, wgt, Function.comp_def]

set_option maxHeartbeats 800000 in
theorem below_any (x : Int) (n : Nat) (w : World) (hn : 0 < n) (hn2 : n ≤ 4611686018427387904) (hx : -9223372036854775808 ≤ x ∧ x ≤ 9223372036854775807) :
    Calls Tryd.prog 12 #[.int .i64 x, .int .i64 n] w fun e w' => e = .returned (.int .i64 (x % (n : Int))) ∧ w = w' := by
  have hem := emod_tmod x n (by omega)
  have htr := tmod_range x n (by omega)
  have w5 : ¬ (n : Int) = 0 := by omega
  obtain ⟨r, hr⟩ : ∃ r, x.tmod (n : Int) = r := ⟨_, rfl⟩
  rw [hr] at hem htr
  have w2 : IntKind.i64.wrap r = r := i64_id (by omega) (by omega)
  have HE := hid hem
  clear hem
  by_cases h3 : r < 0
  · have e3 : decide (r < 0) = true := decide_eq_true h3
    have w6 : IntKind.i64.wrap (r + (n : Int)) = r + (n : Int) := i64_id (by omega) (by omega)
    go_enter Tryd.func12, Tryd.ntmps12
    go_wp2
    go_ret
    exact ⟨ret_int (by rw [HE.out, if_pos h3]), rfl⟩
  · have e3 : decide (r < 0) = false := decide_eq_false h3
    go_enter Tryd.func12, Tryd.ntmps12
    go_wp2
    go_ret
    exact ⟨ret_int (by rw [HE.out, if_neg (by omega)]), rfl⟩

/-- A result that is a row of pairs. -/
def RetP (R : List Fr) (w0 : World) (l : List Pr) (e : Ending) (w' : World) : Prop :=
  ∃ A' c' F', e = .returned (.slice A' l.length c') ∧ Hid (Row 38 2 A' l.length c' (l.flatMap Pr.cells) F') ∧ Hid (Own (F' ++ R) w0 w')
set_option maxHeartbeats 1600000 in
theorem pairs_own (A : Option Addr) (c : Nat) (l : List Pr) (R : List Fr) (w0 w : World) (hp : St R w0 fun w => Prs w A l) (hO : Own R w0 w) (hl : l.length ≤ 1099511627776) :
    Calls Tryd.prog 15 #[.slice A l.length c] w (RetP R w0 l) := by
  go_enter Tryd.func15, Tryd.ntmps15
  go_wp2
  go_loopw [3, 8] (fun v i wr => ∃ (k n : Nat) (A' : Option Addr) (c' : Nat) (F' : List Fr), i = .int .i64 k ∧ k ≤ l.length ∧ v = .slice A' n c' ∧ n = k ∧ Row 38 2 A' n c' ((l.take k).flatMap Pr.cells) F' ∧ Own (F' ++ R) w0 wr) (fun _ i _ => l.length - (intOf i).toNat)
  case atStart => exact ⟨0, 0, none, 0, [], rfl, Nat.zero_le _, rfl, rfl, Row.nil _ _, hO⟩
  case round =>
    obtain ⟨k, n, A', c', F', rfl, hk, rfl, hn, hr, hO1⟩ := hrel
    have HN := hid hn
    have HR := hid hr
    have HO := hid hO1
    have hnk : n ≤ 1099511627776 := by omega
    clear hn hr hO1 hO
    by_cases h4 : k < l.length
    · have h4' : (k : Int) < (l.length : Int) := by omega
      have hx : l[k]? = some l[k] := List.getElem?_eq_getElem h4
      have htk : (l.take (k + 1)).flatMap Pr.cells = (l.take k).flatMap Pr.cells ++ l[k].cells := by rw [List.take_succ_eq_append_getElem h4, List.flatMap_append]; simp
      have hps := HO.out.stR hp
      generalize l[k] = r at hx htk
      have HT := hid htk
      obtain ⟨g, o, rfl, p0, p1⟩ := hps.at_ hx
      clear htk hps hx
      go_wp2_with (at_builtin; refine own_append rfl (.tmp 12) (.tmp 14) 28 rfl 38 (.agg #[.slice none 0 0, .slice none 0 0]) 2 48 Tryd.underlying28 Tryd.info_pair rfl (by decide) A' n c' _ F' rfl HR.out (R := R) ((HO.out.skip _).skip _) (some ⟨wr.heap.size + 1, 0, none⟩) 1 1 r.cells rfl rfl (csAt_new' (by simp) r.cells _) (by simp [Pr.cells, Value.oneCell']) (by simp [maxLen]; omega) (by omega) ?_; intro A2 c2 F2 w2 hr2 hO2 _; have HR2 := hid hr2; have HO2 := hid hO2; clear hr2 hO2)
      exact ⟨⟨k + 1, n + 1, A2, c2, F2, rfl, by omega, rfl, by rw [HN.out], by rw [HT.out]; exact HR2.out, HO2.out⟩, by simp [intOf]; omega⟩
    · have h4' : ¬ (k : Int) < (l.length : Int) := by omega
      have hkl : k = l.length := by omega
      have HK := hid hkl
      clear hkl
      go_wp2
      go_ret
      have hr := HR.out
      rw [HK.out, List.take_length] at hr
      have hn2 : n = l.length := by rw [HN.out, HK.out]
      subst hn2
      exact ⟨A', c', F', rfl, hid hr, HO⟩

def ordB (l : List KV) : Bool := (List.range (l.length - 1)).all fun i => decide (cmpI (key l i) (key l (i + 1)) < 0)
theorem ordB_iff {l : List KV} : ordB l = true ↔ ∀ i, i + 1 < l.length → cmpI (key l i) (key l (i + 1)) < 0 := by
  simp only [ordB, List.all_eq_true, List.mem_range, decide_eq_true_eq]
  exact ⟨fun h i hi => h i (by omega), fun h i hi => h i (by omega)⟩
set_option maxHeartbeats 1600000 in
theorem ordered_any (A : Option Addr) (c : Nat) (l : List Pr) (w : World) (hp : Prs w A l) (hl : l.length ≤ 1099511627776) (hk : ∀ r ∈ l, r.k.length ≤ 140737488351232) :
    Calls Tryd.prog 17 #[.slice A l.length c] w fun e w' => e = .returned (.bool (ordB (kvs l))) ∧ Dr w w' := by
  go_enter Tryd.func17, Tryd.ntmps17
  go_wp2
  go_loopw [3] (fun i wr => ∃ k : Nat, i = .int .i64 ((k : Int) + 1) ∧ k ≤ l.length ∧ (∀ j, j < k → j + 1 < l.length → cmpI (key (kvs l) j) (key (kvs l) (j + 1)) < 0) ∧ Dr w wr) (fun i _ => l.length + 1 - (intOf i).toNat)
  case atStart => exact ⟨0, rfl, Nat.zero_le _, fun j hj => by omega, Dr.refl _⟩
  case round =>
    obtain ⟨k, rfl, hk1, hall, ⟨nd, rfl⟩⟩ := hrel
    have HA := hid hall
    clear hall
    by_cases h4 : k + 1 < l.length
    · have h4' : (k : Int) + 1 < (l.length : Int) := by omega
      have hx : l[k]? = some l[k] := List.getElem?_eq_getElem (by omega)
      have hy : l[k + 1]? = some l[k + 1] := List.getElem?_eq_getElem h4
      have kx := key_kvs hx
      have ky := key_kvs hy
      generalize l[k] = r at hx kx
      generalize l[k + 1] = q at hy ky
      obtain ⟨g, o, rfl, p0, p1⟩ := hp.at_ hx
      obtain ⟨g', o', e9, q0, q1⟩ := hp.at_ hy
      injection e9 with e9
      injection e9 with e9a e9b
      subst e9a; subst e9b
      have hbr := (hp.ok r (List.mem_of_getElem? hx)).hk
      have hbq := (hp.ok q (List.mem_of_getElem? hy)).hk
      have lr := hk r (List.mem_of_getElem? hx)
      have lq := hk q (List.mem_of_getElem? hy)
      have t1 : ((k : Int) + 1).toNat = k + 1 := by omega
      have t2 : IntKind.i64.wrap ((k : Int) + 1 - 1) = (k : Int) := by rw [i64_id (by omega) (by omega)]; omega
      have t3 : IntKind.i64.wrap ((k : Int) + 1 + 1) = (k : Int) + 1 + 1 := i64_id (by omega) (by omega)
      have t4 : (k : Int) < (l.length : Int) := by omega
      have t6 : IntKind.i64.wrap (k : Int) = (k : Int) := i64_id (by omega) (by omega)
      have t5 : 0 ≤ (k : Int) + 1 := by omega
      have KX := hid kx
      have KY := hid ky
      have hkk : (k : Int) + 1 - 1 = k := by omega
      clear kx ky hx hy p1 q1
      cases hc : decide (0 ≤ cmpI r.k q.k) with
      | true =>
        have HC := hid hc
        go_wp2
        go_quiet ((go_at_call 41; exact Dr.quiet_add (compare_any r.ka q.ka r.kc q.kc r.k q.k _ (hbr.drewN _) (hbq.drewN _) lr lq)))
        go_wp2
        go_ret
        refine ⟨ret_bool ?_, ((Dr.refl w).step nd).step nq⟩
        symm
        rw [Bool.eq_false_iff]
        intro hb
        have := ordB_iff.1 hb k (by rw [kvs_length]; exact h4)
        rw [KX.out, KY.out] at this
        have := HC.out
        simp at this
        omega
      | false =>
        have HC := hid hc
        go_wp2
        go_quiet ((go_at_call 41; exact Dr.quiet_add (compare_any r.ka q.ka r.kc q.kc r.k q.k _ (hbr.drewN _) (hbq.drewN _) lr lq)))
        go_wp2
        refine ⟨⟨k + 1, by simp, by omega, fun j hj hj2 => ?_, ⟨_, rfl⟩⟩, by simp [intOf]; omega⟩
        rcases Nat.lt_or_ge j k with h | h
        · exact HA.out j h hj2
        · obtain rfl : j = k := by omega
          rw [KX.out, KY.out]
          have := HC.out
          simp at this
          omega
    · have h4' : ¬ (k : Int) + 1 < (l.length : Int) := by omega
      go_wp2
      go_ret
      refine ⟨ret_bool ?_, ⟨_, rfl⟩⟩
      symm
      rw [ordB_iff]
      intro i hi
      rw [kvs_length] at hi
      exact HA.out i (by omega) hi
end Go.Proofs.YtloflmcgbbbnjaaDoor
namespace Go.Proofs.YtloflmcgbbbnjaaDoor
open Go.RowKit Plain
set_option linter.all false

def zBW : List Value := [.int .i64 0] ++ ([.slice none 0 0, .int .i64 0] ++ (List.replicate 64 (.int .u8 0) ++ [.int .i64 0, .slice none 0 0, .slice none 0 0, .slice none 0 0]))
/-- The restarts of a block, as the writer keeps them. -/
def rsts (rs : Nat) (L : List KV) : Nat → List Nat
  | 0 => []
  | j + 1 => bwR rs j (bst rs [] L 0 j).b (rsts rs L j)
theorem bst_nil (rs : Nat) (L : List KV) (j : Nat) : (bst rs [] L 0 (j + 1)).b = (bst rs [] L 0 j).b ++ ent (bwN rs j (key L (j - 1)) (key L j)) (key L j) (val L j) := by
  simp only [bst, bstep, bwN, pick_nil]
  split
  · rfl
  · simp
theorem rsts_tail (rs : Nat) (L : List KV) : ∀ j, (bst rs [] L 0 j).tail = le4s (rsts rs L j) ∧ (bst rs [] L 0 j).many = (rsts rs L j).length
  | 0 => ⟨rfl, rfl⟩
  | j + 1 => by
    obtain ⟨h1, h2⟩ := rsts_tail rs L j
    simp only [bst, bstep, rsts, bwR, pick_nil]
    split
    · simp only [le4s_append, h1, List.length_append, List.length_singleton, h2]
      exact ⟨by simp [le4s], trivial⟩
    · simp [h1, h2]
theorem rsts_bound {rs : Nat} {L : List KV} (hw : kvw L < 34359738368) : ∀ j, j ≤ L.length → (rsts rs L j).length ≤ j ∧ ∀ x ∈ rsts rs L j, x ≤ 16 * kvw L
  | 0, _ => by simp [rsts]
  | j + 1, h => by
    obtain ⟨h1, h2⟩ := rsts_bound (rs := rs) hw j (by omega)
    have h3 := (bst_le (rs := rs) (ns := []) (c0 := 0) hw j (by omega)).1
    have h4 := kvw_take L j
    simp only [rsts, bwR]
    split
    · refine ⟨by simp; omega, fun x hx => ?_⟩
      rcases List.mem_append.1 hx with hx | hx
      · exact h2 x hx
      · simp at hx; omega
    · exact ⟨by omega, h2⟩
/-- What the writer has behind finish is the block. -/
theorem fin_block {rs : Nat} {L : List KV} (h0 : 0 < L.length) (hrs : 0 < rs) : (bst rs [] L 0 L.length).b ++ le4s (finR L.length (rsts rs L L.length) ++ [(finR L.length (rsts rs L L.length)).length]) = blockB rs [] L 0 := by
  obtain ⟨h1, h2⟩ := rsts_tail rs L L.length
  have hne : (bst rs [] L 0 L.length).many ≠ 0 := by
    rw [h2]
    have : ∀ j, 0 < j → 0 < (rsts rs L j).length := by
      intro j hj
      induction j with
      | zero => omega
      | succ j ih =>
        rcases Nat.eq_zero_or_pos j with h | h
        · subst h; simp [rsts, bwR]
        · have := ih h
          simp only [rsts, bwR]; split
          · simp
          · exact this
    have := this L.length h0
    omega
  have hf : finR L.length (rsts rs L L.length) = rsts rs L L.length := if_neg (by omega)
  unfold blockB
  rw [hf, if_neg hne, le4s_append, h1, h2]
  simp [le4s]

theorem bw_new {b t sg : Nat} {v0 v1 v2 : Value} {boot tail4 scr : List Value} {R : List Fr} {w0 w : World} (hb : boot.length = 64) (h : Own (fw b t ([v0] ++ ([v1, v2] ++ (boot ++ tail4))) :: fw sg 5 scr :: R) w0 w) :
    Own (fp b 0 [v0] :: fp b 67 tail4 :: fp b 1 [v1, v2] :: fp b 3 boot :: fp sg 0 scr :: R) w0 w := by
  have h1 := (h.part.split (k := 1) rfl).swap01.split (k := 3) rfl
  have h2 := h1.swap01.split (k := 67) (by rw [hb])
  have h3 := (h2.perm (L' := fw sg 5 scr :: (fp b 0 [v0] :: fp b 67 tail4 :: fp b 1 [v1, v2] :: fp b 3 boot :: R)) (perm_of fun _ _ z => by simp only [List.count_cons]; omega)).part
  exact h3.perm (perm_of fun _ _ z => by simp only [List.count_cons]; omega)
theorem own_mid {x y : Fr} {A B C D : List Fr} {w0 w : World} (h : Own (x :: y :: (A ++ (B ++ C)) ++ D) w0 w) : Own (A ++ (x :: y :: (B ++ C) ++ D)) w0 w :=
  h.perm (perm_of fun _ _ z => by simp only [List.count_append, List.count_cons, List.cons_append]; omega)
def pk (L : List KV) (j : Nat) : List UInt8 := if j = 0 then [] else key L (j - 1)
theorem bwN_pk (rs : Nat) (L : List KV) (j : Nat) (k : List UInt8) : bwN rs j (pk L j) k = bwN rs j (key L (j - 1)) k := by
  unfold pk
  split
  · rename_i h; subst h; simp [bwN]
  · rfl
theorem Own.cs_pb0 {L : List Fr} {w0 w : World} {g t : Nat} {a b : Value} (h : Own L w0 w) (hx : fw g t [a, b] ∈ L) : w.cell? ⟨g, 0, none⟩ = some a := (h.ins _ hx).cell (i := 0) rfl (by simp)
theorem Own.cs_pb1 {L : List Fr} {w0 w : World} {g t : Nat} {a b : Value} (h : Own L w0 w) (hx : fw g t [a, b] ∈ L) : w.cell? ⟨g, 1, none⟩ = some b := (h.ins _ hx).cell (i := 1) rfl (by simp)
def sls (f : Pr → Value) (l : List Pr) : List Value := l.map f
def kSl (r : Pr) : Value := .slice r.ka r.k.length r.kc
def vSl (r : Pr) : Value := .slice r.va r.v.length r.vc

set_option maxHeartbeats 3200000 in
set_option maxRecDepth 100000 in
theorem zzBlock (kA vA : Option Addr) (kc vc rs : Nat) (l : List Pr) (R : List Fr) (w0 w : World) (hk : St R w0 fun w => CsAt w kA (l.map kSl)) (hv : St R w0 fun w => CsAt w vA (l.map vSl)) (hp : ∀ r ∈ l, St R w0 fun w => r.Ok w) (hO : Own R w0 w)
    (hrs : 0 < rs) (hrs2 : rs ≤ 1073741824) (h0 : 0 < l.length) (hl : l.length ≤ 33554432) (hw : wgt l ≤ 33554432) :
    Calls Tryd.prog 36 #[.slice kA l.length kc, .slice vA l.length vc, .int .i64 rs] w fun e w' => ∃ A c F, e = .returned (.slice A (blockB rs [] (kvs l) 0).length c) ∧ Rd F w0 A (blockB rs [] (kvs l) 0) ∧ Own (F ++ R) w0 w' := by
  go_enter Tryd.func36, Tryd.ntmps36
  have hz : ∀ (g : Nat), (((Tryd.zeroCells139.setIfInBounds 0 (.int .i64 (rs : Int))).setIfInBounds 70 (.slice (some ⟨g, 0, none⟩) 30 30)).toList : List Value) = [.int .i64 (rs : Int)] ++ ([.slice none 0 0, .int .i64 0] ++ (List.replicate 64 (.int .u8 0) ++ [.int .i64 0, .slice none 0 0, .slice none 0 0, .slice (some ⟨g, 0, none⟩) 30 30])) := fun g => by kernel_rfl
  have hz1 : ∀ (g : Nat), ((Tryd.zeroCells139.setIfInBounds 0 (.int .i64 (rs : Int))).setIfInBounds 70 (.slice (some ⟨g, 0, none⟩) 30 30)).all (·.oneCell') = true := fun g => by kernel_rfl
  have HZ := hid hz
  have HZ1 := hid hz1
  clear hz hz1
  go_wp2_with (first
    | (at_make; refine own_make rfl _ _ _ rfl 5 (.int .u8 0) 1 Tryd.underlying25 Tryd.info_u8 rfl _ _ _ _ 30 30 rfl rfl rfl rfl (Nat.le_refl _) (by omega) (by omega) hO ?_; intro sg w1 hO1; have HO1 := hid hO1; clear hO1)
    | (refine own_store_row rfl 139 (.tmp 7) (.tmp 11) rfl w1.heap.size _ rfl rfl 139 _ (HO1.out.allocA rfl _ _) (by kernel_rfl) (by kernel_rfl) (HZ1.out sg) ?_; intro w2 hO2; rw [HZ.out sg] at hO2; have HO2 := hid hO2; clear hO2))
  obtain ⟨b, hb⟩ : ∃ b, w1.heap.size = b := ⟨_, rfl⟩
  rw [hb] at HO2 ⊢
  have hO3 := bw_new (by simp) HO2.out
  have hL : kvw (kvs l) ≤ 33554432 := by rw [kvw_kvs]; exact hw
  have HO3 := hid hO3
  clear HO2 HO1 hO3 hb HZ HZ1
  go_loopw [14] (fun i wr => ∃ (j : Nat) (scr : List Value) (F : List Fr), i = .int .i64 j ∧ j ≤ l.length ∧ BW b 0 rs j (bst rs [] (kvs l) 0 j).b (pk (kvs l) j) (rsts rs (kvs l) j) sg 0 F ∧ scr.length = 30 ∧ Own (F ++ (fp sg 0 scr :: R)) w0 wr) (fun i _ => l.length - (intOf i).toNat)
  case atStart =>
    exact ⟨0, List.replicate 30 (.int .u8 0), _, rfl, Nat.zero_le _, ⟨none, 0, none, 0, [fp b 1 [.slice none 0 0, .int .i64 0], fp b 3 (List.replicate 64 (.int .u8 0))], [], [], .inl ⟨rfl, _, ⟨by simp, _, bc_zeros 64⟩, rfl⟩, Row.nil _ _, Row.nil _ _, rfl⟩, by simp, HO3.out⟩
  case round =>
    obtain ⟨j, scr, F, rfl, hj, hB, hs, hO⟩ := hrel
    obtain ⟨hb1, _, _, _, _⟩ := bst_le (rs := rs) (ns := []) (l := kvs l) (c0 := 0) (by omega) j (by rw [kvs_length]; exact hj)
    obtain ⟨hr1, hr2⟩ := rsts_bound (rs := rs) (L := kvs l) (by omega) j (by rw [kvs_length]; exact hj)
    have hkt := kvw_take (kvs l) j
    have HB := hid hB
    have HO := hid hO
    have HR2 := hid hr2
    clear hB hO hr2 HO3
    by_cases h4 : j < l.length
    · have h4' : (j : Int) < (l.length : Int) := by omega
      have hx : l[j]? = some l[j] := List.getElem?_eq_getElem h4
      have hmem : l[j] ∈ l := List.getElem_mem h4
      have kx := key_kvs hx
      have vx := val_kvs hx
      have hck := HO.out.st hk (by intro x hx; simp [hx])
      have hcv := HO.out.st hv (by intro x hx; simp [hx])
      obtain ⟨g, o, rfl, p0⟩ := hck j (by simpa using h4)
      obtain ⟨g', o', rfl, p1⟩ := hcv j (by simpa using h4)
      rw [List.getElem?_map, hx] at p0 p1
      generalize l[j] = r at hx hmem kx vx p0 p1
      have p0' : wr.cell? ⟨g, o + j, none⟩ = some (.slice r.ka r.k.length r.kc) := p0
      have p1' : wr.cell? ⟨g', o' + j, none⟩ = some (.slice r.va r.v.length r.vc) := p1
      have hwm := wgt_mem hmem
      have hok := hp r hmem
      have hok0 := HO.out.st hok (by intro x hx; simp [hx])
      have hkc := hok0.hkc
      have hpk : (pk (kvs l) j).length ≤ 2147483648 := by
        have := kvw_key (kvs l) (j - 1)
        unfold pk; split
        · simp
        · omega
      have KX := hid kx
      have VX := hid vx
      clear hx kx vx hck hcv p0 p1 hok0
      go_wp2_with fail
      go_still_tail 8, (by kernel_rfl)
      go_wp2_with fail
      refine (bw_append b 0 rs j r.kc r.vc sg 0 r.ka r.va (bst rs [] (kvs l) 0 j).b (pk (kvs l) j) r.k r.v (rsts rs (kvs l) j) scr F R w0 _ HB.out HO.out.drew hs (hok.imp fun _ h => h.hk) (hok.imp fun _ h => h.hv) hkc hrs hrs2 (by omega) (by omega) (by omega) (by omega) (by omega) hpk).mono ?_
      rintro e w4 ⟨rfl, F4, scr4, hB4, hs4, hO4⟩
      have HB4 := hid hB4
      have HO4 := hid hO4
      clear hB4 hO4
      go_wp2_with fail
      refine ⟨⟨j + 1, scr4, F4, rfl, by omega, ?_, hs4, HO4.out⟩, by simp [intOf]; omega⟩
      have h9 := HB4.out
      rw [bwN_pk, ← KX.out, ← VX.out, ← bst_nil] at h9
      exact h9
    · have h4' : ¬ (j : Int) < (l.length : Int) := by omega
      have hjl : j = l.length := by omega
      have HJ := hid hjl
      clear hjl
      go_wp2_with fail
      refine (bw_finish b 0 rs j sg 0 _ _ _ F (fp sg 0 scr :: R) w0 _ HB.out HO.out (by omega) (by omega) (fun x hx => by have := HR2.out x hx; omega)).mono ?_
      rintro e w4 ⟨rfl, F4, hB4, hO4⟩
      obtain ⟨pA, pc, rA, rc, Fb, Fp, Fq, hBF, hP, hQ, rfl⟩ := hB4
      have hfb := fin_block (rs := rs) (L := kvs l) (by rw [kvs_length]; exact h0) hrs
      rw [kvs_length] at hfb
      rw [HJ.out, hfb] at hBF
      have HBF := hid hBF
      have HO4 := hid hO4
      clear hBF hO4 hP hQ hfb HB HR2
      go_wp2_with fail
      refine (bytes_buf b (0 + 1) (blockB rs [] (kvs l) 0) Fb _ w0 w4 HBF.out (own_mid HO4.out)).mono ?_
      rintro e w5 ⟨A, c, rfl, hle, hrd, hd⟩
      have HO5 := hid ((own_mid HO4.out).dr hd)
      have HRD := hid hrd
      clear hd hrd
      go_wp2
      go_ret
      exact ⟨A, c, Fb, rfl, HRD.out, HO5.out.sub ((List.Sublist.refl Fb).append ((List.sublist_cons_self _ R).trans (List.sublist_append_right _ _)))⟩

theorem Tryd.info_sl : (Tryd.prog.info? 25).map (fun i => (i.zero, i.size, i.bytes)) = some (some (.slice none 0 0), 1, 24) := by kernel_rfl
set_option maxHeartbeats 3200000 in
set_option maxRecDepth 100000 in
theorem implBlock (A : Option Addr) (c rs : Nat) (l : List Pr) (R : List Fr) (w0 w : World) (hp : St R w0 fun w => Prs w A l) (hO : Own R w0 w)
    (hrs : 0 < rs) (hrs2 : rs ≤ 1073741824) (h0 : 0 < l.length) (hl : l.length ≤ 33554432) (hw : wgt l ≤ 33554432) (hbl : (blockB rs [] (kvs l) 0).length ≤ 1099511627776) :
    Calls Tryd.prog 13 #[.slice A l.length c, .int .i64 rs] w (RetH R w0 (blockB rs [] (kvs l) 0)) := by
  go_enter Tryd.func13, Tryd.ntmps13
  go_wp2
  go_loopw [5, 6, 11] (fun v5 v6 i wr => ∃ (k n m : Nat) (A1 A2 : Option Addr) (c1 c2 : Nat) (F1 F2 : List Fr), i = .int .i64 k ∧ k ≤ l.length ∧ v5 = .slice A1 n c1 ∧ v6 = .slice A2 m c2 ∧ Hid (n = k) ∧ Hid (m = k) ∧ Hid (Row 25 1 A1 n c1 ((l.take k).map kSl) F1) ∧ Hid (Row 25 1 A2 m c2 ((l.take k).map vSl) F2) ∧ Hid (Own (F1 ++ (F2 ++ R)) w0 wr)) (fun _ _ i _ => l.length - (intOf i).toNat)
  case atStart => exact ⟨0, 0, 0, none, none, 0, 0, [], [], rfl, Nat.zero_le _, rfl, rfl, hid rfl, hid rfl, hid (Row.nil _ _), hid (Row.nil _ _), hid hO⟩
  case round =>
    obtain ⟨k, n, m, A1, A2, c1, c2, F1, F2, rfl, hk, rfl, rfl, HN, HM, HR1, HR2, HO⟩ := hrel
    have hn := HN.out
    have hm := HM.out
    have hnb : n ≤ 33554432 := by omega
    have hmb : m ≤ 33554432 := by omega
    clear hn hm hO
    by_cases h4 : k < l.length
    · have h4' : (k : Int) < (l.length : Int) := by omega
      have hx : l[k]? = some l[k] := List.getElem?_eq_getElem h4
      have htk : l.take (k + 1) = l.take k ++ [l[k]] := List.take_succ_eq_append_getElem h4
      have hps := HO.out.st hp (by intro x hx; simp [hx])
      generalize l[k] = r at hx htk
      have HT := hid htk
      obtain ⟨g, o, rfl, p0, p1⟩ := hps.at_ hx
      have hO2 := HO.out.alloc 36 [.slice r.ka r.k.length r.kc, .slice r.va r.v.length r.vc]
      have HO2 := hid hO2
      clear htk hps hx hO2
      go_upto_region 5 with fail
      obtain ⟨pb, hpb⟩ : ∃ pb, wr.heap.size = pb := ⟨_, rfl⟩
      have hO4 := HO2.out
      rw [hpb] at hO4 ⊢
      generalize wr.alloc (Obj.cells #[Value.slice r.ka r.k.length r.kc, Value.slice r.va r.v.length r.vc] 36) = W at hO4 ⊢
      have q0 : W.cell? ⟨pb, 0, none⟩ = some (.slice r.ka r.k.length r.kc) := hO4.cell 0 rfl 0 rfl (by simp)
      have q1 : W.cell? ⟨pb, 1, none⟩ = some (.slice r.va r.v.length r.vc) := hO4.cell 0 rfl 1 rfl (by simp)
      have HO4 := hid (show Own (fw pb 36 [.slice r.ka r.k.length r.kc, .slice r.va r.v.length r.vc] :: (F1 ++ (F2 ++ R))) w0 W from hO4)
      clear hO4 hpb HO2 HO p0 p1
      go_region_held3 (fun w' : World => w'.cell? ⟨pb, 0, none⟩ = some (.slice r.ka r.k.length r.kc) ∧ w'.cell? ⟨pb, 1, none⟩ = some (.slice r.va r.v.length r.vc)) (first | exact ⟨q0, q1⟩ | go_keep) (first
        | (refine own_step_append rfl (.tmp 15) (.tmp 18) 74 rfl 25 (.slice none 0 0) 1 24 Tryd.underlying74 Tryd.info_sl rfl (by decide) A1 n c1 _ F1 rfl HR1.out (R := fw pb 36 [.slice r.ka r.k.length r.kc, .slice r.va r.v.length r.vc] :: (F2 ++ R)) ((HO4.out.drew.skip _).perm (perm_of fun _ _ z => by simp only [List.count_append, List.count_cons, List.cons_append]; omega)) (some ⟨W.heap.size, 0, none⟩) 1 1 [kSl r] rfl rfl (csAt_one _ _ _) (by simp [kSl, vSl, Value.oneCell']) (by simp [maxLen]; omega) (by omega) ?_; intro A3 c3 F3 w3 hrx hOx _; have q0 : w3.cell? ⟨pb, 0, none⟩ = some (.slice r.ka r.k.length r.kc) := hOx.cs_pb0 (t := 36) (b := .slice r.va r.v.length r.vc) (by simp); have q1 : w3.cell? ⟨pb, 1, none⟩ = some (.slice r.va r.v.length r.vc) := hOx.cs_pb1 (t := 36) (a := .slice r.ka r.k.length r.kc) (by simp); have HR3 := hid hrx; have HO3 := hid hOx; clear hrx hOx)
        | (refine own_step_append rfl (.tmp 20) (.tmp 23) 74 rfl 25 (.slice none 0 0) 1 24 Tryd.underlying74 Tryd.info_sl rfl (by decide) A2 m c2 _ F2 rfl HR2.out (R := fw pb 36 [.slice r.ka r.k.length r.kc, .slice r.va r.v.length r.vc] :: (F3 ++ R)) ((HO3.out.skip _).perm (perm_of fun _ _ z => by simp only [List.count_append, List.count_cons, List.cons_append]; omega)) (some ⟨w3.heap.size, 0, none⟩) 1 1 [vSl r] rfl rfl (csAt_one _ _ _) (by simp [kSl, vSl, Value.oneCell']) (by simp [maxLen]; omega) (by omega) ?_; intro A5 c5 F5 w5 hrx hOx _; have q0 : w5.cell? ⟨pb, 0, none⟩ = some (.slice r.ka r.k.length r.kc) := hOx.cs_pb0 (t := 36) (b := .slice r.va r.v.length r.vc) (by simp); have q1 : w5.cell? ⟨pb, 1, none⟩ = some (.slice r.va r.v.length r.vc) := hOx.cs_pb1 (t := 36) (a := .slice r.ka r.k.length r.kc) (by simp); have HR5 := hid hrx; have HO5 := hid hOx; clear hrx hOx)
        | (refine own_step_append rfl (.tmp 15) (.tmp 18) 74 rfl 25 (.slice none 0 0) 1 24 Tryd.underlying74 Tryd.info_sl rfl (by decide) A1 n c1 _ F1 rfl HR1.out (R := fw (W.heap.size + 1) 25 [vSl r] :: fw pb 36 [.slice r.ka r.k.length r.kc, .slice r.va r.v.length r.vc] :: (F2 ++ R)) (((HO4.out.skip _).alloc' (g := W.heap.size + 1) (by simp) 25 [vSl r]).drew.perm (perm_of fun _ _ z => by simp only [List.count_append, List.count_cons, List.cons_append]; omega)) (some ⟨W.heap.size, 0, none⟩) 1 1 [kSl r] rfl rfl ((csAt_one W _ _).keep0 (((Only.refl [] _).alloc _).drew)) (by simp [kSl, vSl, Value.oneCell']) (by simp [maxLen]; omega) (by omega) ?_; intro A3 c3 F3 w3 hrx hOx _; have q0 : w3.cell? ⟨pb, 0, none⟩ = some (.slice r.ka r.k.length r.kc) := hOx.cs_pb0 (t := 36) (b := .slice r.va r.v.length r.vc) (by simp); have q1 : w3.cell? ⟨pb, 1, none⟩ = some (.slice r.va r.v.length r.vc) := hOx.cs_pb1 (t := 36) (a := .slice r.ka r.k.length r.kc) (by simp); have HR3 := hid hrx; have HO3 := hid hOx; clear hrx hOx)
        | (refine own_step_append rfl (.tmp 20) (.tmp 23) 74 rfl 25 (.slice none 0 0) 1 24 Tryd.underlying74 Tryd.info_sl rfl (by decide) A2 m c2 _ F2 rfl HR2.out (R := fw pb 36 [.slice r.ka r.k.length r.kc, .slice r.va r.v.length r.vc] :: (F3 ++ R)) ((HO3.out.perm (L' := fw (W.heap.size + 1) 25 [vSl r] :: (F2 ++ (fw pb 36 [.slice r.ka r.k.length r.kc, .slice r.va r.v.length r.vc] :: (F3 ++ R)))) (perm_of fun _ _ z => by simp only [List.count_append, List.count_cons, List.cons_append]; omega)).drop) (some ⟨W.heap.size + 1, 0, none⟩) 1 1 [vSl r] rfl rfl (HO3.out.cs_fw (t := 25) (by simp)) (by simp [kSl, vSl, Value.oneCell']) (by simp [maxLen]; omega) (by omega) ?_; intro A5 c5 F5 w5 hrx hOx _; have q0 : w5.cell? ⟨pb, 0, none⟩ = some (.slice r.ka r.k.length r.kc) := hOx.cs_pb0 (t := 36) (b := .slice r.va r.v.length r.vc) (by simp); have q1 : w5.cell? ⟨pb, 1, none⟩ = some (.slice r.va r.v.length r.vc) := hOx.cs_pb1 (t := 36) (a := .slice r.ka r.k.length r.kc) (by simp); have HR5 := hid hrx; have HO5 := hid hOx; clear hrx hOx)
        | (refine own_step_append rfl (.tmp 15) (.tmp 18) 74 rfl 25 (.slice none 0 0) 1 24 Tryd.underlying74 Tryd.info_sl rfl (by decide) A1 n c1 _ F1 rfl HR1.out (R := fw W.heap.size 25 [vSl r] :: fw pb 36 [.slice r.ka r.k.length r.kc, .slice r.va r.v.length r.vc] :: (F2 ++ R)) (((HO4.out.alloc' (g := W.heap.size) rfl 25 [vSl r]).skip _).drew.perm (perm_of fun _ _ z => by simp only [List.count_append, List.count_cons, List.cons_append]; omega)) (some ⟨W.heap.size + 1, 0, none⟩) 1 1 [kSl r] rfl rfl ((csAt_new' (w := W.alloc _) (by simp) [kSl r] _).keep0 (Only.refl [] _).drew) (by simp [kSl, vSl, Value.oneCell']) (by simp [maxLen]; omega) (by omega) ?_; intro A3 c3 F3 w3 hrx hOx _; have q0 : w3.cell? ⟨pb, 0, none⟩ = some (.slice r.ka r.k.length r.kc) := hOx.cs_pb0 (t := 36) (b := .slice r.va r.v.length r.vc) (by simp); have q1 : w3.cell? ⟨pb, 1, none⟩ = some (.slice r.va r.v.length r.vc) := hOx.cs_pb1 (t := 36) (a := .slice r.ka r.k.length r.kc) (by simp); have HR3 := hid hrx; have HO3 := hid hOx; clear hrx hOx)
        | (refine own_step_append rfl (.tmp 20) (.tmp 23) 74 rfl 25 (.slice none 0 0) 1 24 Tryd.underlying74 Tryd.info_sl rfl (by decide) A2 m c2 _ F2 rfl HR2.out (R := fw pb 36 [.slice r.ka r.k.length r.kc, .slice r.va r.v.length r.vc] :: (F3 ++ R)) ((HO3.out.perm (L' := fw W.heap.size 25 [vSl r] :: (F2 ++ (fw pb 36 [.slice r.ka r.k.length r.kc, .slice r.va r.v.length r.vc] :: (F3 ++ R)))) (perm_of fun _ _ z => by simp only [List.count_append, List.count_cons, List.cons_append]; omega)).drop) (some ⟨W.heap.size, 0, none⟩) 1 1 [vSl r] rfl rfl (HO3.out.cs_fw (t := 25) (by simp)) (by simp [kSl, vSl, Value.oneCell']) (by simp [maxLen]; omega) (by omega) ?_; intro A5 c5 F5 w5 hrx hOx _; have q0 : w5.cell? ⟨pb, 0, none⟩ = some (.slice r.ka r.k.length r.kc) := hOx.cs_pb0 (t := 36) (b := .slice r.va r.v.length r.vc) (by simp); have q1 : w5.cell? ⟨pb, 1, none⟩ = some (.slice r.va r.v.length r.vc) := hOx.cs_pb1 (t := 36) (a := .slice r.ka r.k.length r.kc) (by simp); have HR5 := hid hrx; have HO5 := hid hOx; clear hrx hOx)
        | (refine own_step_append rfl (.tmp 20) (.tmp 23) 74 rfl 25 (.slice none 0 0) 1 24 Tryd.underlying74 Tryd.info_sl rfl (by decide) A2 m c2 _ F2 rfl HR2.out (R := fw pb 36 [.slice r.ka r.k.length r.kc, .slice r.va r.v.length r.vc] :: (F1 ++ R)) ((HO4.out.drew.skip _).perm (perm_of fun _ _ z => by simp only [List.count_append, List.count_cons, List.cons_append]; omega)) (some ⟨W.heap.size, 0, none⟩) 1 1 [vSl r] rfl rfl (csAt_one _ _ _) (by simp [kSl, vSl, Value.oneCell']) (by simp [maxLen]; omega) (by omega) ?_; intro A5 c5 F5 w5 hrx hOx _; have q0 : w5.cell? ⟨pb, 0, none⟩ = some (.slice r.ka r.k.length r.kc) := hOx.cs_pb0 (t := 36) (b := .slice r.va r.v.length r.vc) (by simp); have q1 : w5.cell? ⟨pb, 1, none⟩ = some (.slice r.va r.v.length r.vc) := hOx.cs_pb1 (t := 36) (a := .slice r.ka r.k.length r.kc) (by simp); have HR5 := hid hrx; have HO5 := hid hOx; clear hrx hOx)
        | (refine own_step_append rfl (.tmp 15) (.tmp 18) 74 rfl 25 (.slice none 0 0) 1 24 Tryd.underlying74 Tryd.info_sl rfl (by decide) A1 n c1 _ F1 rfl HR1.out (R := fw pb 36 [.slice r.ka r.k.length r.kc, .slice r.va r.v.length r.vc] :: (F5 ++ R)) ((HO5.out.skip _).perm (perm_of fun _ _ z => by simp only [List.count_append, List.count_cons, List.cons_append]; omega)) (some ⟨w5.heap.size, 0, none⟩) 1 1 [kSl r] rfl rfl (csAt_one _ _ _) (by simp [kSl, vSl, Value.oneCell']) (by simp [maxLen]; omega) (by omega) ?_; intro A3 c3 F3 w3 hrx hOx _; have q0 : w3.cell? ⟨pb, 0, none⟩ = some (.slice r.ka r.k.length r.kc) := hOx.cs_pb0 (t := 36) (b := .slice r.va r.v.length r.vc) (by simp); have q1 : w3.cell? ⟨pb, 1, none⟩ = some (.slice r.va r.v.length r.vc) := hOx.cs_pb1 (t := 36) (a := .slice r.ka r.k.length r.kc) (by simp); have HR3 := hid hrx; have HO3 := hid hOx; clear hrx hOx)
        | (refine own_step_append rfl (.tmp 20) (.tmp 23) 74 rfl 25 (.slice none 0 0) 1 24 Tryd.underlying74 Tryd.info_sl rfl (by decide) A2 m c2 _ F2 rfl HR2.out (R := fw (W.heap.size + 1) 25 [kSl r] :: fw pb 36 [.slice r.ka r.k.length r.kc, .slice r.va r.v.length r.vc] :: (F1 ++ R)) (((HO4.out.skip _).alloc' (g := W.heap.size + 1) (by simp) 25 [kSl r]).drew.perm (perm_of fun _ _ z => by simp only [List.count_append, List.count_cons, List.cons_append]; omega)) (some ⟨W.heap.size, 0, none⟩) 1 1 [vSl r] rfl rfl ((csAt_one W _ _).keep0 (((Only.refl [] _).alloc _).drew)) (by simp [kSl, vSl, Value.oneCell']) (by simp [maxLen]; omega) (by omega) ?_; intro A5 c5 F5 w5 hrx hOx _; have q0 : w5.cell? ⟨pb, 0, none⟩ = some (.slice r.ka r.k.length r.kc) := hOx.cs_pb0 (t := 36) (b := .slice r.va r.v.length r.vc) (by simp); have q1 : w5.cell? ⟨pb, 1, none⟩ = some (.slice r.va r.v.length r.vc) := hOx.cs_pb1 (t := 36) (a := .slice r.ka r.k.length r.kc) (by simp); have HR5 := hid hrx; have HO5 := hid hOx; clear hrx hOx)
        | (refine own_step_append rfl (.tmp 15) (.tmp 18) 74 rfl 25 (.slice none 0 0) 1 24 Tryd.underlying74 Tryd.info_sl rfl (by decide) A1 n c1 _ F1 rfl HR1.out (R := fw pb 36 [.slice r.ka r.k.length r.kc, .slice r.va r.v.length r.vc] :: (F5 ++ R)) ((HO5.out.perm (L' := fw (W.heap.size + 1) 25 [kSl r] :: (F1 ++ (fw pb 36 [.slice r.ka r.k.length r.kc, .slice r.va r.v.length r.vc] :: (F5 ++ R)))) (perm_of fun _ _ z => by simp only [List.count_append, List.count_cons, List.cons_append]; omega)).drop) (some ⟨W.heap.size + 1, 0, none⟩) 1 1 [kSl r] rfl rfl (HO5.out.cs_fw (t := 25) (by simp)) (by simp [kSl, vSl, Value.oneCell']) (by simp [maxLen]; omega) (by omega) ?_; intro A3 c3 F3 w3 hrx hOx _; have q0 : w3.cell? ⟨pb, 0, none⟩ = some (.slice r.ka r.k.length r.kc) := hOx.cs_pb0 (t := 36) (b := .slice r.va r.v.length r.vc) (by simp); have q1 : w3.cell? ⟨pb, 1, none⟩ = some (.slice r.va r.v.length r.vc) := hOx.cs_pb1 (t := 36) (a := .slice r.ka r.k.length r.kc) (by simp); have HR3 := hid hrx; have HO3 := hid hOx; clear hrx hOx)
        | (refine own_step_append rfl (.tmp 20) (.tmp 23) 74 rfl 25 (.slice none 0 0) 1 24 Tryd.underlying74 Tryd.info_sl rfl (by decide) A2 m c2 _ F2 rfl HR2.out (R := fw W.heap.size 25 [kSl r] :: fw pb 36 [.slice r.ka r.k.length r.kc, .slice r.va r.v.length r.vc] :: (F1 ++ R)) (((HO4.out.alloc' (g := W.heap.size) rfl 25 [kSl r]).skip _).drew.perm (perm_of fun _ _ z => by simp only [List.count_append, List.count_cons, List.cons_append]; omega)) (some ⟨W.heap.size + 1, 0, none⟩) 1 1 [vSl r] rfl rfl ((csAt_new' (w := W.alloc _) (by simp) [vSl r] _).keep0 (Only.refl [] _).drew) (by simp [kSl, vSl, Value.oneCell']) (by simp [maxLen]; omega) (by omega) ?_; intro A5 c5 F5 w5 hrx hOx _; have q0 : w5.cell? ⟨pb, 0, none⟩ = some (.slice r.ka r.k.length r.kc) := hOx.cs_pb0 (t := 36) (b := .slice r.va r.v.length r.vc) (by simp); have q1 : w5.cell? ⟨pb, 1, none⟩ = some (.slice r.va r.v.length r.vc) := hOx.cs_pb1 (t := 36) (a := .slice r.ka r.k.length r.kc) (by simp); have HR5 := hid hrx; have HO5 := hid hOx; clear hrx hOx)
        | (refine own_step_append rfl (.tmp 15) (.tmp 18) 74 rfl 25 (.slice none 0 0) 1 24 Tryd.underlying74 Tryd.info_sl rfl (by decide) A1 n c1 _ F1 rfl HR1.out (R := fw pb 36 [.slice r.ka r.k.length r.kc, .slice r.va r.v.length r.vc] :: (F5 ++ R)) ((HO5.out.perm (L' := fw W.heap.size 25 [kSl r] :: (F1 ++ (fw pb 36 [.slice r.ka r.k.length r.kc, .slice r.va r.v.length r.vc] :: (F5 ++ R)))) (perm_of fun _ _ z => by simp only [List.count_append, List.count_cons, List.cons_append]; omega)).drop) (some ⟨W.heap.size, 0, none⟩) 1 1 [kSl r] rfl rfl (HO5.out.cs_fw (t := 25) (by simp)) (by simp [kSl, vSl, Value.oneCell']) (by simp [maxLen]; omega) (by omega) ?_; intro A3 c3 F3 w3 hrx hOx _; have q0 : w3.cell? ⟨pb, 0, none⟩ = some (.slice r.ka r.k.length r.kc) := hOx.cs_pb0 (t := 36) (b := .slice r.va r.v.length r.vc) (by simp); have q1 : w3.cell? ⟨pb, 1, none⟩ = some (.slice r.va r.v.length r.vc) := hOx.cs_pb1 (t := 36) (a := .slice r.ka r.k.length r.kc) (by simp); have HR3 := hid hrx; have HO3 := hid hOx; clear hrx hOx))
      all_goals
        go_wp2_with fail
        refine ⟨⟨k + 1, n + 1, m + 1, A3, A5, c3, c5, F3, F5, rfl, by omega, rfl, rfl, hid (by rw [HN.out]), hid (by rw [HM.out]), hid (by rw [HT.out, List.map_append]; exact HR3.out), hid (by rw [HT.out, List.map_append]; exact HR5.out), hid ?_⟩, by simp [intOf]; omega⟩
        first
          | exact (HO5.out.perm (L' := fw pb 36 [.slice r.ka r.k.length r.kc, .slice r.va r.v.length r.vc] :: (F3 ++ (F5 ++ R))) (perm_of fun _ _ z => by simp only [List.count_append, List.count_cons, List.cons_append]; omega)).drop
          | exact (HO3.out.perm (L' := fw pb 36 [.slice r.ka r.k.length r.kc, .slice r.va r.v.length r.vc] :: (F3 ++ (F5 ++ R))) (perm_of fun _ _ z => by simp only [List.count_append, List.count_cons, List.cons_append]; omega)).drop
    · have h4' : ¬ (k : Int) < (l.length : Int) := by omega
      have hkl : k = l.length := by omega
      have hr1 := HR1.out
      have hr2 := HR2.out
      rw [hkl, List.take_length] at hr1 hr2
      have hn2 : n = l.length := by rw [HN.out, hkl]
      have hm2 : m = l.length := by rw [HM.out, hkl]
      clear HN HM HR1 HR2 hkl
      subst hn2
      obtain rfl : m = l.length := hm2
      have HR1 := hid hr1
      have HR2 := hid hr2
      clear hr1 hr2
      go_wp2_with fail
      refine (zzBlock A1 A2 c1 c2 rs l (F1 ++ (F2 ++ R)) w0 wr ((HR1.out.st w0).left _) (((HR2.out.st w0).left _).right _) (fun r hr => ((hp.right F2).right F1).imp fun _ h => h.ok r hr) HO.out hrs hrs2 h0 hl hw).mono ?_
      rintro e w3 ⟨A3, c3, F3, rfl, hrd, hO3⟩
      have hbs := hO3.st hrd (by intro x hx; simp [hx])
      have HBS := hid hbs
      have HO3 := hid hO3
      clear hbs hrd hO3
      go_wp2_with fail
      refine (copied_own A3 _ c3 (blockB rs [] (kvs l) 0) _ w0 w3 HBS.out HO3.out rfl (by omega)).mono ?_
      rintro e w4 ⟨A4, c4, F4, n4, hn4, rfl, hr4, hO4⟩
      go_wp2
      go_ret
      exact ⟨A4, c4, F4, n4, hn4, rfl, hr4, hid (hO4.out.sub ((List.Sublist.refl F4).append ((List.sublist_append_right F2 R).trans ((List.sublist_append_right F1 _).trans (List.sublist_append_right F3 _)))))⟩
end Go.Proofs.YtloflmcgbbbnjaaDoor
