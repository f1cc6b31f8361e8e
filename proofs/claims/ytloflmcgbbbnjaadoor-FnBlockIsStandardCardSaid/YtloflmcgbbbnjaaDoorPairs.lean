/-
  PAIRS: a key and its value as a record; rows of them; their bounds, their weight; that they came in, read.
-/
import Derived.Test.YtloflmcgbbbnjaaDoorStructs
import Derived.Test.YtloflmcgbbbnjaaDoorOwn
namespace Go.Proofs.YtloflmcgbbbnjaaDoor
open Go.RowKit Plain Go.ChangeShapes Go.WideShapes Go.ChangeAt

structure Pr where
  ka : Option Addr
  kc : Nat
  k : List UInt8
  va : Option Addr
  vc : Nat
  v : List UInt8
def Pr.cells (r : Pr) : List Value := [.slice r.ka r.k.length r.kc, .slice r.va r.v.length r.vc]
theorem Pr.cells_length (r : Pr) : r.cells.length = 2 := rfl
structure Pr.Ok (w : World) (r : Pr) : Prop where
  hk : BsAt w r.ka r.k
  hv : BsAt w r.va r.v
  hkc : r.k.length ≤ r.kc
  hvc : r.v.length ≤ r.vc
  hkm : r.kc ≤ maxLen
  hvm : r.vc ≤ maxLen
theorem Pr.Ok.keep0 {w w' : World} {r : Pr} (h : Pr.Ok w r) (hb : Only [] w w') : Pr.Ok w' r := ⟨h.hk.keep0 hb, h.hv.keep0 hb, h.hkc, h.hvc, h.hkm, h.hvm⟩
/-- A row of such records. -/
structure Prs (w : World) (A : Option Addr) (l : List Pr) : Prop where
  row : CsAt w A (l.flatMap Pr.cells)
  ok : ∀ r ∈ l, r.Ok w
theorem Prs.keep0 {w w' : World} {A : Option Addr} {l : List Pr} (h : Prs w A l) (hb : Only [] w w') : Prs w' A l := ⟨h.row.keep0 hb, fun r hr => (h.ok r hr).keep0 hb⟩
theorem Prs.at_ {w : World} {A : Option Addr} {l : List Pr} (h : Prs w A l) {i : Nat} {r : Pr} (hr : l[i]? = some r) :
    ∃ g o, A = some ⟨g, o, none⟩ ∧ w.cell? ⟨g, o + i * 2, none⟩ = some (.slice r.ka r.k.length r.kc) ∧ w.cell? ⟨g, o + i * 2 + 1, none⟩ = some (.slice r.va r.v.length r.vc) := by
  obtain ⟨g, o, e, hc⟩ := CsAt.at_row Pr.cells 2 Pr.cells_length (by omega) h.row hr
  exact ⟨g, o, e, hc 0 (by omega), hc 1 (by omega)⟩
theorem pr_one {l : List Pr} : ∀ u ∈ l.flatMap Pr.cells, u.oneCell' = true := by
  intro u hu
  obtain ⟨r, _, hr⟩ := List.mem_flatMap.1 hu
  simp [Pr.cells] at hr
  rcases hr with rfl | rfl <;> rfl

set_option maxRecDepth 100000 in
theorem open_pr {H : Type} {enc : TypeId × Value → H} {W : World} {base : Nat} {spare : Nat → Bool} {held : Bool} {n : Nat} {c : List Value} {y : DataW H × List MemPlace}
    (h : DataW.trod enc Tryd.prog W base spare held n 36 c = some y) : ∃ r : Pr, c = r.cells ∧ r.Ok W := by
  obtain ⟨xs, k, _, _, hl, hlen, hf⟩ := DataW.trod_struct Tryd.underlying36 h
  rw [show Tryd.prog.cellsOf 36 = 2 by kernel_rfl] at hl
  match c, hl, xs, hlen with
  | [c1, c2], _, [y1, y2], _ =>
    have u1 := hf 0 _ rfl
    have u2 := hf 1 _ rfl
    rw [show Tryd.prog.cellsOf _ = 1 by kernel_rfl] at u1 u2
    simp at u1 u2
    obtain ⟨A, l, cc, e1, h1, h2, h3⟩ := open_bytes_f Tryd.underlying25 Tryd.underlying5 (by kernel_rfl) u1
    obtain ⟨B, m, cd, e2, h4, h5, h6⟩ := open_bytes_f Tryd.underlying25 Tryd.underlying5 (by kernel_rfl) u2
    simp at e1 e2
    subst e1; subst e2
    exact ⟨⟨A, cc, l, B, cd, m⟩, rfl, ⟨h3, h6, h1, h4, h2, h5⟩⟩
theorem open_prs {H : Type} {enc : TypeId × Value → H} {W : World} {base : Nat} {spare : Nat → Bool} {held : Bool} {a : Option Addr} {len cap : Nat} {d : DataW H} {ps : List MemPlace}
    (h : DataW.Trod enc Tryd.prog W base spare held 22 (.slice a len cap) d ps) : ∃ l : List Pr, len = l.length ∧ l.length ≤ cap ∧ cap ≤ maxLen ∧ Prs W a l := by
  obtain ⟨fuel, hf⟩ := h
  obtain ⟨A, l, c, e, h1, h2, h3, h4⟩ := open_rows Pr.cells (fun r => r.Ok W) 2 Tryd.underlying22 (by kernel_rfl) Pr.cells_length (by omega) (fun n c y h => open_pr h) hf
  simp [Value.cells] at e
  obtain ⟨rfl, rfl, rfl⟩ := e
  exact ⟨l, rfl, h1, h2, ⟨h3, h4⟩⟩

/-! ### bounds, weight -/
def fits6 (l : List Pr) : Bool := l.all fun r => decide (r.k.length ≤ 2147483647) && decide (r.v.length ≤ 2147483647)

set_option maxHeartbeats 800000 in
theorem fits7_any (r : Pr) (w : World) :
    Calls Tryd.prog 34 #[.agg #[.slice r.ka r.k.length r.kc, .slice r.va r.v.length r.vc]] w
      fun e w' => e = .returned (.bool (decide (r.k.length ≤ 2147483647) && decide (r.v.length ≤ 2147483647))) ∧ Only [] w w' := by
  obtain ⟨ka, kc, k, va, vc, v⟩ := r
  simp only
  go_enter Tryd.func34, Tryd.ntmps34
  by_cases h1 : k.length ≤ 2147483647
  · have d1 : decide (2147483647 < (k.length : Int)) = false := decide_eq_false (by omega)
    have d1' : decide (2147483647 < k.length) = false := decide_eq_false (by omega)
    by_cases h2 : v.length ≤ 2147483647
    · have d2 : decide (2147483647 < (v.length : Int)) = false := decide_eq_false (by omega)
      have d2' : decide (2147483647 < v.length) = false := decide_eq_false (by omega)
      have HR := hid (show (true : Bool) = (decide (k.length ≤ 2147483647) && decide (v.length ≤ 2147483647)) by simp [h1, h2])
      clear h1 h2
      go_wp2
      go_ret
      exact ⟨ret_bool HR.out, (Only.refl _ _).alloc _⟩
    · have d2 : decide (2147483647 < (v.length : Int)) = true := decide_eq_true (by omega)
      have d2' : decide (2147483647 < v.length) = true := decide_eq_true (by omega)
      have HR := hid (show (false : Bool) = (decide (k.length ≤ 2147483647) && decide (v.length ≤ 2147483647)) by simp [h2])
      clear h1 h2
      go_wp2
      go_ret
      exact ⟨ret_bool HR.out, (Only.refl _ _).alloc _⟩
  · have d1 : decide (2147483647 < (k.length : Int)) = true := decide_eq_true (by omega)
    have d1' : decide (2147483647 < k.length) = true := decide_eq_true (by omega)
    have HR := hid (show (false : Bool) = (decide (k.length ≤ 2147483647) && decide (v.length ≤ 2147483647)) by simp [h1])
    clear h1
    go_wp2
    go_ret
    exact ⟨ret_bool HR.out, (Only.refl _ _).alloc _⟩

set_option maxHeartbeats 800000 in
theorem fits6_in (A : Option Addr) (c : Nat) (l : List Pr) (w : World) (h : Prs w A l) (hl : l.length ≤ 2147483647) :
    Calls Tryd.prog 10 #[.slice A l.length c] w fun e w' => e = .returned (.bool (fits6 l)) ∧ Only [] w w' := by
  have d0 : decide (2147483647 < (l.length : Int)) = false := decide_eq_false (by omega)
  have d0' : decide (2147483647 < l.length) = false := decide_eq_false (by omega)
  go_enter Tryd.func10, Tryd.ntmps10
  go_wp2
  go_loopw [10] (fun i wr => ∃ k : Nat, i = .int .i64 k ∧ k ≤ l.length ∧ fits6 l = fits6 (l.drop k) ∧ Only [] w wr) (fun i _ => l.length - (intOf i).toNat)
  case atStart => exact ⟨0, rfl, Nat.zero_le _, rfl, Only.refl _ _⟩
  case round =>
    obtain ⟨k, rfl, hk, hx, ho⟩ := hrel
    have HX := hid hx
    clear hx
    by_cases h4 : k < l.length
    · have h4' : (k : Int) < (l.length : Int) := by omega
      have hr : l[k]? = some l[k] := List.getElem?_eq_getElem h4
      have hd : fits6 (l.drop k) = ((decide (l[k].k.length ≤ 2147483647) && decide (l[k].v.length ≤ 2147483647)) && fits6 (l.drop (k + 1))) := by
        rw [← List.getElem_cons_drop h4]; simp only [fits6, List.all_cons]
      have HD := hid hd
      clear hd
      generalize l[k] = r at hr HD
      obtain ⟨g, o, rfl, c1, c2⟩ := (h.keep0 ho).at_ hr
      cases hb : (decide (r.k.length ≤ 2147483647) && decide (r.v.length ≤ 2147483647)) with
      | true =>
        have HB := hid hb
        clear hb
        go_wp2_with (go_at_call 34; refine (fits7_any r _).mono ?_; rintro e w4 ⟨rfl, ho4⟩; rw [HB.out])
        exact ⟨⟨k + 1, rfl, h4, by rw [HX.out, HD.out, HB.out, Bool.true_and], ((ho.alloc _).new ho4)⟩, by simp [intOf]; omega⟩
      | false =>
        have HB := hid hb
        clear hb
        go_wp2_with (go_at_call 34; refine (fits7_any r _).mono ?_; rintro e w4 ⟨rfl, ho4⟩; rw [HB.out])
        go_ret
        exact ⟨ret_bool (by rw [HX.out, HD.out, HB.out, Bool.false_and]), ((ho.alloc _).new ho4)⟩
    · have h4' : ¬ (k : Int) < (l.length : Int) := by omega
      have HR := hid (show (true : Bool) = fits6 l by rw [HX.out, List.drop_eq_nil_of_le (by omega)]; rfl)
      clear HX
      go_wp2
      go_ret
      exact ⟨ret_bool HR.out, ho⟩
def okP (l : List Pr) : Bool := decide (l.length ≤ 2147483647) && fits6 l
set_option maxHeartbeats 800000 in
theorem fits6_any (A : Option Addr) (c : Nat) (l : List Pr) (w : World) (h : Prs w A l) :
    Calls Tryd.prog 10 #[.slice A l.length c] w fun e w' => e = .returned (.bool (okP l)) ∧ Only [] w w' := by
  unfold okP
  by_cases hl : l.length ≤ 2147483647
  · simpa [hl] using fits6_in A c l w h hl
  · have d0 : decide (2147483647 < (l.length : Int)) = true := decide_eq_true (by omega)
    have d0' : decide (2147483647 < l.length) = true := decide_eq_true (by omega)
    have HR := hid (show (false : Bool) = (decide (l.length ≤ 2147483647) && fits6 l) by simp [hl])
    clear hl
    go_enter Tryd.func10, Tryd.ntmps10
    go_wp2
    go_ret
    exact ⟨ret_bool HR.out, Only.refl _ _⟩

def wgt (l : List Pr) : Nat := (l.map fun r => r.k.length + r.v.length + 1).sum
theorem wgt_bound {M : Nat} : ∀ {l : List Pr}, (∀ r ∈ l, r.k.length ≤ M ∧ r.v.length ≤ M) → wgt l ≤ l.length * (2 * M + 1)
  | [], _ => by simp [wgt]
  | r :: l, h => by
    have h1 := h r (by simp)
    have h2 := wgt_bound (l := l) fun r hr => h r (by simp [hr])
    simp only [wgt, List.map_cons, List.sum_cons, List.length_cons, Nat.add_mul, Nat.one_mul] at h2 ⊢
    omega
theorem fits6_mem {l : List Pr} (h : fits6 l = true) : ∀ r ∈ l, r.k.length ≤ 2147483647 ∧ r.v.length ≤ 2147483647 := by
  simpa [fits6] using h
theorem okP_len {l : List Pr} (h : okP l = true) : l.length ≤ 2147483647 ∧ wgt l ≤ 9223372036854775807 ∧ ∀ r ∈ l, r.k.length ≤ 2147483647 ∧ r.v.length ≤ 2147483647 := by
  simp only [okP, Bool.and_eq_true, decide_eq_true_eq] at h
  have := wgt_bound (fits6_mem h.2)
  refine ⟨h.1, Nat.le_trans this ?_, fits6_mem h.2⟩
  have : l.length * (2 * 2147483647 + 1) ≤ 2147483647 * (2 * 2147483647 + 1) := Nat.mul_le_mul_right _ h.1
  omega
theorem wgt_drop {l : List Pr} {k : Nat} (h : k < l.length) : wgt (l.drop k) = (l[k].k.length + l[k].v.length + 1) + wgt (l.drop (k + 1)) := by
  rw [← List.getElem_cons_drop h]; simp only [wgt, List.map_cons, List.sum_cons]
theorem wgt_len (l : List Pr) : l.length ≤ wgt l := by
  induction l with
  | nil => simp
  | cons r l ih => simp only [wgt, List.map_cons, List.sum_cons, List.length_cons] at ih ⊢; omega
theorem wgt_mem {l : List Pr} {r : Pr} (h : r ∈ l) : r.k.length + r.v.length + 1 ≤ wgt l := by
  induction l with
  | nil => cases h
  | cons x l ih =>
    simp only [wgt, List.map_cons, List.sum_cons] at ih ⊢
    rcases List.mem_cons.1 h with rfl | h
    · omega
    · have := ih h; omega
theorem i64_id63 {x : Int} (h0 : -9223372036854775808 ≤ x) (h1 : x ≤ 9223372036854775807) : IntKind.i64.wrap x = x := by
  simp [IntKind.wrap, IntKind.bits, IntKind.signed]; omega
set_option maxHeartbeats 800000 in
theorem few_any (A : Option Addr) (c : Nat) (l : List Pr) (w : World) (h : Prs w A l) (hb : wgt l ≤ 9223372036854775807) (hl : l.length ≤ 2147483647) :
    Calls Tryd.prog 16 #[.slice A l.length c] w fun e w' => e = .returned (.bool (decide (wgt l ≤ 1048576))) ∧ Only [] w w' := by
  go_enter Tryd.func16, Tryd.ntmps16
  go_wp2
  go_loopw [8, 3] (fun i s wr => ∃ k n : Nat, i = .int .i64 k ∧ s = .int .i64 n ∧ k ≤ l.length ∧ wgt l = n + wgt (l.drop k) ∧ Only [] w wr) (fun i _ _ => l.length - (intOf i).toNat)
  case atStart => exact ⟨0, 0, rfl, rfl, Nat.zero_le _, by simp, Only.refl _ _⟩
  case round =>
    obtain ⟨k, n, rfl, rfl, hk, hx, ho⟩ := hrel
    by_cases h4 : k < l.length
    · have h4' : (k : Int) < (l.length : Int) := by omega
      have hr : l[k]? = some l[k] := List.getElem?_eq_getElem h4
      have hd := wgt_drop h4
      generalize l[k] = r at hr hd
      obtain ⟨g, o, rfl, c1, c2⟩ := (h.keep0 ho).at_ hr
      have e1 : IntKind.i64.wrap ((r.k.length : Int) + (r.v.length : Int)) = (r.k.length : Int) + (r.v.length : Int) := i64_id63 (by omega) (by omega)
      have e2 : IntKind.i64.wrap ((r.k.length : Int) + (r.v.length : Int) + 1) = (r.k.length : Int) + (r.v.length : Int) + 1 := i64_id63 (by omega) (by omega)
      have e3 : IntKind.i64.wrap ((n : Int) + ((r.k.length : Int) + (r.v.length : Int) + 1)) = (n : Int) + ((r.k.length : Int) + (r.v.length : Int) + 1) := i64_id63 (by omega) (by omega)
      have HD := hid (show wgt l = (n + (r.k.length + r.v.length + 1)) + wgt (l.drop (k + 1)) by omega)
      clear hd hx hb
      go_wp2
      exact ⟨⟨k + 1, n + (r.k.length + r.v.length + 1), rfl, by simp, h4, HD.out, ho.alloc _⟩, by simp [intOf]; omega⟩
    · have h4' : ¬ (k : Int) < (l.length : Int) := by omega
      have HR := hid (show decide ((n : Int) ≤ 1048576) = decide (wgt l ≤ 1048576) by rw [hx, List.drop_eq_nil_of_le (by omega)]; simp [wgt]; omega)
      clear hx hb
      go_wp2
      go_ret
      exact ⟨ret_bool HR.out, ho⟩
end Go.Proofs.YtloflmcgbbbnjaaDoor
