/-
  PAIRS: a key and its value as a record; rows of them; their bounds, their weight; that they came in, read.
  LISTS OF PAIRS in a slice: read; their bounds.
  THE BULK of what came in bounds its lists of pairs.
  bytes.Compare and the default comparer's Compare: -1, 0, 1 as the reference's comparison is below, at, above 0.
  What the table of types says of bytes.
  spec.Compare and spec.Shared: what they return.
  The laws over what is owned, as steps of a region that draws its order.
  impl.copied: a copy of bytes, a row of the call's own.
  PLAIN: numbers in bytes, the low one first; the hash of LevelDB, as both texts reckon it.
  PLAIN: what a block of a table is, as the reference writes it. No Go in sight.
  spec.chooser: of.
  impl.copied; laws.below, laws.pairs, laws.tabled; spec.Ordered.
  PLAIN: where an iterator stands behind calls; what it then shows. No Go in sight.
-/
import Derived.Test.YtloflmcgbbbnjaaDoorMrgM2
import Derived.Test.YtloflmcgbbbnjaaDoorRows
import Derived.Lib.Bytealg
import Derived.Laws.Externs
import Derived.Lib.BytesEntry
import Derived.Deep.RegionLaw
import Derived.Deep.RegionWith
import Derived.Deep.RegionHeld3
import Derived.Test.YtloflmcgbbbnjaaDoorMrgM1
import Derived.Lib.EndianBits
namespace Go.Proofs.YtloflmcgbbbnjaaDoor
open Go.RowKit Plain Go.ChangeShapes Go.WideShapes Go.ChangeAt

structure Pr where
  ka : Option Addr
  kc : Nat
  k : List UInt8
  va : Option Addr
  vc : Nat
  v : List UInt8
def Pr.cells (r : Pr) : List Value := [.slice r.ka r.k.length r.kc, .slice r.va r.v.length r.vc]
theorem Pr.cells_length (r : Pr) : r.cells.length = 2 := rfl
structure Pr.Ok (w : World) (r : Pr) : Prop where
  hk : BsAt w r.ka r.k
  hv : BsAt w r.va r.v
  hkc : r.k.length ≤ r.kc
  hvc : r.v.length ≤ r.vc
  hkm : r.kc ≤ maxLen
  hvm : r.vc ≤ maxLen
theorem Pr.Ok.keep0 {w w' : World} {r : Pr} (h : Pr.Ok w r) (hb : Only [] w w') : Pr.Ok w' r := ⟨h.hk.keep0 hb, h.hv.keep0 hb, h.hkc, h.hvc, h.hkm, h.hvm⟩
/-- A row of such records. -/
structure Prs (w : World) (A : Option Addr) (l : List Pr) : Prop where
  row : CsAt w A (l.flatMap Pr.cells)
  ok : ∀ r ∈ l, r.Ok w
theorem Prs.keep0 {w w' : World} {A : Option Addr} {l : List Pr} (h : Prs w A l) (hb : Only [] w w') : Prs w' A l := ⟨h.row.keep0 hb, fun r hr => (h.ok r hr).keep0 hb⟩
theorem Prs.at_ {w : World} {A : Option Addr} {l : List Pr} (h : Prs w A l) {i : Nat} {r : Pr} (hr : l[i]? = some r) :
    ∃ g o, A = some ⟨g, o, none⟩ ∧ w.cell? ⟨g, o + i * 2, none⟩ = some (.slice r.ka r.k.length r.kc) ∧ w.cell? ⟨g, o + i * 2 + 1, none⟩ = some (.slice r.va r.v.length r.vc) := by
  obtain ⟨g, o, e, hc⟩ := CsAt.at_row Pr.cells 2 Pr.cells_length (by omega) h.row hr
  exact ⟨g, o, e, hc 0 (by omega), hc 1 (by omega)⟩
theorem pr_one {l : List Pr} : ∀ u ∈ l.flatMap Pr.cells, u.oneCell' = true := by
  intro u hu
  obtain ⟨r, _, hr⟩ := List.mem_flatMap.1 hu
  simp [Pr.cells] at hr
  rcases hr with rfl | rfl <;> rfl

set_option maxRecDepth 100000 in
theorem open_pr {H : Type} {enc : TypeId × Value → H} {W : World} {base : Nat} {spare : Nat → Bool} {held : Bool} {n : Nat} {c : List Value} {y : DataW H × List MemPlace}
    (h : DataW.trod enc Tryd.prog W base spare held n 36 c = some y) : ∃ r : Pr, c = r.cells ∧ r.Ok W := by
  obtain ⟨xs, k, _, _, hl, hlen, hf⟩ := DataW.trod_struct Tryd.underlying36 h
  rw [show Tryd.prog.cellsOf 36 = 2 by kernel_rfl] at hl
  match c, hl, xs, hlen with
  | [c1, c2], _, [y1, y2], _ =>
    have u1 := hf 0 _ rfl
    have u2 := hf 1 _ rfl
    rw [show Tryd.prog.cellsOf _ = 1 by kernel_rfl] at u1 u2
    simp at u1 u2
    obtain ⟨A, l, cc, e1, h1, h2, h3⟩ := open_bytes_f Tryd.underlying25 Tryd.underlying5 (by kernel_rfl) u1
    obtain ⟨B, m, cd, e2, h4, h5, h6⟩ := open_bytes_f Tryd.underlying25 Tryd.underlying5 (by kernel_rfl) u2
    simp at e1 e2
    subst e1; subst e2
    exact ⟨⟨A, cc, l, B, cd, m⟩, rfl, ⟨h3, h6, h1, h4, h2, h5⟩⟩
theorem open_prs {H : Type} {enc : TypeId × Value → H} {W : World} {base : Nat} {spare : Nat → Bool} {held : Bool} {a : Option Addr} {len cap : Nat} {d : DataW H} {ps : List MemPlace}
    (h : DataW.Trod enc Tryd.prog W base spare held 22 (.slice a len cap) d ps) : ∃ l : List Pr, len = l.length ∧ l.length ≤ cap ∧ cap ≤ maxLen ∧ Prs W a l := by
  obtain ⟨fuel, hf⟩ := h
  obtain ⟨A, l, c, e, h1, h2, h3, h4⟩ := open_rows Pr.cells (fun r => r.Ok W) 2 Tryd.underlying22 (by kernel_rfl) Pr.cells_length (by omega) (fun n c y h => open_pr h) hf
  simp [Value.cells] at e
  obtain ⟨rfl, rfl, rfl⟩ := e
  exact ⟨l, rfl, h1, h2, ⟨h3, h4⟩⟩

/-! ### bounds, weight -/
def fits6 (l : List Pr) : Bool := l.all fun r => decide (r.k.length ≤ 2147483647) && decide (r.v.length ≤ 2147483647)

set_option maxHeartbeats 800000 in
theorem fits7_any (r : Pr) (w : World) :
    Calls Tryd.prog 34 #[.agg #[.slice r.ka r.k.length r.kc, .slice r.va r.v.length r.vc]] w
      fun e w' => e = .returned (.bool (decide (r.k.length ≤ 2147483647) && decide (r.v.length ≤ 2147483647))) ∧ Only [] w w' := by
  obtain ⟨ka, kc, k, va, vc, v⟩ := r
  simp only
  go_enter Tryd.func34, Tryd.ntmps34
  by_cases h1 : k.length ≤ 2147483647
  · have d1 : decide (2147483647 < (k.length : Int)) = false := decide_eq_false (by omega)
    have d1' : decide (2147483647 < k.length) = false := decide_eq_false (by omega)
    by_cases h2 : v.length ≤ 2147483647
    · have d2 : decide (2147483647 < (v.length : Int)) = false := decide_eq_false (by omega)
      have d2' : decide (2147483647 < v.length) = false := decide_eq_false (by omega)
      have HR := hid (show (true : Bool) = (decide (k.length ≤ 2147483647) && decide (v.length ≤ 2147483647)) by simp [h1, h2])
      clear h1 h2
      go_wp2
      go_ret
      exact ⟨ret_bool HR.out, (Only.refl _ _).alloc _⟩
    · have d2 : decide (2147483647 < (v.length : Int)) = true := decide_eq_true (by omega)
      have d2' : decide (2147483647 < v.length) = true := decide_eq_true (by omega)
      have HR := hid (show (false : Bool) = (decide (k.length ≤ 2147483647) && decide (v.length ≤ 2147483647)) by simp [h2])
      clear h1 h2
      go_wp2
      go_ret
      exact ⟨ret_bool HR.out, (Only.refl _ _).alloc _⟩
  · have d1 : decide (2147483647 < (k.length : Int)) = true := decide_eq_true (by omega)
    have d1' : decide (2147483647 < k.length) = true := decide_eq_true (by omega)
    have HR := hid (show (false : Bool) = (decide (k.length ≤ 2147483647) && decide (v.length ≤ 2147483647)) by simp [h1])
    clear h1
    go_wp2
    go_ret
    exact ⟨ret_bool HR.out, (Only.refl _ _).alloc _⟩

set_option maxHeartbeats 800000 in
theorem fits6_in (A : Option Addr) (c : Nat) (l : List Pr) (w : World) (h : Prs w A l) (hl : l.length ≤ 2147483647) :
    Calls Tryd.prog 10 #[.slice A l.length c] w fun e w' => e = .returned (.bool (fits6 l)) ∧ Only [] w w' := by
  have d0 : decide (2147483647 < (l.length : Int)) = false := decide_eq_false (by omega)
  have d0' : decide (2147483647 < l.length) = false := decide_eq_false (by omega)
  go_enter Tryd.func10, Tryd.ntmps10
  go_wp2
  go_loopw [10] (fun i wr => ∃ k : Nat, i = .int .i64 k ∧ k ≤ l.length ∧ fits6 l = fits6 (l.drop k) ∧ Only [] w wr) (fun i _ => l.length - (intOf i).toNat)
  case atStart => exact ⟨0, rfl, Nat.zero_le _, rfl, Only.refl _ _⟩
  case round =>
    obtain ⟨k, rfl, hk, hx, ho⟩ := hrel
    have HX := hid hx
    clear hx
    by_cases h4 : k < l.length
    · have h4' : (k : Int) < (l.length : Int) := by omega
      have hr : l[k]? = some l[k] := List.getElem?_eq_getElem h4
      have hd : fits6 (l.drop k) = ((decide (l[k].k.length ≤ 2147483647) && decide (l[k].v.length ≤ 2147483647)) && fits6 (l.drop (k + 1))) := by
        rw [← List.getElem_cons_drop h4]; simp only [fits6, List.all_cons]
      have HD := hid hd
      clear hd
      generalize l[k] = r at hr HD
      obtain ⟨g, o, rfl, c1, c2⟩ := (h.keep0 ho).at_ hr
      cases hb : (decide (r.k.length ≤ 2147483647) && decide (r.v.length ≤ 2147483647)) with
      | true =>
        have HB := hid hb
        clear hb
        go_wp2_with (go_at_call 34; refine (fits7_any r _).mono ?_; rintro e w4 ⟨rfl, ho4⟩; rw [HB.out])
        exact ⟨⟨k + 1, rfl, h4, by rw [HX.out, HD.out, HB.out, Bool.true_and], ((ho.alloc _).new ho4)⟩, by simp [intOf]; omega⟩
      | false =>
        have HB := hid hb
        clear hb
        go_wp2_with (go_at_call 34; refine (fits7_any r _).mono ?_; rintro e w4 ⟨rfl, ho4⟩; rw [HB.out])
        go_ret
        exact ⟨ret_bool (by rw [HX.out, HD.out, HB.out, Bool.false_and]), ((ho.alloc _).new ho4)⟩
    · have h4' : ¬ (k : Int) < (l.length : Int) := by omega
      have HR := hid (show (true : Bool) = fits6 l by rw [HX.out, List.drop_eq_nil_of_le (by omega)]; rfl)
      clear HX
      go_wp2
      go_ret
      exact ⟨ret_bool HR.out, ho⟩
def okP (l : List Pr) : Bool := decide (l.length ≤ 2147483647) && fits6 l
set_option maxHeartbeats 800000 in
theorem fits6_any (A : Option Addr) (c : Nat) (l : List Pr) (w : World) (h : Prs w A l) :
    Calls Tryd.prog 10 #[.slice A l.length c] w fun e w' => e = .returned (.bool (okP l)) ∧ Only [] w w' := by
  unfold okP
  by_cases hl : l.length ≤ 2147483647
  · simpa [hl] using fits6_in A c l w h hl
  · have d0 : decide (2147483647 < (l.length : Int)) = true := decide_eq_true (by omega)
    have d0' : decide (2147483647 < l.length) = true := decide_eq_true (by omega)
    have HR := hid (show (false : Bool) = (decide (l.length ≤ 2147483647) && fits6 l) by simp [hl])
    clear hl
    go_enter Tryd.func10, Tryd.ntmps10
    go_wp2
    go_ret
    exact ⟨ret_bool HR.out, Only.refl _ _⟩

def wgt (l : List Pr) : Nat := (l.map fun r => r.k.length + r.v.length + 1).sum
theorem wgt_bound {M : Nat} : ∀ {l : List Pr}, (∀ r ∈ l, r.k.length ≤ M ∧ r.v.length ≤ M) → wgt l ≤ l.length * (2 * M + 1)
  | [], _ => by simp [wgt]
  | r :: l, h => by
    have h1 := h r (by simp)
    have h2 := wgt_bound (l := l) fun r hr => h r (by simp [hr])
    simp only [wgt, List.map_cons, List.sum_cons, List.length_cons, Nat.add_mul, Nat.one_mul] at h2 ⊢
    omega
theorem fits6_mem {l : List Pr} (h : fits6 l = true) : ∀ r ∈ l, r.k.length ≤ 2147483647 ∧ r.v.length ≤ 2147483647 := by
  simpa [fits6] using h
theorem okP_len {l : List Pr} (h : okP l = true) : l.length ≤ 2147483647 ∧ wgt l ≤ 9223372036854775807 ∧ ∀ r ∈ l, r.k.length ≤ 2147483647 ∧ r.v.length ≤ 2147483647 := by
  simp only [okP, Bool.and_eq_true, decide_eq_true_eq] at h
  have := wgt_bound (fits6_mem h.2)
  refine ⟨h.1, Nat.le_trans this ?_, fits6_mem h.2⟩
  have : l.length * (2 * 2147483647 + 1) ≤ 2147483647 * (2 * 2147483647 + 1) := Nat.mul_le_mul_right _ h.1
  omega
theorem wgt_drop {l : List Pr} {k : Nat} (h : k < l.length) : wgt (l.drop k) = (l[k].k.length + l[k].v.length + 1) + wgt (l.drop (k + 1)) := by
  rw [← List.getElem_cons_drop h]; simp only [wgt, List.map_cons, List.sum_cons]
theorem wgt_len (l : List Pr) : l.length ≤ wgt l := by
  induction l with
  | nil => simp
  | cons r l ih => simp only [wgt, List.map_cons, List.sum_cons, List.length_cons] at ih ⊢; omega
theorem wgt_mem {l : List Pr} {r : Pr} (h : r ∈ l) : r.k.length + r.v.length + 1 ≤ wgt l := by
  induction l with
  | nil => cases h
  | cons x l ih =>
    simp only [wgt, List.map_cons, List.sum_cons] at ih ⊢
    rcases List.mem_cons.1 h with rfl | h
    · omega
    · have := ih h; omega
theorem i64_id63 {x : Int} (h0 : -9223372036854775808 ≤ x) (h1 : x ≤ 9223372036854775807) : IntKind.i64.wrap x = x := by
  simp [IntKind.wrap, IntKind.bits, IntKind.signed]; omega
set_option maxHeartbeats 800000 in
theorem few_any (A : Option Addr) (c : Nat) (l : List Pr) (w : World) (h : Prs w A l) (hb : wgt l ≤ 9223372036854775807) (hl : l.length ≤ 2147483647) :
    Calls Tryd.prog 16 #[.slice A l.length c] w fun e w' => e = .returned (.bool (decide (wgt l ≤ 1048576))) ∧ Only [] w w' := by
  go_enter Tryd.func16, Tryd.ntmps16
  go_wp2
  go_loopw [8, 3] (fun i s wr => ∃ k n : Nat, i = .int .i64 k ∧ s = .int .i64 n ∧ k ≤ l.length ∧ wgt l = n + wgt (l.drop k) ∧ Only [] w wr) (fun i _ _ => l.length - (intOf i).toNat)
  case atStart => exact ⟨0, 0, rfl, rfl, Nat.zero_le _, by simp, Only.refl _ _⟩
  case round =>
    obtain ⟨k, n, rfl, rfl, hk, hx, ho⟩ := hrel
    by_cases h4 : k < l.length
    · have h4' : (k : Int) < (l.length : Int) := by omega
      have hr : l[k]? = some l[k] := List.getElem?_eq_getElem h4
      have hd := wgt_drop h4
      generalize l[k] = r at hr hd
      obtain ⟨g, o, rfl, c1, c2⟩ := (h.keep0 ho).at_ hr
      have e1 : IntKind.i64.wrap ((r.k.length : Int) + (r.v.length : Int)) = (r.k.length : Int) + (r.v.length : Int) := i64_id63 (by omega) (by omega)
      have e2 : IntKind.i64.wrap ((r.k.length : Int) + (r.v.length : Int) + 1) = (r.k.length : Int) + (r.v.length : Int) + 1 := i64_id63 (by omega) (by omega)
      have e3 : IntKind.i64.wrap ((n : Int) + ((r.k.length : Int) + (r.v.length : Int) + 1)) = (n : Int) + ((r.k.length : Int) + (r.v.length : Int) + 1) := i64_id63 (by omega) (by omega)
      have HD := hid (show wgt l = (n + (r.k.length + r.v.length + 1)) + wgt (l.drop (k + 1)) by omega)
      clear hd hx hb
      go_wp2
      exact ⟨⟨k + 1, n + (r.k.length + r.v.length + 1), rfl, by simp, h4, HD.out, ho.alloc _⟩, by simp [intOf]; omega⟩
    · have h4' : ¬ (k : Int) < (l.length : Int) := by omega
      have HR := hid (show decide ((n : Int) ≤ 1048576) = decide (wgt l ≤ 1048576) by rw [hx, List.drop_eq_nil_of_le (by omega)]; simp [wgt]; omega)
      clear hx hb
      go_wp2
      go_ret
      exact ⟨ret_bool HR.out, ho⟩
end Go.Proofs.YtloflmcgbbbnjaaDoor
namespace Go.Proofs.YtloflmcgbbbnjaaDoor
open Go.RowKit Plain Go.ChangeShapes Go.WideShapes Go.ChangeAt
set_option linter.all false

structure PL where
  A : Option Addr
  c : Nat
  l : List Pr
def PL.cells (r : PL) : List Value := [.slice r.A r.l.length r.c]
theorem PL.cells_length (r : PL) : r.cells.length = 1 := rfl
structure PL.Ok (w : World) (r : PL) : Prop where
  hp : Prs w r.A r.l
  hc : r.l.length ≤ r.c
  hm : r.c ≤ maxLen
theorem PL.Ok.keep0 {w w' : World} {r : PL} (h : PL.Ok w r) (hb : Only [] w w') : PL.Ok w' r := ⟨h.hp.keep0 hb, h.hc, h.hm⟩
structure PLs (w : World) (A : Option Addr) (l : List PL) : Prop where
  row : CsAt w A (l.flatMap PL.cells)
  ok : ∀ r ∈ l, r.Ok w
theorem PLs.keep0 {w w' : World} {A : Option Addr} {l : List PL} (h : PLs w A l) (hb : Only [] w w') : PLs w' A l := ⟨h.row.keep0 hb, fun r hr => (h.ok r hr).keep0 hb⟩
theorem PLs.at_ {w : World} {A : Option Addr} {l : List PL} (h : PLs w A l) {i : Nat} {r : PL} (hr : l[i]? = some r) :
    ∃ g o, A = some ⟨g, o, none⟩ ∧ w.cell? ⟨g, o + i, none⟩ = some (.slice r.A r.l.length r.c) := by
  obtain ⟨g, o, e, hc⟩ := CsAt.at_row PL.cells 1 PL.cells_length (by omega) h.row hr
  exact ⟨g, o, e, by have := hc 0 (by omega); rwa [Nat.mul_one, Nat.add_zero] at this⟩
set_option maxRecDepth 100000 in
theorem open_pls {H : Type} {enc : TypeId × Value → H} {W : World} {base : Nat} {spare : Nat → Bool} {held : Bool} {a : Option Addr} {len cap : Nat} {d : DataW H} {ps : List MemPlace}
    (h : DataW.Trod enc Tryd.prog W base spare held 46 (.slice a len cap) d ps) : ∃ l : List PL, len = l.length ∧ l.length ≤ cap ∧ cap ≤ maxLen ∧ PLs W a l := by
  obtain ⟨fuel, hf⟩ := h
  obtain ⟨A, l, c, e, h1, h2, h3, h4⟩ := open_rows PL.cells (fun r => r.Ok W) 1 Tryd.underlying46 (by kernel_rfl) PL.cells_length (by omega) (fun n c y h => by
    obtain ⟨A, l, cc, e1, h1, h2, h3, h4⟩ := open_rows Pr.cells (fun r => r.Ok W) 2 Tryd.underlying22 (by kernel_rfl) Pr.cells_length (by omega) (fun n c y h => open_pr h) h
    exact ⟨⟨A, cc, l⟩, e1, ⟨h3, h4⟩, h1, h2⟩) hf
  simp [Value.cells] at e
  obtain ⟨rfl, rfl, rfl⟩ := e
  exact ⟨l, rfl, h1, h2, ⟨h3, h4⟩⟩
def fits8 (l : List PL) : Bool := decide (l.length ≤ 2147483647) && l.all fun r => okP r.l
set_option maxHeartbeats 1600000 in
set_option maxRecDepth 100000 in
theorem fits8_any (A : Option Addr) (c n : Nat) (l : List PL) (w : World) (h : PLs w A l) (hn : n = l.length) :
    Calls Tryd.prog 23 #[.slice A n c] w fun e w' => e = .returned (.bool (fits8 l)) ∧ Only [] w w' := by
  have HH := hid h
  have HN := hid hn
  obtain ⟨res, hres⟩ : ∃ res, fits8 l = res := ⟨_, rfl⟩
  have HRES := hid hres
  rw [hres]
  by_cases hl : n ≤ 2147483647
  · have d0 : decide (2147483647 < (n : Int)) = false := decide_eq_false (by omega)
    have d0' : decide (2147483647 < n) = false := decide_eq_false (by omega)
    clear h hn hres
    go_enter Tryd.func23, Tryd.ntmps23
    go_wp2_with fail
    go_loopw [10] (fun i wr => ∃ k : Nat, i = .int .i64 k ∧ k ≤ n ∧ Hid (∀ r ∈ l.take k, okP r.l = true) ∧ Hid (Only [] w wr)) (fun i _ => n - (intOf i).toNat)
    case atStart => exact ⟨0, rfl, Nat.zero_le _, hid (by simp), hid (Only.refl _ _)⟩
    case round =>
      obtain ⟨k, rfl, hk, HK, HO⟩ := hrel
      obtain ⟨w2, rfl⟩ : ∃ w2, w2 = wr := ⟨_, rfl⟩
      by_cases h4 : k < n
      · have h4' : (k : Int) < (n : Int) := by omega
        have hkl : k < l.length := by rw [← HN.out]; exact h4
        have hr : l[k]? = some l[k] := List.getElem?_eq_getElem hkl
        have hm : l[k] ∈ l := List.getElem_mem hkl
        have htk : l.take (k + 1) = l.take k ++ [l[k]] := List.take_succ_eq_append_getElem hkl
        generalize l[k] = r at hr hm htk
        have hp := HH.out.keep0 HO.out
        obtain ⟨g, o, rfl, p0⟩ := hp.at_ hr
        have HPR := hid (hp.ok r hm).hp
        have HT := hid htk
        have HM := hid hm
        clear hr hm htk hp
        cases ho : okP r.l with
        | true =>
          have HOK := hid ho
          go_wp2_with fail
          refine (fits6_any r.A r.c r.l _ HPR.out).mono ?_
          rintro e w3 ⟨rfl, ho3⟩
          rw [HOK.out]
          have HO3 := hid (HO.out.new ho3)
          clear ho3 p0
          go_wp2_with fail
          go_roundw
          case rel =>
            refine ⟨k + 1, by go_num, by omega, hid fun r' hr' => ?_, HO3⟩
            rw [HT.out] at hr'
            rcases List.mem_append.1 hr' with hr' | hr'
            · exact HK.out r' hr'
            · simp at hr'; rw [hr']; exact HOK.out
          case measure => simp [intOf]; omega
        | false =>
          have HOK := hid ho
          go_wp2_with fail
          refine (fits6_any r.A r.c r.l _ HPR.out).mono ?_
          rintro e w3 ⟨rfl, ho3⟩
          rw [HOK.out]
          have HO3 := hid (HO.out.new ho3)
          clear ho3 p0
          go_wp2_with fail
          go_ret
          refine ⟨?_, HO3.out⟩
          rw [← HRES.out]
          have : fits8 l = false := by
            unfold fits8
            rw [Bool.and_eq_false_iff]; right
            rw [List.all_eq_false]
            exact ⟨r, HM.out, by rw [HOK.out]; simp⟩
          rw [this]; rfl
      · have h4' : ¬ (k : Int) < (n : Int) := by omega
        obtain rfl : n = k := by omega
        go_wp2_with fail
        go_ret
        refine ⟨?_, HO.out⟩
        rw [← HRES.out]
        have h5 := HK.out
        rw [List.take_of_length_le (by rw [← HN.out]; exact Nat.le_refl _)] at h5
        have : fits8 l = true := by
          unfold fits8
          rw [Bool.and_eq_true, decide_eq_true_iff, List.all_eq_true]
          exact ⟨by rw [← HN.out]; exact hl, h5⟩
        rw [this]; rfl
  · have d0 : decide (2147483647 < (n : Int)) = true := decide_eq_true (by omega)
    have d0' : decide (2147483647 < n) = true := decide_eq_true (by omega)
    clear h hn hres
    go_enter Tryd.func23, Tryd.ntmps23
    go_wp2_with fail
    go_ret
    refine ⟨?_, Only.refl _ _⟩
    rw [← HRES.out]
    have : fits8 l = false := by
      unfold fits8
      rw [decide_eq_false (by rw [← HN.out]; exact hl)]; rfl
    rw [this]; rfl
end Go.Proofs.YtloflmcgbbbnjaaDoor
namespace Go.Proofs.YtloflmcgbbbnjaaDoor
open Go.RowKit Plain Go.ChangeShapes Go.WideShapes Go.ChangeAt
set_option linter.all false

theorem Plain.bulk_pos {H : Type} (d : DataW H) : 1 ≤ Rows.uptoBulk d := by
  cases d with
  | lit l => cases l <;> simp [Rows.uptoBulk]
  | _ => simp [Rows.uptoBulk]
theorem Plain.bulkAll_nth {H : Type} : ∀ (ds : List (DataW H)) (m : Nat → Nat) (n : Nat), ds.length = n → (∀ i d, ds[i]? = some d → m i ≤ Rows.uptoBulk d) → ((List.range n).map m).sum ≤ Rows.uptoBulkAll ds
  | [], m, n, hn, h => by simp at hn; subst hn; simp [Rows.uptoBulkAll]
  | d :: ds, m, n, hn, h => by
    obtain ⟨k, rfl⟩ : ∃ k, n = k + 1 := ⟨ds.length, by simp at hn; omega⟩
    have h1 := h 0 d rfl
    have h2 := bulkAll_nth ds (fun i => m (i + 1)) k (by simp at hn; exact hn) (fun i d hd => h (i + 1) d (by simpa using hd))
    rw [List.range_succ_eq_map, List.map_cons, List.map_map, List.sum_cons, Rows.uptoBulkAll]
    have : (List.map (m ∘ Nat.succ) (List.range k)) = List.map (fun i => m (i + 1)) (List.range k) := rfl
    rw [this]
    exact Nat.add_le_add h1 h2
theorem Plain.sum_ones {α : Type} : ∀ l : List α, (l.map fun _ => 1).sum = l.length
  | [] => rfl
  | x :: l => by rw [List.map_cons, List.sum_cons, Plain.sum_ones l, List.length_cons]; omega
theorem Plain.sum_nth {α : Type} (f : α → Nat) : ∀ (l : List α) (m : Nat → Nat), (∀ i x, l[i]? = some x → f x = m i) → (l.map f).sum = ((List.range l.length).map m).sum
  | [], m, h => by simp
  | x :: l, m, h => by
    have h1 := h 0 x rfl
    have h2 := sum_nth f l (fun i => m (i + 1)) (fun i d hd => h (i + 1) d (by simpa using hd))
    rw [List.map_cons, List.sum_cons, List.length_cons, List.range_succ_eq_map, List.map_cons, List.map_map, List.sum_cons, h1, h2]
    rfl
section
variable {H : Type} {enc : TypeId × Value → H} {P : Program} {W : World} {base : Nat} {spare : Nat → Bool} {held : Bool}
theorem open_rowsB {α : Type} (f : α → List Value) (ok : α → Prop) (wt : α → Nat) (S : Nat) {fuel : Nat} {t e : TypeId} {cs : List Value} {x : DataW H × List MemPlace} (ht : P.underlying t = some (.slice e)) (hc : P.cellsOf e = S) (hS : ∀ x, (f x).length = S) (h0 : 0 < S)
    (hop : ∀ (n : Nat) (c : List Value) (y : DataW H × List MemPlace), DataW.trod enc P W base spare held n e c = some y → ∃ x, c = f x ∧ ok x ∧ wt x ≤ Rows.uptoBulk y.1)
    (h : DataW.trod enc P W base spare held fuel t cs = some x) : ∃ (A : Option Addr) (l : List α) (c : Nat), cs = [.slice A l.length c] ∧ l.length ≤ c ∧ c ≤ maxLen ∧ CsAt W A (l.flatMap f) ∧ (∀ y ∈ l, ok y) ∧ (l.map wt).sum ≤ Rows.uptoBulk x.1 := by
  rcases DataW.trod_slice ht h with ⟨rfl, _⟩ | ⟨a, len, cap, elems, rest, n, _, rfl, hx, _, hl, hm, hlen, hel, _⟩
  · exact ⟨none, [], 0, rfl, Nat.le_refl _, Nat.zero_le _, CsAt.nil _ _, fun y hy => (by simp at hy), Nat.zero_le _⟩
  · obtain ⟨l, hll, hp⟩ := choose_list (α := α) len (fun i x => (∀ j, j < S → W.cell? ((a.add (i * S)).add j) = (f x)[j]?) ∧ ok x ∧ ∀ e, elems[i]? = some e → wt x ≤ Rows.uptoBulk e.1) fun i hi => by
      have h1 := hel i hi
      rw [List.getElem?_eq_getElem (by omega), Option.bind_eq_some_iff, hc] at h1
      obtain ⟨c, hcs, hy⟩ := h1
      obtain ⟨x, rfl, hx, hw⟩ := hop n c _ hy
      obtain ⟨_, _, hcell⟩ := World.cells?_some hcs
      refine ⟨x, hcell, hx, fun e he => ?_⟩
      rw [List.getElem?_eq_getElem (by omega)] at he
      cases he
      exact hw
    subst hll
    refine ⟨some a, l, cap, rfl, hl, hm, fun k hk => ?_, fun y hy => ?_, ?_⟩
    · rw [flat_length f S hS] at hk
      have hi : k / S < l.length := (Nat.div_lt_iff_lt_mul h0).2 hk
      have hj : k % S < S := Nat.mod_lt _ h0
      obtain ⟨g, o, spot⟩ := a
      have hc0 := (hp (k / S) l[k / S] (List.getElem?_eq_getElem hi)).1 (k % S) hj
      have hsp : spot = none := by
        have hl0 : 0 < l.length := Nat.lt_of_le_of_lt (Nat.zero_le _) hi
        have hs0 : 0 < (f l[0]).length := by rw [hS]; exact h0
        have hs := (hp 0 l[0] (List.getElem?_eq_getElem hl0)).1 0 h0
        rw [List.getElem?_eq_getElem hs0, Nat.zero_mul] at hs
        have h0' := World.cell?_spot hs
        simpa [Addr.add] using h0'
      subst hsp
      rw [add_none, add_none] at hc0
      refine ⟨g, o, rfl, ?_⟩
      have hk' : k / S * S + k % S = k := by rw [Nat.mul_comm]; exact Nat.div_add_mod k S
      have hfl := flat_get f S hS l (k / S) l[k / S] (k % S) (List.getElem?_eq_getElem hi) hj
      rw [hk'] at hfl
      rw [hfl, ← hc0, show o + k / S * S + k % S = o + k by omega]
    · obtain ⟨i, hi, rfl⟩ := List.getElem_of_mem hy
      exact (hp i _ (List.getElem?_eq_getElem hi)).2.1
    · rw [hx]
      simp only [Rows.uptoBulk]
      have h1 := Plain.sum_nth wt l (fun i => match l[i]? with | some x => wt x | none => 0) (fun i x hx => by simp [hx])
      have h2 := Plain.bulkAll_nth (elems.map (·.1)) (fun i => match l[i]? with | some x => wt x | none => 0) l.length (by rw [List.length_map, hlen]) (fun i d hd => by
        rw [List.getElem?_map, Option.map_eq_some_iff] at hd
        obtain ⟨e, he, rfl⟩ := hd
        have hi : i < l.length := by rw [← hlen]; exact (List.getElem?_eq_some_iff.1 he).1
        rw [List.getElem?_eq_getElem hi]
        exact (hp i _ (List.getElem?_eq_getElem hi)).2.2 e he)
      omega
end
set_option maxRecDepth 100000 in
theorem open_plsB {H : Type} {enc : TypeId × Value → H} {W : World} {base : Nat} {spare : Nat → Bool} {held : Bool} {a : Option Addr} {len cap : Nat} {d : DataW H} {ps : List MemPlace}
    (h : DataW.Trod enc Tryd.prog W base spare held 46 (.slice a len cap) d ps) : ∃ l : List PL, len = l.length ∧ l.length ≤ cap ∧ (cap ≤ maxLen ∧ (l.flatMap PL.l).length ≤ Rows.uptoBulk d) ∧ PLs W a l := by
  obtain ⟨fuel, hf⟩ := h
  obtain ⟨A, l, c, e, h1, h2, h3, h4, h5⟩ := open_rowsB PL.cells (fun r => r.Ok W) (fun r => r.l.length) 1 Tryd.underlying46 (by kernel_rfl) PL.cells_length (by omega) (fun n c y h => by
    obtain ⟨A, l, cc, e1, h1, h2, h3, h4, h5⟩ := open_rowsB Pr.cells (fun r => r.Ok W) (fun _ => 1) 2 Tryd.underlying22 (by kernel_rfl) Pr.cells_length (by omega) (fun n c y h => by
      obtain ⟨x, e, hx⟩ := open_pr h
      exact ⟨x, e, hx, Plain.bulk_pos _⟩) h
    refine ⟨⟨A, cc, l⟩, e1, ⟨⟨h3, h4⟩, h1, h2⟩, ?_⟩
    rw [Plain.sum_ones] at h5
    exact h5) hf
  simp [Value.cells] at e
  obtain ⟨rfl, rfl, rfl⟩ := e
  refine ⟨l, rfl, h1, ⟨h2, ?_⟩, ⟨h3, h4⟩⟩
  rw [List.length_flatMap]
  exact h5
end Go.Proofs.YtloflmcgbbbnjaaDoor
namespace Go.Proofs.YtloflmcgbbbnjaaDoor
open Go.RowKit Plain

/-- As bytes.Compare says it. -/
def bcmp (a b : List UInt8) : Int := Lib.compareBytes a b
theorem bcmp_spec (a b : List UInt8) : (bcmp a b = -1 ∧ cmpI a b < 0) ∨ (bcmp a b = 0 ∧ cmpI a b = 0) ∨ (bcmp a b = 1 ∧ 0 < cmpI a b) := by
  unfold bcmp
  induction a generalizing b with
  | nil =>
    cases b with
    | nil => simp [Lib.compareBytes]
    | cons y b => simp [Lib.compareBytes]
  | cons x a ih =>
    cases b with
    | nil => simp [Lib.compareBytes]
    | cons y b =>
      rw [Lib.compareBytes, cmpI_cons]
      by_cases h1 : x < y
      · have h1' := UInt8.lt_iff_toNat_lt.1 h1
        have : x ≠ y := fun e => by subst e; omega
        rw [if_pos h1, if_neg this]
        exact .inl ⟨rfl, by omega⟩
      · rw [if_neg h1]
        by_cases h2 : y < x
        · have h2' := UInt8.lt_iff_toNat_lt.1 h2
          have : x ≠ y := fun e => by subst e; omega
          rw [if_pos h2, if_neg this]
          exact .inr (.inr ⟨rfl, by omega⟩)
        · rw [if_neg h2]
          have : x = y := by
            rw [UInt8.lt_iff_toNat_lt] at h1 h2
            exact UInt8.toNat_inj.1 (by omega)
          rw [if_pos this]
          exact ih b
theorem bcmp_lt {a b : List UInt8} : bcmp a b < 0 ↔ cmpI a b < 0 := by have := bcmp_spec a b; omega
theorem bcmp_ge {a b : List UInt8} : 0 ≤ bcmp a b ↔ 0 ≤ cmpI a b := by have := bcmp_spec a b; omega
theorem bcmp_gt {a b : List UInt8} : 0 < bcmp a b ↔ 0 < cmpI a b := by have := bcmp_spec a b; omega
theorem bcmp_eq0 {a b : List UInt8} : bcmp a b = 0 ↔ cmpI a b = 0 := by have := bcmp_spec a b; omega
theorem bcmp_lo (a b : List UInt8) : -1 ≤ bcmp a b := by have := bcmp_spec a b; omega
theorem bcmp_hi (a b : List UInt8) : bcmp a b ≤ 1 := by have := bcmp_spec a b; omega

theorem bytesOf_map (l : List UInt8) : Lib.bytesOf (l.map fun b => (b.toNat : Int)) = l := by
  unfold Lib.bytesOf
  rw [List.map_map]
  induction l with
  | nil => rfl
  | cons b l ih => rw [List.map_cons, ih]; simp
theorem run_bytesOf {P : Program} {w : World} {A : Option Addr} {l : List UInt8} (n c : Nat) (hn : n = l.length) (h : BsAt w A l) : (Extern.Bytes.bytesOf (.slice A n c)).run P w = .ok (bstr l) w := by
  subst hn
  have key : ∀ ad : Addr, A = some ad → (∀ j (x : UInt8), l[j]? = some x → w.cell? (ad.add j) = some (.int .u8 x.toNat)) → (Extern.Bytes.bytesOf (.slice A l.length c)).run P w = .ok (bstr l) w := fun ad e hc => by
    subst e
    have := Lib.run_loadBytesX (P := P) (w := w) (l.map fun b => (b.toNat : Int)) ad .empty (fun j x hj => by
      rw [List.getElem?_map] at hj
      cases hl : l[j]? with
      | none => rw [hl] at hj; cases hj
      | some y => rw [hl] at hj; cases hj; exact hc j y hl)
    simp only [Extern.Bytes.bytesOf]
    rw [List.length_map] at this
    rw [this, bytesOf_map]
    simp [bstr]
  rcases Nat.eq_zero_or_pos l.length with h0 | h0
  · obtain rfl : l = [] := List.eq_nil_of_length_eq_zero h0
    cases A with
    | none => simp [Extern.Bytes.bytesOf]; rfl
    | some ad => exact key ad rfl (fun j x hj => by simp at hj)
  · obtain ⟨g, o, e, _, hc⟩ := h.addr h0
    refine key _ e fun j x hj => ?_
    have hjl := (List.getElem?_eq_some_iff.1 hj).1
    rw [add_none, hc j hjl, bz, at_get hjl]
    rw [List.getElem?_eq_getElem hjl] at hj
    injection hj with hj
    rw [hj]
theorem run_compareBs {P : Program} {w : World} {A B : Option Addr} {a b : List UInt8} (n m ca cb : Nat) (hn : n = a.length) (hm : m = b.length) (ha : BsAt w A a) (hb : BsAt w B b) :
    (Extern.BytealgCompare.compare #[.slice A n ca, .slice B m cb]).run P w = .ok (.int .i64 (bcmp a b)) w := by
  change Sem.run P ((Extern.Bytes.bytesOf (.slice A n ca)) >>= fun x => (Extern.Bytes.bytesOf (.slice B m cb)) >>= fun y => pure (goInt (Extern.BytealgCompare.cmp x y))) w = _
  simp only [Sem.run_bind, run_bytesOf n ca hn ha, Result.andThen, run_bytesOf m cb hm hb]
  rw [show Extern.BytealgCompare.cmp (bstr a) (bstr b) = bcmp a b by rw [Lib.cmp_eq, bstr_toList, bstr_toList]; rfl]
  rfl

set_option maxHeartbeats 800000 in
set_option maxRecDepth 100000 in
theorem bytesCompare_any (A B : Option Addr) (n m ca cb : Nat) (a b : List UInt8) (w : World) (ha : BsAt w A a) (hb : BsAt w B b) (hn : n = a.length) (hm : m = b.length) :
    Calls Tryd.prog 174 #[.slice A n ca, .slice B m cb] w fun e w' => e = .returned (.int .i64 (bcmp a b)) ∧ w = w' := by
  subst hn; subst hm
  go_enter Tryd.func174, Tryd.ntmps174
  go_wp2
  rw [run_callFunc_extern Tryd.func175 (by kernel_rfl) (by kernel_rfl) (by kernel_rfl) (e := Extern.BytealgCompare.compare) (by kernel_rfl), run_compareBs a.length b.length ca cb rfl rfl ha hb]
  simp only [Result.andThen]
  rw [Oper.upon_value]
  go_wp2
  go_ret
  exact ⟨rfl, rfl⟩
set_option maxHeartbeats 800000 in
set_option maxRecDepth 100000 in
theorem cmpCompare_any (A B : Option Addr) (n m ca cb : Nat) (a b : List UInt8) (w : World) (ha : BsAt w A a) (hb : BsAt w B b) (hn : n = a.length) (hm : m = b.length) :
    Calls Tryd.prog 170 #[.agg #[], .slice A n ca, .slice B m cb] w fun e w' => e = .returned (.int .i64 (bcmp a b)) ∧ Only [] w w' := by
  subst hn; subst hm
  go_enter Tryd.func170, Tryd.ntmps170
  go_wp2_with (go_at_call 174; refine (bytesCompare_any A B _ _ ca cb a b _ (ha.alloc _) (hb.alloc _) rfl rfl).mono ?_; rintro e w' ⟨rfl, rfl⟩)
  go_ret
  exact ⟨rfl, (Only.refl _ _).alloc _⟩
end Go.Proofs.YtloflmcgbbbnjaaDoor
namespace Go.Proofs.YtloflmcgbbbnjaaDoor
theorem Tryd.info_u8 : (Tryd.prog.info? 5).map (fun i => (i.zero, i.size, i.bytes)) = some (some (.int .u8 0), 1, 1) := by kernel_rfl
theorem Tryd.size_u8 : (Tryd.prog.info? 5).map (·.size) = some 1 := by kernel_rfl
end Go.Proofs.YtloflmcgbbbnjaaDoor
namespace Go.Proofs.YtloflmcgbbbnjaaDoor
open Go.RowKit Plain

set_option maxHeartbeats 400000 in
theorem compare_any (A B : Option Addr) (ca cb : Nat) (a b : List UInt8) (w : World) (ha : BsAt w A a) (hb : BsAt w B b) (la : a.length ≤ 140737488351232) (lb : b.length ≤ 140737488351232) :
    Calls Tryd.prog 41 #[.slice A a.length ca, .slice B b.length cb] w fun e w' => e = .returned (.int .i64 (cmpI a b)) ∧ Dr w w' := by
  go_enter Tryd.func41, Tryd.ntmps41
  go_wp2
  go_loopw [5] (fun i wr => ∃ k : Nat, i = .int .i64 k ∧ k ≤ shared a b ∧ Dr w wr) (fun i _ => a.length - (intOf i).toNat)
  case atStart => exact ⟨0, rfl, Nat.zero_le _, Dr.refl _⟩
  case round =>
    obtain ⟨k, rfl, hk, ⟨n, rfl⟩⟩ := hrel
    have hs := shared_le a b
    by_cases h1 : k < a.length
    · by_cases h2 : k < b.length
      · obtain ⟨g, o, rfl, hc⟩ := ha k h1
        obtain ⟨g', o', rfl, hc'⟩ := hb k h2
        have t1 : decide ((k : Int) < (a.length : Int)) = true := by simp; omega
        have t2 : decide ((k : Int) < (b.length : Int)) = true := by simp; omega
        by_cases e : at_ a k = at_ b k
        · have e1 : bz a k = bz b k := bz_eq.2 e
          have hk' := shared_step hk h1 h2 e
          go_wp2
          repeat (go_quiet (fail); try go_wp2)
          go_roundw
          case rel => exact ⟨k + 1, by go_num, hk', by repeat (first | exact Dr.refl _ | apply Dr.step)⟩
          case measure => simp [intOf]; omega
        · have hk' := shared_stop hk e
          have hv := cmpI_at k hk' h1 h2
          have h8 := bz_lo a k; have h9 := bz_lo b k; have h10 := bz_hi a k; have h11 := bz_hi b k
          have e2 : (bz a k != bz b k) = true := by rw [bne_iff_ne]; exact fun h => e (bz_eq.1 h)
          clear hk' e
          have HV := hid hv
          clear hv
          go_wp2
          repeat (go_quiet (fail); try go_wp2)
          go_ret
          exact ⟨ret_int HV.out.symm, by repeat (first | exact Dr.refl _ | apply Dr.step)⟩
      · have hv := cmpI_end (a := a) (b := b) (by omega)
        have HV := hid hv
        clear hv
        go_wp2
        go_ret
        exact ⟨ret_int HV.out.symm, by repeat (first | exact Dr.refl _ | apply Dr.step)⟩
    · have hv := cmpI_end (a := a) (b := b) (by omega)
      have HV := hid hv
      clear hv
      go_wp2
      go_ret
      exact ⟨ret_int HV.out.symm, by repeat (first | exact Dr.refl _ | apply Dr.step)⟩
theorem compare_n (A B : Option Addr) (n m ca cb : Nat) (a b : List UInt8) (w : World) (ha : BsAt w A a) (hb : BsAt w B b) (la : a.length ≤ 140737488351232) (lb : b.length ≤ 140737488351232) (hn : n = a.length) (hm : m = b.length) :
    Calls Tryd.prog 41 #[.slice A n ca, .slice B m cb] w fun e w' => e = .returned (.int .i64 (cmpI a b)) ∧ Dr w w' := by
  subst hn; subst hm; exact compare_any A B ca cb a b w ha hb la lb

end Go.Proofs.YtloflmcgbbbnjaaDoor
namespace Go.Proofs.YtloflmcgbbbnjaaDoor
open Go.RowKit Plain

section
variable {P : Program} {ops : Array Oper} {o : Oper} {a : Act} {w0 w : World} {R : List Fr} {K : Act → World → Prop} {Q : Exit → Act → World → Prop} {E : Prop}
theorem run_append_any (t ty e : TypeId) (z : Value) (size bytes : Nat) (ht : P.underlying t = some (.slice e)) (hinfo : (P.info? e).map (fun i => (i.zero, i.size, i.bytes)) = some (some z, size, bytes)) (hzs : z.cells.size = size) (hsz : 0 < size)
    (v : Value) (n : Nat) (xs : List Value) (hown : w.ownsRow 0 e size v n xs) (A : Option Addr) (m c : Nat) (news : List Value) (hl : news.length = m * size) (hA : CsAt w A news)
    (h1 : ∀ u ∈ news, u.oneCell' = true) (h63 : n + m ≤ maxLen) (hbytes : (n + m) * bytes ≤ 140737488355328) :
    ∃ v' w', (Builtin.append_ #[t, t] ty #[v, .slice A m c]).run P w = .ok v' w' ∧ w'.ownsRow 0 e size v' (n + m) (xs ++ news) ∧ w.grownBy w' v.ownBlock ∧ (v' = .slice none 0 0 ↔ v = .slice none 0 0 ∧ m = 0) ∧ (v'.ownBlock = v.ownBlock ∨ v'.ownBlock = some w.heap.size) := by
  obtain ⟨i, hi, hzz⟩ := Option.map_eq_some_iff.1 hinfo
  simp only [Prod.mk.injEq] at hzz
  obtain ⟨hz, hss, hbt⟩ := hzz
  have key : ∀ ad, A = some ad → (∀ j u, news[j]? = some u → w.cell? (ad.add j) = some u) → ∃ v' w', (Builtin.append_ #[t, t] ty #[v, .slice A m c]).run P w = .ok v' w' ∧ w'.ownsRow 0 e size v' (n + m) (xs ++ news) ∧ w.grownBy w' v.ownBlock ∧ (v' = .slice none 0 0 ↔ v = .slice none 0 0 ∧ m = 0) ∧ (v'.ownBlock = v.ownBlock ∨ v'.ownBlock = some w.heap.size) := fun ad e2 hc => by
    subst e2
    exact run_append_own_at (P := P) w 0 t ty e i z size bytes ht hi hz hss hbt hzs hsz v n xs hown ad m c news hl hc h1 h63 hbytes (Nat.zero_le _)
  rcases Nat.eq_zero_or_pos news.length with h0 | h0
  · obtain rfl : news = [] := List.eq_nil_of_length_eq_zero h0
    rcases A with _ | ad
    · have hm : m = 0 := by
        rcases Nat.eq_zero_or_pos m with h | h
        · exact h
        · have := Nat.mul_pos h hsz; simp at hl; omega
      subst hm
      exact ⟨v, w, run_append_of_nil (P := P) (w := w) 0 t ty e i size ht hi v n xs hown c, by simpa using hown, World.grownBy.refl w _, by simp, .inl rfl⟩
    · exact key ad rfl (fun j u hj => by simp at hj)
  · obtain ⟨g, o', e2, _, hc⟩ := hA.addr h0
    refine key _ e2 fun j u hj => ?_
    have hjl := (List.getElem?_eq_some_iff.1 hj).1
    rw [add_none, hc j hjl, hj]

/-- append(s, src...) onto a row of the call's own. -/
theorem own_append_wp (s x : Operand) (t : TypeId) (ho : o.op = .call { callee := .builtin .append, args := #[s, x], argTypes := #[t, t] })
    (e : TypeId) (z : Value) (size bytes : Nat) (ht : P.underlying t = some (.slice e)) (hinfo : (P.info? e).map (fun i => (i.zero, i.size, i.bytes)) = some (some z, size, bytes)) (hzs : z.cells.size = size) (hsz : 0 < size)
    (A : Option Addr) (n c : Nat) (xs : List Value) (F : List Fr) (hs : a.eval s = .slice A n c) (hr : Row e size A n c xs F) (hO : Own (F ++ R) w0 w)
    (A2 : Option Addr) (m c2 : Nat) (news : List Value) (hx : a.eval x = .slice A2 m c2) (hl : news.length = m * size) (hA : CsAt w A2 news)
    (h1 : ∀ u ∈ news, u.oneCell' = true) (h63 : n + m ≤ maxLen) (hbytes : (n + m) * bytes ≤ 140737488355328)
    (h : ∀ A' c' F' w', Row e size A' (n + m) c' (xs ++ news) F' → Own (F' ++ R) w0 w' → (A' = none ↔ A = none ∧ m = 0) → K (a.put o.dst (.slice A' (n + m) c')) w') :
    o.wp P a w K Q := by
  obtain ⟨v', w', hrun, hown, hgr, hnil, hat⟩ := run_append_any (P := P) (w := w) t o.type e z size bytes ht hinfo hzs hsz (.slice A n c) n xs (hr.owns fun x hx => hO.ins x (List.mem_append_left _ hx)) A2 m c2 news hl hA h1 h63 hbytes
  unfold Oper.wp execOp
  simp only [ho, resolve, invoke, builtin, Sem.run_bind, Sem.run_pure, Result.andThen_ok, List.map_toArray, List.map_cons, List.map_nil, hs, hx, hrun]
  obtain ⟨A', c', F', rfl, hr', hb', hF, hdj⟩ := Row.of_owns hown
  refine h A' c' F' w' hr' ?_ ?_
  · have hFo := hr.block
    refine hO.swap hr.whole (Only.of_grown hgr fun k hk => by rw [hFo, hk]; simp) hb' (fun y hy => ?_) hdj
    have hy' : y.g ∈ F'.map (·.g) := List.mem_map.2 ⟨y, hy, rfl⟩
    rw [hF] at hy'
    rcases hat with e | e
    · rw [e, ← hFo] at hy'; exact .inl hy'
    · rw [e] at hy'; simp at hy'; exact .inr (by omega)
  · rw [hr'.none_iff, hnil, hr.none_iff]
theorem own_step_append (hgd : o.guard = none) (s x : Operand) (t : TypeId) (ho : o.op = .call { callee := .builtin .append, args := #[s, x], argTypes := #[t, t] })
    (e : TypeId) (z : Value) (size bytes : Nat) (ht : P.underlying t = some (.slice e)) (hinfo : (P.info? e).map (fun i => (i.zero, i.size, i.bytes)) = some (some z, size, bytes)) (hzs : z.cells.size = size) (hsz : 0 < size)
    (A : Option Addr) (n c : Nat) (xs : List Value) (F : List Fr) (hs : a.eval s = .slice A n c) (hr : Row e size A n c xs F) (hO : Own (F ++ R) w0 w)
    (A2 : Option Addr) (m c2 : Nat) (news : List Value) (hx : a.eval x = .slice A2 m c2) (hl : news.length = m * size) (hA : CsAt w A2 news)
    (h1 : ∀ u ∈ news, u.oneCell' = true) (h63 : n + m ≤ maxLen) (hbytes : (n + m) * bytes ≤ 140737488355328)
    (h : ∀ A' c' F' w', Row e size A' (n + m) c' (xs ++ news) F' → Own (F' ++ R) w0 w' → (A' = none ↔ A = none ∧ m = 0) → K (a.put o.dst (.slice A' (n + m) c')) w') :
    if Region.wanted o (yielded ops a.tmps) = true then Oper.wp P o a w K Q else E := by
  rw [if_pos (by simp [Region.wanted, hgd])]
  exact own_append_wp s x t ho e z size bytes ht hinfo hzs hsz A n c xs F hs hr hO A2 m c2 news hx hl hA h1 h63 hbytes h
end
end Go.Proofs.YtloflmcgbbbnjaaDoor
namespace Go.Proofs.YtloflmcgbbbnjaaDoor
open Go.RowKit Plain
set_option linter.all false

set_option maxHeartbeats 800000 in
theorem copied_own (A : Option Addr) (n c : Nat) (l : List UInt8) (R : List Fr) (w0 w : World) (h : BsAt w A l) (hO : Own R w0 w) (hn : n = l.length) (hl : l.length ≤ 140737488355328) :
    Calls Tryd.prog 35 #[.slice A n c] w (RetH R w0 l) := by
  subst hn
  go_enter Tryd.func35, Tryd.ntmps35
  go_wp2_with (at_builtin; refine own_append rfl (.tmp 3) (.tmp 4) 25 rfl 5 (.int .u8 0) 1 1 Tryd.underlying25 Tryd.info_u8 rfl (by decide) (some ⟨w.heap.size, 0, none⟩) 0 0 [] [fw w.heap.size 5 []] rfl ⟨by simp, .inr ⟨_, [], rfl, rfl, by omega, by simp [maxLen], by simp, by simp⟩⟩ (R := R) (hO.alloc 5 []) A l.length c (bc l) rfl (by simp [bc_length]) (h.alloc _).cs (bc_one l) (by simp [maxLen]; omega) (by omega) ?_; intro A2 c2 F2 w2 hr2 hO2 _)
  go_ret
  rw [Nat.zero_add] at hr2
  exact ⟨A2, c2, F2, _, hid rfl, by simp, hid (by simpa using hr2), hid hO2⟩

end Go.Proofs.YtloflmcgbbbnjaaDoor
namespace Go.Proofs.YtloflmcgbbbnjaaDoor.Plain
open Go

/-- The number that bytes spell, the low one first. -/
def leI : List UInt8 → Int
  | [] => 0
  | b :: r => (b.toNat : Int) + 256 * leI r
theorem leI_nonneg (l : List UInt8) : 0 ≤ leI l := by
  induction l with
  | nil => simp [leI]
  | cons b r ih => simp only [leI]; omega
theorem leI_lt_of {l : List UInt8} {n : Nat} (h : l.length ≤ n) : leI l < 256 ^ n := by
  induction l generalizing n with
  | nil => simp only [leI]; exact Int.pow_pos (by decide)
  | cons b r ih =>
    cases n with
    | zero => simp at h
    | succ n =>
      have := u8_lt b
      have := ih (n := n) (by simpa using h)
      simp only [leI, Int.pow_succ]
      omega
theorem leI_drop {l : List UInt8} {k : Nat} (h : k < l.length) : leI (l.drop k) = bz l k + 256 * leI (l.drop (k + 1)) := by rw [drop_at h]; rfl
theorem leI_lt7 {l : List UInt8} (h : l.length ≤ 7) : leI l < 72057594037927936 := leI_lt_of h
theorem leI_lt8 {l : List UInt8} (h : l.length ≤ 8) : leI l < 18446744073709551616 := leI_lt_of h
theorem leI_lt4 {l : List UInt8} (h : l.length ≤ 4) : leI l < 4294967296 := leI_lt_of h
theorem leI_take4 {l : List UInt8} (h : 4 ≤ l.length) : leI (l.take 4) = bz l 0 + 256 * bz l 1 + 65536 * bz l 2 + 16777216 * bz l 3 := by
  match l, h with
  | a :: b :: c :: d :: r, _ => simp [leI, bz, at_]; omega

theorem leI_take8 {l : List UInt8} (h : 8 ≤ l.length) : leI (l.take 8) = bz l 0 + 256 * bz l 1 + 65536 * bz l 2 + 16777216 * bz l 3 + 4294967296 * bz l 4 + 1099511627776 * bz l 5 + 281474976710656 * bz l 6 + 72057594037927936 * bz l 7 := by
  match l, h with
  | a :: b :: c :: d :: e :: f :: g :: h :: r, _ => simp [leI, bz, at_]; omega
/-- The bytes of a number, the low one first. -/
def leB (x : Int) : Nat → List UInt8
  | 0 => []
  | k + 1 => leB x k ++ [UInt8.ofNat (x / 256 ^ k % 256).toNat]
theorem leB_length (x : Int) (k : Nat) : (leB x k).length = k := by
  induction k with
  | zero => rfl
  | succ k ih => simp [leB, ih]
theorem byte_of {y : Int} (h0 : 0 ≤ y) (h1 : y < 256) : ((UInt8.ofNat y.toNat).toNat : Int) = y := by
  have : y.toNat < 256 := by omega
  simp [Nat.mod_eq_of_lt this]; omega
theorem leB_head (x : Int) (k : Nat) : leB x (k + 1) = UInt8.ofNat (x % 256).toNat :: leB (x / 256) k := by
  induction k with
  | zero => simp [leB]
  | succ k ih =>
    rw [leB, ih, leB, List.cons_append, Int.pow_succ, Int.mul_comm, ← Int.ediv_ediv_of_nonneg (by decide)]
theorem leI_leB (x : Int) (k : Nat) (h0 : 0 ≤ x) (h1 : x < 256 ^ k) : leI (leB x k) = x := by
  induction k generalizing x with
  | zero => simp [leB, leI] at *; omega
  | succ k ih =>
    rw [leB_head, leI, byte_of (by omega) (by omega), ih (x / 256) (by omega) (by rw [Int.pow_succ] at h1; omega)]
    omega

theorem bits_or_comm (k : IntKind) (x y : Int) : bits .or k x y = bits .or k y x := by simp [bits, BitVec.or_comm]
theorem u64_hi_or8 {x y : Int} (hy₀ : 0 ≤ y) (hy : y < 256) (hx₀ : 0 ≤ x) (hx : x % 256 = 0) (hx₁ : x < 18446744073709551616) : bits .or .u64 x y = x + y := by
  rw [bits_or_comm, u64_or8 (x := x) (y := y) (hy₀ := hy₀) (hy := hy) (hx₀ := hx₀) (hx := hx) (hx₁ := hx₁)]; omega

theorem u64_and255 {x : Int} (h0 : 0 ≤ x) (h1 : x < 18446744073709551616) : bits .and .u64 x 255 = x % 256 := by
  obtain ⟨n, rfl⟩ := Int.eq_ofNat_of_zero_le h0
  have h := (bits_nat .u64 64 (by decide) wraps_u64 n 255 (by omega) (by decide)).1
  rw [show ((255 : Nat) : Int) = 255 from rfl] at h
  rw [h, show (255 : Nat) = 2 ^ 8 - 1 from rfl, Nat.and_two_pow_sub_one_eq_mod]
  omega
def w32 (x : Int) : Int := x % 4294967296
theorem wrap32_eq (x : Int) : IntKind.u32.wrap x = w32 x := by simp [IntKind.wrap, IntKind.bits, IntKind.signed, w32]
theorem w32_lo (x : Int) : 0 ≤ w32 x := by unfold w32; omega
theorem w32_hi (x : Int) : w32 x < 4294967296 := by unfold w32; omega
/-- One step of the hash. -/
def hmul (h d : Int) : Int := w32 (w32 (h + d) * 3332679571)
def hstep (h d : Int) : Int := bits .xor .u32 (hmul h d) (hmul h d / 65536)
def htail (h d : Int) : Int := bits .xor .u32 (hmul h d) (hmul h d / 16777216)
def htailY (y : Int) : Int := bits .xor .u32 (w32 (y * 3332679571)) (w32 (y * 3332679571) / 16777216)
theorem htail_eq (h d y : Int) (e : y = w32 (h + d)) : htailY y = htail h d := by subst e; rfl
/-- The whole hash. -/
def hashAll (h : Int) (l : List UInt8) : Int :=
  if _ : 4 ≤ l.length then hashAll (hstep h (leI (l.take 4))) (l.drop 4)
  else if l = [] then h else htail h (leI l)
  termination_by l.length
theorem hashAll_step {h : Int} {l : List UInt8} (hl : 4 ≤ l.length) : hashAll h l = hashAll (hstep h (leI (l.take 4))) (l.drop 4) := by
  rw [hashAll, dif_pos hl]
theorem hashAll_end {h : Int} {l : List UInt8} (hl : ¬ 4 ≤ l.length) : hashAll h l = if l = [] then h else htail h (leI l) := by
  rw [hashAll, dif_neg hl]
theorem u32_wf_xor (x y : Int) : 0 ≤ bits .xor .u32 x y ∧ bits .xor .u32 x y < 4294967296 := by
  have h : bits .xor .u32 x y = IntKind.u32.wrap (bits .xor .u32 x y) := by simp [bits, IntKind.wrap, IntKind.bits, IntKind.signed]
  rw [h, wrap32_eq]
  exact ⟨w32_lo _, w32_hi _⟩
end Go.Proofs.YtloflmcgbbbnjaaDoor.Plain
namespace Go.Proofs.YtloflmcgbbbnjaaDoor.Plain

/-- A choice from 0 to n-1 by numbers, and how many were made. -/
def pick (ns : List Int) (n at_ : Nat) : Nat × Nat := if ns = [] ∨ n < 2 then (0, at_) else ((ns.getD (at_ % ns.length) 0 % (n : Int)).toNat, at_ + 1)
theorem pick_nil (n a : Nat) : pick [] n a = (0, a) := by simp [pick]
theorem pick_lt {ns : List Int} {n a : Nat} (h : 0 < n) : (pick ns n a).1 < n := by
  unfold pick
  split
  · exact h
  · have h1 := Int.emod_nonneg (ns.getD (a % ns.length) 0) (show (n : Int) ≠ 0 by omega)
    have h2 := Int.emod_lt_of_pos (ns.getD (a % ns.length) 0) (show 0 < (n : Int) by omega)
    simp only; omega
theorem pick_at (ns : List Int) (n a : Nat) : a ≤ (pick ns n a).2 ∧ (pick ns n a).2 ≤ a + 1 := by
  unfold pick
  split <;> simp

abbrev KV := List UInt8 × List UInt8
def key (l : List KV) (j : Nat) : List UInt8 := (l.getD j ([], [])).1
def val (l : List KV) (j : Nat) : List UInt8 := (l.getD j ([], [])).2
/-- An entry that leaves out n bytes of its key. -/
def ent (n : Nat) (k v : List UInt8) : List UInt8 := uv n ++ uv (k.length - n) ++ uv v.length ++ (k.drop n ++ v)
structure BS where
  c : Nat
  b : List UInt8
  tail : List UInt8
  many : Nat
def bstep (rs : Nat) (ns : List Int) (i : Nat) (prev k v : List UInt8) (s : BS) : BS :=
  if i % rs = 0 then ⟨s.c, s.b ++ ent 0 k v, s.tail ++ leB s.b.length 4, s.many + 1⟩
  else if (pick ns 4 s.c).1 = 1 then ⟨(pick ns (shared prev k + 1) (pick ns 4 s.c).2).2, s.b ++ ent (pick ns (shared prev k + 1) (pick ns 4 s.c).2).1 k v, s.tail, s.many⟩
  else ⟨(pick ns 4 s.c).2, s.b ++ ent (shared prev k) k v, s.tail, s.many⟩
/-- Behind the first j pairs. -/
def bst (rs : Nat) (ns : List Int) (l : List KV) (c0 : Nat) : Nat → BS
  | 0 => ⟨c0, [], [], 0⟩
  | j + 1 => bstep rs ns j (key l (j - 1)) (key l j) (val l j) (bst rs ns l c0 j)
def blockB (rs : Nat) (ns : List Int) (l : List KV) (c0 : Nat) : List UInt8 :=
  let s := bst rs ns l c0 l.length
  if s.many = 0 then s.b ++ (s.tail ++ leB 0 4) ++ leB 1 4 else s.b ++ s.tail ++ leB s.many 4
theorem ent_le {n : Nat} {k v : List UInt8} (hn : n ≤ k.length) (hk : k.length < 34359738368) (hv : v.length < 34359738368) : (ent n k v).length ≤ 15 + k.length + v.length := by
  have h1 := uv_len5 (x := n) (by omega)
  have h2 := uv_len5 (x := k.length - n) (by omega)
  have h3 := uv_len5 hv
  simp only [ent, List.length_append, List.length_drop]; omega
theorem ent_pos (n : Nat) (k v : List UInt8) : 3 ≤ (ent n k v).length := by
  have h1 := uv_pos n; have h2 := uv_pos (k.length - n); have h3 := uv_pos v.length
  simp only [ent, List.length_append]; omega
/-- The weight of pairs. -/
def kvw (l : List KV) : Nat := (l.map fun p => p.1.length + p.2.length + 1).sum
theorem kvw_take_succ {l : List KV} {j : Nat} (h : j < l.length) : kvw (l.take (j + 1)) = kvw (l.take j) + ((key l j).length + (val l j).length + 1) := by
  rw [List.take_succ_eq_append_getElem h]
  simp only [kvw, key, val, List.getD_eq_getElem?_getD, List.getElem?_eq_getElem h, Option.getD_some, List.map_append, List.sum_append, List.map_cons, List.map_nil, List.sum_cons, List.sum_nil, Nat.add_zero]
theorem kvw_take (l : List KV) (j : Nat) : kvw (l.take j) ≤ kvw l := by
  have : kvw l = kvw (l.take j) + kvw (l.drop j) := by
    conv => lhs; rw [← List.take_append_drop j l]
    simp only [kvw, List.map_append, List.sum_append]
  omega
theorem kvw_mem {l : List KV} {p : KV} (h : p ∈ l) : p.1.length + p.2.length + 1 ≤ kvw l := by
  induction l with
  | nil => cases h
  | cons x l ih =>
    simp only [kvw, List.map_cons, List.sum_cons] at ih ⊢
    rcases List.mem_cons.1 h with rfl | h
    · omega
    · have := ih h; omega
theorem kvw_key (l : List KV) (j : Nat) : (key l j).length + (val l j).length ≤ kvw l := by
  unfold key val
  rcases Nat.lt_or_ge j l.length with h | h
  · have := kvw_mem (List.getElem_mem h)
    simp only [List.getD_eq_getElem?_getD, List.getElem?_eq_getElem h, Option.getD_some]; omega
  · simp [List.getD_eq_getElem?_getD, List.getElem?_eq_none h]
theorem bst_le {rs : Nat} {ns : List Int} {l : List KV} {c0 : Nat} (hw : kvw l < 34359738368) : ∀ j, j ≤ l.length →
    (bst rs ns l c0 j).b.length ≤ 16 * kvw (l.take j) ∧ (bst rs ns l c0 j).many ≤ j ∧ (bst rs ns l c0 j).tail.length = 4 * (bst rs ns l c0 j).many ∧ c0 ≤ (bst rs ns l c0 j).c ∧ (bst rs ns l c0 j).c ≤ c0 + 2 * j
  | 0, _ => by simp [bst]
  | j + 1, h => by
    obtain ⟨h1, h2, h3, h4, h5⟩ := bst_le (rs := rs) (ns := ns) (c0 := c0) hw j (by omega)
    have hk := kvw_key l j
    have ht := kvw_take_succ h
    have hsh := shared_le (key l (j - 1)) (key l j)
    have hp4 := pick_at ns 4 (bst rs ns l c0 j).c
    have hpn := pick_at ns (shared (key l (j - 1)) (key l j) + 1) (pick ns 4 (bst rs ns l c0 j).c).2
    have hpl := pick_lt (ns := ns) (n := shared (key l (j - 1)) (key l j) + 1) (a := (pick ns 4 (bst rs ns l c0 j).c).2) (by omega)
    have hl4 : (leB ((bst rs ns l c0 j).b.length : Int) 4).length = 4 := leB_length _ _
    simp only [bst, bstep]
    split
    · have := ent_le (n := 0) (k := key l j) (v := val l j) (by omega) (by omega) (by omega)
      simp only [List.length_append]
      refine ⟨by omega, by omega, by omega, by omega, by omega⟩
    · split
      · have := ent_le (n := (pick ns (shared (key l (j - 1)) (key l j) + 1) (pick ns 4 (bst rs ns l c0 j).c).2).1) (k := key l j) (v := val l j) (by omega) (by omega) (by omega)
        simp only [List.length_append]
        refine ⟨by omega, by omega, by omega, by omega, by omega⟩
      · have := ent_le (n := shared (key l (j - 1)) (key l j)) (k := key l j) (v := val l j) (by omega) (by omega) (by omega)
        simp only [List.length_append]
        refine ⟨by omega, by omega, by omega, by omega, by omega⟩
end Go.Proofs.YtloflmcgbbbnjaaDoor.Plain
namespace Go.Proofs.YtloflmcgbbbnjaaDoor
open Go.RowKit Plain

def ci64 (l : List Int) : List Value := l.map fun x => .int .i64 x
theorem ci64_length (l : List Int) : (ci64 l).length = l.length := by simp [ci64]
theorem emod_tmod (v n : Int) (hn : 0 < n) : v % n = if v.tmod n < 0 then v.tmod n + n else v.tmod n := by
  have h1 := Int.emod_nonneg v (show n ≠ 0 by omega)
  have h2 := Int.emod_lt_of_pos v hn
  have h3 := Int.emod_add_mul_ediv v n
  have h4 := Int.tmod_add_mul_tdiv v n
  rcases (show v < 0 ∨ 0 ≤ v by omega) with hv | hv
  · have h5 : v.tmod n = -((-v) % n) := by
      rw [← Int.tmod_eq_emod_of_nonneg (show 0 ≤ -v by omega), Int.neg_tmod, Int.neg_neg]
    have h6 := Int.emod_nonneg (-v) (show n ≠ 0 by omega)
    have h7 := Int.emod_lt_of_pos (-v) hn
    have h8 : (v + (-v) % n) % n = 0 := by
      rw [Int.add_emod, Int.emod_emod_of_dvd _ (Int.dvd_refl n), ← Int.add_emod]
      simp [Int.add_right_neg]
    split
    · rename_i hlt
      rw [h5] at hlt ⊢
      have h9 : v % n + (-v) % n = n := by
        have h10 : (v % n + (-v) % n) % n = 0 := by rw [← Int.add_emod]; simp [Int.add_right_neg]
        obtain ⟨q, hq⟩ := Int.dvd_of_emod_eq_zero h10
        have hq1 : q = 1 := by
          have hq0 : 0 < q := by
            rcases (show 0 < q ∨ q ≤ 0 by omega) with h | h
            · exact h
            · have := Int.mul_nonpos_of_nonneg_of_nonpos (show 0 ≤ n by omega) h; omega
          have hq2 : q < 2 := by
            rcases (show q < 2 ∨ 2 ≤ q by omega) with h | h
            · exact h
            · have := Int.mul_le_mul_of_nonneg_left h (show 0 ≤ n by omega); omega
          omega
        rw [hq, hq1]; omega
      omega
    · rename_i hlt
      rw [h5] at hlt ⊢
      have h9 : (-v) % n = 0 := by omega
      have h10 : v % n = 0 := by
        have := Int.dvd_of_emod_eq_zero h9
        exact Int.emod_eq_zero_of_dvd (by simpa using this)
      omega
  · rw [Int.tmod_eq_emod_of_nonneg hv, if_neg (by omega)]
theorem tmod_range (v n : Int) (hn : 0 < n) : -n ≤ v.tmod n ∧ v.tmod n < n := by
  have h := emod_tmod v n hn
  have h1 := Int.emod_nonneg v (show n ≠ 0 by omega)
  have h2 := Int.emod_lt_of_pos v hn
  split at h <;> omega

set_option maxHeartbeats 1600000 in
theorem of_any (b n a nc : Nat) (nA : Option Addr) (ns : List Int) (R : List Fr) (w0 w : World) (hO : Own (fw b 79 [.slice nA ns.length nc, .int .i64 a] :: R) w0 w) (hns : St R w0 fun w => CsAt w nA (ci64 ns))
    (hn : n ≤ 4611686018427387904) (ha : a ≤ 4611686018427387903) (hl : ns.length ≤ 140737488355328) :
    Calls Tryd.prog 39 #[.pointer (some ⟨b, 0, none⟩), .int .i64 n] w fun e w' => e = .returned (.int .i64 ((pick ns n a).1 : Int)) ∧ Own (fw b 79 [.slice nA ns.length nc, .int .i64 ((pick ns n a).2 : Int)] :: R) w0 w' := by
  have c0 : w.cell? ⟨b, 0, none⟩ = some (.slice nA ns.length nc) := hO.cell 0 rfl 0 rfl (by simp)
  have c1 : w.cell? ⟨b, 1, none⟩ = some (.int .i64 a) := hO.cell 0 rfl 1 rfl (by simp)
  have f0 : ∀ k, w.frozen? ⟨b, k, none⟩ = false := fun k => hO.frozen 0 rfl k
  have HO := hid hO
  clear hO
  by_cases h1 : ns.length = 0
  · have e1 : ((ns.length : Int) == 0) = true := by rw [h1]; rfl
    obtain rfl : ns = [] := List.eq_nil_of_length_eq_zero h1
    have HP := hid (pick_nil n a)
    clear h1
    go_enter Tryd.func39, Tryd.ntmps39
    go_wp2
    go_ret
    exact ⟨by rw [HP.out]; rfl, by rw [HP.out]; exact HO.out⟩
  · have e1 : ((ns.length : Int) == 0) = false := by simpa using h1
    by_cases h2 : n < 2
    · have e2 : decide ((n : Int) < 2) = true := decide_eq_true (by omega)
      have HP := hid (show pick ns n a = (0, a) by simp [pick, h2])
      clear h1
      go_enter Tryd.func39, Tryd.ntmps39
      go_wp2
      go_ret
      exact ⟨by rw [HP.out]; rfl, by rw [HP.out]; exact HO.out⟩
    · have e2 : decide ((n : Int) < 2) = false := decide_eq_false (by omega)
      have hlt : a % ns.length < ns.length := Nat.mod_lt _ (by omega)
      obtain ⟨i, hi⟩ : ∃ i, a % ns.length = i := ⟨_, rfl⟩
      rw [hi] at hlt
      have hcs := HO.out.st hns (by intro x hx; simp [hx])
      obtain ⟨g, o, rfl, hc⟩ := hcs i (by rw [ci64_length]; exact hlt)
      have hv : (ci64 ns)[i]? = some (.int .i64 (ns.getD i 0)) := by simp [ci64, List.getD_eq_getElem?_getD, List.getElem?_eq_getElem hlt]
      rw [hv] at hc
      have hp : pick ns n a = ((ns.getD i 0 % (n : Int)).toNat, a + 1) := by
        have : ¬ (ns = [] ∨ n < 2) := by
          rintro (h | h)
          · exact h1 (by simp [h])
          · omega
        simp only [pick, if_neg this, hi]
      have ht : ((a : Nat) : Int).tmod ((ns.length : Nat) : Int) = (i : Int) := by rw [Int.tmod_eq_emod_of_nonneg (by omega)]; omega
      have hem := emod_tmod (ns.getD i 0) n (by omega)
      have htr := tmod_range (ns.getD i 0) n (by omega)
      generalize ns.getD i 0 = v at hc hp hem htr
      obtain ⟨r, hr⟩ : ∃ r, v.tmod (n : Int) = r := ⟨_, rfl⟩
      rw [hr] at hem htr
      have hi2 : (i : Int) < (ns.length : Int) := by omega
      have w1 : IntKind.i64.wrap (i : Int) = i := i64_id (by omega) (by omega)
      have w2 : IntKind.i64.wrap r = r := i64_id (by omega) (by omega)
      have w3 : IntKind.i64.wrap ((a : Int) + 1) = (a : Int) + 1 := by simp [IntKind.wrap, IntKind.bits, IntKind.signed]; omega
      have w4 : ¬ (ns.length : Int) = 0 := by omega
      have w5 : ¬ (n : Int) = 0 := by omega
      have HP := hid hp
      have HE := hid hem
      clear hv hcs h1 hp hem hi
      have hfin : ∀ w', Own (fw b 79 [.slice (some ⟨g, o, none⟩) ns.length nc, .int .i64 (((a + 1 : Nat)) : Int)] :: R) w0 w' → Own (fw b 79 [.slice (some ⟨g, o, none⟩) ns.length nc, .int .i64 ((pick ns n a).2 : Int)] :: R) w0 w' := fun w' h => by rw [HP.out]; exact h
      have HF := hid hfin
      clear hfin
      by_cases h3 : r < 0
      · have e3 : decide (r < 0) = true := decide_eq_true h3
        have w6 : IntKind.i64.wrap (r + (n : Int)) = r + (n : Int) := i64_id (by omega) (by omega)
        go_enter Tryd.func39, Tryd.ntmps39
        go_wp2
        go_quiet (fail)
        go_wp2
        go_ret
        refine ⟨ret_int ?_, HF.out _ ?_⟩
        · rw [HP.out, HE.out, if_pos h3]; simp only; omega
        · exact (HO.out.drewN nq).set 1 rfl (by simp) _
      · have e3 : decide (r < 0) = false := decide_eq_false h3
        go_enter Tryd.func39, Tryd.ntmps39
        go_wp2
        go_quiet (fail)
        go_wp2
        go_ret
        refine ⟨ret_int ?_, HF.out _ ?_⟩
        · rw [HP.out, HE.out, if_neg (by omega)]; simp only; omega
        · exact (HO.out.drewN nq).set 1 rfl (by simp) _
theorem of_n (b n a nc : Nat) (x y : Int) (nA : Option Addr) (ns : List Int) (R : List Fr) (w0 w : World) (hx : x = (n : Int)) (hy : y = (a : Int)) (hO : Own (fw b 79 [.slice nA ns.length nc, .int .i64 y] :: R) w0 w) (hns : St R w0 fun w => CsAt w nA (ci64 ns))
    (hn : n ≤ 4611686018427387904) (ha : a ≤ 4611686018427387903) (hl : ns.length ≤ 140737488355328) :
    Calls Tryd.prog 39 #[.pointer (some ⟨b, 0, none⟩), .int .i64 x] w fun e w' => e = .returned (.int .i64 ((pick ns n a).1 : Int)) ∧ Own (fw b 79 [.slice nA ns.length nc, .int .i64 ((pick ns n a).2 : Int)] :: R) w0 w' := by
  subst hx; subst hy; exact of_any b n a nc nA ns R w0 w hO hns hn ha hl
end Go.Proofs.YtloflmcgbbbnjaaDoor
namespace Go.Proofs.YtloflmcgbbbnjaaDoor
open Go.RowKit Plain
set_option linter.all false

theorem Tryd.info_pair : (Tryd.prog.info? 38).map (fun i => (i.zero, i.size, i.bytes)) = some (some (.agg #[.slice none 0 0, .slice none 0 0]), 2, 48) := by kernel_rfl
theorem csAt_new (w : World) (cs : List Value) (t : TypeId) : CsAt (w.alloc (.cells cs.toArray t)) (some ⟨w.heap.size, 0, none⟩) cs := by
  have := CsAt.of_blk (Blk.new w t cs) 0 cs.length
  simpa using this
theorem csAt_new' {w : World} {g : Nat} (hg : w.heap.size = g) (cs : List Value) (t : TypeId) : CsAt (w.alloc (.cells cs.toArray t)) (some ⟨g, 0, none⟩) cs := hg ▸ csAt_new w cs t

def kvs (l : List Pr) : List KV := l.map fun r => (r.k, r.v)
theorem kvs_length (l : List Pr) : (kvs l).length = l.length := by simp [kvs]
theorem key_kvs {l : List Pr} {j : Nat} {r : Pr} (h : l[j]? = some r) : key (kvs l) j = r.k := by simp [key, kvs, List.getD_eq_getElem?_getD, h]
theorem val_kvs {l : List Pr} {j : Nat} {r : Pr} (h : l[j]? = some r) : val (kvs l) j = r.v := by simp [val, kvs, List.getD_eq_getElem?_getD, h]
theorem kvw_kvs (l : List Pr) : kvw (kvs l) = wgt l := by simp [kvw, kvs, wgt, Function.comp_def]

set_option maxHeartbeats 800000 in
theorem below_any (x : Int) (n : Nat) (w : World) (hn : 0 < n) (hn2 : n ≤ 4611686018427387904) (hx : -9223372036854775808 ≤ x ∧ x ≤ 9223372036854775807) :
    Calls Tryd.prog 12 #[.int .i64 x, .int .i64 n] w fun e w' => e = .returned (.int .i64 (x % (n : Int))) ∧ w = w' := by
  have hem := emod_tmod x n (by omega)
  have htr := tmod_range x n (by omega)
  have w5 : ¬ (n : Int) = 0 := by omega
  obtain ⟨r, hr⟩ : ∃ r, x.tmod (n : Int) = r := ⟨_, rfl⟩
  rw [hr] at hem htr
  have w2 : IntKind.i64.wrap r = r := i64_id (by omega) (by omega)
  have HE := hid hem
  clear hem
  by_cases h3 : r < 0
  · have e3 : decide (r < 0) = true := decide_eq_true h3
    have w6 : IntKind.i64.wrap (r + (n : Int)) = r + (n : Int) := i64_id (by omega) (by omega)
    go_enter Tryd.func12, Tryd.ntmps12
    go_wp2
    go_ret
    exact ⟨ret_int (by rw [HE.out, if_pos h3]), rfl⟩
  · have e3 : decide (r < 0) = false := decide_eq_false h3
    go_enter Tryd.func12, Tryd.ntmps12
    go_wp2
    go_ret
    exact ⟨ret_int (by rw [HE.out, if_neg (by omega)]), rfl⟩

/-- A result that is a row of pairs. -/
def RetP (R : List Fr) (w0 : World) (l : List Pr) (e : Ending) (w' : World) : Prop :=
  ∃ A' c' F', e = .returned (.slice A' l.length c') ∧ Hid (Row 38 2 A' l.length c' (l.flatMap Pr.cells) F') ∧ Hid (Own (F' ++ R) w0 w')
set_option maxHeartbeats 1600000 in
theorem pairs_own (A : Option Addr) (c : Nat) (l : List Pr) (R : List Fr) (w0 w : World) (hp : St R w0 fun w => Prs w A l) (hO : Own R w0 w) (hl : l.length ≤ 1099511627776) :
    Calls Tryd.prog 15 #[.slice A l.length c] w (RetP R w0 l) := by
  go_enter Tryd.func15, Tryd.ntmps15
  go_wp2
  go_loopw [3, 8] (fun v i wr => ∃ (k n : Nat) (A' : Option Addr) (c' : Nat) (F' : List Fr), i = .int .i64 k ∧ k ≤ l.length ∧ v = .slice A' n c' ∧ n = k ∧ Row 38 2 A' n c' ((l.take k).flatMap Pr.cells) F' ∧ Own (F' ++ R) w0 wr) (fun _ i _ => l.length - (intOf i).toNat)
  case atStart => exact ⟨0, 0, none, 0, [], rfl, Nat.zero_le _, rfl, rfl, Row.nil _ _, hO⟩
  case round =>
    obtain ⟨k, n, A', c', F', rfl, hk, rfl, hn, hr, hO1⟩ := hrel
    have HN := hid hn
    have HR := hid hr
    have HO := hid hO1
    have hnk : n ≤ 1099511627776 := by omega
    clear hn hr hO1 hO
    by_cases h4 : k < l.length
    · have h4' : (k : Int) < (l.length : Int) := by omega
      have hx : l[k]? = some l[k] := List.getElem?_eq_getElem h4
      have htk : (l.take (k + 1)).flatMap Pr.cells = (l.take k).flatMap Pr.cells ++ l[k].cells := by rw [List.take_succ_eq_append_getElem h4, List.flatMap_append]; simp
      have hps := HO.out.stR hp
      generalize l[k] = r at hx htk
      have HT := hid htk
      obtain ⟨g, o, rfl, p0, p1⟩ := hps.at_ hx
      clear htk hps hx
      go_wp2_with (at_builtin; refine own_append rfl (.tmp 12) (.tmp 14) 28 rfl 38 (.agg #[.slice none 0 0, .slice none 0 0]) 2 48 Tryd.underlying28 Tryd.info_pair rfl (by decide) A' n c' _ F' rfl HR.out (R := R) ((HO.out.skip _).skip _) (some ⟨wr.heap.size + 1, 0, none⟩) 1 1 r.cells rfl rfl (csAt_new' (by simp) r.cells _) (by simp [Pr.cells, Value.oneCell']) (by simp [maxLen]; omega) (by omega) ?_; intro A2 c2 F2 w2 hr2 hO2 _; have HR2 := hid hr2; have HO2 := hid hO2; clear hr2 hO2)
      exact ⟨⟨k + 1, n + 1, A2, c2, F2, rfl, by omega, rfl, by rw [HN.out], by rw [HT.out]; exact HR2.out, HO2.out⟩, by simp [intOf]; omega⟩
    · have h4' : ¬ (k : Int) < (l.length : Int) := by omega
      have hkl : k = l.length := by omega
      have HK := hid hkl
      clear hkl
      go_wp2
      go_ret
      have hr := HR.out
      rw [HK.out, List.take_length] at hr
      have hn2 : n = l.length := by rw [HN.out, HK.out]
      subst hn2
      exact ⟨A', c', F', rfl, hid hr, HO⟩

def ordB (l : List KV) : Bool := (List.range (l.length - 1)).all fun i => decide (cmpI (key l i) (key l (i + 1)) < 0)
theorem ordB_iff {l : List KV} : ordB l = true ↔ ∀ i, i + 1 < l.length → cmpI (key l i) (key l (i + 1)) < 0 := by
  simp only [ordB, List.all_eq_true, List.mem_range, decide_eq_true_eq]
  exact ⟨fun h i hi => h i (by omega), fun h i hi => h i (by omega)⟩
set_option maxHeartbeats 1600000 in
theorem ordered_any (A : Option Addr) (c : Nat) (l : List Pr) (w : World) (hp : Prs w A l) (hl : l.length ≤ 1099511627776) (hk : ∀ r ∈ l, r.k.length ≤ 140737488351232) :
    Calls Tryd.prog 17 #[.slice A l.length c] w fun e w' => e = .returned (.bool (ordB (kvs l))) ∧ Dr w w' := by
  go_enter Tryd.func17, Tryd.ntmps17
  go_wp2
  go_loopw [3] (fun i wr => ∃ k : Nat, i = .int .i64 ((k : Int) + 1) ∧ k ≤ l.length ∧ (∀ j, j < k → j + 1 < l.length → cmpI (key (kvs l) j) (key (kvs l) (j + 1)) < 0) ∧ Dr w wr) (fun i _ => l.length + 1 - (intOf i).toNat)
  case atStart => exact ⟨0, rfl, Nat.zero_le _, fun j hj => by omega, Dr.refl _⟩
  case round =>
    obtain ⟨k, rfl, hk1, hall, ⟨nd, rfl⟩⟩ := hrel
    have HA := hid hall
    clear hall
    by_cases h4 : k + 1 < l.length
    · have h4' : (k : Int) + 1 < (l.length : Int) := by omega
      have hx : l[k]? = some l[k] := List.getElem?_eq_getElem (by omega)
      have hy : l[k + 1]? = some l[k + 1] := List.getElem?_eq_getElem h4
      have kx := key_kvs hx
      have ky := key_kvs hy
      generalize l[k] = r at hx kx
      generalize l[k + 1] = q at hy ky
      obtain ⟨g, o, rfl, p0, p1⟩ := hp.at_ hx
      obtain ⟨g', o', e9, q0, q1⟩ := hp.at_ hy
      injection e9 with e9
      injection e9 with e9a e9b
      subst e9a; subst e9b
      have hbr := (hp.ok r (List.mem_of_getElem? hx)).hk
      have hbq := (hp.ok q (List.mem_of_getElem? hy)).hk
      have lr := hk r (List.mem_of_getElem? hx)
      have lq := hk q (List.mem_of_getElem? hy)
      have t1 : ((k : Int) + 1).toNat = k + 1 := by omega
      have t2 : IntKind.i64.wrap ((k : Int) + 1 - 1) = (k : Int) := by rw [i64_id (by omega) (by omega)]; omega
      have t3 : IntKind.i64.wrap ((k : Int) + 1 + 1) = (k : Int) + 1 + 1 := i64_id (by omega) (by omega)
      have t4 : (k : Int) < (l.length : Int) := by omega
      have t6 : IntKind.i64.wrap (k : Int) = (k : Int) := i64_id (by omega) (by omega)
      have t5 : 0 ≤ (k : Int) + 1 := by omega
      have KX := hid kx
      have KY := hid ky
      have hkk : (k : Int) + 1 - 1 = k := by omega
      clear kx ky hx hy p1 q1
      cases hc : decide (0 ≤ cmpI r.k q.k) with
      | true =>
        have HC := hid hc
        go_wp2
        go_quiet ((go_at_call 41; exact Dr.quiet_add (compare_any r.ka q.ka r.kc q.kc r.k q.k _ (hbr.drewN _) (hbq.drewN _) lr lq)))
        go_wp2
        go_ret
        refine ⟨ret_bool ?_, ((Dr.refl w).step nd).step nq⟩
        symm
        rw [Bool.eq_false_iff]
        intro hb
        have := ordB_iff.1 hb k (by rw [kvs_length]; exact h4)
        rw [KX.out, KY.out] at this
        have := HC.out
        simp at this
        omega
      | false =>
        have HC := hid hc
        go_wp2
        go_quiet ((go_at_call 41; exact Dr.quiet_add (compare_any r.ka q.ka r.kc q.kc r.k q.k _ (hbr.drewN _) (hbq.drewN _) lr lq)))
        go_wp2
        refine ⟨⟨k + 1, by simp, by omega, fun j hj hj2 => ?_, ⟨_, rfl⟩⟩, by simp [intOf]; omega⟩
        rcases Nat.lt_or_ge j k with h | h
        · exact HA.out j h hj2
        · obtain rfl : j = k := by omega
          rw [KX.out, KY.out]
          have := HC.out
          simp at this
          omega
    · have h4' : ¬ (k : Int) + 1 < (l.length : Int) := by omega
      go_wp2
      go_ret
      refine ⟨ret_bool ?_, ⟨_, rfl⟩⟩
      symm
      rw [ordB_iff]
      intro i hi
      rw [kvs_length] at hi
      exact HA.out i (by omega) hi
end Go.Proofs.YtloflmcgbbbnjaaDoor
namespace Go.Proofs.YtloflmcgbbbnjaaDoor.Plain

/-- One call over n pairs, s where it seeks to, p where it stands: -1 ahead of the first, n behind the last. -/
def wst (n s : Int) (c : Nat) (p : Int) : Int :=
  if c = 0 then 0 else if c = 1 then n - 1 else if c = 2 then min (p + 1) n else if c = 3 then max (p - 1) (-1) else s
def wpl (n s : Int) : List UInt8 → Int → List Int
  | [], _ => []
  | c :: cs, p => wst n s (c.toNat % 5) p :: wpl n s cs (wst n s (c.toNat % 5) p)
def wend (n s : Int) : List UInt8 → Int → Int
  | [], p => p
  | c :: cs, p => wend n s cs (wst n s (c.toNat % 5) p)
theorem wpl_snoc (n s : Int) (cs : List UInt8) (c : UInt8) (p : Int) : wpl n s (cs ++ [c]) p = wpl n s cs p ++ [wst n s (c.toNat % 5) (wend n s cs p)] ∧ wend n s (cs ++ [c]) p = wst n s (c.toNat % 5) (wend n s cs p) := by
  induction cs generalizing p with
  | nil => exact ⟨rfl, rfl⟩
  | cons x cs ih =>
    obtain ⟨h1, h2⟩ := ih (wst n s (x.toNat % 5) p)
    exact ⟨by simp only [List.cons_append, wpl, wend, h1], by simp only [List.cons_append, wend, h2]⟩
theorem wpl_length (n s : Int) : ∀ (cs : List UInt8) (p : Int), (wpl n s cs p).length = cs.length
  | [], _ => rfl
  | c :: cs, p => by simp only [wpl, List.length_cons, wpl_length n s cs]
/-- A place of n pairs. -/
def Plc (n : Nat) (p : Int) : Prop := -1 ≤ p ∧ p ≤ (n : Int)
theorem wst_plc {n : Nat} {s : Int} (hs : 0 ≤ s ∧ s ≤ (n : Int)) (c : Nat) {p : Int} (hp : Plc n p) : Plc n (wst n s c p) := by
  unfold Plc at hp ⊢
  unfold wst
  split
  · omega
  · split
    · omega
    · split
      · omega
      · split <;> omega
theorem wend_plc {n : Nat} {s : Int} (hs : 0 ≤ s ∧ s ≤ (n : Int)) : ∀ (cs : List UInt8) {p : Int}, Plc n p → Plc n (wend n s cs p)
  | [], _, h => h
  | _ :: cs, _, h => wend_plc hs cs (wst_plc hs _ h)
theorem wpl_plc {n : Nat} {s : Int} (hs : 0 ≤ s ∧ s ≤ (n : Int)) : ∀ (cs : List UInt8) {p : Int}, Plc n p → ∀ x ∈ wpl n s cs p, Plc n x
  | [], _, _, x, hx => by simp [wpl] at hx
  | c :: cs, p, h, x, hx => by
    rcases List.mem_cons.1 hx with rfl | hx
    · exact wst_plc hs _ h
    · exact wpl_plc hs cs (wst_plc hs _ h) x hx
def wval (n : Nat) (p : Int) : Bool := decide (0 ≤ p) && decide (p < (n : Int))
theorem wval_iff {n : Nat} {p : Int} : wval n p = true ↔ 0 ≤ p ∧ p < (n : Int) := by simp [wval]
theorem wval_not {n : Nat} {p : Int} : wval n p = false ↔ p < 0 ∨ (n : Int) ≤ p := by
  unfold wval
  by_cases h1 : 0 ≤ p <;> by_cases h2 : p < (n : Int) <;> simp [h1, h2] <;> omega
def wat (n : Nat) (p : Int) : Int := if wval n p = true then p else -1
def wkv (L : List KV) (p : Int) : KV := if wval L.length p = true then (key L p.toNat, val L p.toNat) else ([], [])
end Go.Proofs.YtloflmcgbbbnjaaDoor.Plain
