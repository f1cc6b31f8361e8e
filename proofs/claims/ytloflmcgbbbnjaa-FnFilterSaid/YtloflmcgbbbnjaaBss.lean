/-
  SLICES OF BYTES in a slice: read as a row of records; their bounds.
-/
import Derived.Test.YtloflmcgbbbnjaaStructs
import Derived.Test.YtloflmcgbbbnjaaOwn
namespace Go.Proofs.Ytloflmcgbbbnjaa
open Go.RowKit Plain Go.ChangeShapes Go.WideShapes Go.ChangeAt
set_option linter.all false

structure Bs where
  a : Option Addr
  c : Nat
  l : List UInt8
def Bs.cells (r : Bs) : List Value := [.slice r.a r.l.length r.c]
theorem Bs.cells_length (r : Bs) : r.cells.length = 1 := rfl
structure Bs.Ok (w : World) (r : Bs) : Prop where
  hb : BsAt w r.a r.l
  hc : r.l.length ≤ r.c
  hm : r.c ≤ maxLen
theorem Bs.Ok.keep0 {w w' : World} {r : Bs} (h : Bs.Ok w r) (hb : Only [] w w') : Bs.Ok w' r := ⟨h.hb.keep0 hb, h.hc, h.hm⟩
structure Bss (w : World) (A : Option Addr) (l : List Bs) : Prop where
  row : CsAt w A (l.flatMap Bs.cells)
  ok : ∀ r ∈ l, r.Ok w
theorem Bss.keep0 {w w' : World} {A : Option Addr} {l : List Bs} (h : Bss w A l) (hb : Only [] w w') : Bss w' A l := ⟨h.row.keep0 hb, fun r hr => (h.ok r hr).keep0 hb⟩
theorem Bss.at_ {w : World} {A : Option Addr} {l : List Bs} (h : Bss w A l) {i : Nat} {r : Bs} (hr : l[i]? = some r) :
    ∃ g o, A = some ⟨g, o, none⟩ ∧ w.cell? ⟨g, o + i, none⟩ = some (.slice r.a r.l.length r.c) := by
  obtain ⟨g, o, e, hc⟩ := CsAt.at_row Bs.cells 1 Bs.cells_length (by omega) h.row hr
  exact ⟨g, o, e, by have := hc 0 (by omega); rwa [Nat.mul_one, Nat.add_zero] at this⟩
theorem open_bss {H : Type} {enc : TypeId × Value → H} {W : World} {base : Nat} {spare : Nat → Bool} {held : Bool} {a : Option Addr} {len cap : Nat} {d : DataW H} {ps : List MemPlace}
    (h : DataW.Trod enc Try.prog W base spare held 22 (.slice a len cap) d ps) : ∃ l : List Bs, len = l.length ∧ l.length ≤ cap ∧ cap ≤ maxLen ∧ Bss W a l := by
  obtain ⟨fuel, hf⟩ := h
  obtain ⟨A, l, c, e, h1, h2, h3, h4⟩ := open_rows Bs.cells (fun r => r.Ok W) 1 Try.underlying22 (by kernel_rfl) Bs.cells_length (by omega) (fun n c y h => by
    obtain ⟨A, l, cc, e1, h1, h2, h3⟩ := open_bytes_f Try.underlying24 Try.underlying5 (by kernel_rfl) h
    exact ⟨⟨A, cc, l⟩, e1, h3, h1, h2⟩) hf
  simp [Value.cells] at e
  obtain ⟨rfl, rfl, rfl⟩ := e
  exact ⟨l, rfl, h1, h2, ⟨h3, h4⟩⟩

def fits1 (l : List Bs) : Bool := l.all fun r => decide (r.l.length ≤ 2147483647)
set_option maxHeartbeats 800000 in
theorem fits1_in (A : Option Addr) (c : Nat) (l : List Bs) (w : World) (h : Bss w A l) (hl : l.length ≤ 2147483647) :
    Calls Try.prog 5 #[.slice A l.length c] w fun e w' => e = .returned (.bool (fits1 l)) ∧ Only [] w w' := by
  have d0 : decide (2147483647 < (l.length : Int)) = false := decide_eq_false (by omega)
  have d0' : decide (2147483647 < l.length) = false := decide_eq_false (by omega)
  go_enter Try.func5, Try.ntmps5
  go_wp2
  go_loopw [10] (fun i wr => ∃ k : Nat, i = .int .i64 k ∧ k ≤ l.length ∧ fits1 l = fits1 (l.drop k) ∧ Only [] w wr) (fun i _ => l.length - (intOf i).toNat)
  case atStart => exact ⟨0, rfl, Nat.zero_le _, rfl, Only.refl _ _⟩
  case round =>
    obtain ⟨k, rfl, hk, hx, ho⟩ := hrel
    have HX := hid hx
    clear hx
    by_cases h4 : k < l.length
    · have h4' : (k : Int) < (l.length : Int) := by omega
      have hr : l[k]? = some l[k] := List.getElem?_eq_getElem h4
      have hd : fits1 (l.drop k) = (decide (l[k].l.length ≤ 2147483647) && fits1 (l.drop (k + 1))) := by
        rw [← List.getElem_cons_drop h4]; simp only [fits1, List.all_cons]
      have HD := hid hd
      clear hd
      generalize l[k] = r at hr HD
      obtain ⟨g, o, rfl, c1⟩ := (h.keep0 ho).at_ hr
      by_cases h5 : r.l.length ≤ 2147483647
      · have d5 : decide (2147483647 < (r.l.length : Int)) = false := decide_eq_false (by omega)
        have d5' : decide (2147483647 < r.l.length) = false := decide_eq_false (by omega)
        have HB := hid (show decide (r.l.length ≤ 2147483647) = true from decide_eq_true h5)
        clear h5
        go_wp2
        exact ⟨⟨k + 1, rfl, h4, by rw [HX.out, HD.out, HB.out, Bool.true_and], ho⟩, by simp [intOf]; omega⟩
      · have d5 : decide (2147483647 < (r.l.length : Int)) = true := decide_eq_true (by omega)
        have d5' : decide (2147483647 < r.l.length) = true := decide_eq_true (by omega)
        have HB := hid (show decide (r.l.length ≤ 2147483647) = false from decide_eq_false h5)
        clear h5
        go_wp2
        go_ret
        exact ⟨ret_bool (by rw [HX.out, HD.out, HB.out, Bool.false_and]), ho⟩
    · have h4' : ¬ (k : Int) < (l.length : Int) := by omega
      have HR := hid (show (true : Bool) = fits1 l by rw [HX.out, List.drop_eq_nil_of_le (by omega)]; rfl)
      clear HX
      go_wp2
      go_ret
      exact ⟨ret_bool HR.out, ho⟩
def okB (l : List Bs) : Bool := decide (l.length ≤ 2147483647) && fits1 l
set_option maxHeartbeats 800000 in
theorem fits1_any (A : Option Addr) (c : Nat) (l : List Bs) (w : World) (h : Bss w A l) :
    Calls Try.prog 5 #[.slice A l.length c] w fun e w' => e = .returned (.bool (okB l)) ∧ Only [] w w' := by
  unfold okB
  by_cases hl : l.length ≤ 2147483647
  · simpa [hl] using fits1_in A c l w h hl
  · have d0 : decide (2147483647 < (l.length : Int)) = true := decide_eq_true (by omega)
    have d0' : decide (2147483647 < l.length) = true := decide_eq_true (by omega)
    have HR := hid (show (false : Bool) = (decide (l.length ≤ 2147483647) && fits1 l) by simp [hl])
    clear hl
    go_enter Try.func5, Try.ntmps5
    go_wp2
    go_ret
    exact ⟨ret_bool HR.out, Only.refl _ _⟩
theorem okB_mem {l : List Bs} (h : okB l = true) : l.length ≤ 2147483647 ∧ ∀ r ∈ l, r.l.length ≤ 2147483647 := by
  simp only [okB, fits1, Bool.and_eq_true, decide_eq_true_eq, List.all_eq_true] at h
  exact h
end Go.Proofs.Ytloflmcgbbbnjaa
