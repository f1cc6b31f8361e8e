/-
  A CALL OF A BATCH AS A RECORD: deleted or not, key, value.
-/
import Derived.Test.YtloflmcgbbbnjaaStructs
namespace Go.Proofs.Ytloflmcgbbbnjaa
open Go.RowKit Plain Go.ChangeShapes Go.WideShapes Go.ChangeAt

structure P2 where
  del : Bool
  ka : Option Addr
  kc : Nat
  k : List UInt8
  va : Option Addr
  vc : Nat
  v : List UInt8
def P2.cells (r : P2) : List Value := [.bool r.del, .slice r.ka r.k.length r.kc, .slice r.va r.v.length r.vc]
theorem P2.cells_length (r : P2) : r.cells.length = 3 := rfl
structure P2.Ok (w : World) (r : P2) : Prop where
  hk : BsAt w r.ka r.k
  hv : BsAt w r.va r.v
  hkc : r.k.length ≤ r.kc
  hvc : r.v.length ≤ r.vc
  hkm : r.kc ≤ maxLen
  hvm : r.vc ≤ maxLen
theorem P2.Ok.keep0 {w w' : World} {r : P2} (h : P2.Ok w r) (hb : Only [] w w') : P2.Ok w' r := ⟨h.hk.keep0 hb, h.hv.keep0 hb, h.hkc, h.hvc, h.hkm, h.hvm⟩
/-- A row of such records. -/
structure P2s (w : World) (A : Option Addr) (l : List P2) : Prop where
  row : CsAt w A (l.flatMap P2.cells)
  ok : ∀ r ∈ l, r.Ok w
theorem P2s.keep0 {w w' : World} {A : Option Addr} {l : List P2} (h : P2s w A l) (hb : Only [] w w') : P2s w' A l := ⟨h.row.keep0 hb, fun r hr => (h.ok r hr).keep0 hb⟩
theorem P2s.at_ {w : World} {A : Option Addr} {l : List P2} (h : P2s w A l) {i : Nat} {r : P2} (hr : l[i]? = some r) :
    ∃ g o, A = some ⟨g, o, none⟩ ∧ w.cell? ⟨g, o + i * 3, none⟩ = some (.bool r.del) ∧ w.cell? ⟨g, o + i * 3 + 1, none⟩ = some (.slice r.ka r.k.length r.kc) ∧ w.cell? ⟨g, o + i * 3 + 2, none⟩ = some (.slice r.va r.v.length r.vc) := by
  obtain ⟨g, o, e, hc⟩ := CsAt.at_row P2.cells 3 P2.cells_length (by omega) h.row hr
  exact ⟨g, o, e, hc 0 (by omega), hc 1 (by omega), hc 2 (by omega)⟩

set_option maxRecDepth 100000 in
theorem open_p2 {H : Type} {enc : TypeId × Value → H} {W : World} {base : Nat} {spare : Nat → Bool} {held : Bool} {n : Nat} {c : List Value} {y : DataW H × List MemPlace}
    (h : DataW.trod enc Try.prog W base spare held n 35 c = some y) : ∃ r : P2, c = r.cells ∧ r.Ok W := by
  obtain ⟨xs, k, _, _, hl, hlen, hf⟩ := DataW.trod_struct Try.underlying35 h
  rw [show Try.prog.cellsOf 35 = 3 by kernel_rfl] at hl
  match c, hl, xs, hlen with
  | [c0, c1, c2], _, [y0, y1, y2], _ =>
    have u0 := hf 0 _ rfl
    have u1 := hf 1 _ rfl
    have u2 := hf 2 _ rfl
    rw [show Try.prog.cellsOf _ = 1 by kernel_rfl] at u0 u1 u2
    simp at u0 u1 u2
    obtain ⟨b, hb, _⟩ := DataW.trod_bool Try.underlying4 u0
    obtain ⟨A, l, cc, e1, h1, h2, h3⟩ := open_bytes_f Try.underlying24 Try.underlying5 (by kernel_rfl) u1
    obtain ⟨B, m, cd, e2, h4, h5, h6⟩ := open_bytes_f Try.underlying24 Try.underlying5 (by kernel_rfl) u2
    simp at hb e1 e2
    subst hb; subst e1; subst e2
    exact ⟨⟨b, A, cc, l, B, cd, m⟩, rfl, ⟨h3, h6, h1, h4, h2, h5⟩⟩
theorem open_p2s {H : Type} {enc : TypeId × Value → H} {W : World} {base : Nat} {spare : Nat → Bool} {held : Bool} {a : Option Addr} {len cap : Nat} {d : DataW H} {ps : List MemPlace}
    (h : DataW.Trod enc Try.prog W base spare held 28 (.slice a len cap) d ps) : ∃ l : List P2, len = l.length ∧ l.length ≤ cap ∧ cap ≤ maxLen ∧ P2s W a l := by
  obtain ⟨fuel, hf⟩ := h
  obtain ⟨A, l, c, e, h1, h2, h3, h4⟩ := open_rows P2.cells (fun r => r.Ok W) 3 Try.underlying28 (by kernel_rfl) P2.cells_length (by omega) (fun n c y h => open_p2 h) hf
  simp [Value.cells] at e
  obtain ⟨rfl, rfl, rfl⟩ := e
  exact ⟨l, rfl, h1, h2, ⟨h3, h4⟩⟩
end Go.Proofs.Ytloflmcgbbbnjaa
