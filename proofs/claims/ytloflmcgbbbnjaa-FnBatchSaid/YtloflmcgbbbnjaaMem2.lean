/-
  More words on memory.
-/
import Derived.Test.YtloflmcgbbbnjaaMem
namespace Go.Proofs.Ytloflmcgbbbnjaa
open Go.RowKit Plain
set_option linter.all false

theorem BsAt.get {w : World} {g o : Nat} {l : List UInt8} (h : BsAt w (some ⟨g, o, none⟩) l) {i : Nat} (hi : i < l.length) : w.cell? ⟨g, o + i, none⟩ = some (.int .u8 (bz l i)) := by
  obtain ⟨g', o', e, hc⟩ := h i hi
  injection e with e
  injection e with e1 e2
  subst e1; subst e2
  exact hc
theorem csAt_all (w : World) (cs : List Value) (t : TypeId) : CsAt (w.alloc (.cells cs.toArray t)) (some ⟨w.heap.size, 0, none⟩) cs := by
  have := CsAt.of_blk (Blk.new w t cs) 0 cs.length
  simpa using this
theorem csAt_all' {w : World} {g : Nat} (hg : w.heap.size = g) (cs : List Value) (t : TypeId) : CsAt (w.alloc (.cells cs.toArray t)) (some ⟨g, 0, none⟩) cs := hg ▸ csAt_all w cs t
theorem CsAt.drew {w : World} {A : Option Addr} {cs : List Value} (h : CsAt w A cs) : CsAt w.drew A cs := h
end Go.Proofs.Ytloflmcgbbbnjaa
