/-
  WHAT A LAW's ROW WANTS: arguments opened; arguments read again behind a call that writes into nothing that was there.
-/
import Derived.Test.YtloflmcgbbbnjaaMem
import Derived.ProofKit
import Derived.OpenShut
import Derived.ShutString
import Derived.ChangeOld
import Derived.Below
import Derived.SizedLaws
namespace Go.Proofs.Ytloflmcgbbbnjaa
open Go.RowKit Plain Go.ChangeShapes Go.WideShapes Go.ChangeAt

theorem Try.own : ownKnob Try.prog.godebug = none := by kernel_rfl
theorem Try.laidOut : laidOutB Try.prog = true := by kernel_rfl

/-- Bytes that came in. -/
theorem open_bytes {H : Type} {enc : TypeId × Value → H} {P : Program} {W : World} {base : Nat} {spare : Nat → Bool} {held : Bool} {t e : TypeId} {a : Option Addr} {len cap : Nat} {d : DataW H} {ps : List MemPlace}
    (ht : P.underlying t = some (.slice e)) (he : P.underlying e = some (.int .u8)) (hc : P.cellsOf e = 1) (h : DataW.Trod enc P W base spare held t (.slice a len cap) d ps) :
    ∃ l : List UInt8, len = l.length ∧ l.length ≤ cap ∧ cap ≤ maxLen ∧ BsAt W a l := by
  obtain ⟨fuel, hf⟩ := h
  rcases open_ints ht he hc hf with ⟨hcs, _⟩ | ⟨x, l, c, zs, hcs, _, hl, hm, hz, _, hcell, hwz⟩
  · simp [Value.cells] at hcs
    obtain ⟨rfl, rfl, rfl⟩ := hcs
    exact ⟨[], rfl, Nat.le_refl _, Nat.zero_le _, BsAt.nil _ _⟩
  · simp [Value.cells] at hcs
    obtain ⟨rfl, rfl, rfl⟩ := hcs
    have hlz : len ≤ zs.length := by split at hz <;> omega
    refine ⟨(zs.take len).map fun z => UInt8.ofNat z.toNat, by simp; omega, by simp; omega, hm, fun i hi => ?_⟩
    have hi' : i < zs.length := by simp at hi; omega
    have hil : i < len := by simp at hi; omega
    have hcl := hcell i hi'
    obtain ⟨g, o, spot⟩ := x
    have hspot : spot = none := by
      have h0 := hcell 0 (by omega)
      have h0' := World.cell?_spot h0
      simpa [Addr.add] using h0'
    subst hspot
    rw [add_none] at hcl
    refine ⟨g, o, rfl, hcl.trans ?_⟩
    have hw := hwz _ (List.getElem_mem hi')
    have hw' : 0 ≤ zs[i] ∧ zs[i] ≤ 255 := by simpa [Lit.wf, IntKind.min, IntKind.max, IntKind.signed, IntKind.bits] using hw
    have hb : bz ((zs.take len).map fun z => UInt8.ofNat z.toNat) i = zs[i] := by
      unfold bz
      rw [at_get (by simpa using hi)]
      simp
      omega
    rw [hb]
    simp [List.getD_eq_getElem?_getD, List.getElem?_eq_getElem hi']

/-- What was read is read again. -/
theorem Below.trodAll {H : Type} {enc : TypeId × Value → H} {P : Program} (hl : laidOutB P = true) {W W' : World} (hb : Below W.heap.size W W') : ∀ {ts : List TypeId} {vs : List Value} {ds : List (DataW H)} {ps : List MemPlace},
    (∀ t ∈ ts, P.readableRec t = true ∧ t < P.types.size) → DataW.TrodAll enc P W 0 (fun _ => true) true ts vs ds ps → DataW.TrodAll enc P W' 0 (fun b => decide (b < W.heap.size)) true ts vs ds ps
  | [], [], [], _, _, h => h
  | t :: ts, v :: vs, d :: ds, _, hr, ⟨p, q, h1, h2, e⟩ => ⟨p, q, Below.trod hl (hr t (by simp)).1 (hr t (by simp)).2 h1 hb (by obtain ⟨m, hm⟩ := h1; exact DataW.trod_lt m _ _ _ hm),
      Below.trodAll hl hb (fun t ht => hr t (by simp [ht])) h2, e⟩
end Go.Proofs.Ytloflmcgbbbnjaa
