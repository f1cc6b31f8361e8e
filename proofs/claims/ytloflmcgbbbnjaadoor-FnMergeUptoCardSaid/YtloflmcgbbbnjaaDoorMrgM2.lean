/-
  WORDS FOR MEMORY: draws alone ('Dr'); only some blocks have turned ('Only'); a block known whole ('Blk'); bytes that are read ('BsAt'); laws for make, copy, append, stated over a world that is a variable.
  WHAT A LAW's ROW WANTS: arguments opened; arguments read again behind a call that writes into nothing that was there.
  SLICES OF STRUCTS: a row of records lies in one block, S cells a record; what came in is read as such a row.
  WHAT A CALL OWNS: cells of its own, all in blocks newer than a world w0 of which nothing has turned ('Own'); what is read under it, whatever else turns ('St', 'Rd'); rows of its own ('Row'); the laws of make, copy, append over them.
-/
import Derived.Test.YtloflmcgbbbnjaaDoorProg
import Derived.Test.YtloflmcgbbbnjaaDoorMrgM1
import Derived.WalkKit
import Derived.WalkSpells
import Derived.WalkLawsBesides
import Derived.Deep.QuietTactic
import Derived.BigQuiet
import Derived.Deep.LoopGhost
import Derived.Deep.DeepCutAuto
import Derived.Deep.CutBlock
import Derived.Laws.CopyOwn
import Derived.Laws.OwnMore
import Derived.Maps.AppendAt
import Derived.Deep.OwnRows
import Derived.Deep.Draws
import Derived.ProofKit
import Derived.OpenShut
import Derived.ShutString
import Derived.ChangeOld
import Derived.Below
import Derived.SizedLaws
import Derived.Laws.Tables
namespace Go.Proofs.YtloflmcgbbbnjaaDoor
open Go.RowKit Plain

theorem hid {p : Prop} (h : p) : Hid p := h
theorem ret_int {k : IntKind} {a b : Int} (h : a = b) : Ending.returned (.int k a) = .returned (.int k b) := by rw [h]
theorem ret_bool {a b : Bool} (h : a = b) : Ending.returned (.bool a) = .returned (.bool b) := by rw [h]

theorem i64_id {x : Int} (h0 : -4611686018427387904 ≤ x) (h1 : x ≤ 4611686018427387904) : IntKind.i64.wrap x = x := by
  simp [IntKind.wrap, IntKind.bits, IntKind.signed]; omega
/-- The second world is the first but for draws. -/
structure Dr (w w' : World) : Prop where mk :: (out : ∃ n, w' = w.drewN n)
theorem Dr.refl (w : World) : Dr w w := ⟨0, rfl⟩
theorem Dr.step {w w' : World} (h : Dr w w') (n : Nat) : Dr w (w'.drewN n) := by obtain ⟨m, rfl⟩ := h.out; exact ⟨_, World.drewN_drewN _ _ _⟩
theorem Dr.drew {w w' : World} (h : Dr w w') : Dr w w'.drew := h.step 1
theorem Dr.trans {a b c : World} (h : Dr a b) (k : Dr b c) : Dr a c := by obtain ⟨m, rfl⟩ := k.out; exact h.step m
theorem Dr.quiet {P : Program} {f : FuncId} {args : Array Value} {w : World} {n : Nat} {v : Value} (h : Calls P f args (w.drewN n) fun e w' => e = .returned v ∧ Dr (w.drewN n) w') :
    Calls P f args (w.drewN n) fun e w' => e = .returned v ∧ ∃ m, w' = w.drewN m :=
  h.mono fun _ _ ⟨he, hm⟩ => ⟨he, by obtain ⟨m, rfl⟩ := hm.out; exact ⟨_, World.drewN_drewN _ _ _⟩⟩
theorem Dr.quiet_add {P : Program} {f : FuncId} {args : Array Value} {w : World} {a n : Nat} {v : Value} (h : Calls P f args (w.drewN (a + n)) fun e w' => e = .returned v ∧ Dr (w.drewN (a + n)) w') :
    Calls P f args (w.drewN (a + n)) fun e w' => e = .returned v ∧ ∃ m, w' = w.drewN (a + m) :=
  h.mono fun _ _ ⟨he, hm⟩ => ⟨he, by obtain ⟨m, rfl⟩ := hm.out; exact ⟨n + m, by rw [World.drewN_drewN, Nat.add_assoc]⟩⟩
theorem Dr.quiet0 {P : Program} {f : FuncId} {args : Array Value} {w : World} {v : Value} (h : Calls P f args w fun e w' => e = .returned v ∧ Dr w w') :
    Calls P f args w fun e w' => e = .returned v ∧ ∃ m, w' = w.drewN m :=
  h.mono fun _ _ ⟨he, hm⟩ => ⟨he, hm.out⟩

/-- Only the blocks of S have turned; new ones may have come. -/
structure Only (S : List Nat) (w w' : World) : Prop where
  os : w'.os = w.os
  tape : w'.tape = w.tape
  output : w'.output = w.output
  size : w.heap.size ≤ w'.heap.size
  block : ∀ k, k < w.heap.size → k ∉ S → w'.heap[k]? = w.heap[k]?
namespace Only
variable {S S' : List Nat} {a w w' : World}
theorem refl (S : List Nat) (w : World) : Only S w w := ⟨rfl, rfl, rfl, Nat.le_refl _, fun _ _ _ => rfl⟩
theorem trans (h : Only S a w) (k : Only S w w') : Only S a w' :=
  ⟨k.os.trans h.os, k.tape.trans h.tape, k.output.trans h.output, Nat.le_trans h.size k.size, fun i hi hn => (k.block i (Nat.lt_of_lt_of_le hi h.size) hn).trans (h.block i hi hn)⟩
theorem mono (h : Only S w w') (hs : ∀ k, k < w.heap.size → k ∈ S → k ∈ S') : Only S' w w' := ⟨h.os, h.tape, h.output, h.size, fun i hi hn => h.block i hi fun hm => hn (hs i hi hm)⟩
theorem drewN (h : Only S a w) (n : Nat) : Only S a (w.drewN n) := ⟨h.os, h.tape, h.output, h.size, h.block⟩
theorem drew (h : Only S a w) : Only S a w.drew := h.drewN 1
theorem dr (h : Only S a w) (k : Dr w w') : Only S a w' := by obtain ⟨n, rfl⟩ := k.out; exact h.drewN n
theorem alloc (h : Only S a w) (o : Obj) : Only S a (w.alloc o) :=
  ⟨h.os, h.tape, h.output, Nat.le_trans h.size (by simp), fun i hi hn => (Below.heap_alloc w o i (Nat.lt_of_lt_of_le hi h.size)).trans (h.block i hi hn)⟩
theorem setCell (h : Only S a w) {p : Addr} (hp : p.block ∈ S ∨ a.heap.size ≤ p.block) (u : Value) : Only S a (w.setCell p u) :=
  ⟨h.os, h.tape, h.output, by simpa [World.setCell] using h.size, fun i hi hn => (Below.heap_setCell w p u i (by
    rintro rfl
    rcases hp with hp | hp
    · exact hn hp
    · omega)).trans (h.block i hi hn)⟩
/-- Then: blocks of S, and blocks that were new. -/
theorem trans' (h : Only S a w) (k : Only S' w w') (hs : ∀ i, i < a.heap.size → i ∈ S' → i ∈ S) : Only S a w' :=
  ⟨k.os.trans h.os, k.tape.trans h.tape, k.output.trans h.output, Nat.le_trans h.size k.size, fun i hi hn => (k.block i (Nat.lt_of_lt_of_le hi h.size) fun hm => hn (hs i hi hm)).trans (h.block i hi hn)⟩
theorem new (h : Only S a w) (k : Only [] w w') : Only S a w' := h.trans' k (by simp)
theorem of_below (h : Below w.heap.size w w') (S : List Nat) : Only S w w' := ⟨h.os, h.tape, h.output, h.size, fun i hi _ => h.block i hi⟩
theorem below (h : Only S w w') {B : Nat} (hB : B ≤ w.heap.size) (hs : ∀ k, k ∈ S → B ≤ k) : Below B w w' :=
  ⟨h.os, h.tape, h.output, h.size, fun i hi => h.block i (Nat.lt_of_lt_of_le hi hB) fun hm => by have := hs i hm; omega⟩
theorem below0 (h : Only [] w w') : Below w.heap.size w w' := h.below (Nat.le_refl _) (by simp)
theorem of_grown {row : Option Nat} (h : w.grownBy w' row) (hs : ∀ k, row = some k → k ∈ S) : Only S w w' :=
  ⟨h.os, h.tape, h.output, h.size, fun i hi hn => h.block i hi fun e => hn (hs i e.symm)⟩
theorem grow (h : Only S a w) {row : Option Nat} (hg : w.grownBy w' row) (hr : ∀ k, row = some k → k ∈ S ∨ a.heap.size ≤ k) : Only S a w' :=
  ⟨hg.os.trans h.os, hg.tape.trans h.tape, hg.output.trans h.output, Nat.le_trans h.size hg.size, fun i hi hn => (hg.block i (Nat.lt_of_lt_of_le hi h.size) fun e => by
    rcases hr i e.symm with h' | h'
    · exact hn h'
    · omega).trans (h.block i hi hn)⟩
theorem cell (h : Only S w w') {p : Addr} (hp : p.block < w.heap.size) (hn : p.block ∉ S) : w'.cell? p = w.cell? p := World.cell?_of_block (h.block _ hp hn)
theorem frozen (h : Only S w w') {p : Addr} (hp : p.block < w.heap.size) (hn : p.block ∉ S) : w'.frozen? p = w.frozen? p := World.frozen?_of_block (h.block _ hp hn)
end Only
theorem Dr.only {w w' : World} (h : Dr w w') : Only [] w w' := (Only.refl _ _).dr h

/-- A block known whole; none of it is frozen. -/
def Blk (w : World) (g : Nat) (t : TypeId) (cs : List Value) : Prop := w.heap[g]? = some (.cells cs.toArray t (0, 0))
namespace Blk
variable {w w' : World} {g : Nat} {t : TypeId} {cs : List Value}
theorem lt (h : Blk w g t cs) : g < w.heap.size := by
  rcases Nat.lt_or_ge g w.heap.size with hlt | hge
  · exact hlt
  · unfold Blk at h; rw [Array.getElem?_eq_none hge] at h; cases h
theorem cell (h : Blk w g t cs) (i : Nat) : w.cell? ⟨g, i, none⟩ = cs[i]? := by
  unfold Blk at h
  simp [World.cell?, h]
theorem frozen (h : Blk w g t cs) (i : Nat) : w.frozen? ⟨g, i, none⟩ = false := by
  unfold Blk at h
  simp [World.frozen?, h]
theorem new (w : World) (t : TypeId) (cs : List Value) : Blk (w.alloc (.cells cs.toArray t)) w.heap.size t cs := heap_alloc_new w _
theorem new' {g : Nat} (h : w.heap.size = g) (t : TypeId) (cs : List Value) : Blk (w.alloc (.cells cs.toArray t)) g t cs := h ▸ new w t cs
theorem drew (h : Blk w g t cs) : Blk w.drew g t cs := h
theorem drewN (h : Blk w g t cs) (n : Nat) : Blk (w.drewN n) g t cs := h
theorem dr (h : Blk w g t cs) (k : Dr w w') : Blk w' g t cs := by obtain ⟨n, rfl⟩ := k.out; exact h
theorem alloc (h : Blk w g t cs) (o : Obj) : Blk (w.alloc o) g t cs := (Below.heap_alloc w o g h.lt).trans h
theorem set_ (h : Blk w g t cs) (i : Nat) (u : Value) : Blk (w.setCell ⟨g, i, none⟩ u) g t (cs.set i u) := by
  unfold Blk at h ⊢
  simp [World.setCell, Array.getElem?_modify, h]
theorem far (h : Blk w g t cs) {p : Addr} (hp : g ≠ p.block) (u : Value) : Blk (w.setCell p u) g t cs := (Below.heap_setCell w p u g hp).trans h
theorem only {S : List Nat} (h : Blk w g t cs) (hb : Only S w w') (hg : g ∉ S) : Blk w' g t cs := (hb.block g h.lt hg).trans h
theorem below {B : Nat} (h : Blk w g t cs) (hb : Below B w w') (hg : g < B) : Blk w' g t cs := (hb.block g hg).trans h
theorem ne_ {g' : Nat} {t' : TypeId} {cs' : List Value} (h : Blk w g t cs) (h' : Blk w g' t' cs') (hne : t ≠ t') : g ≠ g' := by
  rintro rfl
  unfold Blk at h h'
  rw [h] at h'
  injection h' with h'
  injection h' with _ ht
  exact hne ht
end Blk

/-- Bytes as cells. -/
def bc (l : List UInt8) : List Value := l.map fun b => .int .u8 (b.toNat : Int)
theorem bc_length (l : List UInt8) : (bc l).length = l.length := by simp [bc]
theorem bc_append (a b : List UInt8) : bc (a ++ b) = bc a ++ bc b := by simp [bc]
theorem bc_get {l : List UInt8} {i : Nat} (h : i < l.length) : (bc l)[i]? = some (.int .u8 (bz l i)) := by simp [bc, bz, at_, List.getElem?_eq_getElem h]
theorem bc_one (l : List UInt8) : ∀ v ∈ bc l, v.oneCell' = true := by
  intro v hv
  obtain ⟨b, _, rfl⟩ := List.mem_map.1 hv
  rfl

/-- Bytes that are read: nothing is asked where there is none. -/
def BsAt (w : World) (A : Option Addr) (l : List UInt8) : Prop :=
  ∀ i, i < l.length → ∃ g o, A = some ⟨g, o, none⟩ ∧ w.cell? ⟨g, o + i, none⟩ = some (.int .u8 (bz l i))
theorem cell_lt {w : World} {p : Addr} {v : Value} (h : w.cell? p = some v) : p.block < w.heap.size := by
  rcases Nat.lt_or_ge p.block w.heap.size with hlt | hge
  · exact hlt
  · exfalso
    unfold World.cell? at h
    rw [Array.getElem?_eq_none hge] at h
    cases h
namespace BsAt
variable {w w' : World} {A : Option Addr} {l : List UInt8}
theorem nil (w : World) (A : Option Addr) : BsAt w A [] := fun i hi => absurd hi (by simp)
theorem keep {S : List Nat} (h : BsAt w A l) (hb : Only S w w') (hA : ∀ g o, A = some ⟨g, o, none⟩ → g < w.heap.size → g ∉ S) : BsAt w' A l := fun i hi => by
  obtain ⟨g, o, rfl, hc⟩ := h i hi
  have hlt := cell_lt hc
  exact ⟨g, o, rfl, (hb.cell hlt (hA g o rfl hlt)).trans hc⟩
theorem keep0 (h : BsAt w A l) (hb : Only [] w w') : BsAt w' A l := h.keep hb (by simp)
theorem below (h : BsAt w A l) (hb : Below w.heap.size w w') : BsAt w' A l := h.keep0 (Only.of_below hb [])
theorem dr (h : BsAt w A l) (k : Dr w w') : BsAt w' A l := h.keep0 k.only
theorem drewN (h : BsAt w A l) (n : Nat) : BsAt (w.drewN n) A l := h
theorem drew (h : BsAt w A l) : BsAt w.drew A l := h
theorem alloc (h : BsAt w A l) (o : Obj) : BsAt (w.alloc o) A l := h.keep0 ((Only.refl _ _).alloc o)
theorem of_blk {g t off : Nat} {cs : List Value} (h : Blk w g t cs) (hl : ∀ i, i < l.length → cs[off + i]? = some (.int .u8 (bz l i))) : BsAt w (some ⟨g, off, none⟩) l :=
  fun i hi => ⟨g, off, rfl, (h.cell _).trans (hl i hi)⟩
theorem addr (h : BsAt w A l) (hl : 0 < l.length) : ∃ g o, A = some ⟨g, o, none⟩ ∧ g < w.heap.size ∧ ∀ i, i < l.length → w.cell? ⟨g, o + i, none⟩ = some (.int .u8 (bz l i)) := by
  obtain ⟨g, o, rfl, hc⟩ := h 0 hl
  refine ⟨g, o, rfl, cell_lt hc, fun i hi => ?_⟩
  obtain ⟨g', o', e, hc'⟩ := h i hi
  injection e with e
  injection e with e1 e2
  subst e1; subst e2
  exact hc'
theorem take (h : BsAt w A l) (n : Nat) : BsAt w A (l.take n) := fun i hi => by
  rw [List.length_take] at hi
  obtain ⟨g, o, e, hc⟩ := h i (by omega)
  refine ⟨g, o, e, hc.trans ?_⟩
  have : i < n := by omega
  simp [bz, at_, this]
theorem drop {g o : Nat} (h : BsAt w (some ⟨g, o, none⟩) l) (n : Nat) : BsAt w (some ⟨g, o + n, none⟩) (l.drop n) := fun i hi => by
  rw [List.length_drop] at hi
  obtain ⟨g', o', e, hc⟩ := h (n + i) (by omega)
  injection e with e
  injection e with e1 e2
  subst e1; subst e2
  refine ⟨g, o + n, rfl, ?_⟩
  rw [Nat.add_assoc, hc]
  simp [bz, at_]
end BsAt
/-- Cells that are read. -/
def CsAt (w : World) (A : Option Addr) (cs : List Value) : Prop := ∀ i, i < cs.length → ∃ g o, A = some ⟨g, o, none⟩ ∧ w.cell? ⟨g, o + i, none⟩ = cs[i]?
theorem BsAt.cs {w : World} {A : Option Addr} {l : List UInt8} (h : BsAt w A l) : CsAt w A (bc l) := fun i hi => by
  rw [bc_length] at hi
  obtain ⟨g, o, e, hc⟩ := h i hi
  exact ⟨g, o, e, by rw [hc, bc_get hi]⟩
namespace CsAt
variable {w w' : World} {A : Option Addr} {cs : List Value}
theorem nil (w : World) (A : Option Addr) : CsAt w A [] := fun i hi => absurd hi (by simp)
theorem bs {l : List UInt8} (h : CsAt w A (bc l)) : BsAt w A l := fun i hi => by
  obtain ⟨g, o, e, hc⟩ := h i (by rw [bc_length]; exact hi)
  exact ⟨g, o, e, by rw [hc, bc_get hi]⟩
theorem keep {S : List Nat} (h : CsAt w A cs) (hb : Only S w w') (hA : ∀ g o, A = some ⟨g, o, none⟩ → g < w.heap.size → g ∉ S) : CsAt w' A cs := fun i hi => by
  obtain ⟨g, o, rfl, hc⟩ := h i hi
  have hlt := cell_lt (hc.trans (List.getElem?_eq_getElem hi))
  exact ⟨g, o, rfl, (hb.cell hlt (hA g o rfl hlt)).trans hc⟩
theorem keep0 (h : CsAt w A cs) (hb : Only [] w w') : CsAt w' A cs := h.keep hb (by simp)
theorem of_blk {g t : Nat} {all : List Value} (h : Blk w g t all) (off n : Nat) : CsAt w (some ⟨g, off, none⟩) ((all.drop off).take n) := fun i hi => ⟨g, off, rfl, by
  rw [List.length_take] at hi
  rw [h.cell, List.getElem?_take, if_pos (by omega), List.getElem?_drop]⟩
theorem addr (h : CsAt w A cs) (hl : 0 < cs.length) : ∃ g o, A = some ⟨g, o, none⟩ ∧ g < w.heap.size ∧ ∀ i, i < cs.length → w.cell? ⟨g, o + i, none⟩ = cs[i]? := by
  obtain ⟨g, o, rfl, hc⟩ := h 0 hl
  refine ⟨g, o, rfl, cell_lt (hc.trans (List.getElem?_eq_getElem hl)), fun i hi => ?_⟩
  obtain ⟨g', o', e, hc'⟩ := h i hi
  injection e with e
  injection e with e1 e2
  subst e1; subst e2
  exact hc'
end CsAt
/-- 'b[k:]', as the walk writes it. -/
theorem BsAt.cut {w : World} {A : Option Addr} {l : List UInt8} (h : BsAt w A l) (k c : Nat) (hc : l.length ≤ c) :
    BsAt w (if c = k then A else Option.map (fun x => { block := x.block, off := x.off + k, spot := none }) A) (l.drop k) := fun i hi => by
  rw [List.length_drop] at hi
  obtain ⟨g, o, rfl, _, hc'⟩ := h.addr (by omega)
  rw [if_neg (by omega)]
  exact BsAt.drop (g := g) (o := o) (fun j hj => ⟨g, o, rfl, hc' j hj⟩) k i (by rw [List.length_drop]; omega)
theorem add_none (g o j : Nat) : (⟨g, o, none⟩ : Addr).add j = ⟨g, o + j, none⟩ := by unfold Addr.add; split <;> simp_all

theorem BsAt.of_bc {w : World} {g t : Nat} {l : List UInt8} (h : Blk w g t (bc l)) : BsAt w (some ⟨g, 0, none⟩) l := BsAt.of_blk h fun i hi => by rw [Nat.zero_add]; exact bc_get hi
theorem size_setCell (w : World) (p : Addr) (u : Value) : (w.setCell p u).heap.size = w.heap.size := by simp [World.setCell]
theorem splice_full {α : Type} {L cs : List α} (h : cs.length = L.length) : splice L 0 cs = cs := by simp [splice, h]
theorem bc_set (l : List UInt8) (i : Nat) (b : UInt8) : (bc l).set i (.int .u8 (b.toNat : Int)) = bc (l.set i b) := by simp [bc, List.map_set]
/-- A string of these bytes. -/
def bstr (l : List UInt8) : ByteArray := ⟨l.toArray⟩
theorem bstr_toList (l : List UInt8) : (bstr l).data.toList = l := by simp [bstr]
@[go_sem] theorem bstr_list (l : List UInt8) : (bstr l).toList = l := by unfold bstr; exact ByteArray.toList_mk l
theorem run_str {P : Program} {w : World} {A : Option Addr} {l : List UInt8} (src dst e : TypeId) (cap : Nat) (hs : P.underlying src = some (.slice e)) (he : P.underlying e = some (.int .u8)) (hd : P.underlying dst = some .string) (h : BsAt w A l) :
    (convert src dst (.slice A l.length cap)).run P w = .ok (.string (bstr l)) w := by
  have key : ∀ ad : Addr, A = some ad → (∀ j (hj : j < l.length), w.cell? (ad.add j) = some (.int .u8 (l[j].toNat : Int))) → (convert src dst (.slice A l.length cap)).run P w = .ok (.string (bstr l)) w := fun ad e2 hc => by
    rw [e2]; exact run_convert_bytes_back w src dst e ad cap l hs he hd hc
  rcases Nat.eq_zero_or_pos l.length with h0 | h0
  · obtain rfl : l = [] := List.eq_nil_of_length_eq_zero h0
    cases A with
    | none => rw [List.length_nil, run_convert_bytes_string w src dst e none 0 cap hs he hd]; simp [Conv.bytesToString]; rfl
    | some ad => exact key ad rfl (fun j hj => absurd hj (by simp))
  · obtain ⟨g, o, e2, _, hc⟩ := h.addr h0
    refine key _ e2 fun j hj => ?_
    rw [add_none, hc j hj, bz, at_get hj]
theorem run_str_take {P : Program} {w : World} {A : Option Addr} {l : List UInt8} (h : BsAt w A l) {n : Nat} (hn : n ≤ l.length) (src dst e : TypeId) (cap : Nat) (hs : P.underlying src = some (.slice e)) (he : P.underlying e = some (.int .u8)) (hd : P.underlying dst = some .string) :
    (convert src dst (.slice A n cap)).run P w = .ok (.string (bstr (l.take n))) w := by
  have := run_str (P := P) src dst e cap hs he hd (h.take n)
  rwa [List.length_take, Nat.min_eq_left hn] at this
theorem own_form {w : World} {base e size n : Nat} {v : Value} {xs : List Value} (h : w.ownsRow base e size v n xs) (hn : 0 < n) : ∃ g cap, v = .slice (some ⟨g, 0, none⟩) n cap ∧ n ≤ cap ∧ g < w.heap.size := by
  rcases h.2 with ⟨_, h0⟩ | ⟨g, cap, cur, rfl, _, hh, hc, _⟩
  · omega
  · refine ⟨g, cap, rfl, hc, ?_⟩
    rcases Nat.lt_or_ge g w.heap.size with hlt | hge
    · exact hlt
    · rw [Array.getElem?_eq_none hge] at hh; cases hh
theorem own_bs {w : World} {base e n : Nat} {v : Value} {xs : List Value} {l : List UInt8} (h : w.ownsRow base e 1 v n xs) (hx : xs = bc l) : ∃ A c, v = .slice A l.length c ∧ l.length ≤ c ∧ BsAt w A l := by
  subst hx
  obtain ⟨hn, h⟩ := h
  rw [bc_length, Nat.mul_one] at hn
  subst hn
  rcases h with ⟨rfl, h0⟩ | ⟨g, cap, cur, rfl, _, hh, hc, _, _, ht⟩
  · obtain rfl : l = [] := List.eq_nil_of_length_eq_zero h0
    exact ⟨none, 0, rfl, Nat.le_refl _, BsAt.nil _ _⟩
  · refine ⟨_, cap, rfl, hc, BsAt.of_blk (t := e) (cs := cur.toList) (by unfold Blk; rw [hh, Array.toArray_toList]) fun i hi => ?_⟩
    rw [← bc_get hi, ← ht, List.getElem?_take, if_pos (by omega), Nat.zero_add]
/-- A row of the call's own that holds bytes, at least one. -/
theorem own_bytes {w : World} {base e n : Nat} {v : Value} {l : List UInt8} (h : w.ownsRow base e 1 v n (bc l)) (hl : 0 < l.length) :
    ∃ g c, v = .slice (some ⟨g, 0, none⟩) l.length c ∧ l.length ≤ c ∧ g < w.heap.size ∧ BsAt w (some ⟨g, 0, none⟩) l := by
  have hn : n = l.length := by have := h.1; rw [bc_length, Nat.mul_one] at this; omega
  subst hn
  obtain ⟨g, c, rfl, hc, hlt⟩ := own_form h hl
  obtain ⟨A, c', e2, _, hb⟩ := own_bs h rfl
  injection e2 with e2 _ _
  subst e2
  exact ⟨g, c, rfl, hc, hlt, hb⟩
/-- A row whose block is not below B. -/
def From (B : Nat) (v : Value) : Prop := ∀ k, v.ownBlock = some k → B ≤ k
theorem From.none_ (B : Nat) (n c : Nat) : From B (.slice none n c) := fun k h => by simp [Value.ownBlock] at h
theorem From.at_ {B g : Nat} (h : B ≤ g) (o n c : Nat) : From B (.slice (some ⟨g, o, none⟩) n c) := fun k hk => by simp [Value.ownBlock] at hk; omega
theorem From.next {B : Nat} {w : World} {v v' : Value} (h : From B v) (hB : B ≤ w.heap.size) (hat : v'.ownBlock = v.ownBlock ∨ v'.ownBlock = some w.heap.size) : From B v' := fun k hk => by
  rcases hat with e | e
  · exact h k (e ▸ hk)
  · rw [e] at hk; injection hk with hk; omega
theorem Only.grow0 {a w w' : World} {S : List Nat} {v : Value} (h : Only S a w) (hg : w.grownBy w' v.ownBlock) (hv : From a.heap.size v) : Only S a w' := h.grow hg fun k hk => .inr (hv k hk)
/-- A row dst that is appended to: what has turned, and where it is now. -/
structure Grow (w : World) (dst : Value) (w' : World) (v' : Value) : Prop where
  only : Only dst.ownBlock.toList w w'
  now : v'.ownBlock = dst.ownBlock ∨ ∃ g, v'.ownBlock = some g ∧ w.heap.size ≤ g
namespace Grow
variable {w w1 w2 : World} {v v1 v2 : Value}
theorem refl (w : World) (v : Value) : Grow w v w v := ⟨Only.refl _ _, .inl rfl⟩
theorem alloc (h : Grow w v w1 v1) (o : Obj) : Grow w v (w1.alloc o) v1 := ⟨h.only.alloc o, h.now⟩
theorem drewN (h : Grow w v w1 v1) (n : Nat) : Grow w v (w1.drewN n) v1 := ⟨h.only.drewN n, h.now⟩
theorem new (h : Grow w v w1 v1) (k : Only [] w1 w2) : Grow w v w2 v1 := ⟨h.only.new k, h.now⟩
theorem row (h : Grow w v w1 v1) : ∀ k, v1.ownBlock = some k → k ∈ v.ownBlock.toList ∨ w.heap.size ≤ k := fun k hk => by
  rcases h.now with e | ⟨g, e, hg⟩
  · exact .inl (by rw [← e, hk]; simp)
  · rw [e] at hk; injection hk with hk; exact .inr (by omega)
theorem step (h : Grow w v w1 v1) (hg : w1.grownBy w2 v1.ownBlock) (hat : v2.ownBlock = v1.ownBlock ∨ v2.ownBlock = some w1.heap.size) : Grow w v w2 v2 :=
  ⟨h.only.grow hg h.row, by
    rcases hat with e | e
    · rw [e]; exact h.now
    · exact .inr ⟨_, e, h.only.size⟩⟩
theorem trans (h : Grow w v w1 v1) (k : Grow w1 v1 w2 v2) : Grow w v w2 v2 :=
  ⟨h.only.trans' k.only fun i hi hm => by
    rcases h.row i (by simpa using hm) with h' | h'
    · exact h'
    · omega, by
    rcases k.now with e | ⟨g, e, hg⟩
    · rw [e]; exact h.now
    · exact .inr ⟨g, e, Nat.le_trans h.only.size hg⟩⟩
/-- A store into it. -/
theorem set_ (h : Grow w v w1 v1) {g : Nat} (hv : v1.ownBlock = some g) (j : Nat) (u : Value) : Grow w v (w1.setCell ⟨g, j, none⟩ u) v1 := ⟨h.only.setCell (h.row g hv) u, h.now⟩
/-- Nothing of the start's has turned where the row was none of it. -/
theorem only0 (h : Grow w v w1 v1) (hv : From w.heap.size v) : Only [] w w1 := h.only.mono fun k hk hm => by have := hv k (by simpa using hm); omega
end Grow
theorem csAt_one (w : World) (u : Value) (t : TypeId) : CsAt (w.alloc (.cells #[u] t)) (some ⟨w.heap.size, 0, none⟩) [u] := by
  have := CsAt.of_blk (Blk.new w t [u]) 0 1
  simpa using this
/-! ### a region that draws its order, walked once, at a class of worlds -/
section
variable {P : Program} {ops : Array Oper} {C : World → Prop} {Q : Act → Prop} {a : Act} {o : Oper} {rest : List Oper}
theorem wp_region_cls {id : Nat} {Q : Exit → Act → World → Prop} {a : Act} {w : World} {l : List Oper} (C : World → Prop) (hm : P.follows .mixedOrders = true) (hB : Region.lexB .any l.toArray = true) (hC : C w.drew)
    (h : wpQuiet P l.toArray C (fun a' => ∀ w', C w' → Q .normal a' w') l a) : (Code.region id l.toArray true).wp P Q a w :=
  wp_region_quiet (C := C) hm hB hC (by simpa using h)
theorem wpQuiet_plain (hg : o.guard = none) (h : ∀ K : Act → Prop, (∀ a, wpQuiet P ops C Q rest a → K a) → o.quiet P a C K) : wpQuiet P ops C Q (o :: rest) a :=
  wpQuiet_step fun K hK => by simp only [Region.wanted, hg, if_true]; exact h K hK
theorem quiet_mk {K : Act → Prop} {v : Value} (h1 : ∀ w', C w' → o.quietAt P a C w' v) (h2 : K (a.put o.dst v)) : o.quiet P a C K := ⟨v, h1, h2⟩
end
/-! ### the laws -/
section
variable {P : Program} {ops : Array Oper} {rest : List Oper} {o : Oper} {a : Act} {Q : Exit → Act → World → Prop} {w : World}

/-- make([]T, n, c), T of one cell. -/
theorem wp_make (hgd : o.guard = none) (l c : Operand) (t : TypeId) (hop : o.op = .makeSlice t l c) (e : TypeId) (z : Value) (bytes : Nat) (ht : P.underlying t = some (.slice e))
    (hinfo : (P.info? e).map (fun i => (i.zero, i.size, i.bytes)) = some (some z, 1, bytes)) (hz1 : z.cells = #[z]) (kl kc : IntKind) (x y : Int) (n m : Nat) (hl : a.eval l = .int kl x) (hc : a.eval c = .int kc y)
    (hx : x = (n : Int)) (hy : y = (m : Int)) (hnm : n ≤ m) (hb : bytes * m ≤ 281474976710656) (h63 : m ≤ 9223372036854775807)
    (h : ∀ w', Blk w' w.heap.size e (List.replicate m z) → w'.heap.size = w.heap.size + 1 → Only [] w w' → wpList P ops Q rest (a.put o.dst (.slice (some ⟨w.heap.size, 0, none⟩) n m)) w') :
    wpList P ops Q (o :: rest) a w := by
  obtain ⟨i, hi, hzz⟩ := Option.map_eq_some_iff.1 hinfo
  simp only [Prod.mk.injEq] at hzz
  obtain ⟨hz, hs, hbt⟩ := hzz
  subst hx; subst hy
  refine wpList_plain hgd fun K hK => ?_
  have hbb : (i.bytes : Int) * (m : Int) ≤ 281474976710656 := by
    have h' : ((i.bytes * m : Nat) : Int) ≤ 281474976710656 := by rw [hbt]; omega
    rwa [Int.natCast_mul] at h'
  have hrun := run_make (P := P) w t e i z ht hi hz kl kc n m (by omega) (by omega) hbb (by omega)
  simp only [Int.toNat_natCast, hs, Nat.mul_one, hz1] at hrun
  unfold Oper.wp
  simp [execOp, hop, hl, hc, hrun, Result.andThen]
  refine hK _ _ (h _ ?_ (by simp) ((Only.refl _ _).alloc _))
  have hmk : madeCells #[z] m = (List.replicate m z).toArray := Array.ext' (by rw [toList_madeCells_one])
  rw [hmk]
  exact Blk.new w e _

/-- copy(dst, src), both of one cell an element, into a block known whole. -/
theorem wp_copy (hgd : o.guard = none) (d s : Operand) (dT sT : TypeId) (ho : o.op = .call { callee := .builtin .copy, args := #[d, s], argTypes := #[dT, sT] }) (elem : TypeId) (hu : P.underlying dT = some (.slice elem))
    (hsz : (P.info? elem).map (·.size) = some 1) (g off dLen dCap : Nat) (A : Option Addr) (sLen sCap : Nat) (hd : a.eval d = .slice (some ⟨g, off, none⟩) dLen dCap) (hs : a.eval s = .slice A sLen sCap)
    (cur : List Value) (t : TypeId) (hg : Blk w g t cur) (l : List UInt8) (hA : BsAt w A l) (hn : l.length = min sLen dLen) (hfit : off + l.length ≤ cur.length)
    (h : ∀ w', Blk w' g t (splice cur off (bc l)) → w'.heap.size = w.heap.size → Only [g] w w' → wpList P ops Q rest (a.put o.dst (.int .i64 (l.length : Int))) w') :
    wpList P ops Q (o :: rest) a w := by
  by_cases h0 : l.length = 0
  · obtain rfl : l = [] := List.eq_nil_of_length_eq_zero h0
    refine wpList_copy_nothing hgd d s dT sT ho elem hu hsz _ _ _ _ _ _ hd hs (by simpa using (show min sLen dLen = 0 from hn.symm)) ?_
    exact h w (by simpa [splice, bc] using hg) rfl (Only.refl _ _)
  · obtain ⟨g', o', rfl, _, hc⟩ := hA.addr (by omega)
    refine wpList_copy_own hgd d s dT sT ho elem hu hsz g off dLen dCap _ sLen sCap hd hs cur.toArray t hg (bc l) (by rw [bc_length]; exact hn) (fun j v hj => ?_) (by simpa [bc_length] using hfit) (bc_one l) ?_
    · rw [add_none]
      have hjl : j < l.length := by
        have := (List.getElem?_eq_some_iff.1 hj).1
        rwa [bc_length] at this
      rw [hc j hjl, ← bc_get hjl, hj]
    · rw [show goInt (bc l).length = .int .i64 (l.length : Int) by rw [bc_length]; rfl]
      refine h _ ?_ (by simp [World.setRow]) ?_
      · have := setRow_heap w g cur.toArray (splice cur off (bc l)).toArray t _ hg
        simpa [Blk, splice] using this
      · exact ⟨rfl, rfl, rfl, by simp [World.setRow], fun k _ hk => setRow_other w g k _ (by simpa using hk)⟩

theorem run_append_of_nil (base : Nat) (t ty e : TypeId) (i : TypeInfo) (size : Nat) (ht : P.underlying t = some (.slice e)) (hi : P.info? e = some i)
    (v : Value) (n : Nat) (xs : List Value) (hown : w.ownsRow base e size v n xs) (c : Nat) : (Builtin.append_ #[t, t] ty #[v, .slice none 0 c]).run P w = .ok v w := by
  rcases hown.2 with ⟨rfl, rfl⟩ | ⟨g, cap, cur, rfl, _, _, hnc, _⟩
  · simp [Builtin.append_, run_underlying ht, sizeOf, typeInfo, hi, Builtin.lenOf, Builtin.firstCells]
  · simp [Builtin.append_, run_underlying ht, sizeOf, typeInfo, hi, Builtin.lenOf, Builtin.firstCells, hnc, storeCells]

/-- append(v, src...) onto a row of the call's own; the source nil, empty or not. -/
theorem wp_append (hgd : o.guard = none) (s x : Operand) (t : TypeId) (ho : o.op = .call { callee := .builtin .append, args := #[s, x], argTypes := #[t, t] })
    (e : TypeId) (z : Value) (size bytes : Nat) (ht : P.underlying t = some (.slice e)) (hinfo : (P.info? e).map (fun i => (i.zero, i.size, i.bytes)) = some (some z, size, bytes)) (hzs : z.cells.size = size) (hsz : 0 < size)
    (v : Value) (n : Nat) (xs : List Value) (hs : a.eval s = v) (hown : w.ownsRow 0 e size v n xs) (A : Option Addr) (m c : Nat) (news : List Value) (hx : a.eval x = .slice A m c) (hl : news.length = m * size) (hA : CsAt w A news)
    (h1 : ∀ u ∈ news, u.oneCell' = true) (h63 : n + m ≤ maxLen) (hbytes : (n + m) * bytes ≤ 140737488355328)
    (h : ∀ v' w', w'.ownsRow 0 e size v' (n + m) (xs ++ news) → w.grownBy w' v.ownBlock → (v' = .slice none 0 0 ↔ v = .slice none 0 0 ∧ m = 0) → (v'.ownBlock = v.ownBlock ∨ v'.ownBlock = some w.heap.size) → wpList P ops Q rest (a.put o.dst v') w') :
    wpList P ops Q (o :: rest) a w := by
  obtain ⟨i, hi, hzz⟩ := Option.map_eq_some_iff.1 hinfo
  simp only [Prod.mk.injEq] at hzz
  obtain ⟨hz, hss, hbt⟩ := hzz
  have key : ∀ ad, A = some ad → (∀ j u, news[j]? = some u → w.cell? (ad.add j) = some u) → wpList P ops Q (o :: rest) a w := fun ad e2 hc =>
    wpList_append_own_at w hgd s x t ho 0 e i z size bytes ht hi hz hss hbt hzs hsz v n xs hs hown ad m c news (by rw [hx, e2]) hl hc h1 h63 hbytes (Nat.zero_le _) h
  rcases Nat.eq_zero_or_pos news.length with h0 | h0
  · obtain rfl : news = [] := List.eq_nil_of_length_eq_zero h0
    rcases A with _ | ad
    · have hm : m = 0 := by
        rcases Nat.eq_zero_or_pos m with h | h
        · exact h
        · have := Nat.mul_pos h hsz; simp at hl; omega
      subst hm
      refine wpList_plain hgd fun K hK => ?_
      have hrun := run_append_of_nil (P := P) (w := w) 0 t o.type e i size ht hi v n xs hown c
      unfold Oper.wp execOp
      simp only [ho, resolve, invoke, builtin, Sem.run_bind, Sem.run_pure, Result.andThen_ok, List.map_toArray, List.map_cons, List.map_nil, hs, hx, hrun]
      exact hK _ _ (h v w (by simpa using hown) (World.grownBy.refl w _) (by simp) (.inl rfl))
    · exact key ad rfl (fun j u hj => by simp at hj)
  · obtain ⟨g, o', e2, _, hc⟩ := hA.addr h0
    refine key _ e2 fun j u hj => ?_
    have hjl := (List.getElem?_eq_some_iff.1 hj).1
    rw [add_none, hc j hjl, hj]
end
/-! ### a row of the call's own, kept -/
theorem own_only {w w' : World} {base e size n : Nat} {v : Value} {xs : List Value} {S : List Nat} (h : w.ownsRow base e size v n xs) (ho : Only S w w') (hS : ∀ k, v.ownBlock = some k → k ∉ S) : w'.ownsRow base e size v n xs := by
  refine ⟨h.1, ?_⟩
  rcases h.2 with h0 | ⟨g, cap, cur, rfl, hb, hh, hr⟩
  · exact .inl h0
  · have hlt : g < w.heap.size := by
      rcases Nat.lt_or_ge g w.heap.size with hlt | hge
      · exact hlt
      · rw [Array.getElem?_eq_none hge] at hh; cases hh
    exact .inr ⟨g, cap, cur, rfl, hb, (ho.block g hlt (hS g rfl)).trans hh, hr⟩
theorem own_ne {w : World} {base e size n g t : Nat} {v : Value} {xs cs : List Value} (h : w.ownsRow base e size v n xs) (hg : Blk w g t cs) (hne : e ≠ t) : ∀ k, v.ownBlock = some k → k ≠ g := by
  intro k hk
  rcases h.2 with ⟨rfl, _⟩ | ⟨g', cap, cur, rfl, hb, hh, _⟩
  · cases hk
  · simp [Value.ownBlock] at hk
    subst hk
    rintro rfl
    unfold Blk at hg
    rw [hh] at hg
    injection hg with hg
    injection hg with _ hg
    exact hne hg
theorem own_lt {w : World} {base e size n : Nat} {v : Value} {xs : List Value} (h : w.ownsRow base e size v n xs) : ∀ k, v.ownBlock = some k → k < w.heap.size := fun k hk => (h.lt k hk).2
end Go.Proofs.YtloflmcgbbbnjaaDoor
namespace Go.Proofs.YtloflmcgbbbnjaaDoor
open Go.RowKit Plain Go.ChangeShapes Go.WideShapes Go.ChangeAt

theorem Tryd.own : ownKnob Tryd.prog.godebug = none := by kernel_rfl
theorem Tryd.laidOut : laidOutB Tryd.prog = true := by kernel_rfl

/-- Bytes that came in. -/
theorem open_bytes {H : Type} {enc : TypeId × Value → H} {P : Program} {W : World} {base : Nat} {spare : Nat → Bool} {held : Bool} {t e : TypeId} {a : Option Addr} {len cap : Nat} {d : DataW H} {ps : List MemPlace}
    (ht : P.underlying t = some (.slice e)) (he : P.underlying e = some (.int .u8)) (hc : P.cellsOf e = 1) (h : DataW.Trod enc P W base spare held t (.slice a len cap) d ps) :
    ∃ l : List UInt8, len = l.length ∧ l.length ≤ cap ∧ cap ≤ maxLen ∧ BsAt W a l := by
  obtain ⟨fuel, hf⟩ := h
  rcases open_ints ht he hc hf with ⟨hcs, _⟩ | ⟨x, l, c, zs, hcs, _, hl, hm, hz, _, hcell, hwz⟩
  · simp [Value.cells] at hcs
    obtain ⟨rfl, rfl, rfl⟩ := hcs
    exact ⟨[], rfl, Nat.le_refl _, Nat.zero_le _, BsAt.nil _ _⟩
  · simp [Value.cells] at hcs
    obtain ⟨rfl, rfl, rfl⟩ := hcs
    have hlz : len ≤ zs.length := by split at hz <;> omega
    refine ⟨(zs.take len).map fun z => UInt8.ofNat z.toNat, by simp; omega, by simp; omega, hm, fun i hi => ?_⟩
    have hi' : i < zs.length := by simp at hi; omega
    have hil : i < len := by simp at hi; omega
    have hcl := hcell i hi'
    obtain ⟨g, o, spot⟩ := x
    have hspot : spot = none := by
      have h0 := hcell 0 (by omega)
      have h0' := World.cell?_spot h0
      simpa [Addr.add] using h0'
    subst hspot
    rw [add_none] at hcl
    refine ⟨g, o, rfl, hcl.trans ?_⟩
    have hw := hwz _ (List.getElem_mem hi')
    have hw' : 0 ≤ zs[i] ∧ zs[i] ≤ 255 := by simpa [Lit.wf, IntKind.min, IntKind.max, IntKind.signed, IntKind.bits] using hw
    have hb : bz ((zs.take len).map fun z => UInt8.ofNat z.toNat) i = zs[i] := by
      unfold bz
      rw [at_get (by simpa using hi)]
      simp
      omega
    rw [hb]
    simp [List.getD_eq_getElem?_getD, List.getElem?_eq_getElem hi']

/-- What was read is read again. -/
theorem Below.trodAll {H : Type} {enc : TypeId × Value → H} {P : Program} (hl : laidOutB P = true) {W W' : World} (hb : Below W.heap.size W W') : ∀ {ts : List TypeId} {vs : List Value} {ds : List (DataW H)} {ps : List MemPlace},
    (∀ t ∈ ts, P.readableRec t = true ∧ t < P.types.size) → DataW.TrodAll enc P W 0 (fun _ => true) true ts vs ds ps → DataW.TrodAll enc P W' 0 (fun b => decide (b < W.heap.size)) true ts vs ds ps
  | [], [], [], _, _, h => h
  | t :: ts, v :: vs, d :: ds, _, hr, ⟨p, q, h1, h2, e⟩ => ⟨p, q, Below.trod hl (hr t (by simp)).1 (hr t (by simp)).2 h1 hb (by obtain ⟨m, hm⟩ := h1; exact DataW.trod_lt m _ _ _ hm),
      Below.trodAll hl hb (fun t ht => hr t (by simp [ht])) h2, e⟩
end Go.Proofs.YtloflmcgbbbnjaaDoor
namespace Go.Proofs.YtloflmcgbbbnjaaDoor
open Go.RowKit Plain Go.ChangeShapes Go.WideShapes Go.ChangeAt

theorem choose_list {α : Type} (n : Nat) (p : Nat → α → Prop) (h : ∀ i, i < n → ∃ x, p i x) : ∃ l : List α, l.length = n ∧ ∀ i x, l[i]? = some x → p i x := by
  induction n with
  | zero => exact ⟨[], rfl, fun i x h => by simp at h⟩
  | succ n ih =>
    obtain ⟨l, hl, hp⟩ := ih fun i hi => h i (by omega)
    obtain ⟨x, hx⟩ := h n (by omega)
    refine ⟨l ++ [x], by simp [hl], fun i y hy => ?_⟩
    rcases Nat.lt_or_ge i l.length with hi | hi
    · rw [List.getElem?_append_left hi] at hy; exact hp i y hy
    · rw [List.getElem?_append_right hi] at hy
      have : i = n := by
        have := (List.getElem?_eq_some_iff.1 hy).1
        simp at this; omega
      subst this
      simp [hl] at hy
      exact hy ▸ hx

section
variable {α : Type} (f : α → List Value) (S : Nat)
theorem flat_length (hS : ∀ x, (f x).length = S) : ∀ l : List α, (l.flatMap f).length = l.length * S
  | [] => by simp
  | x :: l => by rw [List.flatMap_cons, List.length_append, hS, flat_length hS l, List.length_cons, Nat.add_mul, Nat.one_mul, Nat.add_comm]
theorem flat_get (hS : ∀ x, (f x).length = S) : ∀ (l : List α) (i : Nat) (x : α) (j : Nat), l[i]? = some x → j < S → (l.flatMap f)[i * S + j]? = (f x)[j]?
  | [], i, x, j, h, _ => by simp at h
  | y :: l, 0, x, j, h, hj => by
    simp at h
    subst h
    rw [List.flatMap_cons, Nat.zero_mul, Nat.zero_add, List.getElem?_append_left (by rw [hS]; exact hj)]
  | y :: l, i + 1, x, j, h, hj => by
    have h' : l[i]? = some x := by simpa using h
    rw [List.flatMap_cons, List.getElem?_append_right (by rw [hS, Nat.add_mul, Nat.one_mul]; omega), hS, show (i + 1) * S + j - S = i * S + j by rw [Nat.add_mul, Nat.one_mul]; omega]
    exact flat_get hS l i x j h' hj
/-- The cells of one record of a row. -/
theorem CsAt.at_row {w : World} {A : Option Addr} {l : List α} (hS : ∀ x, (f x).length = S) (h0 : 0 < S) (h : CsAt w A (l.flatMap f)) {i : Nat} {x : α} (hx : l[i]? = some x) :
    ∃ g o, A = some ⟨g, o, none⟩ ∧ ∀ j, j < S → w.cell? ⟨g, o + (i * S + j), none⟩ = (f x)[j]? := by
  have hi := (List.getElem?_eq_some_iff.1 hx).1
  have hlt : ∀ j, j < S → i * S + j < (l.flatMap f).length := fun j hj => by
    rw [flat_length f S hS]
    have : (i + 1) * S ≤ l.length * S := Nat.mul_le_mul_right S hi
    rw [Nat.add_mul, Nat.one_mul] at this; omega
  obtain ⟨g, o, e, _, hc⟩ := h.addr (by have := hlt 0 h0; omega)
  exact ⟨g, o, e, fun j hj => by rw [hc _ (hlt j hj), flat_get f S hS l i x j hx hj]⟩
end

section
variable {H : Type} {enc : TypeId × Value → H} {P : Program} {W : World} {base : Nat} {spare : Nat → Bool} {held : Bool}
theorem open_bytes_f {fuel : Nat} {t e : TypeId} {cs : List Value} {x : DataW H × List MemPlace} (ht : P.underlying t = some (.slice e)) (he : P.underlying e = some (.int .u8)) (hc : P.cellsOf e = 1)
    (h : DataW.trod enc P W base spare held fuel t cs = some x) : ∃ (A : Option Addr) (l : List UInt8) (c : Nat), cs = [.slice A l.length c] ∧ l.length ≤ c ∧ c ≤ maxLen ∧ BsAt W A l := by
  rcases DataW.trod_slice ht h with ⟨rfl, _⟩ | ⟨a, len, cap, _, _, _, _, rfl, _⟩
  · exact ⟨none, [], 0, rfl, Nat.le_refl _, Nat.zero_le _, BsAt.nil _ _⟩
  · have h' : DataW.Trod enc P W base spare held t (.slice (some a) len cap) x.1 x.2 := ⟨fuel, by simpa [Value.cells] using h⟩
    obtain ⟨l, rfl, hl, hm, hb⟩ := open_bytes ht he hc h'
    exact ⟨some a, l, cap, rfl, hl, hm, hb⟩

/-- A row of records that came in. -/
theorem open_rows {α : Type} (f : α → List Value) (ok : α → Prop) (S : Nat) {fuel : Nat} {t e : TypeId} {cs : List Value} {x : DataW H × List MemPlace} (ht : P.underlying t = some (.slice e)) (hc : P.cellsOf e = S) (hS : ∀ x, (f x).length = S) (h0 : 0 < S)
    (hop : ∀ (n : Nat) (c : List Value) (y : DataW H × List MemPlace), DataW.trod enc P W base spare held n e c = some y → ∃ x, c = f x ∧ ok x)
    (h : DataW.trod enc P W base spare held fuel t cs = some x) : ∃ (A : Option Addr) (l : List α) (c : Nat), cs = [.slice A l.length c] ∧ l.length ≤ c ∧ c ≤ maxLen ∧ CsAt W A (l.flatMap f) ∧ ∀ y ∈ l, ok y := by
  rcases DataW.trod_slice ht h with ⟨rfl, _⟩ | ⟨a, len, cap, elems, rest, n, _, rfl, _, _, hl, hm, hlen, hel, _⟩
  · exact ⟨none, [], 0, rfl, Nat.le_refl _, Nat.zero_le _, CsAt.nil _ _, fun y hy => by simp at hy⟩
  · obtain ⟨l, hll, hp⟩ := choose_list (α := α) len (fun i x => (∀ j, j < S → W.cell? ((a.add (i * S)).add j) = (f x)[j]?) ∧ ok x) fun i hi => by
      have h1 := hel i hi
      rw [List.getElem?_eq_getElem (by omega), Option.bind_eq_some_iff, hc] at h1
      obtain ⟨c, hcs, hy⟩ := h1
      obtain ⟨x, rfl, hx⟩ := hop n c _ hy
      obtain ⟨_, _, hcell⟩ := World.cells?_some hcs
      exact ⟨x, hcell, hx⟩
    subst hll
    refine ⟨some a, l, cap, rfl, hl, hm, fun k hk => ?_, fun y hy => ?_⟩
    · rw [flat_length f S hS] at hk
      have hi : k / S < l.length := (Nat.div_lt_iff_lt_mul h0).2 hk
      have hj : k % S < S := Nat.mod_lt _ h0
      obtain ⟨g, o, spot⟩ := a
      have hc0 := (hp (k / S) l[k / S] (List.getElem?_eq_getElem hi)).1 (k % S) hj
      have hsp : spot = none := by
        have hl0 : 0 < l.length := Nat.lt_of_le_of_lt (Nat.zero_le _) hi
        have hs0 : 0 < (f l[0]).length := by rw [hS]; exact h0
        have hs := (hp 0 l[0] (List.getElem?_eq_getElem hl0)).1 0 h0
        rw [List.getElem?_eq_getElem hs0, Nat.zero_mul] at hs
        have h0' := World.cell?_spot hs
        simpa [Addr.add] using h0'
      subst hsp
      rw [add_none, add_none] at hc0
      refine ⟨g, o, rfl, ?_⟩
      have hk' : k / S * S + k % S = k := by rw [Nat.mul_comm]; exact Nat.div_add_mod k S
      have hfl := flat_get f S hS l (k / S) l[k / S] (k % S) (List.getElem?_eq_getElem hi) hj
      rw [hk'] at hfl
      rw [hfl, ← hc0, show o + k / S * S + k % S = o + k by omega]
    · obtain ⟨i, hi, rfl⟩ := List.getElem_of_mem hy
      exact (hp i _ (List.getElem?_eq_getElem hi)).2
end
end Go.Proofs.YtloflmcgbbbnjaaDoor
namespace Go.Proofs.YtloflmcgbbbnjaaDoor
open Go.RowKit Plain

/-- Cells of one block, from a place on; 'whole': all of the block's, of this element type. -/
structure Fr where
  g : Nat
  off : Nat
  cs : List Value
  whole : Option TypeId
  ro : Option Obj
abbrev fw (g t : Nat) (cs : List Value) : Fr := ⟨g, 0, cs, some t, none⟩
abbrev fp (g off : Nat) (cs : List Value) : Fr := ⟨g, off, cs, none, none⟩
/-- A block that is kept as it is, whatever it is. -/
abbrev fk (g : Nat) (o : Obj) : Fr := ⟨g, 0, [], some 0, some o⟩
namespace Fr
def In0 (x : Fr) (w : World) : Prop :=
  (∀ t, x.whole = some t → x.off = 0 ∧ Blk w x.g t x.cs) ∧ ∃ t all, Blk w x.g t all ∧ ∀ i, i < x.cs.length → all[x.off + i]? = x.cs[i]?
def In (x : Fr) (w : World) : Prop := (x.ro = none ∧ x.In0 w) ∨ ∃ o, x.ro = some o ∧ x.cs = [] ∧ x.whole ≠ none ∧ w.heap[x.g]? = some o
def dj (x y : Fr) : Prop := x.g ≠ y.g ∨ (x.whole = none ∧ y.whole = none ∧ (x.off + x.cs.length ≤ y.off ∨ y.off + y.cs.length ≤ x.off ∨ x.cs.length = 0 ∨ y.cs.length = 0))
theorem dj_symm {x y : Fr} (h : x.dj y) : y.dj x := by
  rcases h with h | ⟨h1, h2, h3⟩
  · exact .inl (Ne.symm h)
  · exact .inr ⟨h2, h1, by omega⟩
variable {x : Fr} {w w' : World} {g t off : Nat} {cs : List Value}
theorem In.in0 (h : x.In w) (hro : x.ro = none) : x.In0 w := by
  rcases h with h | ⟨o, h, _⟩
  · exact h.2
  · rw [hro] at h; cases h
theorem In.ro_none (h : x.In w) (hc : 0 < x.cs.length) : x.ro = none := by
  rcases h with h | ⟨o, _, h, _⟩
  · exact h.1
  · rw [h] at hc; cases hc
theorem In.obj {o : Obj} (h : (fk g o).In w) : w.heap[g]? = some o := by
  rcases h with h | ⟨o', h, _, _, hh⟩
  · cases h.1
  · cases h; exact hh
theorem in_fk {o : Obj} (h : w.heap[g]? = some o) : (fk g o).In w := .inr ⟨o, rfl, rfl, by simp, h⟩
theorem in_fw (h : Blk w g t cs) : (fw g t cs).In w := .inl ⟨rfl, fun t' e => by simp at e; subst e; exact ⟨rfl, h⟩, t, cs, h, fun i _ => by simp⟩
theorem In.blk (h : (fw g t cs).In w) : Blk w g t cs := ((h.in0 rfl).1 t rfl).2
theorem get_lt {w : World} {g : Nat} {o : Obj} (h : w.heap[g]? = some o) : g < w.heap.size := by
  rcases Nat.lt_or_ge g w.heap.size with hlt | hge
  · exact hlt
  · rw [Array.getElem?_eq_none hge] at h; cases h
theorem In.lt (h : x.In w) : x.g < w.heap.size := by
  rcases h with ⟨_, _, t, all, hb, _⟩ | ⟨o, _, _, _, h⟩
  · exact hb.lt
  · exact get_lt h
theorem In.cell (h : x.In w) {i k : Nat} (hk : k = x.off + i) (hi : i < x.cs.length) : w.cell? ⟨x.g, k, none⟩ = x.cs[i]? := by
  obtain ⟨_, t, all, hb, hc⟩ := h.in0 (h.ro_none (by omega))
  rw [hb.cell, hk, hc i hi]
theorem In.frozen (h : x.In w) (k : Nat) (hro : x.ro = none := by rfl) : w.frozen? ⟨x.g, k, none⟩ = false := by
  obtain ⟨_, t, all, hb, hc⟩ := h.in0 hro
  exact hb.frozen k
theorem In.keep {S : List Nat} (h : x.In w) (ho : Only S w w') (hg : x.g ∉ S) : x.In w' := by
  rcases h with ⟨h0, h1, t, all, hb, hc⟩ | ⟨o, h1, h2, h3, h4⟩
  · exact .inl ⟨h0, fun t' e => ⟨(h1 t' e).1, (h1 t' e).2.only ho hg⟩, t, all, hb.only ho hg, hc⟩
  · exact .inr ⟨o, h1, h2, h3, (ho.block _ (get_lt h4) hg).trans h4⟩
end Fr

structure Own (L : List Fr) (w0 w : World) : Prop where
  only : Only [] w0 w
  ins : ∀ x ∈ L, x.In w
  new : ∀ x ∈ L, w0.heap.size ≤ x.g
  dj : L.Pairwise Fr.dj
namespace Own
variable {L L' M M' R : List Fr} {w0 w w' : World} {x y : Fr} {g t off : Nat} {cs : List Value}
theorem start (w : World) : Own [] w w := ⟨Only.refl _ _, by simp, by simp, by simp⟩
theorem perm (h : Own L w0 w) (hp : L.Perm L') : Own L' w0 w :=
  ⟨h.only, fun x hx => h.ins x (hp.mem_iff.2 hx), fun x hx => h.new x (hp.mem_iff.2 hx), (hp.pairwise_iff Fr.dj_symm).1 h.dj⟩
theorem sub (h : Own L w0 w) (hs : L'.Sublist L) : Own L' w0 w :=
  ⟨h.only, fun x hx => h.ins x (hs.subset hx), fun x hx => h.new x (hs.subset hx), h.dj.sublist hs⟩
theorem drop (h : Own (x :: L) w0 w) : Own L w0 w := h.sub (List.sublist_cons_self _ _)
theorem right (h : Own (M ++ R) w0 w) : Own R w0 w := h.sub (List.sublist_append_right _ _)
theorem left (h : Own (M ++ R) w0 w) : Own M w0 w := h.sub (List.sublist_append_left _ _)
theorem head (h : Own (x :: L) w0 w) : x.In w := h.ins x (by simp)
theorem at_ (h : Own L w0 w) (n : Nat) (hn : L[n]? = some x) : x.In w := h.ins x (List.mem_of_getElem? hn)
theorem lt (h : Own L w0 w) (hx : x ∈ L) : x.g < w.heap.size := (h.ins x hx).lt
theorem drewN (h : Own L w0 w) (n : Nat) : Own L w0 (w.drewN n) := ⟨h.only.drewN n, h.ins, h.new, h.dj⟩
theorem drew (h : Own L w0 w) : Own L w0 w.drew := h.drewN 1
theorem dr (h : Own L w0 w) (k : Dr w w') : Own L w0 w' := by obtain ⟨n, rfl⟩ := k.out; exact h.drewN n
/-- A callee that has turned only the whole blocks M (and laid new ones): M' stands for M. -/
theorem swap (h : Own (M ++ R) w0 w) (hw : ∀ x ∈ M, x.whole ≠ none) (ho : Only (M.map (·.g)) w w') (hb : ∀ x ∈ M', x.In w') (hn : ∀ x ∈ M', x.g ∈ M.map (·.g) ∨ w.heap.size ≤ x.g) (hd : M'.Pairwise Fr.dj) : Own (M' ++ R) w0 w' := by
  have hM : ∀ k, k ∈ M.map (·.g) → w0.heap.size ≤ k := fun k hk => by
    obtain ⟨x, hx, rfl⟩ := List.mem_map.1 hk
    exact h.new x (List.mem_append_left _ hx)
  have hdj := List.pairwise_append.1 h.dj
  have hR : ∀ x ∈ R, x.g ∉ M.map (·.g) := fun x hx hm => by
    obtain ⟨y, hy, e⟩ := List.mem_map.1 hm
    rcases hdj.2.2 y hy x hx with h1 | h1
    · exact h1 e
    · exact hw y hy h1.1
  have hRb : ∀ x ∈ R, x.In w := fun x hx => h.ins x (List.mem_append_right _ hx)
  refine ⟨h.only.trans' ho fun i hi hm => ?_, fun x hx => ?_, fun x hx => ?_, ?_⟩
  · have := hM i hm; omega
  · rcases List.mem_append.1 hx with hx | hx
    · exact hb x hx
    · exact (hRb x hx).keep ho (hR x hx)
  · rcases List.mem_append.1 hx with hx | hx
    · rcases hn x hx with h1 | h1
      · exact hM _ h1
      · exact Nat.le_trans h.only.size h1
    · exact h.new x (List.mem_append_right _ hx)
  · refine List.pairwise_append.2 ⟨hd, hdj.2.1, fun a ha b hb' => .inl fun e => ?_⟩
    rcases hn a ha with h1 | h1
    · exact hR b hb' (by rw [← e]; exact h1)
    · have := (hRb b hb').lt; omega
theorem only0 (h : Own L w0 w) (ho : Only [] w w') : Own L w0 w' := by
  have := swap (M := []) (M' := []) (R := L) h (by simp) (by simpa using ho) (by simp) (by simp) (by simp)
  simpa using this
theorem skip (h : Own L w0 w) (o : Obj) : Own L w0 (w.alloc o) := h.only0 ((Only.refl _ _).alloc o)
theorem fresh (h : Own L w0 w) (ho : Only [] w w') (hb : Blk w' g t cs) (hg : w.heap.size ≤ g) : Own (fw g t cs :: L) w0 w' :=
  swap (M := []) (M' := [fw g t cs]) (R := L) h (by simp) (by simpa using ho) (by simpa using Fr.in_fw hb) (by simpa using hg) (by simp)
theorem alloc (h : Own L w0 w) (t : TypeId) (cs : List Value) : Own (fw w.heap.size t cs :: L) w0 (w.alloc (.cells cs.toArray t)) :=
  h.fresh ((Only.refl [] w).alloc _) (Blk.new w t cs) (Nat.le_refl _)
theorem allocA (h : Own L w0 w) {g : Nat} (hg : w.heap.size = g) (t : TypeId) (c : Array Value) : Own (fw g t c.toList :: L) w0 (w.alloc (.cells c t)) := by
  have := hg ▸ h.alloc t c.toList
  rwa [Array.toArray_toList] at this
theorem alloc' (h : Own L w0 w) {g : Nat} (hg : w.heap.size = g) (t : TypeId) (cs : List Value) : Own (fw g t cs :: L) w0 (w.alloc (.cells cs.toArray t)) := hg ▸ h.alloc t cs
/-- A block of any kind, kept. -/
theorem freshObj (h : Own L w0 w) {o : Obj} (ho : Only [] w w') (hb : w'.heap[g]? = some o) (hg : w.heap.size ≤ g) : Own (fk g o :: L) w0 w' :=
  swap (M := []) (M' := [fk g o]) (R := L) h (by simp) (by simpa using ho) (by simpa using Fr.in_fk hb) (by simpa using hg) (by simp)
/-- The fragment at the head has turned, and nothing else of its block. -/
theorem upd (h : Own (x :: L) w0 w) (hro : x.ro = none) {cs' : List Value} (ho : Only [x.g] w w') (hlen : cs'.length = x.cs.length)
    (hb : ∀ t all, Blk w x.g t all → ∃ all', Blk w' x.g t all' ∧ (∀ i, i < cs'.length → all'[x.off + i]? = cs'[i]?) ∧ (∀ j, j < x.off ∨ x.off + x.cs.length ≤ j → all'[j]? = all[j]?)) :
    Own ({ x with cs := cs' } :: L) w0 w' := by
  have hdj := List.pairwise_cons.1 h.dj
  have hx := (h.ins x (by simp)).in0 hro
  refine ⟨h.only.trans' ho fun i hi hm => ?_, fun y hy => ?_, fun y hy => ?_, ?_⟩
  · have := h.new x (by simp); simp at hm; omega
  · rcases List.mem_cons.1 hy with rfl | hy
    · obtain ⟨h1, t, all, hbl, hc⟩ := hx
      obtain ⟨all', hb', hc', hj'⟩ := hb t all hbl
      refine .inl ⟨hro, fun t' e => ?_, t, all', hb', hc'⟩
      have h1' := h1 t' e
      refine ⟨h1'.1, ?_⟩
      obtain ⟨all2, hb2, hc2, hj2⟩ := hb t' x.cs h1'.2
      have e2 : all2 = cs' := by
        apply List.ext_getElem?
        intro i
        rcases Nat.lt_or_ge i cs'.length with hi | hi
        · have := hc2 i hi
          rwa [h1'.1, Nat.zero_add] at this
        · have := hj2 i (.inr (by rw [h1'.1]; omega))
          rw [this, List.getElem?_eq_none (by omega), List.getElem?_eq_none (by omega)]
      rw [← e2]
      exact hb2
    · have hyi := h.ins y (List.mem_cons_of_mem _ hy)
      rcases hdj.1 y hy with hne | ⟨hw1, hw2, hr⟩
      · exact hyi.keep ho (by simpa using Ne.symm hne)
      · by_cases hgy : x.g = y.g
        · have hyro : y.ro = none := by
            rcases hyi with h0 | ⟨_, _, _, h0, _⟩
            · exact h0.1
            · exact absurd hw2 h0
          obtain ⟨_, t, all, hbl, hc⟩ := hyi.in0 hyro
          rw [← hgy] at hbl
          obtain ⟨all', hb', hc', hj'⟩ := hb t all hbl
          refine .inl ⟨hyro, fun t' e => ?_, t, all', by rw [← hgy]; exact hb', fun i hi => ?_⟩
          · rw [hw2] at e; cases e
          · rw [hj' _ (by omega), hc i hi]
        · exact hyi.keep ho (by simpa using Ne.symm hgy)
  · rcases List.mem_cons.1 hy with rfl | hy
    · exact h.new x (by simp)
    · exact h.new y (List.mem_cons_of_mem _ hy)
  · refine List.pairwise_cons.2 ⟨fun y hy => ?_, hdj.2⟩
    rcases hdj.1 y hy with hne | ⟨hw1, hw2, hr⟩
    · exact .inl hne
    · exact .inr ⟨hw1, hw2, by rw [hlen]; exact hr⟩
theorem set (h : Own (x :: L) w0 w) {k : Nat} (i : Nat) (hk : k = x.off + i) (hi : i < x.cs.length) (u : Value) : Own ({ x with cs := x.cs.set i u } :: L) w0 (w.setCell ⟨x.g, k, none⟩ u) := by
  have hro := (h.ins x (by simp)).ro_none (by omega)
  refine h.upd hro ((Only.refl [x.g] w).setCell (.inl (by simp)) u) (by simp) fun t all hbl => ⟨all.set k u, hbl.set_ k u, fun j hj => ?_, fun j hj => ?_⟩
  · subst hk
    obtain ⟨_, t', all', hb', hc'⟩ := (h.ins x (by simp)).in0 hro
    have e : all' = all := by
      unfold Blk at hb' hbl
      rw [hbl] at hb'
      injection hb' with hb'
      injection hb' with hb'
      exact (List.toArray_inj hb').symm
    subst e
    rw [List.length_set] at hj
    have hlen : x.off + i < all'.length := by
      have := hc' i hi
      rw [List.getElem?_eq_getElem hi] at this
      exact (List.getElem?_eq_some_iff.1 this).1
    rw [List.getElem?_set, List.getElem?_set]
    by_cases hij : i = j
    · subst hij; simp [hi, hlen]
    · rw [if_neg (by omega), if_neg hij, hc' j hj]
  · rw [List.getElem?_set_ne (by omega)]
theorem swap01 (h : Own (x :: y :: L) w0 w) : Own (y :: x :: L) w0 w := h.perm (List.Perm.swap _ _ _)
theorem toHead (h : Own L w0 w) (n : Nat) (hn : L[n]? = some x) : Own (x :: L.eraseIdx n) w0 w := by
  obtain ⟨hlt, he⟩ := List.getElem?_eq_some_iff.1 hn
  refine h.perm ?_
  have e1 : L = L.take n ++ x :: L.drop (n + 1) := by
    conv => lhs; rw [← List.take_append_drop n L]
    rw [List.drop_eq_getElem_cons hlt, he]
  rw [List.eraseIdx_eq_take_drop_succ]
  conv => lhs; rw [e1]
  exact List.perm_middle
/-- Another one of the fragments: a cell of it is set. -/
theorem setN (h : Own L w0 w) (n : Nat) (hn : L[n]? = some x) {k : Nat} (i : Nat) (hk : k = x.off + i) (hi : i < x.cs.length) (u : Value) : Own (L.set n { x with cs := x.cs.set i u }) w0 (w.setCell ⟨x.g, k, none⟩ u) := by
  obtain ⟨hlt, he⟩ := List.getElem?_eq_some_iff.1 hn
  have h1 := (h.toHead n hn).set i hk hi u
  refine h1.perm ?_
  rw [List.eraseIdx_eq_take_drop_succ]
  have e : ∀ y : Fr, L.set n y = L.take n ++ y :: L.drop (n + 1) := fun y => by rw [List.set_eq_take_append_cons_drop, if_pos hlt]
  rw [e]
  exact List.perm_middle.symm
/-- A fragment's cell. -/
theorem cell (h : Own L w0 w) (n : Nat) (hn : L[n]? = some x) {k : Nat} (i : Nat) (hk : k = x.off + i) (hi : i < x.cs.length) : w.cell? ⟨x.g, k, none⟩ = x.cs[i]? := (h.at_ n hn).cell hk hi
theorem frozen (h : Own L w0 w) (n : Nat) (hn : L[n]? = some x) (k : Nat) (hro : x.ro = none := by rfl) : w.frozen? ⟨x.g, k, none⟩ = false := (h.at_ n hn).frozen k hro
/-- A whole block, as cells. -/
theorem part (h : Own (fw g t cs :: L) w0 w) : Own (fp g 0 cs :: L) w0 w := by
  have hdj := List.pairwise_cons.1 h.dj
  refine ⟨h.only, fun y hy => ?_, fun y hy => ?_, List.pairwise_cons.2 ⟨fun y hy => ?_, hdj.2⟩⟩
  · rcases List.mem_cons.1 hy with rfl | hy
    · obtain ⟨_, hh⟩ := (h.ins (fw g t cs) (by simp)).in0 rfl
      exact .inl ⟨rfl, fun t e => by simp at e, hh⟩
    · exact h.ins y (List.mem_cons_of_mem _ hy)
  · rcases List.mem_cons.1 hy with rfl | hy
    · exact h.new (fw g t cs) (by simp)
    · exact h.new y (List.mem_cons_of_mem _ hy)
  · rcases hdj.1 y hy with hne | ⟨hw1, _⟩
    · exact .inl hne
    · cases hw1
/-- Cells, parted. -/
theorem split {a b : List Value} (h : Own (fp g off (a ++ b) :: L) w0 w) {k : Nat} (hk : k = off + a.length) : Own (fp g off a :: fp g k b :: L) w0 w := by
  subst hk
  have hdj := List.pairwise_cons.1 h.dj
  have hx := (h.ins (fp g off (a ++ b)) (by simp)).in0 rfl
  obtain ⟨_, t, all, hb, hc⟩ := hx
  simp only [List.length_append] at hc
  refine ⟨h.only, fun y hy => ?_, fun y hy => ?_, List.pairwise_cons.2 ⟨fun y hy => ?_, List.pairwise_cons.2 ⟨fun y hy => ?_, hdj.2⟩⟩⟩
  · rcases List.mem_cons.1 hy with rfl | hy
    · exact .inl ⟨rfl, fun t e => by simp at e, t, all, hb, fun i hi => by rw [hc i (by simp at hi; omega), List.getElem?_append_left (by simpa using hi)]⟩
    · rcases List.mem_cons.1 hy with rfl | hy
      · exact .inl ⟨rfl, fun t e => by simp at e, t, all, hb, fun i hi => by
          rw [Nat.add_assoc, hc (a.length + i) (by simp at hi; omega), List.getElem?_append_right (by omega)]; simp⟩
      · exact h.ins y (List.mem_cons_of_mem _ hy)
  · rcases List.mem_cons.1 hy with rfl | hy
    · exact h.new (fp g off (a ++ b)) (by simp)
    · rcases List.mem_cons.1 hy with rfl | hy
      · exact h.new (fp g off (a ++ b)) (by simp)
      · exact h.new y (List.mem_cons_of_mem _ hy)
  · rcases List.mem_cons.1 hy with rfl | hy
    · exact .inr ⟨rfl, rfl, .inl (Nat.le_refl _)⟩
    · rcases hdj.1 y hy with hne | ⟨hw1, hw2, hr⟩
      · exact .inl hne
      · exact .inr ⟨rfl, hw2, by simp only [List.length_append] at hr ⊢; omega⟩
  · rcases hdj.1 y hy with hne | ⟨hw1, hw2, hr⟩
    · exact .inl hne
    · exact .inr ⟨rfl, hw2, by simp only [List.length_append] at hr ⊢; omega⟩
/-- Two neighbouring parts of a block are one. -/
theorem glue {k : Nat} {a b : List Value} (h : Own (fp g off a :: fp g k b :: L) w0 w) (hk : k = off + a.length) : Own (fp g off (a ++ b) :: L) w0 w := by
  subst hk
  have hd1 := List.pairwise_cons.1 h.dj
  have hd2 := List.pairwise_cons.1 hd1.2
  obtain ⟨_, t, all, hb, hc⟩ := (h.ins (fp g off a) (by simp)).in0 rfl
  have hall : ∀ i, i < b.length → all[off + a.length + i]? = b[i]? := fun i hi => by
    have e1 := (h.ins (fp g (off + a.length) b) (by simp)).cell (i := i) (k := off + a.length + i) (by rfl) hi
    rw [hb.cell] at e1
    exact e1
  refine ⟨h.only, fun y hy => ?_, fun y hy => ?_, List.pairwise_cons.2 ⟨fun y hy => ?_, hd2.2⟩⟩
  · rcases List.mem_cons.1 hy with rfl | hy
    · refine .inl ⟨rfl, fun t e => by simp at e, t, all, hb, fun i hi => ?_⟩
      simp only [List.length_append] at hi
      by_cases hia : i < a.length
      · rw [hc i hia, List.getElem?_append_left hia]
      · have := hall (i - a.length) (by omega)
        rw [show off + a.length + (i - a.length) = off + i by omega] at this
        rw [this, List.getElem?_append_right (by omega)]
    · exact h.ins y (by simp [hy])
  · rcases List.mem_cons.1 hy with rfl | hy
    · exact h.new (fp g off a) (by simp)
    · exact h.new y (by simp [hy])
  · have q1 := hd1.1 y (by simp [hy])
    have q2 := hd2.1 y hy
    unfold Fr.dj at q1 q2 ⊢
    simp only [List.length_append] at q1 q2 ⊢
    rcases q1 with q1 | ⟨_, h1, q1⟩
    · exact .inl q1
    · rcases q2 with q2 | ⟨_, _, q2⟩
      · exact .inl q2
      · exact .inr ⟨trivial, h1, by omega⟩
/-- What a callee has laid anew, beside what was there. -/
theorem join {F : List Fr} (h : Own R w0 w) (h' : Own F w w') : Own (F ++ R) w0 w' := by
  refine ⟨h.only.new h'.only, fun x hx => ?_, fun x hx => ?_, List.pairwise_append.2 ⟨h'.dj, h.dj, fun a ha b hb => .inl fun e => ?_⟩⟩
  · rcases List.mem_append.1 hx with hx | hx
    · exact h'.ins x hx
    · exact (h.ins x hx).keep h'.only (by simp)
  · rcases List.mem_append.1 hx with hx | hx
    · exact Nat.le_trans h.only.size (h'.new x hx)
    · exact h.new x hx
  · have h1 := h'.new a ha
    have h2 := (h.ins b hb).lt
    omega
end Own

/-- What holds in every world that holds these cells and has turned nothing of w0. -/
def St (R : List Fr) (w0 : World) (p : World → Prop) : Prop := ∀ w, Only [] w0 w → (∀ x ∈ R, x.In w) → p w
theorem Own.st {L R : List Fr} {w0 w : World} {p : World → Prop} (h : Own L w0 w) (hp : St R w0 p) (hs : ∀ x ∈ R, x ∈ L) : p w := hp w h.only fun x hx => h.ins x (hs x hx)
theorem Own.stR {M R : List Fr} {w0 w : World} {p : World → Prop} (h : Own (M ++ R) w0 w) (hp : St R w0 p) : p w := h.st hp fun _ hx => List.mem_append_right _ hx
namespace St
variable {R R' : List Fr} {w0 w : World} {p q : World → Prop}
theorem mono (hp : St R w0 p) (hs : ∀ x ∈ R, x ∈ R') : St R' w0 p := fun w ho hb => hp w ho fun x hx => hb x (hs x hx)
theorem imp (hp : St R w0 p) (h : ∀ w, p w → q w) : St R w0 q := fun w ho hb => h w (hp w ho hb)
theorem and (hp : St R w0 p) (hq : St R w0 q) : St R w0 fun w => p w ∧ q w := fun w ho hb => ⟨hp w ho hb, hq w ho hb⟩
theorem right (hp : St R w0 p) (M : List Fr) : St (M ++ R) w0 p := hp.mono fun _ hx => List.mem_append_right _ hx
theorem left (hp : St R w0 p) (M : List Fr) : St (R ++ M) w0 p := hp.mono fun _ hx => List.mem_append_left _ hx
theorem cons (hp : St R w0 p) (x : Fr) : St (x :: R) w0 p := hp.mono fun _ hx => List.mem_cons_of_mem _ hx
/-- Seen from a later world. -/
theorem now {L : List Fr} (hp : St R w0 p) (h : Own L w0 w) : St R w p := fun w' ho hb => hp w' (h.only.new ho) hb
end St
/-- Bytes that are read whatever else turns. -/
abbrev Rd (R : List Fr) (w0 : World) (A : Option Addr) (l : List UInt8) : Prop := St R w0 fun w => BsAt w A l
namespace Rd
variable {R : List Fr} {w0 : World} {A : Option Addr} {l : List UInt8}
theorem old (h : BsAt w0 A l) (R : List Fr) : Rd R w0 A l := fun _ ho _ => h.keep0 ho
theorem nil (R : List Fr) (w0 : World) (A : Option Addr) : Rd R w0 A [] := fun _ _ _ => BsAt.nil _ _
theorem take (h : Rd R w0 A l) (n : Nat) : Rd R w0 A (l.take n) := fun w ho hb => (h w ho hb).take n
theorem drop {g o : Nat} (h : Rd R w0 (some ⟨g, o, none⟩) l) (n : Nat) : Rd R w0 (some ⟨g, o + n, none⟩) (l.drop n) := fun w ho hb => (h w ho hb).drop n
theorem cut (h : Rd R w0 A l) (k c : Nat) (hc : l.length ≤ c) : Rd R w0 (if c = k then A else Option.map (fun x => { block := x.block, off := x.off + k, spot := none }) A) (l.drop k) := fun w ho hb => (h w ho hb).cut k c hc
theorem cutM (h : Rd R w0 A l) (n : Nat) : Rd R w0 (Option.map (fun x => x.add n) A) (l.drop n) := fun w ho hb i hi => by
  rw [List.length_drop] at hi
  obtain ⟨g, o, rfl, _, hc'⟩ := (h w ho hb).addr (by omega)
  have := BsAt.drop (g := g) (o := o) (fun j hj => ⟨g, o, rfl, hc' j hj⟩) n i (by rw [List.length_drop]; omega)
  simpa [add_none] using this
theorem fr {x : Fr} (hx : x ∈ R) {i k : Nat} (hk : k = x.off + i) (hi : i + l.length ≤ x.cs.length) (hl : (x.cs.drop i).take l.length = bc l) : Rd R w0 (some ⟨x.g, k, none⟩) l := fun w _ hb j hj => by
  subst hk
  refine ⟨x.g, x.off + i, rfl, ?_⟩
  rw [(hb x hx).cell (i := i + j) (by omega) (by omega)]
  have := congrArg (·[j]?) hl
  simp only [bc_get hj] at this
  rwa [List.getElem?_take, if_pos hj, List.getElem?_drop] at this
/-- Bytes in a block that is kept. -/
theorem kept {g k t : Nat} {c : Array Value} {m : Nat × Nat} (hx : fk g (.cells c t m) ∈ R) (hl : (c.toList.drop k).take l.length = bc l) : Rd R w0 (some ⟨g, k, none⟩) l := fun w _ hb j hj => by
  refine ⟨g, k, rfl, ?_⟩
  have ho := (hb _ hx).obj
  have := congrArg (·[j]?) hl
  simp only [bc_get hj] at this
  rw [List.getElem?_take, if_pos hj, List.getElem?_drop] at this
  simpa [World.cell?, ho] using this
end Rd

/-- A row of the call's own: n elements of the type e, of size cells each; the block F it lies in (none where it is nil). -/
def Row (e size : Nat) (A : Option Addr) (n c : Nat) (xs : List Value) (F : List Fr) : Prop :=
  xs.length = n * size ∧ ((A = none ∧ n = 0 ∧ c = 0 ∧ F = []) ∨ ∃ g cur, A = some ⟨g, 0, none⟩ ∧ F = [fw g e cur] ∧ n ≤ c ∧ c ≤ maxLen ∧ cur.length = c * size ∧ cur.take (n * size) = xs)
namespace Row
variable {e size n c : Nat} {A : Option Addr} {xs : List Value} {F R : List Fr} {w0 w : World} {l : List UInt8}
theorem nil (e size : Nat) : Row e size none 0 0 [] [] := ⟨by simp, .inl ⟨rfl, rfl, rfl, rfl⟩⟩
theorem le (h : Row e size A n c xs F) : n ≤ c := by
  rcases h.2 with ⟨_, rfl, rfl, _⟩ | ⟨g, cur, _, _, h1, _⟩
  · exact Nat.le_refl _
  · exact h1
theorem cap (h : Row e size A n c xs F) : c ≤ maxLen := by
  rcases h.2 with ⟨_, rfl, rfl, _⟩ | ⟨g, cur, _, _, h1, h2, _⟩
  · exact Nat.zero_le _
  · exact h2
theorem made (e : Nat) {size g n c : Nat} {cur : List Value} (h1 : n ≤ c) (h2 : c ≤ maxLen) (h3 : cur.length = c * size) : Row e size (some ⟨g, 0, none⟩) n c (cur.take (n * size)) [fw g e cur] :=
  ⟨by rw [List.length_take, h3, Nat.min_eq_left (Nat.mul_le_mul_right _ h1)], .inr ⟨g, cur, rfl, rfl, h1, h2, h3, rfl⟩⟩
theorem owns (h : Row e size A n c xs F) (hb : ∀ x ∈ F, x.In w) : w.ownsRow 0 e size (.slice A n c) n xs := by
  refine ⟨h.1, ?_⟩
  rcases h.2 with ⟨rfl, rfl, rfl, rfl⟩ | ⟨g, cur, rfl, rfl, h1, h2, h3, h4⟩
  · exact .inl ⟨rfl, rfl⟩
  · exact .inr ⟨g, c, cur.toArray, rfl, Nat.zero_le _, (hb (fw g e cur) (by simp)).blk, h1, h2, by simpa using h3, by simpa using h4⟩
theorem of_owns {v : Value} (h : w.ownsRow 0 e size v n xs) : ∃ A c F, v = .slice A n c ∧ Row e size A n c xs F ∧ (∀ x ∈ F, x.In w) ∧ F.map (·.g) = v.ownBlock.toList ∧ F.Pairwise Fr.dj := by
  rcases h.2 with ⟨rfl, rfl⟩ | ⟨g, cap, cur, rfl, _, hh, h1, h2, h3, h4⟩
  · exact ⟨none, 0, [], rfl, ⟨h.1, .inl ⟨rfl, rfl, rfl, rfl⟩⟩, by simp, rfl, by simp⟩
  · exact ⟨_, cap, [fw g e cur.toList], rfl, ⟨h.1, .inr ⟨g, cur.toList, rfl, rfl, h1, h2, by simpa using h3, h4⟩⟩, by simpa using Fr.in_fw (by simpa [Blk] using hh), rfl, by simp⟩
theorem cs (h : Row e size A n c xs F) (hb : ∀ x ∈ F, x.In w) : CsAt w A xs := by
  rcases h.2 with ⟨rfl, rfl, rfl, rfl⟩ | ⟨g, cur, rfl, rfl, h1, h2, h3, h4⟩
  · have := h.1
    obtain rfl : xs = [] := List.eq_nil_of_length_eq_zero (by simpa using this)
    exact CsAt.nil _ _
  · have := CsAt.of_blk (hb (fw g e cur) (by simp)).blk 0 (n * size)
    rw [List.drop_zero, h4] at this
    exact this
theorem st (h : Row e size A n c xs F) (w0 : World) : St F w0 fun w => CsAt w A xs := fun _ _ hb => h.cs hb
theorem rd (h : Row e 1 A n c (bc l) F) (w0 : World) : Rd F w0 A l := fun _ _ hb => (h.cs hb).bs
theorem len (h : Row e 1 A n c (bc l) F) : n = l.length := by have := h.1; rw [bc_length] at this; omega
theorem csO (h : Row e size A n c xs F) (hO : Own (F ++ R) w0 w) : CsAt w A xs := h.cs fun x hx => hO.ins x (List.mem_append_left _ hx)
theorem bsO (h : Row e 1 A n c (bc l) F) (hO : Own (F ++ R) w0 w) : BsAt w A l := (h.csO hO).bs
/-- Cut back to fewer elements, from its head. -/
theorem back (h : Row e size A n c xs F) {m : Nat} (hm : m ≤ n) : Row e size A m c (xs.take (m * size)) F := by
  have hmn := Nat.mul_le_mul_right size hm
  refine ⟨by rw [List.length_take, h.1, Nat.min_eq_left hmn], ?_⟩
  rcases h.2 with ⟨rfl, rfl, rfl, rfl⟩ | ⟨g, cur, rfl, rfl, h1, h2, h3, h4⟩
  · exact .inl ⟨rfl, by omega, rfl, rfl⟩
  · exact .inr ⟨g, cur, rfl, rfl, by omega, h2, h3, by rw [← h4, List.take_take, Nat.min_eq_left hmn]⟩
theorem whole (h : Row e size A n c xs F) : ∀ x ∈ F, x.whole ≠ none := by
  rcases h.2 with ⟨_, _, _, rfl⟩ | ⟨g, cur, _, rfl, _⟩ <;> simp
theorem block (h : Row e size A n c xs F) : F.map (·.g) = (Value.slice A n c).ownBlock.toList := by
  rcases h.2 with ⟨rfl, rfl, rfl, rfl⟩ | ⟨g, cur, rfl, rfl, _⟩ <;> rfl
theorem none_iff (h : Row e size A n c xs F) : A = none ↔ Value.slice A n c = .slice none 0 0 := by
  rcases h.2 with ⟨rfl, rfl, rfl, rfl⟩ | ⟨g, cur, rfl, rfl, _⟩ <;> simp
end Row

/-! ### the laws -/
theorem Blk.inj {w : World} {g t t' : Nat} {a b : List Value} (h : Blk w g t a) (h' : Blk w g t' b) : t = t' ∧ a = b := by
  unfold Blk at h h'
  rw [h] at h'
  injection h' with h'
  injection h' with h1 h2
  exact ⟨h2, List.toArray_inj h1⟩
section
variable {P : Program} {ops : Array Oper} {rest : List Oper} {o : Oper} {a : Act} {Q : Exit → Act → World → Prop} {w0 w : World} {R : List Fr}
/-- append(s, src...), s a row of the call's own. -/
theorem own_append (hgd : o.guard = none) (s x : Operand) (t : TypeId) (ho : o.op = .call { callee := .builtin .append, args := #[s, x], argTypes := #[t, t] })
    (e : TypeId) (z : Value) (size bytes : Nat) (ht : P.underlying t = some (.slice e)) (hinfo : (P.info? e).map (fun i => (i.zero, i.size, i.bytes)) = some (some z, size, bytes)) (hzs : z.cells.size = size) (hsz : 0 < size)
    (A : Option Addr) (n c : Nat) (xs : List Value) (F : List Fr) (hs : a.eval s = .slice A n c) (hr : Row e size A n c xs F) (hO : Own (F ++ R) w0 w)
    (A2 : Option Addr) (m c2 : Nat) (news : List Value) (hx : a.eval x = .slice A2 m c2) (hl : news.length = m * size) (hA : CsAt w A2 news)
    (h1 : ∀ u ∈ news, u.oneCell' = true) (h63 : n + m ≤ maxLen) (hbytes : (n + m) * bytes ≤ 140737488355328)
    (h : ∀ A' c' F' w', Row e size A' (n + m) c' (xs ++ news) F' → Own (F' ++ R) w0 w' → (A' = none ↔ A = none ∧ m = 0) → wpList P ops Q rest (a.put o.dst (.slice A' (n + m) c')) w') :
    wpList P ops Q (o :: rest) a w := by
  refine wp_append hgd s x t ho e z size bytes ht hinfo hzs hsz (.slice A n c) n xs hs (hr.owns fun x hx => hO.ins x (List.mem_append_left _ hx)) A2 m c2 news hx hl hA h1 h63 hbytes fun v' w' hown hgr hnil hat => ?_
  obtain ⟨A', c', F', rfl, hr', hb', hF, hdj⟩ := Row.of_owns hown
  refine h A' c' F' w' hr' ?_ ?_
  · have hFo := hr.block
    refine hO.swap hr.whole (Only.of_grown hgr fun k hk => by rw [hFo, hk]; simp) hb' (fun y hy => ?_) hdj
    have hy' : y.g ∈ F'.map (·.g) := List.mem_map.2 ⟨y, hy, rfl⟩
    rw [hF] at hy'
    rcases hat with e | e
    · rw [e, ← hFo] at hy'; exact .inl hy'
    · rw [e] at hy'; simp at hy'; exact .inr (by omega)
  · rw [hr'.none_iff, hnil, hr.none_iff]
/-- A whole value is stored over a whole block. -/
theorem own_store_row (hgd : o.guard = none) (ty : TypeId) (x y : Operand) (ho : o.op = .store ty x y) (g : Nat) (cells : Array Value) (hx : a.eval x = .pointer (some ⟨g, 0, none⟩)) (hy : a.eval y = .agg cells)
    (t : TypeId) (old : List Value) (hO : Own (fw g t old :: R) w0 w) (hi : (P.info? ty).map (·.size) = some cells.size) (hold : old.length = cells.size) (h1 : cells.all (·.oneCell') = true)
    (h : ∀ w', Own (fw g t cells.toList :: R) w0 w' → wpList P ops Q rest (a.put o.dst undef) w') : wpList P ops Q (o :: rest) a w := by
  have hb := hO.head.blk
  refine wpList_store_row hgd ty x y ho g cells hx hy t old.toArray hb hi (by simpa using hold) h1 (h _ ?_)
  have hb' : Blk (w.setRow g cells) g t cells.toList := by
    have := setRow_heap w g old.toArray cells t _ hb
    simpa [Blk] using this
  refine Own.swap (M := [fw g t old]) (M' := [fw g t cells.toList]) (R := R) hO (by simp) ?_ (by simpa using Fr.in_fw hb') (by simp) (by simp)
  exact ⟨rfl, rfl, rfl, by simp [World.setRow], fun k _ hk => setRow_other w g k _ (by simpa using hk)⟩
/-- make([]T, n, c), T of one cell. -/
theorem own_make (hgd : o.guard = none) (l c : Operand) (t : TypeId) (hop : o.op = .makeSlice t l c) (e : TypeId) (z : Value) (bytes : Nat) (ht : P.underlying t = some (.slice e))
    (hinfo : (P.info? e).map (fun i => (i.zero, i.size, i.bytes)) = some (some z, 1, bytes)) (hz1 : z.cells = #[z]) (kl kc : IntKind) (x y : Int) (n m : Nat) (hl : a.eval l = .int kl x) (hc : a.eval c = .int kc y)
    (hx : x = (n : Int)) (hy : y = (m : Int)) (hnm : n ≤ m) (hb : bytes * m ≤ 281474976710656) (h63 : m ≤ 9223372036854775807) (hO : Own R w0 w)
    (h : ∀ g w', Own (fw g e (List.replicate m z) :: R) w0 w' → wpList P ops Q rest (a.put o.dst (.slice (some ⟨g, 0, none⟩) n m)) w') :
    wpList P ops Q (o :: rest) a w :=
  wp_make hgd l c t hop e z bytes ht hinfo hz1 kl kc x y n m hl hc hx hy hnm hb h63 fun w' hb' _ ho => h _ w' (hO.fresh ho hb' (Nat.le_refl _))
theorem splice_get {α : Type} (cs : List α) (k : Nat) (p : List α) (h : k + p.length ≤ cs.length) (j : Nat) : (splice cs k p)[j]? = if j < k ∨ k + p.length ≤ j then cs[j]? else p[j - k]? := by
  have e : splice cs k p = cs.take k ++ (p ++ cs.drop (k + p.length)) := by simp [splice]
  rw [e]
  have h1 : (cs.take k).length = k := by rw [List.length_take]; omega
  by_cases hj : j < k
  · rw [if_pos (.inl hj), List.getElem?_append_left (by omega), List.getElem?_take, if_pos hj]
  · rw [List.getElem?_append_right (by omega), h1]
    by_cases hj2 : k + p.length ≤ j
    · rw [if_pos (.inr hj2), List.getElem?_append_right (by omega), List.getElem?_drop]
      congr 1; omega
    · rw [if_neg (by omega), List.getElem?_append_left (by omega)]
/-- copy(dst, src), dst in the fragment at the head. -/
theorem own_copy (hgd : o.guard = none) (d s : Operand) (dT sT : TypeId) (ho : o.op = .call { callee := .builtin .copy, args := #[d, s], argTypes := #[dT, sT] }) (elem : TypeId) (hu : P.underlying dT = some (.slice elem))
    (hsz : (P.info? elem).map (·.size) = some 1) (x : Fr) (i k dLen dCap : Nat) (A : Option Addr) (sLen sCap : Nat) (hk : k = x.off + i) (hd : a.eval d = .slice (some ⟨x.g, k, none⟩) dLen dCap) (hs : a.eval s = .slice A sLen sCap)
    (hO : Own (x :: R) w0 w) (l : List UInt8) (hA : BsAt w A l) (hn : l.length = min sLen dLen) (hfit : i + l.length ≤ x.cs.length)
    (h : ∀ w', Own ({ x with cs := splice x.cs i (bc l) } :: R) w0 w' → wpList P ops Q rest (a.put o.dst (.int .i64 (l.length : Int))) w') :
    wpList P ops Q (o :: rest) a w := by
  by_cases hl0 : l.length = 0
  · obtain rfl : l = [] := List.eq_nil_of_length_eq_zero hl0
    refine wpList_copy_nothing hgd d s dT sT ho elem hu hsz _ _ _ _ _ _ hd hs (by simpa using (show min sLen dLen = 0 from hn.symm)) ?_
    have e : splice x.cs i (bc []) = x.cs := by simp [splice, bc]
    have := h w (by rw [e]; exact hO)
    exact this
  have hro := hO.head.ro_none (by omega)
  obtain ⟨_, t, all, hb, hc⟩ := hO.head.in0 hro
  subst hk
  have hall : i + l.length = 0 ∨ x.off + (i + l.length) ≤ all.length := by
    rcases Nat.eq_zero_or_pos (i + l.length) with h0 | h0
    · exact .inl h0
    · have := hc (i + l.length - 1) (by omega)
      rw [List.getElem?_eq_getElem (show i + l.length - 1 < x.cs.length by omega)] at this
      have := (List.getElem?_eq_some_iff.1 this).1
      exact .inr (by omega)
  have hlen2 : (splice x.cs i (bc l)).length = x.cs.length := by rw [length_splice _ _ _ (by rw [bc_length]; omega)]
  have hfa : x.off + i + l.length ≤ all.length := by omega
  refine wp_copy hgd d s dT sT ho elem hu hsz x.g (x.off + i) dLen dCap A sLen sCap hd hs all t hb l hA hn hfa fun w' hb' _ ho' => h w' ?_
  refine hO.upd hro ho' hlen2 fun t2 all2 hb2 => ?_
  obtain ⟨rfl, rfl⟩ := hb2.inj hb
  refine ⟨_, hb', fun j hj => ?_, fun j hj => ?_⟩
  · rw [hlen2] at hj
    rw [splice_get _ _ _ (by rw [bc_length]; omega), splice_get _ _ _ (by rw [bc_length]; omega), bc_length]
    by_cases hj1 : j < i ∨ i + l.length ≤ j
    · rw [if_pos (by omega), if_pos hj1, hc j hj]
    · rw [if_neg (by omega), if_neg hj1]
      congr 1; omega
  · rw [splice_get _ _ _ (by rw [bc_length]; omega), bc_length, if_pos (by omega)]
end
theorem Own.cs_fw {L : List Fr} {w0 w : World} {g t : Nat} {cs : List Value} (h : Own L w0 w) (hx : fw g t cs ∈ L) : CsAt w (some ⟨g, 0, none⟩) cs := by
  have := CsAt.of_blk (h.ins _ hx).blk 0 cs.length
  simpa using this
/-- A result that is bytes, a row of the call's own. -/
def RetBs (R : List Fr) (w0 : World) (l : List UInt8) (e : Ending) (w' : World) : Prop :=
  ∃ A' c' F', e = .returned (.slice A' l.length c') ∧ Row 5 1 A' l.length c' (bc l) F' ∧ Own (F' ++ R) w0 w'
theorem RetBs.mk {R F : List Fr} {w0 w : World} {l l' : List UInt8} {A : Option Addr} {c n : Nat} (hn : n = l.length) (hl : l' = l) (hr : Row 5 1 A n c (bc l') F) (hO : Own (F ++ R) w0 w) : RetBs R w0 l (.returned (.slice A n c)) w := by
  subst hn; subst hl; exact ⟨A, c, F, rfl, hr, hO⟩
/-- The same, what would be a rule of the walk hidden. -/
def RetH (R : List Fr) (w0 : World) (l : List UInt8) (e : Ending) (w' : World) : Prop :=
  ∃ A' c' F' n, Hid (n = l.length) ∧ e = .returned (.slice A' n c') ∧ Hid (Row 5 1 A' n c' (bc l) F') ∧ Hid (Own (F' ++ R) w0 w')
theorem RetBs.h {R : List Fr} {w0 w : World} {l : List UInt8} {e : Ending} (h : RetBs R w0 l e w) : RetH R w0 l e w := by
  obtain ⟨A, c, F, he, hr, hO⟩ := h
  exact ⟨A, c, F, _, hid rfl, he, hid hr, hid hO⟩
/-- Lists of fragments are the same but for their order. -/
theorem perm_of {L L' : List Fr} (h : ∀ (_i : BEq Fr) (_ : LawfulBEq Fr) (x : Fr), L.count x = L'.count x) : L.Perm L' := by
  classical
  let _ : DecidableEq Fr := fun a b => Classical.propDecidable (a = b)
  exact List.perm_iff_count.2 fun x => h _ inferInstance x
end Go.Proofs.YtloflmcgbbbnjaaDoor
