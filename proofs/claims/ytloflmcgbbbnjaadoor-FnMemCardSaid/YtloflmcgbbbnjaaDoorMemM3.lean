/-
  WORDS FOR MEMORY: draws alone ('Dr'); only some blocks have turned ('Only'); a block known whole ('Blk'); bytes that are read ('BsAt'); laws for make, copy, append, stated over a world that is a variable.
  WHAT A LAW's ROW WANTS: arguments opened; arguments read again behind a call that writes into nothing that was there.
  PLAIN: numbers in bytes, the low one first; the hash of LevelDB, as both texts reckon it.
  PLAIN: what a block of a table is, as the reference writes it. No Go in sight.
  PLAIN: where an iterator stands behind calls; what it then shows. No Go in sight.
  SLICES OF STRUCTS: a row of records lies in one block, S cells a record; what came in is read as such a row.
-/
import Derived.Test.YtloflmcgbbbnjaaDoorProg
import Derived.Test.YtloflmcgbbbnjaaDoorMemM1
import Derived.WalkKit
import Derived.WalkSpells
import Derived.WalkLawsBesides
import Derived.Deep.QuietTactic
import Derived.BigQuiet
import Derived.Deep.LoopGhost
import Derived.Deep.DeepCutAuto
import Derived.Deep.CutBlock
import Derived.Laws.CopyOwn
import Derived.Laws.OwnMore
import Derived.Maps.AppendAt
import Derived.Deep.OwnRows
import Derived.Deep.Draws
import Derived.ProofKit
import Derived.OpenShut
import Derived.ShutString
import Derived.ChangeOld
import Derived.Below
import Derived.SizedLaws
import Derived.Lib.EndianBits
namespace Go.Proofs.YtloflmcgbbbnjaaDoor
open Go.RowKit Plain

theorem hid {p : Prop} (h : p) : Hid p := h
theorem ret_int {k : IntKind} {a b : Int} (h : a = b) : Ending.returned (.int k a) = .returned (.int k b) := by rw [h]
theorem ret_bool {a b : Bool} (h : a = b) : Ending.returned (.bool a) = .returned (.bool b) := by rw [h]

theorem i64_id {x : Int} (h0 : -4611686018427387904 ≤ x) (h1 : x ≤ 4611686018427387904) : IntKind.i64.wrap x = x := by
  simp [IntKind.wrap, IntKind.bits, IntKind.signed]; omega
/-- The second world is the first but for draws. -/
structure Dr (w w' : World) : Prop where mk :: (out : ∃ n, w' = w.drewN n)
theorem Dr.refl (w : World) : Dr w w := ⟨0, rfl⟩
theorem Dr.step {w w' : World} (h : Dr w w') (n : Nat) : Dr w (w'.drewN n) := by obtain ⟨m, rfl⟩ := h.out; exact ⟨_, World.drewN_drewN _ _ _⟩
theorem Dr.drew {w w' : World} (h : Dr w w') : Dr w w'.drew := h.step 1
theorem Dr.trans {a b c : World} (h : Dr a b) (k : Dr b c) : Dr a c := by obtain ⟨m, rfl⟩ := k.out; exact h.step m
theorem Dr.quiet {P : Program} {f : FuncId} {args : Array Value} {w : World} {n : Nat} {v : Value} (h : Calls P f args (w.drewN n) fun e w' => e = .returned v ∧ Dr (w.drewN n) w') :
    Calls P f args (w.drewN n) fun e w' => e = .returned v ∧ ∃ m, w' = w.drewN m :=
  h.mono fun _ _ ⟨he, hm⟩ => ⟨he, by obtain ⟨m, rfl⟩ := hm.out; exact ⟨_, World.drewN_drewN _ _ _⟩⟩
theorem Dr.quiet_add {P : Program} {f : FuncId} {args : Array Value} {w : World} {a n : Nat} {v : Value} (h : Calls P f args (w.drewN (a + n)) fun e w' => e = .returned v ∧ Dr (w.drewN (a + n)) w') :
    Calls P f args (w.drewN (a + n)) fun e w' => e = .returned v ∧ ∃ m, w' = w.drewN (a + m) :=
  h.mono fun _ _ ⟨he, hm⟩ => ⟨he, by obtain ⟨m, rfl⟩ := hm.out; exact ⟨n + m, by rw [World.drewN_drewN, Nat.add_assoc]⟩⟩
theorem Dr.quiet0 {P : Program} {f : FuncId} {args : Array Value} {w : World} {v : Value} (h : Calls P f args w fun e w' => e = .returned v ∧ Dr w w') :
    Calls P f args w fun e w' => e = .returned v ∧ ∃ m, w' = w.drewN m :=
  h.mono fun _ _ ⟨he, hm⟩ => ⟨he, hm.out⟩

/-- Only the blocks of S have turned; new ones may have come. -/
structure Only (S : List Nat) (w w' : World) : Prop where
  os : w'.os = w.os
  tape : w'.tape = w.tape
  output : w'.output = w.output
  size : w.heap.size ≤ w'.heap.size
  block : ∀ k, k < w.heap.size → k ∉ S → w'.heap[k]? = w.heap[k]?
namespace Only
variable {S S' : List Nat} {a w w' : World}
theorem refl (S : List Nat) (w : World) : Only S w w := ⟨rfl, rfl, rfl, Nat.le_refl _, fun _ _ _ => rfl⟩
theorem trans (h : Only S a w) (k : Only S w w') : Only S a w' :=
  ⟨k.os.trans h.os, k.tape.trans h.tape, k.output.trans h.output, Nat.le_trans h.size k.size, fun i hi hn => (k.block i (Nat.lt_of_lt_of_le hi h.size) hn).trans (h.block i hi hn)⟩
theorem mono (h : Only S w w') (hs : ∀ k, k < w.heap.size → k ∈ S → k ∈ S') : Only S' w w' := ⟨h.os, h.tape, h.output, h.size, fun i hi hn => h.block i hi fun hm => hn (hs i hi hm)⟩
theorem drewN (h : Only S a w) (n : Nat) : Only S a (w.drewN n) := ⟨h.os, h.tape, h.output, h.size, h.block⟩
theorem drew (h : Only S a w) : Only S a w.drew := h.drewN 1
theorem dr (h : Only S a w) (k : Dr w w') : Only S a w' := by obtain ⟨n, rfl⟩ := k.out; exact h.drewN n
theorem alloc (h : Only S a w) (o : Obj) : Only S a (w.alloc o) :=
  ⟨h.os, h.tape, h.output, Nat.le_trans h.size (by simp), fun i hi hn => (Below.heap_alloc w o i (Nat.lt_of_lt_of_le hi h.size)).trans (h.block i hi hn)⟩
theorem setCell (h : Only S a w) {p : Addr} (hp : p.block ∈ S ∨ a.heap.size ≤ p.block) (u : Value) : Only S a (w.setCell p u) :=
  ⟨h.os, h.tape, h.output, by simpa [World.setCell] using h.size, fun i hi hn => (Below.heap_setCell w p u i (by
    rintro rfl
    rcases hp with hp | hp
    · exact hn hp
    · omega)).trans (h.block i hi hn)⟩
/-- Then: blocks of S, and blocks that were new. -/
theorem trans' (h : Only S a w) (k : Only S' w w') (hs : ∀ i, i < a.heap.size → i ∈ S' → i ∈ S) : Only S a w' :=
  ⟨k.os.trans h.os, k.tape.trans h.tape, k.output.trans h.output, Nat.le_trans h.size k.size, fun i hi hn => (k.block i (Nat.lt_of_lt_of_le hi h.size) fun hm => hn (hs i hi hm)).trans (h.block i hi hn)⟩
theorem new (h : Only S a w) (k : Only [] w w') : Only S a w' := h.trans' k (by simp)
theorem of_below (h : Below w.heap.size w w') (S : List Nat) : Only S w w' := ⟨h.os, h.tape, h.output, h.size, fun i hi _ => h.block i hi⟩
theorem below (h : Only S w w') {B : Nat} (hB : B ≤ w.heap.size) (hs : ∀ k, k ∈ S → B ≤ k) : Below B w w' :=
  ⟨h.os, h.tape, h.output, h.size, fun i hi => h.block i (Nat.lt_of_lt_of_le hi hB) fun hm => by have := hs i hm; omega⟩
theorem below0 (h : Only [] w w') : Below w.heap.size w w' := h.below (Nat.le_refl _) (by simp)
theorem of_grown {row : Option Nat} (h : w.grownBy w' row) (hs : ∀ k, row = some k → k ∈ S) : Only S w w' :=
  ⟨h.os, h.tape, h.output, h.size, fun i hi hn => h.block i hi fun e => hn (hs i e.symm)⟩
theorem grow (h : Only S a w) {row : Option Nat} (hg : w.grownBy w' row) (hr : ∀ k, row = some k → k ∈ S ∨ a.heap.size ≤ k) : Only S a w' :=
  ⟨hg.os.trans h.os, hg.tape.trans h.tape, hg.output.trans h.output, Nat.le_trans h.size hg.size, fun i hi hn => (hg.block i (Nat.lt_of_lt_of_le hi h.size) fun e => by
    rcases hr i e.symm with h' | h'
    · exact hn h'
    · omega).trans (h.block i hi hn)⟩
theorem cell (h : Only S w w') {p : Addr} (hp : p.block < w.heap.size) (hn : p.block ∉ S) : w'.cell? p = w.cell? p := World.cell?_of_block (h.block _ hp hn)
theorem frozen (h : Only S w w') {p : Addr} (hp : p.block < w.heap.size) (hn : p.block ∉ S) : w'.frozen? p = w.frozen? p := World.frozen?_of_block (h.block _ hp hn)
end Only
theorem Dr.only {w w' : World} (h : Dr w w') : Only [] w w' := (Only.refl _ _).dr h

/-- A block known whole; none of it is frozen. -/
def Blk (w : World) (g : Nat) (t : TypeId) (cs : List Value) : Prop := w.heap[g]? = some (.cells cs.toArray t (0, 0))
namespace Blk
variable {w w' : World} {g : Nat} {t : TypeId} {cs : List Value}
theorem lt (h : Blk w g t cs) : g < w.heap.size := by
  rcases Nat.lt_or_ge g w.heap.size with hlt | hge
  · exact hlt
  · unfold Blk at h; rw [Array.getElem?_eq_none hge] at h; cases h
theorem cell (h : Blk w g t cs) (i : Nat) : w.cell? ⟨g, i, none⟩ = cs[i]? := by
  unfold Blk at h
  simp [World.cell?, h]
theorem frozen (h : Blk w g t cs) (i : Nat) : w.frozen? ⟨g, i, none⟩ = false := by
  unfold Blk at h
  simp [World.frozen?, h]
theorem new (w : World) (t : TypeId) (cs : List Value) : Blk (w.alloc (.cells cs.toArray t)) w.heap.size t cs := heap_alloc_new w _
theorem new' {g : Nat} (h : w.heap.size = g) (t : TypeId) (cs : List Value) : Blk (w.alloc (.cells cs.toArray t)) g t cs := h ▸ new w t cs
theorem drew (h : Blk w g t cs) : Blk w.drew g t cs := h
theorem drewN (h : Blk w g t cs) (n : Nat) : Blk (w.drewN n) g t cs := h
theorem dr (h : Blk w g t cs) (k : Dr w w') : Blk w' g t cs := by obtain ⟨n, rfl⟩ := k.out; exact h
theorem alloc (h : Blk w g t cs) (o : Obj) : Blk (w.alloc o) g t cs := (Below.heap_alloc w o g h.lt).trans h
theorem set_ (h : Blk w g t cs) (i : Nat) (u : Value) : Blk (w.setCell ⟨g, i, none⟩ u) g t (cs.set i u) := by
  unfold Blk at h ⊢
  simp [World.setCell, Array.getElem?_modify, h]
theorem far (h : Blk w g t cs) {p : Addr} (hp : g ≠ p.block) (u : Value) : Blk (w.setCell p u) g t cs := (Below.heap_setCell w p u g hp).trans h
theorem only {S : List Nat} (h : Blk w g t cs) (hb : Only S w w') (hg : g ∉ S) : Blk w' g t cs := (hb.block g h.lt hg).trans h
theorem below {B : Nat} (h : Blk w g t cs) (hb : Below B w w') (hg : g < B) : Blk w' g t cs := (hb.block g hg).trans h
theorem ne_ {g' : Nat} {t' : TypeId} {cs' : List Value} (h : Blk w g t cs) (h' : Blk w g' t' cs') (hne : t ≠ t') : g ≠ g' := by
  rintro rfl
  unfold Blk at h h'
  rw [h] at h'
  injection h' with h'
  injection h' with _ ht
  exact hne ht
end Blk

/-- Bytes as cells. -/
def bc (l : List UInt8) : List Value := l.map fun b => .int .u8 (b.toNat : Int)
theorem bc_length (l : List UInt8) : (bc l).length = l.length := by simp [bc]
theorem bc_append (a b : List UInt8) : bc (a ++ b) = bc a ++ bc b := by simp [bc]
theorem bc_get {l : List UInt8} {i : Nat} (h : i < l.length) : (bc l)[i]? = some (.int .u8 (bz l i)) := by simp [bc, bz, at_, List.getElem?_eq_getElem h]
theorem bc_one (l : List UInt8) : ∀ v ∈ bc l, v.oneCell' = true := by
  intro v hv
  obtain ⟨b, _, rfl⟩ := List.mem_map.1 hv
  rfl

/-- Bytes that are read: nothing is asked where there is none. -/
def BsAt (w : World) (A : Option Addr) (l : List UInt8) : Prop :=
  ∀ i, i < l.length → ∃ g o, A = some ⟨g, o, none⟩ ∧ w.cell? ⟨g, o + i, none⟩ = some (.int .u8 (bz l i))
theorem cell_lt {w : World} {p : Addr} {v : Value} (h : w.cell? p = some v) : p.block < w.heap.size := by
  rcases Nat.lt_or_ge p.block w.heap.size with hlt | hge
  · exact hlt
  · exfalso
    unfold World.cell? at h
    rw [Array.getElem?_eq_none hge] at h
    cases h
namespace BsAt
variable {w w' : World} {A : Option Addr} {l : List UInt8}
theorem nil (w : World) (A : Option Addr) : BsAt w A [] := fun i hi => absurd hi (by simp)
theorem keep {S : List Nat} (h : BsAt w A l) (hb : Only S w w') (hA : ∀ g o, A = some ⟨g, o, none⟩ → g < w.heap.size → g ∉ S) : BsAt w' A l := fun i hi => by
  obtain ⟨g, o, rfl, hc⟩ := h i hi
  have hlt := cell_lt hc
  exact ⟨g, o, rfl, (hb.cell hlt (hA g o rfl hlt)).trans hc⟩
theorem keep0 (h : BsAt w A l) (hb : Only [] w w') : BsAt w' A l := h.keep hb (by simp)
theorem below (h : BsAt w A l) (hb : Below w.heap.size w w') : BsAt w' A l := h.keep0 (Only.of_below hb [])
theorem dr (h : BsAt w A l) (k : Dr w w') : BsAt w' A l := h.keep0 k.only
theorem drewN (h : BsAt w A l) (n : Nat) : BsAt (w.drewN n) A l := h
theorem drew (h : BsAt w A l) : BsAt w.drew A l := h
theorem alloc (h : BsAt w A l) (o : Obj) : BsAt (w.alloc o) A l := h.keep0 ((Only.refl _ _).alloc o)
theorem of_blk {g t off : Nat} {cs : List Value} (h : Blk w g t cs) (hl : ∀ i, i < l.length → cs[off + i]? = some (.int .u8 (bz l i))) : BsAt w (some ⟨g, off, none⟩) l :=
  fun i hi => ⟨g, off, rfl, (h.cell _).trans (hl i hi)⟩
theorem addr (h : BsAt w A l) (hl : 0 < l.length) : ∃ g o, A = some ⟨g, o, none⟩ ∧ g < w.heap.size ∧ ∀ i, i < l.length → w.cell? ⟨g, o + i, none⟩ = some (.int .u8 (bz l i)) := by
  obtain ⟨g, o, rfl, hc⟩ := h 0 hl
  refine ⟨g, o, rfl, cell_lt hc, fun i hi => ?_⟩
  obtain ⟨g', o', e, hc'⟩ := h i hi
  injection e with e
  injection e with e1 e2
  subst e1; subst e2
  exact hc'
theorem take (h : BsAt w A l) (n : Nat) : BsAt w A (l.take n) := fun i hi => by
  rw [List.length_take] at hi
  obtain ⟨g, o, e, hc⟩ := h i (by omega)
  refine ⟨g, o, e, hc.trans ?_⟩
  have : i < n := by omega
  simp [bz, at_, this]
theorem drop {g o : Nat} (h : BsAt w (some ⟨g, o, none⟩) l) (n : Nat) : BsAt w (some ⟨g, o + n, none⟩) (l.drop n) := fun i hi => by
  rw [List.length_drop] at hi
  obtain ⟨g', o', e, hc⟩ := h (n + i) (by omega)
  injection e with e
  injection e with e1 e2
  subst e1; subst e2
  refine ⟨g, o + n, rfl, ?_⟩
  rw [Nat.add_assoc, hc]
  simp [bz, at_]
end BsAt
/-- Cells that are read. -/
def CsAt (w : World) (A : Option Addr) (cs : List Value) : Prop := ∀ i, i < cs.length → ∃ g o, A = some ⟨g, o, none⟩ ∧ w.cell? ⟨g, o + i, none⟩ = cs[i]?
theorem BsAt.cs {w : World} {A : Option Addr} {l : List UInt8} (h : BsAt w A l) : CsAt w A (bc l) := fun i hi => by
  rw [bc_length] at hi
  obtain ⟨g, o, e, hc⟩ := h i hi
  exact ⟨g, o, e, by rw [hc, bc_get hi]⟩
namespace CsAt
variable {w w' : World} {A : Option Addr} {cs : List Value}
theorem nil (w : World) (A : Option Addr) : CsAt w A [] := fun i hi => absurd hi (by simp)
theorem bs {l : List UInt8} (h : CsAt w A (bc l)) : BsAt w A l := fun i hi => by
  obtain ⟨g, o, e, hc⟩ := h i (by rw [bc_length]; exact hi)
  exact ⟨g, o, e, by rw [hc, bc_get hi]⟩
theorem keep {S : List Nat} (h : CsAt w A cs) (hb : Only S w w') (hA : ∀ g o, A = some ⟨g, o, none⟩ → g < w.heap.size → g ∉ S) : CsAt w' A cs := fun i hi => by
  obtain ⟨g, o, rfl, hc⟩ := h i hi
  have hlt := cell_lt (hc.trans (List.getElem?_eq_getElem hi))
  exact ⟨g, o, rfl, (hb.cell hlt (hA g o rfl hlt)).trans hc⟩
theorem keep0 (h : CsAt w A cs) (hb : Only [] w w') : CsAt w' A cs := h.keep hb (by simp)
theorem of_blk {g t : Nat} {all : List Value} (h : Blk w g t all) (off n : Nat) : CsAt w (some ⟨g, off, none⟩) ((all.drop off).take n) := fun i hi => ⟨g, off, rfl, by
  rw [List.length_take] at hi
  rw [h.cell, List.getElem?_take, if_pos (by omega), List.getElem?_drop]⟩
theorem addr (h : CsAt w A cs) (hl : 0 < cs.length) : ∃ g o, A = some ⟨g, o, none⟩ ∧ g < w.heap.size ∧ ∀ i, i < cs.length → w.cell? ⟨g, o + i, none⟩ = cs[i]? := by
  obtain ⟨g, o, rfl, hc⟩ := h 0 hl
  refine ⟨g, o, rfl, cell_lt (hc.trans (List.getElem?_eq_getElem hl)), fun i hi => ?_⟩
  obtain ⟨g', o', e, hc'⟩ := h i hi
  injection e with e
  injection e with e1 e2
  subst e1; subst e2
  exact hc'
end CsAt
/-- 'b[k:]', as the walk writes it. -/
theorem BsAt.cut {w : World} {A : Option Addr} {l : List UInt8} (h : BsAt w A l) (k c : Nat) (hc : l.length ≤ c) :
    BsAt w (if c = k then A else Option.map (fun x => { block := x.block, off := x.off + k, spot := none }) A) (l.drop k) := fun i hi => by
  rw [List.length_drop] at hi
  obtain ⟨g, o, rfl, _, hc'⟩ := h.addr (by omega)
  rw [if_neg (by omega)]
  exact BsAt.drop (g := g) (o := o) (fun j hj => ⟨g, o, rfl, hc' j hj⟩) k i (by rw [List.length_drop]; omega)
theorem add_none (g o j : Nat) : (⟨g, o, none⟩ : Addr).add j = ⟨g, o + j, none⟩ := by unfold Addr.add; split <;> simp_all

theorem BsAt.of_bc {w : World} {g t : Nat} {l : List UInt8} (h : Blk w g t (bc l)) : BsAt w (some ⟨g, 0, none⟩) l := BsAt.of_blk h fun i hi => by rw [Nat.zero_add]; exact bc_get hi
theorem size_setCell (w : World) (p : Addr) (u : Value) : (w.setCell p u).heap.size = w.heap.size := by simp [World.setCell]
theorem splice_full {α : Type} {L cs : List α} (h : cs.length = L.length) : splice L 0 cs = cs := by simp [splice, h]
theorem bc_set (l : List UInt8) (i : Nat) (b : UInt8) : (bc l).set i (.int .u8 (b.toNat : Int)) = bc (l.set i b) := by simp [bc, List.map_set]
/-- A string of these bytes. -/
def bstr (l : List UInt8) : ByteArray := ⟨l.toArray⟩
theorem bstr_toList (l : List UInt8) : (bstr l).data.toList = l := by simp [bstr]
@[go_sem] theorem bstr_list (l : List UInt8) : (bstr l).toList = l := by unfold bstr; exact ByteArray.toList_mk l
theorem run_str {P : Program} {w : World} {A : Option Addr} {l : List UInt8} (src dst e : TypeId) (cap : Nat) (hs : P.underlying src = some (.slice e)) (he : P.underlying e = some (.int .u8)) (hd : P.underlying dst = some .string) (h : BsAt w A l) :
    (convert src dst (.slice A l.length cap)).run P w = .ok (.string (bstr l)) w := by
  have key : ∀ ad : Addr, A = some ad → (∀ j (hj : j < l.length), w.cell? (ad.add j) = some (.int .u8 (l[j].toNat : Int))) → (convert src dst (.slice A l.length cap)).run P w = .ok (.string (bstr l)) w := fun ad e2 hc => by
    rw [e2]; exact run_convert_bytes_back w src dst e ad cap l hs he hd hc
  rcases Nat.eq_zero_or_pos l.length with h0 | h0
  · obtain rfl : l = [] := List.eq_nil_of_length_eq_zero h0
    cases A with
    | none => rw [List.length_nil, run_convert_bytes_string w src dst e none 0 cap hs he hd]; simp [Conv.bytesToString]; rfl
    | some ad => exact key ad rfl (fun j hj => absurd hj (by simp))
  · obtain ⟨g, o, e2, _, hc⟩ := h.addr h0
    refine key _ e2 fun j hj => ?_
    rw [add_none, hc j hj, bz, at_get hj]
theorem run_str_take {P : Program} {w : World} {A : Option Addr} {l : List UInt8} (h : BsAt w A l) {n : Nat} (hn : n ≤ l.length) (src dst e : TypeId) (cap : Nat) (hs : P.underlying src = some (.slice e)) (he : P.underlying e = some (.int .u8)) (hd : P.underlying dst = some .string) :
    (convert src dst (.slice A n cap)).run P w = .ok (.string (bstr (l.take n))) w := by
  have := run_str (P := P) src dst e cap hs he hd (h.take n)
  rwa [List.length_take, Nat.min_eq_left hn] at this
theorem own_form {w : World} {base e size n : Nat} {v : Value} {xs : List Value} (h : w.ownsRow base e size v n xs) (hn : 0 < n) : ∃ g cap, v = .slice (some ⟨g, 0, none⟩) n cap ∧ n ≤ cap ∧ g < w.heap.size := by
  rcases h.2 with ⟨_, h0⟩ | ⟨g, cap, cur, rfl, _, hh, hc, _⟩
  · omega
  · refine ⟨g, cap, rfl, hc, ?_⟩
    rcases Nat.lt_or_ge g w.heap.size with hlt | hge
    · exact hlt
    · rw [Array.getElem?_eq_none hge] at hh; cases hh
theorem own_bs {w : World} {base e n : Nat} {v : Value} {xs : List Value} {l : List UInt8} (h : w.ownsRow base e 1 v n xs) (hx : xs = bc l) : ∃ A c, v = .slice A l.length c ∧ l.length ≤ c ∧ BsAt w A l := by
  subst hx
  obtain ⟨hn, h⟩ := h
  rw [bc_length, Nat.mul_one] at hn
  subst hn
  rcases h with ⟨rfl, h0⟩ | ⟨g, cap, cur, rfl, _, hh, hc, _, _, ht⟩
  · obtain rfl : l = [] := List.eq_nil_of_length_eq_zero h0
    exact ⟨none, 0, rfl, Nat.le_refl _, BsAt.nil _ _⟩
  · refine ⟨_, cap, rfl, hc, BsAt.of_blk (t := e) (cs := cur.toList) (by unfold Blk; rw [hh, Array.toArray_toList]) fun i hi => ?_⟩
    rw [← bc_get hi, ← ht, List.getElem?_take, if_pos (by omega), Nat.zero_add]
/-- A row of the call's own that holds bytes, at least one. -/
theorem own_bytes {w : World} {base e n : Nat} {v : Value} {l : List UInt8} (h : w.ownsRow base e 1 v n (bc l)) (hl : 0 < l.length) :
    ∃ g c, v = .slice (some ⟨g, 0, none⟩) l.length c ∧ l.length ≤ c ∧ g < w.heap.size ∧ BsAt w (some ⟨g, 0, none⟩) l := by
  have hn : n = l.length := by have := h.1; rw [bc_length, Nat.mul_one] at this; omega
  subst hn
  obtain ⟨g, c, rfl, hc, hlt⟩ := own_form h hl
  obtain ⟨A, c', e2, _, hb⟩ := own_bs h rfl
  injection e2 with e2 _ _
  subst e2
  exact ⟨g, c, rfl, hc, hlt, hb⟩
/-- A row whose block is not below B. -/
def From (B : Nat) (v : Value) : Prop := ∀ k, v.ownBlock = some k → B ≤ k
theorem From.none_ (B : Nat) (n c : Nat) : From B (.slice none n c) := fun k h => by simp [Value.ownBlock] at h
theorem From.at_ {B g : Nat} (h : B ≤ g) (o n c : Nat) : From B (.slice (some ⟨g, o, none⟩) n c) := fun k hk => by simp [Value.ownBlock] at hk; omega
theorem From.next {B : Nat} {w : World} {v v' : Value} (h : From B v) (hB : B ≤ w.heap.size) (hat : v'.ownBlock = v.ownBlock ∨ v'.ownBlock = some w.heap.size) : From B v' := fun k hk => by
  rcases hat with e | e
  · exact h k (e ▸ hk)
  · rw [e] at hk; injection hk with hk; omega
theorem Only.grow0 {a w w' : World} {S : List Nat} {v : Value} (h : Only S a w) (hg : w.grownBy w' v.ownBlock) (hv : From a.heap.size v) : Only S a w' := h.grow hg fun k hk => .inr (hv k hk)
/-- A row dst that is appended to: what has turned, and where it is now. -/
structure Grow (w : World) (dst : Value) (w' : World) (v' : Value) : Prop where
  only : Only dst.ownBlock.toList w w'
  now : v'.ownBlock = dst.ownBlock ∨ ∃ g, v'.ownBlock = some g ∧ w.heap.size ≤ g
namespace Grow
variable {w w1 w2 : World} {v v1 v2 : Value}
theorem refl (w : World) (v : Value) : Grow w v w v := ⟨Only.refl _ _, .inl rfl⟩
theorem alloc (h : Grow w v w1 v1) (o : Obj) : Grow w v (w1.alloc o) v1 := ⟨h.only.alloc o, h.now⟩
theorem drewN (h : Grow w v w1 v1) (n : Nat) : Grow w v (w1.drewN n) v1 := ⟨h.only.drewN n, h.now⟩
theorem new (h : Grow w v w1 v1) (k : Only [] w1 w2) : Grow w v w2 v1 := ⟨h.only.new k, h.now⟩
theorem row (h : Grow w v w1 v1) : ∀ k, v1.ownBlock = some k → k ∈ v.ownBlock.toList ∨ w.heap.size ≤ k := fun k hk => by
  rcases h.now with e | ⟨g, e, hg⟩
  · exact .inl (by rw [← e, hk]; simp)
  · rw [e] at hk; injection hk with hk; exact .inr (by omega)
theorem step (h : Grow w v w1 v1) (hg : w1.grownBy w2 v1.ownBlock) (hat : v2.ownBlock = v1.ownBlock ∨ v2.ownBlock = some w1.heap.size) : Grow w v w2 v2 :=
  ⟨h.only.grow hg h.row, by
    rcases hat with e | e
    · rw [e]; exact h.now
    · exact .inr ⟨_, e, h.only.size⟩⟩
theorem trans (h : Grow w v w1 v1) (k : Grow w1 v1 w2 v2) : Grow w v w2 v2 :=
  ⟨h.only.trans' k.only fun i hi hm => by
    rcases h.row i (by simpa using hm) with h' | h'
    · exact h'
    · omega, by
    rcases k.now with e | ⟨g, e, hg⟩
    · rw [e]; exact h.now
    · exact .inr ⟨g, e, Nat.le_trans h.only.size hg⟩⟩
/-- A store into it. -/
theorem set_ (h : Grow w v w1 v1) {g : Nat} (hv : v1.ownBlock = some g) (j : Nat) (u : Value) : Grow w v (w1.setCell ⟨g, j, none⟩ u) v1 := ⟨h.only.setCell (h.row g hv) u, h.now⟩
/-- Nothing of the start's has turned where the row was none of it. -/
theorem only0 (h : Grow w v w1 v1) (hv : From w.heap.size v) : Only [] w w1 := h.only.mono fun k hk hm => by have := hv k (by simpa using hm); omega
end Grow
theorem csAt_one (w : World) (u : Value) (t : TypeId) : CsAt (w.alloc (.cells #[u] t)) (some ⟨w.heap.size, 0, none⟩) [u] := by
  have := CsAt.of_blk (Blk.new w t [u]) 0 1
  simpa using this
/-! ### a region that draws its order, walked once, at a class of worlds -/
section
variable {P : Program} {ops : Array Oper} {C : World → Prop} {Q : Act → Prop} {a : Act} {o : Oper} {rest : List Oper}
theorem wp_region_cls {id : Nat} {Q : Exit → Act → World → Prop} {a : Act} {w : World} {l : List Oper} (C : World → Prop) (hm : P.follows .mixedOrders = true) (hB : Region.lexB .any l.toArray = true) (hC : C w.drew)
    (h : wpQuiet P l.toArray C (fun a' => ∀ w', C w' → Q .normal a' w') l a) : (Code.region id l.toArray true).wp P Q a w :=
  wp_region_quiet (C := C) hm hB hC (by simpa using h)
theorem wpQuiet_plain (hg : o.guard = none) (h : ∀ K : Act → Prop, (∀ a, wpQuiet P ops C Q rest a → K a) → o.quiet P a C K) : wpQuiet P ops C Q (o :: rest) a :=
  wpQuiet_step fun K hK => by simp only [Region.wanted, hg, if_true]; exact h K hK
theorem quiet_mk {K : Act → Prop} {v : Value} (h1 : ∀ w', C w' → o.quietAt P a C w' v) (h2 : K (a.put o.dst v)) : o.quiet P a C K := ⟨v, h1, h2⟩
end
/-! ### the laws -/
section
variable {P : Program} {ops : Array Oper} {rest : List Oper} {o : Oper} {a : Act} {Q : Exit → Act → World → Prop} {w : World}

/-- make([]T, n, c), T of one cell. -/
theorem wp_make (hgd : o.guard = none) (l c : Operand) (t : TypeId) (hop : o.op = .makeSlice t l c) (e : TypeId) (z : Value) (bytes : Nat) (ht : P.underlying t = some (.slice e))
    (hinfo : (P.info? e).map (fun i => (i.zero, i.size, i.bytes)) = some (some z, 1, bytes)) (hz1 : z.cells = #[z]) (kl kc : IntKind) (x y : Int) (n m : Nat) (hl : a.eval l = .int kl x) (hc : a.eval c = .int kc y)
    (hx : x = (n : Int)) (hy : y = (m : Int)) (hnm : n ≤ m) (hb : bytes * m ≤ 281474976710656) (h63 : m ≤ 9223372036854775807)
    (h : ∀ w', Blk w' w.heap.size e (List.replicate m z) → w'.heap.size = w.heap.size + 1 → Only [] w w' → wpList P ops Q rest (a.put o.dst (.slice (some ⟨w.heap.size, 0, none⟩) n m)) w') :
    wpList P ops Q (o :: rest) a w := by
  obtain ⟨i, hi, hzz⟩ := Option.map_eq_some_iff.1 hinfo
  simp only [Prod.mk.injEq] at hzz
  obtain ⟨hz, hs, hbt⟩ := hzz
  subst hx; subst hy
  refine wpList_plain hgd fun K hK => ?_
  have hbb : (i.bytes : Int) * (m : Int) ≤ 281474976710656 := by
    have h' : ((i.bytes * m : Nat) : Int) ≤ 281474976710656 := by rw [hbt]; omega
    rwa [Int.natCast_mul] at h'
  have hrun := run_make (P := P) w t e i z ht hi hz kl kc n m (by omega) (by omega) hbb (by omega)
  simp only [Int.toNat_natCast, hs, Nat.mul_one, hz1] at hrun
  unfold Oper.wp
  simp [execOp, hop, hl, hc, hrun, Result.andThen]
  refine hK _ _ (h _ ?_ (by simp) ((Only.refl _ _).alloc _))
  have hmk : madeCells #[z] m = (List.replicate m z).toArray := Array.ext' (by rw [toList_madeCells_one])
  rw [hmk]
  exact Blk.new w e _

/-- copy(dst, src), both of one cell an element, into a block known whole. -/
theorem wp_copy (hgd : o.guard = none) (d s : Operand) (dT sT : TypeId) (ho : o.op = .call { callee := .builtin .copy, args := #[d, s], argTypes := #[dT, sT] }) (elem : TypeId) (hu : P.underlying dT = some (.slice elem))
    (hsz : (P.info? elem).map (·.size) = some 1) (g off dLen dCap : Nat) (A : Option Addr) (sLen sCap : Nat) (hd : a.eval d = .slice (some ⟨g, off, none⟩) dLen dCap) (hs : a.eval s = .slice A sLen sCap)
    (cur : List Value) (t : TypeId) (hg : Blk w g t cur) (l : List UInt8) (hA : BsAt w A l) (hn : l.length = min sLen dLen) (hfit : off + l.length ≤ cur.length)
    (h : ∀ w', Blk w' g t (splice cur off (bc l)) → w'.heap.size = w.heap.size → Only [g] w w' → wpList P ops Q rest (a.put o.dst (.int .i64 (l.length : Int))) w') :
    wpList P ops Q (o :: rest) a w := by
  by_cases h0 : l.length = 0
  · obtain rfl : l = [] := List.eq_nil_of_length_eq_zero h0
    refine wpList_copy_nothing hgd d s dT sT ho elem hu hsz _ _ _ _ _ _ hd hs (by simpa using (show min sLen dLen = 0 from hn.symm)) ?_
    exact h w (by simpa [splice, bc] using hg) rfl (Only.refl _ _)
  · obtain ⟨g', o', rfl, _, hc⟩ := hA.addr (by omega)
    refine wpList_copy_own hgd d s dT sT ho elem hu hsz g off dLen dCap _ sLen sCap hd hs cur.toArray t hg (bc l) (by rw [bc_length]; exact hn) (fun j v hj => ?_) (by simpa [bc_length] using hfit) (bc_one l) ?_
    · rw [add_none]
      have hjl : j < l.length := by
        have := (List.getElem?_eq_some_iff.1 hj).1
        rwa [bc_length] at this
      rw [hc j hjl, ← bc_get hjl, hj]
    · rw [show goInt (bc l).length = .int .i64 (l.length : Int) by rw [bc_length]; rfl]
      refine h _ ?_ (by simp [World.setRow]) ?_
      · have := setRow_heap w g cur.toArray (splice cur off (bc l)).toArray t _ hg
        simpa [Blk, splice] using this
      · exact ⟨rfl, rfl, rfl, by simp [World.setRow], fun k _ hk => setRow_other w g k _ (by simpa using hk)⟩

theorem run_append_of_nil (base : Nat) (t ty e : TypeId) (i : TypeInfo) (size : Nat) (ht : P.underlying t = some (.slice e)) (hi : P.info? e = some i)
    (v : Value) (n : Nat) (xs : List Value) (hown : w.ownsRow base e size v n xs) (c : Nat) : (Builtin.append_ #[t, t] ty #[v, .slice none 0 c]).run P w = .ok v w := by
  rcases hown.2 with ⟨rfl, rfl⟩ | ⟨g, cap, cur, rfl, _, _, hnc, _⟩
  · simp [Builtin.append_, run_underlying ht, sizeOf, typeInfo, hi, Builtin.lenOf, Builtin.firstCells]
  · simp [Builtin.append_, run_underlying ht, sizeOf, typeInfo, hi, Builtin.lenOf, Builtin.firstCells, hnc, storeCells]

/-- append(v, src...) onto a row of the call's own; the source nil, empty or not. -/
theorem wp_append (hgd : o.guard = none) (s x : Operand) (t : TypeId) (ho : o.op = .call { callee := .builtin .append, args := #[s, x], argTypes := #[t, t] })
    (e : TypeId) (z : Value) (size bytes : Nat) (ht : P.underlying t = some (.slice e)) (hinfo : (P.info? e).map (fun i => (i.zero, i.size, i.bytes)) = some (some z, size, bytes)) (hzs : z.cells.size = size) (hsz : 0 < size)
    (v : Value) (n : Nat) (xs : List Value) (hs : a.eval s = v) (hown : w.ownsRow 0 e size v n xs) (A : Option Addr) (m c : Nat) (news : List Value) (hx : a.eval x = .slice A m c) (hl : news.length = m * size) (hA : CsAt w A news)
    (h1 : ∀ u ∈ news, u.oneCell' = true) (h63 : n + m ≤ maxLen) (hbytes : (n + m) * bytes ≤ 140737488355328)
    (h : ∀ v' w', w'.ownsRow 0 e size v' (n + m) (xs ++ news) → w.grownBy w' v.ownBlock → (v' = .slice none 0 0 ↔ v = .slice none 0 0 ∧ m = 0) → (v'.ownBlock = v.ownBlock ∨ v'.ownBlock = some w.heap.size) → wpList P ops Q rest (a.put o.dst v') w') :
    wpList P ops Q (o :: rest) a w := by
  obtain ⟨i, hi, hzz⟩ := Option.map_eq_some_iff.1 hinfo
  simp only [Prod.mk.injEq] at hzz
  obtain ⟨hz, hss, hbt⟩ := hzz
  have key : ∀ ad, A = some ad → (∀ j u, news[j]? = some u → w.cell? (ad.add j) = some u) → wpList P ops Q (o :: rest) a w := fun ad e2 hc =>
    wpList_append_own_at w hgd s x t ho 0 e i z size bytes ht hi hz hss hbt hzs hsz v n xs hs hown ad m c news (by rw [hx, e2]) hl hc h1 h63 hbytes (Nat.zero_le _) h
  rcases Nat.eq_zero_or_pos news.length with h0 | h0
  · obtain rfl : news = [] := List.eq_nil_of_length_eq_zero h0
    rcases A with _ | ad
    · have hm : m = 0 := by
        rcases Nat.eq_zero_or_pos m with h | h
        · exact h
        · have := Nat.mul_pos h hsz; simp at hl; omega
      subst hm
      refine wpList_plain hgd fun K hK => ?_
      have hrun := run_append_of_nil (P := P) (w := w) 0 t o.type e i size ht hi v n xs hown c
      unfold Oper.wp execOp
      simp only [ho, resolve, invoke, builtin, Sem.run_bind, Sem.run_pure, Result.andThen_ok, List.map_toArray, List.map_cons, List.map_nil, hs, hx, hrun]
      exact hK _ _ (h v w (by simpa using hown) (World.grownBy.refl w _) (by simp) (.inl rfl))
    · exact key ad rfl (fun j u hj => by simp at hj)
  · obtain ⟨g, o', e2, _, hc⟩ := hA.addr h0
    refine key _ e2 fun j u hj => ?_
    have hjl := (List.getElem?_eq_some_iff.1 hj).1
    rw [add_none, hc j hjl, hj]
end
/-! ### a row of the call's own, kept -/
theorem own_only {w w' : World} {base e size n : Nat} {v : Value} {xs : List Value} {S : List Nat} (h : w.ownsRow base e size v n xs) (ho : Only S w w') (hS : ∀ k, v.ownBlock = some k → k ∉ S) : w'.ownsRow base e size v n xs := by
  refine ⟨h.1, ?_⟩
  rcases h.2 with h0 | ⟨g, cap, cur, rfl, hb, hh, hr⟩
  · exact .inl h0
  · have hlt : g < w.heap.size := by
      rcases Nat.lt_or_ge g w.heap.size with hlt | hge
      · exact hlt
      · rw [Array.getElem?_eq_none hge] at hh; cases hh
    exact .inr ⟨g, cap, cur, rfl, hb, (ho.block g hlt (hS g rfl)).trans hh, hr⟩
theorem own_ne {w : World} {base e size n g t : Nat} {v : Value} {xs cs : List Value} (h : w.ownsRow base e size v n xs) (hg : Blk w g t cs) (hne : e ≠ t) : ∀ k, v.ownBlock = some k → k ≠ g := by
  intro k hk
  rcases h.2 with ⟨rfl, _⟩ | ⟨g', cap, cur, rfl, hb, hh, _⟩
  · cases hk
  · simp [Value.ownBlock] at hk
    subst hk
    rintro rfl
    unfold Blk at hg
    rw [hh] at hg
    injection hg with hg
    injection hg with _ hg
    exact hne hg
theorem own_lt {w : World} {base e size n : Nat} {v : Value} {xs : List Value} (h : w.ownsRow base e size v n xs) : ∀ k, v.ownBlock = some k → k < w.heap.size := fun k hk => (h.lt k hk).2
end Go.Proofs.YtloflmcgbbbnjaaDoor
namespace Go.Proofs.YtloflmcgbbbnjaaDoor
open Go.RowKit Plain Go.ChangeShapes Go.WideShapes Go.ChangeAt

theorem Tryd.own : ownKnob Tryd.prog.godebug = none := by kernel_rfl
theorem Tryd.laidOut : laidOutB Tryd.prog = true := by kernel_rfl

/-- Bytes that came in. -/
theorem open_bytes {H : Type} {enc : TypeId × Value → H} {P : Program} {W : World} {base : Nat} {spare : Nat → Bool} {held : Bool} {t e : TypeId} {a : Option Addr} {len cap : Nat} {d : DataW H} {ps : List MemPlace}
    (ht : P.underlying t = some (.slice e)) (he : P.underlying e = some (.int .u8)) (hc : P.cellsOf e = 1) (h : DataW.Trod enc P W base spare held t (.slice a len cap) d ps) :
    ∃ l : List UInt8, len = l.length ∧ l.length ≤ cap ∧ cap ≤ maxLen ∧ BsAt W a l := by
  obtain ⟨fuel, hf⟩ := h
  rcases open_ints ht he hc hf with ⟨hcs, _⟩ | ⟨x, l, c, zs, hcs, _, hl, hm, hz, _, hcell, hwz⟩
  · simp [Value.cells] at hcs
    obtain ⟨rfl, rfl, rfl⟩ := hcs
    exact ⟨[], rfl, Nat.le_refl _, Nat.zero_le _, BsAt.nil _ _⟩
  · simp [Value.cells] at hcs
    obtain ⟨rfl, rfl, rfl⟩ := hcs
    have hlz : len ≤ zs.length := by split at hz <;> omega
    refine ⟨(zs.take len).map fun z => UInt8.ofNat z.toNat, by simp; omega, by simp; omega, hm, fun i hi => ?_⟩
    have hi' : i < zs.length := by simp at hi; omega
    have hil : i < len := by simp at hi; omega
    have hcl := hcell i hi'
    obtain ⟨g, o, spot⟩ := x
    have hspot : spot = none := by
      have h0 := hcell 0 (by omega)
      have h0' := World.cell?_spot h0
      simpa [Addr.add] using h0'
    subst hspot
    rw [add_none] at hcl
    refine ⟨g, o, rfl, hcl.trans ?_⟩
    have hw := hwz _ (List.getElem_mem hi')
    have hw' : 0 ≤ zs[i] ∧ zs[i] ≤ 255 := by simpa [Lit.wf, IntKind.min, IntKind.max, IntKind.signed, IntKind.bits] using hw
    have hb : bz ((zs.take len).map fun z => UInt8.ofNat z.toNat) i = zs[i] := by
      unfold bz
      rw [at_get (by simpa using hi)]
      simp
      omega
    rw [hb]
    simp [List.getD_eq_getElem?_getD, List.getElem?_eq_getElem hi']

/-- What was read is read again. -/
theorem Below.trodAll {H : Type} {enc : TypeId × Value → H} {P : Program} (hl : laidOutB P = true) {W W' : World} (hb : Below W.heap.size W W') : ∀ {ts : List TypeId} {vs : List Value} {ds : List (DataW H)} {ps : List MemPlace},
    (∀ t ∈ ts, P.readableRec t = true ∧ t < P.types.size) → DataW.TrodAll enc P W 0 (fun _ => true) true ts vs ds ps → DataW.TrodAll enc P W' 0 (fun b => decide (b < W.heap.size)) true ts vs ds ps
  | [], [], [], _, _, h => h
  | t :: ts, v :: vs, d :: ds, _, hr, ⟨p, q, h1, h2, e⟩ => ⟨p, q, Below.trod hl (hr t (by simp)).1 (hr t (by simp)).2 h1 hb (by obtain ⟨m, hm⟩ := h1; exact DataW.trod_lt m _ _ _ hm),
      Below.trodAll hl hb (fun t ht => hr t (by simp [ht])) h2, e⟩
end Go.Proofs.YtloflmcgbbbnjaaDoor
namespace Go.Proofs.YtloflmcgbbbnjaaDoor.Plain
open Go

/-- The number that bytes spell, the low one first. -/
def leI : List UInt8 → Int
  | [] => 0
  | b :: r => (b.toNat : Int) + 256 * leI r
theorem leI_nonneg (l : List UInt8) : 0 ≤ leI l := by
  induction l with
  | nil => simp [leI]
  | cons b r ih => simp only [leI]; omega
theorem leI_lt_of {l : List UInt8} {n : Nat} (h : l.length ≤ n) : leI l < 256 ^ n := by
  induction l generalizing n with
  | nil => simp only [leI]; exact Int.pow_pos (by decide)
  | cons b r ih =>
    cases n with
    | zero => simp at h
    | succ n =>
      have := u8_lt b
      have := ih (n := n) (by simpa using h)
      simp only [leI, Int.pow_succ]
      omega
theorem leI_drop {l : List UInt8} {k : Nat} (h : k < l.length) : leI (l.drop k) = bz l k + 256 * leI (l.drop (k + 1)) := by rw [drop_at h]; rfl
theorem leI_lt7 {l : List UInt8} (h : l.length ≤ 7) : leI l < 72057594037927936 := leI_lt_of h
theorem leI_lt8 {l : List UInt8} (h : l.length ≤ 8) : leI l < 18446744073709551616 := leI_lt_of h
theorem leI_lt4 {l : List UInt8} (h : l.length ≤ 4) : leI l < 4294967296 := leI_lt_of h
theorem leI_take4 {l : List UInt8} (h : 4 ≤ l.length) : leI (l.take 4) = bz l 0 + 256 * bz l 1 + 65536 * bz l 2 + 16777216 * bz l 3 := by
  match l, h with
  | a :: b :: c :: d :: r, _ => simp [leI, bz, at_]; omega

theorem leI_take8 {l : List UInt8} (h : 8 ≤ l.length) : leI (l.take 8) = bz l 0 + 256 * bz l 1 + 65536 * bz l 2 + 16777216 * bz l 3 + 4294967296 * bz l 4 + 1099511627776 * bz l 5 + 281474976710656 * bz l 6 + 72057594037927936 * bz l 7 := by
  match l, h with
  | a :: b :: c :: d :: e :: f :: g :: h :: r, _ => simp [leI, bz, at_]; omega
/-- The bytes of a number, the low one first. -/
def leB (x : Int) : Nat → List UInt8
  | 0 => []
  | k + 1 => leB x k ++ [UInt8.ofNat (x / 256 ^ k % 256).toNat]
theorem leB_length (x : Int) (k : Nat) : (leB x k).length = k := by
  induction k with
  | zero => rfl
  | succ k ih => simp [leB, ih]
theorem byte_of {y : Int} (h0 : 0 ≤ y) (h1 : y < 256) : ((UInt8.ofNat y.toNat).toNat : Int) = y := by
  have : y.toNat < 256 := by omega
  simp [Nat.mod_eq_of_lt this]; omega
theorem leB_head (x : Int) (k : Nat) : leB x (k + 1) = UInt8.ofNat (x % 256).toNat :: leB (x / 256) k := by
  induction k with
  | zero => simp [leB]
  | succ k ih =>
    rw [leB, ih, leB, List.cons_append, Int.pow_succ, Int.mul_comm, ← Int.ediv_ediv_of_nonneg (by decide)]
theorem leI_leB (x : Int) (k : Nat) (h0 : 0 ≤ x) (h1 : x < 256 ^ k) : leI (leB x k) = x := by
  induction k generalizing x with
  | zero => simp [leB, leI] at *; omega
  | succ k ih =>
    rw [leB_head, leI, byte_of (by omega) (by omega), ih (x / 256) (by omega) (by rw [Int.pow_succ] at h1; omega)]
    omega

theorem bits_or_comm (k : IntKind) (x y : Int) : bits .or k x y = bits .or k y x := by simp [bits, BitVec.or_comm]
theorem u64_hi_or8 {x y : Int} (hy₀ : 0 ≤ y) (hy : y < 256) (hx₀ : 0 ≤ x) (hx : x % 256 = 0) (hx₁ : x < 18446744073709551616) : bits .or .u64 x y = x + y := by
  rw [bits_or_comm, u64_or8 (x := x) (y := y) (hy₀ := hy₀) (hy := hy) (hx₀ := hx₀) (hx := hx) (hx₁ := hx₁)]; omega

theorem u64_and255 {x : Int} (h0 : 0 ≤ x) (h1 : x < 18446744073709551616) : bits .and .u64 x 255 = x % 256 := by
  obtain ⟨n, rfl⟩ := Int.eq_ofNat_of_zero_le h0
  have h := (bits_nat .u64 64 (by decide) wraps_u64 n 255 (by omega) (by decide)).1
  rw [show ((255 : Nat) : Int) = 255 from rfl] at h
  rw [h, show (255 : Nat) = 2 ^ 8 - 1 from rfl, Nat.and_two_pow_sub_one_eq_mod]
  omega
def w32 (x : Int) : Int := x % 4294967296
theorem wrap32_eq (x : Int) : IntKind.u32.wrap x = w32 x := by simp [IntKind.wrap, IntKind.bits, IntKind.signed, w32]
theorem w32_lo (x : Int) : 0 ≤ w32 x := by unfold w32; omega
theorem w32_hi (x : Int) : w32 x < 4294967296 := by unfold w32; omega
/-- One step of the hash. -/
def hmul (h d : Int) : Int := w32 (w32 (h + d) * 3332679571)
def hstep (h d : Int) : Int := bits .xor .u32 (hmul h d) (hmul h d / 65536)
def htail (h d : Int) : Int := bits .xor .u32 (hmul h d) (hmul h d / 16777216)
def htailY (y : Int) : Int := bits .xor .u32 (w32 (y * 3332679571)) (w32 (y * 3332679571) / 16777216)
theorem htail_eq (h d y : Int) (e : y = w32 (h + d)) : htailY y = htail h d := by subst e; rfl
/-- The whole hash. -/
def hashAll (h : Int) (l : List UInt8) : Int :=
  if _ : 4 ≤ l.length then hashAll (hstep h (leI (l.take 4))) (l.drop 4)
  else if l = [] then h else htail h (leI l)
  termination_by l.length
theorem hashAll_step {h : Int} {l : List UInt8} (hl : 4 ≤ l.length) : hashAll h l = hashAll (hstep h (leI (l.take 4))) (l.drop 4) := by
  rw [hashAll, dif_pos hl]
theorem hashAll_end {h : Int} {l : List UInt8} (hl : ¬ 4 ≤ l.length) : hashAll h l = if l = [] then h else htail h (leI l) := by
  rw [hashAll, dif_neg hl]
theorem u32_wf_xor (x y : Int) : 0 ≤ bits .xor .u32 x y ∧ bits .xor .u32 x y < 4294967296 := by
  have h : bits .xor .u32 x y = IntKind.u32.wrap (bits .xor .u32 x y) := by simp [bits, IntKind.wrap, IntKind.bits, IntKind.signed]
  rw [h, wrap32_eq]
  exact ⟨w32_lo _, w32_hi _⟩
end Go.Proofs.YtloflmcgbbbnjaaDoor.Plain
namespace Go.Proofs.YtloflmcgbbbnjaaDoor.Plain

/-- A choice from 0 to n-1 by numbers, and how many were made. -/
def pick (ns : List Int) (n at_ : Nat) : Nat × Nat := if ns = [] ∨ n < 2 then (0, at_) else ((ns.getD (at_ % ns.length) 0 % (n : Int)).toNat, at_ + 1)
theorem pick_nil (n a : Nat) : pick [] n a = (0, a) := by simp [pick]
theorem pick_lt {ns : List Int} {n a : Nat} (h : 0 < n) : (pick ns n a).1 < n := by
  unfold pick
  split
  · exact h
  · have h1 := Int.emod_nonneg (ns.getD (a % ns.length) 0) (show (n : Int) ≠ 0 by omega)
    have h2 := Int.emod_lt_of_pos (ns.getD (a % ns.length) 0) (show 0 < (n : Int) by omega)
    simp only; omega
theorem pick_at (ns : List Int) (n a : Nat) : a ≤ (pick ns n a).2 ∧ (pick ns n a).2 ≤ a + 1 := by
  unfold pick
  split <;> simp

abbrev KV := List UInt8 × List UInt8
def key (l : List KV) (j : Nat) : List UInt8 := (l.getD j ([], [])).1
def val (l : List KV) (j : Nat) : List UInt8 := (l.getD j ([], [])).2
/-- An entry that leaves out n bytes of its key. -/
def ent (n : Nat) (k v : List UInt8) : List UInt8 := uv n ++ uv (k.length - n) ++ uv v.length ++ (k.drop n ++ v)
structure BS where
  c : Nat
  b : List UInt8
  tail : List UInt8
  many : Nat
def bstep (rs : Nat) (ns : List Int) (i : Nat) (prev k v : List UInt8) (s : BS) : BS :=
  if i % rs = 0 then ⟨s.c, s.b ++ ent 0 k v, s.tail ++ leB s.b.length 4, s.many + 1⟩
  else if (pick ns 4 s.c).1 = 1 then ⟨(pick ns (shared prev k + 1) (pick ns 4 s.c).2).2, s.b ++ ent (pick ns (shared prev k + 1) (pick ns 4 s.c).2).1 k v, s.tail, s.many⟩
  else ⟨(pick ns 4 s.c).2, s.b ++ ent (shared prev k) k v, s.tail, s.many⟩
/-- Behind the first j pairs. -/
def bst (rs : Nat) (ns : List Int) (l : List KV) (c0 : Nat) : Nat → BS
  | 0 => ⟨c0, [], [], 0⟩
  | j + 1 => bstep rs ns j (key l (j - 1)) (key l j) (val l j) (bst rs ns l c0 j)
def blockB (rs : Nat) (ns : List Int) (l : List KV) (c0 : Nat) : List UInt8 :=
  let s := bst rs ns l c0 l.length
  if s.many = 0 then s.b ++ (s.tail ++ leB 0 4) ++ leB 1 4 else s.b ++ s.tail ++ leB s.many 4
theorem ent_le {n : Nat} {k v : List UInt8} (hn : n ≤ k.length) (hk : k.length < 34359738368) (hv : v.length < 34359738368) : (ent n k v).length ≤ 15 + k.length + v.length := by
  have h1 := uv_len5 (x := n) (by omega)
  have h2 := uv_len5 (x := k.length - n) (by omega)
  have h3 := uv_len5 hv
  simp only [ent, List.length_append, List.length_drop]; omega
theorem ent_pos (n : Nat) (k v : List UInt8) : 3 ≤ (ent n k v).length := by
  have h1 := uv_pos n; have h2 := uv_pos (k.length - n); have h3 := uv_pos v.length
  simp only [ent, List.length_append]; omega
/-- The weight of pairs. -/
def kvw (l : List KV) : Nat := (l.map fun p => p.1.length + p.2.length + 1).sum
theorem kvw_take_succ {l : List KV} {j : Nat} (h : j < l.length) : kvw (l.take (j + 1)) = kvw (l.take j) + ((key l j).length + (val l j).length + 1) := by
  rw [List.take_succ_eq_append_getElem h]
  simp only [kvw, key, val, List.getD_eq_getElem?_getD, List.getElem?_eq_getElem h, Option.getD_some, List.map_append, List.sum_append, List.map_cons, List.map_nil, List.sum_cons, List.sum_nil, Nat.add_zero]
theorem kvw_take (l : List KV) (j : Nat) : kvw (l.take j) ≤ kvw l := by
  have : kvw l = kvw (l.take j) + kvw (l.drop j) := by
    conv => lhs; rw [← List.take_append_drop j l]
    simp only [kvw, List.map_append, List.sum_append]
  omega
theorem kvw_mem {l : List KV} {p : KV} (h : p ∈ l) : p.1.length + p.2.length + 1 ≤ kvw l := by
  induction l with
  | nil => cases h
  | cons x l ih =>
    simp only [kvw, List.map_cons, List.sum_cons] at ih ⊢
    rcases List.mem_cons.1 h with rfl | h
    · omega
    · have := ih h; omega
theorem kvw_key (l : List KV) (j : Nat) : (key l j).length + (val l j).length ≤ kvw l := by
  unfold key val
  rcases Nat.lt_or_ge j l.length with h | h
  · have := kvw_mem (List.getElem_mem h)
    simp only [List.getD_eq_getElem?_getD, List.getElem?_eq_getElem h, Option.getD_some]; omega
  · simp [List.getD_eq_getElem?_getD, List.getElem?_eq_none h]
theorem bst_le {rs : Nat} {ns : List Int} {l : List KV} {c0 : Nat} (hw : kvw l < 34359738368) : ∀ j, j ≤ l.length →
    (bst rs ns l c0 j).b.length ≤ 16 * kvw (l.take j) ∧ (bst rs ns l c0 j).many ≤ j ∧ (bst rs ns l c0 j).tail.length = 4 * (bst rs ns l c0 j).many ∧ c0 ≤ (bst rs ns l c0 j).c ∧ (bst rs ns l c0 j).c ≤ c0 + 2 * j
  | 0, _ => by simp [bst]
  | j + 1, h => by
    obtain ⟨h1, h2, h3, h4, h5⟩ := bst_le (rs := rs) (ns := ns) (c0 := c0) hw j (by omega)
    have hk := kvw_key l j
    have ht := kvw_take_succ h
    have hsh := shared_le (key l (j - 1)) (key l j)
    have hp4 := pick_at ns 4 (bst rs ns l c0 j).c
    have hpn := pick_at ns (shared (key l (j - 1)) (key l j) + 1) (pick ns 4 (bst rs ns l c0 j).c).2
    have hpl := pick_lt (ns := ns) (n := shared (key l (j - 1)) (key l j) + 1) (a := (pick ns 4 (bst rs ns l c0 j).c).2) (by omega)
    have hl4 : (leB ((bst rs ns l c0 j).b.length : Int) 4).length = 4 := leB_length _ _
    simp only [bst, bstep]
    split
    · have := ent_le (n := 0) (k := key l j) (v := val l j) (by omega) (by omega) (by omega)
      simp only [List.length_append]
      refine ⟨by omega, by omega, by omega, by omega, by omega⟩
    · split
      · have := ent_le (n := (pick ns (shared (key l (j - 1)) (key l j) + 1) (pick ns 4 (bst rs ns l c0 j).c).2).1) (k := key l j) (v := val l j) (by omega) (by omega) (by omega)
        simp only [List.length_append]
        refine ⟨by omega, by omega, by omega, by omega, by omega⟩
      · have := ent_le (n := shared (key l (j - 1)) (key l j)) (k := key l j) (v := val l j) (by omega) (by omega) (by omega)
        simp only [List.length_append]
        refine ⟨by omega, by omega, by omega, by omega, by omega⟩
end Go.Proofs.YtloflmcgbbbnjaaDoor.Plain
namespace Go.Proofs.YtloflmcgbbbnjaaDoor.Plain

/-- One call over n pairs, s where it seeks to, p where it stands: -1 ahead of the first, n behind the last. -/
def wst (n s : Int) (c : Nat) (p : Int) : Int :=
  if c = 0 then 0 else if c = 1 then n - 1 else if c = 2 then min (p + 1) n else if c = 3 then max (p - 1) (-1) else s
def wpl (n s : Int) : List UInt8 → Int → List Int
  | [], _ => []
  | c :: cs, p => wst n s (c.toNat % 5) p :: wpl n s cs (wst n s (c.toNat % 5) p)
def wend (n s : Int) : List UInt8 → Int → Int
  | [], p => p
  | c :: cs, p => wend n s cs (wst n s (c.toNat % 5) p)
theorem wpl_snoc (n s : Int) (cs : List UInt8) (c : UInt8) (p : Int) : wpl n s (cs ++ [c]) p = wpl n s cs p ++ [wst n s (c.toNat % 5) (wend n s cs p)] ∧ wend n s (cs ++ [c]) p = wst n s (c.toNat % 5) (wend n s cs p) := by
  induction cs generalizing p with
  | nil => exact ⟨rfl, rfl⟩
  | cons x cs ih =>
    obtain ⟨h1, h2⟩ := ih (wst n s (x.toNat % 5) p)
    exact ⟨by simp only [List.cons_append, wpl, wend, h1], by simp only [List.cons_append, wend, h2]⟩
theorem wpl_length (n s : Int) : ∀ (cs : List UInt8) (p : Int), (wpl n s cs p).length = cs.length
  | [], _ => rfl
  | c :: cs, p => by simp only [wpl, List.length_cons, wpl_length n s cs]
/-- A place of n pairs. -/
def Plc (n : Nat) (p : Int) : Prop := -1 ≤ p ∧ p ≤ (n : Int)
theorem wst_plc {n : Nat} {s : Int} (hs : 0 ≤ s ∧ s ≤ (n : Int)) (c : Nat) {p : Int} (hp : Plc n p) : Plc n (wst n s c p) := by
  unfold Plc at hp ⊢
  unfold wst
  split
  · omega
  · split
    · omega
    · split
      · omega
      · split <;> omega
theorem wend_plc {n : Nat} {s : Int} (hs : 0 ≤ s ∧ s ≤ (n : Int)) : ∀ (cs : List UInt8) {p : Int}, Plc n p → Plc n (wend n s cs p)
  | [], _, h => h
  | _ :: cs, _, h => wend_plc hs cs (wst_plc hs _ h)
theorem wpl_plc {n : Nat} {s : Int} (hs : 0 ≤ s ∧ s ≤ (n : Int)) : ∀ (cs : List UInt8) {p : Int}, Plc n p → ∀ x ∈ wpl n s cs p, Plc n x
  | [], _, _, x, hx => by simp [wpl] at hx
  | c :: cs, p, h, x, hx => by
    rcases List.mem_cons.1 hx with rfl | hx
    · exact wst_plc hs _ h
    · exact wpl_plc hs cs (wst_plc hs _ h) x hx
def wval (n : Nat) (p : Int) : Bool := decide (0 ≤ p) && decide (p < (n : Int))
theorem wval_iff {n : Nat} {p : Int} : wval n p = true ↔ 0 ≤ p ∧ p < (n : Int) := by simp [wval]
theorem wval_not {n : Nat} {p : Int} : wval n p = false ↔ p < 0 ∨ (n : Int) ≤ p := by
  unfold wval
  by_cases h1 : 0 ≤ p <;> by_cases h2 : p < (n : Int) <;> simp [h1, h2] <;> omega
def wat (n : Nat) (p : Int) : Int := if wval n p = true then p else -1
def wkv (L : List KV) (p : Int) : KV := if wval L.length p = true then (key L p.toNat, val L p.toNat) else ([], [])
end Go.Proofs.YtloflmcgbbbnjaaDoor.Plain
namespace Go.Proofs.YtloflmcgbbbnjaaDoor
open Go.RowKit Plain Go.ChangeShapes Go.WideShapes Go.ChangeAt

theorem choose_list {α : Type} (n : Nat) (p : Nat → α → Prop) (h : ∀ i, i < n → ∃ x, p i x) : ∃ l : List α, l.length = n ∧ ∀ i x, l[i]? = some x → p i x := by
  induction n with
  | zero => exact ⟨[], rfl, fun i x h => by simp at h⟩
  | succ n ih =>
    obtain ⟨l, hl, hp⟩ := ih fun i hi => h i (by omega)
    obtain ⟨x, hx⟩ := h n (by omega)
    refine ⟨l ++ [x], by simp [hl], fun i y hy => ?_⟩
    rcases Nat.lt_or_ge i l.length with hi | hi
    · rw [List.getElem?_append_left hi] at hy; exact hp i y hy
    · rw [List.getElem?_append_right hi] at hy
      have : i = n := by
        have := (List.getElem?_eq_some_iff.1 hy).1
        simp at this; omega
      subst this
      simp [hl] at hy
      exact hy ▸ hx

section
variable {α : Type} (f : α → List Value) (S : Nat)
theorem flat_length (hS : ∀ x, (f x).length = S) : ∀ l : List α, (l.flatMap f).length = l.length * S
  | [] => by simp
  | x :: l => by rw [List.flatMap_cons, List.length_append, hS, flat_length hS l, List.length_cons, Nat.add_mul, Nat.one_mul, Nat.add_comm]
theorem flat_get (hS : ∀ x, (f x).length = S) : ∀ (l : List α) (i : Nat) (x : α) (j : Nat), l[i]? = some x → j < S → (l.flatMap f)[i * S + j]? = (f x)[j]?
  | [], i, x, j, h, _ => by simp at h
  | y :: l, 0, x, j, h, hj => by
    simp at h
    subst h
    rw [List.flatMap_cons, Nat.zero_mul, Nat.zero_add, List.getElem?_append_left (by rw [hS]; exact hj)]
  | y :: l, i + 1, x, j, h, hj => by
    have h' : l[i]? = some x := by simpa using h
    rw [List.flatMap_cons, List.getElem?_append_right (by rw [hS, Nat.add_mul, Nat.one_mul]; omega), hS, show (i + 1) * S + j - S = i * S + j by rw [Nat.add_mul, Nat.one_mul]; omega]
    exact flat_get hS l i x j h' hj
/-- The cells of one record of a row. -/
theorem CsAt.at_row {w : World} {A : Option Addr} {l : List α} (hS : ∀ x, (f x).length = S) (h0 : 0 < S) (h : CsAt w A (l.flatMap f)) {i : Nat} {x : α} (hx : l[i]? = some x) :
    ∃ g o, A = some ⟨g, o, none⟩ ∧ ∀ j, j < S → w.cell? ⟨g, o + (i * S + j), none⟩ = (f x)[j]? := by
  have hi := (List.getElem?_eq_some_iff.1 hx).1
  have hlt : ∀ j, j < S → i * S + j < (l.flatMap f).length := fun j hj => by
    rw [flat_length f S hS]
    have : (i + 1) * S ≤ l.length * S := Nat.mul_le_mul_right S hi
    rw [Nat.add_mul, Nat.one_mul] at this; omega
  obtain ⟨g, o, e, _, hc⟩ := h.addr (by have := hlt 0 h0; omega)
  exact ⟨g, o, e, fun j hj => by rw [hc _ (hlt j hj), flat_get f S hS l i x j hx hj]⟩
end

section
variable {H : Type} {enc : TypeId × Value → H} {P : Program} {W : World} {base : Nat} {spare : Nat → Bool} {held : Bool}
theorem open_bytes_f {fuel : Nat} {t e : TypeId} {cs : List Value} {x : DataW H × List MemPlace} (ht : P.underlying t = some (.slice e)) (he : P.underlying e = some (.int .u8)) (hc : P.cellsOf e = 1)
    (h : DataW.trod enc P W base spare held fuel t cs = some x) : ∃ (A : Option Addr) (l : List UInt8) (c : Nat), cs = [.slice A l.length c] ∧ l.length ≤ c ∧ c ≤ maxLen ∧ BsAt W A l := by
  rcases DataW.trod_slice ht h with ⟨rfl, _⟩ | ⟨a, len, cap, _, _, _, _, rfl, _⟩
  · exact ⟨none, [], 0, rfl, Nat.le_refl _, Nat.zero_le _, BsAt.nil _ _⟩
  · have h' : DataW.Trod enc P W base spare held t (.slice (some a) len cap) x.1 x.2 := ⟨fuel, by simpa [Value.cells] using h⟩
    obtain ⟨l, rfl, hl, hm, hb⟩ := open_bytes ht he hc h'
    exact ⟨some a, l, cap, rfl, hl, hm, hb⟩

/-- A row of records that came in. -/
theorem open_rows {α : Type} (f : α → List Value) (ok : α → Prop) (S : Nat) {fuel : Nat} {t e : TypeId} {cs : List Value} {x : DataW H × List MemPlace} (ht : P.underlying t = some (.slice e)) (hc : P.cellsOf e = S) (hS : ∀ x, (f x).length = S) (h0 : 0 < S)
    (hop : ∀ (n : Nat) (c : List Value) (y : DataW H × List MemPlace), DataW.trod enc P W base spare held n e c = some y → ∃ x, c = f x ∧ ok x)
    (h : DataW.trod enc P W base spare held fuel t cs = some x) : ∃ (A : Option Addr) (l : List α) (c : Nat), cs = [.slice A l.length c] ∧ l.length ≤ c ∧ c ≤ maxLen ∧ CsAt W A (l.flatMap f) ∧ ∀ y ∈ l, ok y := by
  rcases DataW.trod_slice ht h with ⟨rfl, _⟩ | ⟨a, len, cap, elems, rest, n, _, rfl, _, _, hl, hm, hlen, hel, _⟩
  · exact ⟨none, [], 0, rfl, Nat.le_refl _, Nat.zero_le _, CsAt.nil _ _, fun y hy => by simp at hy⟩
  · obtain ⟨l, hll, hp⟩ := choose_list (α := α) len (fun i x => (∀ j, j < S → W.cell? ((a.add (i * S)).add j) = (f x)[j]?) ∧ ok x) fun i hi => by
      have h1 := hel i hi
      rw [List.getElem?_eq_getElem (by omega), Option.bind_eq_some_iff, hc] at h1
      obtain ⟨c, hcs, hy⟩ := h1
      obtain ⟨x, rfl, hx⟩ := hop n c _ hy
      obtain ⟨_, _, hcell⟩ := World.cells?_some hcs
      exact ⟨x, hcell, hx⟩
    subst hll
    refine ⟨some a, l, cap, rfl, hl, hm, fun k hk => ?_, fun y hy => ?_⟩
    · rw [flat_length f S hS] at hk
      have hi : k / S < l.length := (Nat.div_lt_iff_lt_mul h0).2 hk
      have hj : k % S < S := Nat.mod_lt _ h0
      obtain ⟨g, o, spot⟩ := a
      have hc0 := (hp (k / S) l[k / S] (List.getElem?_eq_getElem hi)).1 (k % S) hj
      have hsp : spot = none := by
        have hl0 : 0 < l.length := Nat.lt_of_le_of_lt (Nat.zero_le _) hi
        have hs0 : 0 < (f l[0]).length := by rw [hS]; exact h0
        have hs := (hp 0 l[0] (List.getElem?_eq_getElem hl0)).1 0 h0
        rw [List.getElem?_eq_getElem hs0, Nat.zero_mul] at hs
        have h0' := World.cell?_spot hs
        simpa [Addr.add] using h0'
      subst hsp
      rw [add_none, add_none] at hc0
      refine ⟨g, o, rfl, ?_⟩
      have hk' : k / S * S + k % S = k := by rw [Nat.mul_comm]; exact Nat.div_add_mod k S
      have hfl := flat_get f S hS l (k / S) l[k / S] (k % S) (List.getElem?_eq_getElem hi) hj
      rw [hk'] at hfl
      rw [hfl, ← hc0, show o + k / S * S + k % S = o + k by omega]
    · obtain ⟨i, hi, rfl⟩ := List.getElem_of_mem hy
      exact (hp i _ (List.getElem?_eq_getElem hi)).2
end
end Go.Proofs.YtloflmcgbbbnjaaDoor
