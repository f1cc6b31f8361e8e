/-
  WORDS FOR MEMORY: draws alone ('Dr'); only some blocks have turned ('Only'); a block known whole ('Blk'); bytes that are read ('BsAt'); laws for make, copy, append, stated over a world that is a variable.
-/
import Derived.Test.YtloflmcgbbbnjaaProg
import Derived.Test.YtloflmcgbbbnjaaBytes
import Derived.WalkKit
import Derived.WalkSpells
import Derived.WalkLawsBesides
import Derived.Deep.QuietTactic
import Derived.BigQuiet
import Derived.Deep.LoopGhost
import Derived.Deep.DeepCutAuto
import Derived.Deep.CutBlock
import Derived.Laws.CopyOwn
import Derived.Laws.OwnMore
import Derived.Maps.AppendAt
import Derived.Deep.OwnRows
import Derived.Deep.Draws
namespace Go.Proofs.Ytloflmcgbbbnjaa
open Go.RowKit Plain

theorem hid {p : Prop} (h : p) : Hid p := h
theorem ret_int {k : IntKind} {a b : Int} (h : a = b) : Ending.returned (.int k a) = .returned (.int k b) := by rw [h]
theorem ret_bool {a b : Bool} (h : a = b) : Ending.returned (.bool a) = .returned (.bool b) := by rw [h]

theorem i64_id {x : Int} (h0 : -4611686018427387904 ≤ x) (h1 : x ≤ 4611686018427387904) : IntKind.i64.wrap x = x := by
  simp [IntKind.wrap, IntKind.bits, IntKind.signed]; omega
/-- The second world is the first but for draws. -/
structure Dr (w w' : World) : Prop where mk :: (out : ∃ n, w' = w.drewN n)
theorem Dr.refl (w : World) : Dr w w := ⟨0, rfl⟩
theorem Dr.step {w w' : World} (h : Dr w w') (n : Nat) : Dr w (w'.drewN n) := by obtain ⟨m, rfl⟩ := h.out; exact ⟨_, World.drewN_drewN _ _ _⟩
theorem Dr.drew {w w' : World} (h : Dr w w') : Dr w w'.drew := h.step 1
theorem Dr.trans {a b c : World} (h : Dr a b) (k : Dr b c) : Dr a c := by obtain ⟨m, rfl⟩ := k.out; exact h.step m
theorem Dr.quiet {P : Program} {f : FuncId} {args : Array Value} {w : World} {n : Nat} {v : Value} (h : Calls P f args (w.drewN n) fun e w' => e = .returned v ∧ Dr (w.drewN n) w') :
    Calls P f args (w.drewN n) fun e w' => e = .returned v ∧ ∃ m, w' = w.drewN m :=
  h.mono fun _ _ ⟨he, hm⟩ => ⟨he, by obtain ⟨m, rfl⟩ := hm.out; exact ⟨_, World.drewN_drewN _ _ _⟩⟩
theorem Dr.quiet_add {P : Program} {f : FuncId} {args : Array Value} {w : World} {a n : Nat} {v : Value} (h : Calls P f args (w.drewN (a + n)) fun e w' => e = .returned v ∧ Dr (w.drewN (a + n)) w') :
    Calls P f args (w.drewN (a + n)) fun e w' => e = .returned v ∧ ∃ m, w' = w.drewN (a + m) :=
  h.mono fun _ _ ⟨he, hm⟩ => ⟨he, by obtain ⟨m, rfl⟩ := hm.out; exact ⟨n + m, by rw [World.drewN_drewN, Nat.add_assoc]⟩⟩
theorem Dr.quiet0 {P : Program} {f : FuncId} {args : Array Value} {w : World} {v : Value} (h : Calls P f args w fun e w' => e = .returned v ∧ Dr w w') :
    Calls P f args w fun e w' => e = .returned v ∧ ∃ m, w' = w.drewN m :=
  h.mono fun _ _ ⟨he, hm⟩ => ⟨he, hm.out⟩

/-- Only the blocks of S have turned; new ones may have come. -/
structure Only (S : List Nat) (w w' : World) : Prop where
  os : w'.os = w.os
  tape : w'.tape = w.tape
  output : w'.output = w.output
  size : w.heap.size ≤ w'.heap.size
  block : ∀ k, k < w.heap.size → k ∉ S → w'.heap[k]? = w.heap[k]?
namespace Only
variable {S S' : List Nat} {a w w' : World}
theorem refl (S : List Nat) (w : World) : Only S w w := ⟨rfl, rfl, rfl, Nat.le_refl _, fun _ _ _ => rfl⟩
theorem trans (h : Only S a w) (k : Only S w w') : Only S a w' :=
  ⟨k.os.trans h.os, k.tape.trans h.tape, k.output.trans h.output, Nat.le_trans h.size k.size, fun i hi hn => (k.block i (Nat.lt_of_lt_of_le hi h.size) hn).trans (h.block i hi hn)⟩
theorem mono (h : Only S w w') (hs : ∀ k, k < w.heap.size → k ∈ S → k ∈ S') : Only S' w w' := ⟨h.os, h.tape, h.output, h.size, fun i hi hn => h.block i hi fun hm => hn (hs i hi hm)⟩
theorem drewN (h : Only S a w) (n : Nat) : Only S a (w.drewN n) := ⟨h.os, h.tape, h.output, h.size, h.block⟩
theorem drew (h : Only S a w) : Only S a w.drew := h.drewN 1
theorem dr (h : Only S a w) (k : Dr w w') : Only S a w' := by obtain ⟨n, rfl⟩ := k.out; exact h.drewN n
theorem alloc (h : Only S a w) (o : Obj) : Only S a (w.alloc o) :=
  ⟨h.os, h.tape, h.output, Nat.le_trans h.size (by simp), fun i hi hn => (Below.heap_alloc w o i (Nat.lt_of_lt_of_le hi h.size)).trans (h.block i hi hn)⟩
theorem setCell (h : Only S a w) {p : Addr} (hp : p.block ∈ S ∨ a.heap.size ≤ p.block) (u : Value) : Only S a (w.setCell p u) :=
  ⟨h.os, h.tape, h.output, by simpa [World.setCell] using h.size, fun i hi hn => (Below.heap_setCell w p u i (by
    rintro rfl
    rcases hp with hp | hp
    · exact hn hp
    · omega)).trans (h.block i hi hn)⟩
/-- Then: blocks of S, and blocks that were new. -/
theorem trans' (h : Only S a w) (k : Only S' w w') (hs : ∀ i, i < a.heap.size → i ∈ S' → i ∈ S) : Only S a w' :=
  ⟨k.os.trans h.os, k.tape.trans h.tape, k.output.trans h.output, Nat.le_trans h.size k.size, fun i hi hn => (k.block i (Nat.lt_of_lt_of_le hi h.size) fun hm => hn (hs i hi hm)).trans (h.block i hi hn)⟩
theorem new (h : Only S a w) (k : Only [] w w') : Only S a w' := h.trans' k (by simp)
theorem of_below (h : Below w.heap.size w w') (S : List Nat) : Only S w w' := ⟨h.os, h.tape, h.output, h.size, fun i hi _ => h.block i hi⟩
theorem below (h : Only S w w') {B : Nat} (hB : B ≤ w.heap.size) (hs : ∀ k, k ∈ S → B ≤ k) : Below B w w' :=
  ⟨h.os, h.tape, h.output, h.size, fun i hi => h.block i (Nat.lt_of_lt_of_le hi hB) fun hm => by have := hs i hm; omega⟩
theorem below0 (h : Only [] w w') : Below w.heap.size w w' := h.below (Nat.le_refl _) (by simp)
theorem of_grown {row : Option Nat} (h : w.grownBy w' row) (hs : ∀ k, row = some k → k ∈ S) : Only S w w' :=
  ⟨h.os, h.tape, h.output, h.size, fun i hi hn => h.block i hi fun e => hn (hs i e.symm)⟩
theorem grow (h : Only S a w) {row : Option Nat} (hg : w.grownBy w' row) (hr : ∀ k, row = some k → k ∈ S ∨ a.heap.size ≤ k) : Only S a w' :=
  ⟨hg.os.trans h.os, hg.tape.trans h.tape, hg.output.trans h.output, Nat.le_trans h.size hg.size, fun i hi hn => (hg.block i (Nat.lt_of_lt_of_le hi h.size) fun e => by
    rcases hr i e.symm with h' | h'
    · exact hn h'
    · omega).trans (h.block i hi hn)⟩
theorem cell (h : Only S w w') {p : Addr} (hp : p.block < w.heap.size) (hn : p.block ∉ S) : w'.cell? p = w.cell? p := World.cell?_of_block (h.block _ hp hn)
theorem frozen (h : Only S w w') {p : Addr} (hp : p.block < w.heap.size) (hn : p.block ∉ S) : w'.frozen? p = w.frozen? p := World.frozen?_of_block (h.block _ hp hn)
end Only
theorem Dr.only {w w' : World} (h : Dr w w') : Only [] w w' := (Only.refl _ _).dr h

/-- A block known whole; none of it is frozen. -/
def Blk (w : World) (g : Nat) (t : TypeId) (cs : List Value) : Prop := w.heap[g]? = some (.cells cs.toArray t (0, 0))
namespace Blk
variable {w w' : World} {g : Nat} {t : TypeId} {cs : List Value}
theorem lt (h : Blk w g t cs) : g < w.heap.size := by
  rcases Nat.lt_or_ge g w.heap.size with hlt | hge
  · exact hlt
  · unfold Blk at h; rw [Array.getElem?_eq_none hge] at h; cases h
theorem cell (h : Blk w g t cs) (i : Nat) : w.cell? ⟨g, i, none⟩ = cs[i]? := by
  unfold Blk at h
  simp [World.cell?, h]
theorem frozen (h : Blk w g t cs) (i : Nat) : w.frozen? ⟨g, i, none⟩ = false := by
  unfold Blk at h
  simp [World.frozen?, h]
theorem new (w : World) (t : TypeId) (cs : List Value) : Blk (w.alloc (.cells cs.toArray t)) w.heap.size t cs := heap_alloc_new w _
theorem new' {g : Nat} (h : w.heap.size = g) (t : TypeId) (cs : List Value) : Blk (w.alloc (.cells cs.toArray t)) g t cs := h ▸ new w t cs
theorem drew (h : Blk w g t cs) : Blk w.drew g t cs := h
theorem drewN (h : Blk w g t cs) (n : Nat) : Blk (w.drewN n) g t cs := h
theorem dr (h : Blk w g t cs) (k : Dr w w') : Blk w' g t cs := by obtain ⟨n, rfl⟩ := k.out; exact h
theorem alloc (h : Blk w g t cs) (o : Obj) : Blk (w.alloc o) g t cs := (Below.heap_alloc w o g h.lt).trans h
theorem set_ (h : Blk w g t cs) (i : Nat) (u : Value) : Blk (w.setCell ⟨g, i, none⟩ u) g t (cs.set i u) := by
  unfold Blk at h ⊢
  simp [World.setCell, Array.getElem?_modify, h]
theorem far (h : Blk w g t cs) {p : Addr} (hp : g ≠ p.block) (u : Value) : Blk (w.setCell p u) g t cs := (Below.heap_setCell w p u g hp).trans h
theorem only {S : List Nat} (h : Blk w g t cs) (hb : Only S w w') (hg : g ∉ S) : Blk w' g t cs := (hb.block g h.lt hg).trans h
theorem below {B : Nat} (h : Blk w g t cs) (hb : Below B w w') (hg : g < B) : Blk w' g t cs := (hb.block g hg).trans h
theorem ne_ {g' : Nat} {t' : TypeId} {cs' : List Value} (h : Blk w g t cs) (h' : Blk w g' t' cs') (hne : t ≠ t') : g ≠ g' := by
  rintro rfl
  unfold Blk at h h'
  rw [h] at h'
  injection h' with h'
  injection h' with _ ht
  exact hne ht
end Blk

/-- Bytes as cells. -/
def bc (l : List UInt8) : List Value := l.map fun b => .int .u8 (b.toNat : Int)
theorem bc_length (l : List UInt8) : (bc l).length = l.length := by simp [bc]
theorem bc_append (a b : List UInt8) : bc (a ++ b) = bc a ++ bc b := by simp [bc]
theorem bc_get {l : List UInt8} {i : Nat} (h : i < l.length) : (bc l)[i]? = some (.int .u8 (bz l i)) := by simp [bc, bz, at_, List.getElem?_eq_getElem h]
theorem bc_one (l : List UInt8) : ∀ v ∈ bc l, v.oneCell' = true := by
  intro v hv
  obtain ⟨b, _, rfl⟩ := List.mem_map.1 hv
  rfl

/-- Bytes that are read: nothing is asked where there is none. -/
def BsAt (w : World) (A : Option Addr) (l : List UInt8) : Prop :=
  ∀ i, i < l.length → ∃ g o, A = some ⟨g, o, none⟩ ∧ w.cell? ⟨g, o + i, none⟩ = some (.int .u8 (bz l i))
theorem cell_lt {w : World} {p : Addr} {v : Value} (h : w.cell? p = some v) : p.block < w.heap.size := by
  rcases Nat.lt_or_ge p.block w.heap.size with hlt | hge
  · exact hlt
  · exfalso
    unfold World.cell? at h
    rw [Array.getElem?_eq_none hge] at h
    cases h
namespace BsAt
variable {w w' : World} {A : Option Addr} {l : List UInt8}
theorem nil (w : World) (A : Option Addr) : BsAt w A [] := fun i hi => absurd hi (by simp)
theorem keep {S : List Nat} (h : BsAt w A l) (hb : Only S w w') (hA : ∀ g o, A = some ⟨g, o, none⟩ → g < w.heap.size → g ∉ S) : BsAt w' A l := fun i hi => by
  obtain ⟨g, o, rfl, hc⟩ := h i hi
  have hlt := cell_lt hc
  exact ⟨g, o, rfl, (hb.cell hlt (hA g o rfl hlt)).trans hc⟩
theorem keep0 (h : BsAt w A l) (hb : Only [] w w') : BsAt w' A l := h.keep hb (by simp)
theorem below (h : BsAt w A l) (hb : Below w.heap.size w w') : BsAt w' A l := h.keep0 (Only.of_below hb [])
theorem dr (h : BsAt w A l) (k : Dr w w') : BsAt w' A l := h.keep0 k.only
theorem drewN (h : BsAt w A l) (n : Nat) : BsAt (w.drewN n) A l := h
theorem drew (h : BsAt w A l) : BsAt w.drew A l := h
theorem alloc (h : BsAt w A l) (o : Obj) : BsAt (w.alloc o) A l := h.keep0 ((Only.refl _ _).alloc o)
theorem of_blk {g t off : Nat} {cs : List Value} (h : Blk w g t cs) (hl : ∀ i, i < l.length → cs[off + i]? = some (.int .u8 (bz l i))) : BsAt w (some ⟨g, off, none⟩) l :=
  fun i hi => ⟨g, off, rfl, (h.cell _).trans (hl i hi)⟩
theorem addr (h : BsAt w A l) (hl : 0 < l.length) : ∃ g o, A = some ⟨g, o, none⟩ ∧ g < w.heap.size ∧ ∀ i, i < l.length → w.cell? ⟨g, o + i, none⟩ = some (.int .u8 (bz l i)) := by
  obtain ⟨g, o, rfl, hc⟩ := h 0 hl
  refine ⟨g, o, rfl, cell_lt hc, fun i hi => ?_⟩
  obtain ⟨g', o', e, hc'⟩ := h i hi
  injection e with e
  injection e with e1 e2
  subst e1; subst e2
  exact hc'
theorem take (h : BsAt w A l) (n : Nat) : BsAt w A (l.take n) := fun i hi => by
  rw [List.length_take] at hi
  obtain ⟨g, o, e, hc⟩ := h i (by omega)
  refine ⟨g, o, e, hc.trans ?_⟩
  have : i < n := by omega
  simp [bz, at_, this]
theorem drop {g o : Nat} (h : BsAt w (some ⟨g, o, none⟩) l) (n : Nat) : BsAt w (some ⟨g, o + n, none⟩) (l.drop n) := fun i hi => by
  rw [List.length_drop] at hi
  obtain ⟨g', o', e, hc⟩ := h (n + i) (by omega)
  injection e with e
  injection e with e1 e2
  subst e1; subst e2
  refine ⟨g, o + n, rfl, ?_⟩
  rw [Nat.add_assoc, hc]
  simp [bz, at_]
end BsAt
/-- Cells that are read. -/
def CsAt (w : World) (A : Option Addr) (cs : List Value) : Prop := ∀ i, i < cs.length → ∃ g o, A = some ⟨g, o, none⟩ ∧ w.cell? ⟨g, o + i, none⟩ = cs[i]?
theorem BsAt.cs {w : World} {A : Option Addr} {l : List UInt8} (h : BsAt w A l) : CsAt w A (bc l) := fun i hi => by
  rw [bc_length] at hi
  obtain ⟨g, o, e, hc⟩ := h i hi
  exact ⟨g, o, e, by rw [hc, bc_get hi]⟩
namespace CsAt
variable {w w' : World} {A : Option Addr} {cs : List Value}
theorem nil (w : World) (A : Option Addr) : CsAt w A [] := fun i hi => absurd hi (by simp)
theorem bs {l : List UInt8} (h : CsAt w A (bc l)) : BsAt w A l := fun i hi => by
  obtain ⟨g, o, e, hc⟩ := h i (by rw [bc_length]; exact hi)
  exact ⟨g, o, e, by rw [hc, bc_get hi]⟩
theorem keep {S : List Nat} (h : CsAt w A cs) (hb : Only S w w') (hA : ∀ g o, A = some ⟨g, o, none⟩ → g < w.heap.size → g ∉ S) : CsAt w' A cs := fun i hi => by
  obtain ⟨g, o, rfl, hc⟩ := h i hi
  have hlt := cell_lt (hc.trans (List.getElem?_eq_getElem hi))
  exact ⟨g, o, rfl, (hb.cell hlt (hA g o rfl hlt)).trans hc⟩
theorem keep0 (h : CsAt w A cs) (hb : Only [] w w') : CsAt w' A cs := h.keep hb (by simp)
theorem of_blk {g t : Nat} {all : List Value} (h : Blk w g t all) (off n : Nat) : CsAt w (some ⟨g, off, none⟩) ((all.drop off).take n) := fun i hi => ⟨g, off, rfl, by
  rw [List.length_take] at hi
  rw [h.cell, List.getElem?_take, if_pos (by omega), List.getElem?_drop]⟩
theorem addr (h : CsAt w A cs) (hl : 0 < cs.length) : ∃ g o, A = some ⟨g, o, none⟩ ∧ g < w.heap.size ∧ ∀ i, i < cs.length → w.cell? ⟨g, o + i, none⟩ = cs[i]? := by
  obtain ⟨g, o, rfl, hc⟩ := h 0 hl
  refine ⟨g, o, rfl, cell_lt (hc.trans (List.getElem?_eq_getElem hl)), fun i hi => ?_⟩
  obtain ⟨g', o', e, hc'⟩ := h i hi
  injection e with e
  injection e with e1 e2
  subst e1; subst e2
  exact hc'
end CsAt
/-- 'b[k:]', as the walk writes it. -/
theorem BsAt.cut {w : World} {A : Option Addr} {l : List UInt8} (h : BsAt w A l) (k c : Nat) (hc : l.length ≤ c) :
    BsAt w (if c = k then A else Option.map (fun x => { block := x.block, off := x.off + k, spot := none }) A) (l.drop k) := fun i hi => by
  rw [List.length_drop] at hi
  obtain ⟨g, o, rfl, _, hc'⟩ := h.addr (by omega)
  rw [if_neg (by omega)]
  exact BsAt.drop (g := g) (o := o) (fun j hj => ⟨g, o, rfl, hc' j hj⟩) k i (by rw [List.length_drop]; omega)
theorem add_none (g o j : Nat) : (⟨g, o, none⟩ : Addr).add j = ⟨g, o + j, none⟩ := by unfold Addr.add; split <;> simp_all

theorem BsAt.of_bc {w : World} {g t : Nat} {l : List UInt8} (h : Blk w g t (bc l)) : BsAt w (some ⟨g, 0, none⟩) l := BsAt.of_blk h fun i hi => by rw [Nat.zero_add]; exact bc_get hi
theorem size_setCell (w : World) (p : Addr) (u : Value) : (w.setCell p u).heap.size = w.heap.size := by simp [World.setCell]
theorem splice_full {α : Type} {L cs : List α} (h : cs.length = L.length) : splice L 0 cs = cs := by simp [splice, h]
theorem bc_set (l : List UInt8) (i : Nat) (b : UInt8) : (bc l).set i (.int .u8 (b.toNat : Int)) = bc (l.set i b) := by simp [bc, List.map_set]
/-- A string of these bytes. -/
def bstr (l : List UInt8) : ByteArray := ⟨l.toArray⟩
theorem bstr_toList (l : List UInt8) : (bstr l).data.toList = l := by simp [bstr]
@[go_sem] theorem bstr_list (l : List UInt8) : (bstr l).toList = l := by unfold bstr; exact ByteArray.toList_mk l
theorem run_str {P : Program} {w : World} {A : Option Addr} {l : List UInt8} (src dst e : TypeId) (cap : Nat) (hs : P.underlying src = some (.slice e)) (he : P.underlying e = some (.int .u8)) (hd : P.underlying dst = some .string) (h : BsAt w A l) :
    (convert src dst (.slice A l.length cap)).run P w = .ok (.string (bstr l)) w := by
  have key : ∀ ad : Addr, A = some ad → (∀ j (hj : j < l.length), w.cell? (ad.add j) = some (.int .u8 (l[j].toNat : Int))) → (convert src dst (.slice A l.length cap)).run P w = .ok (.string (bstr l)) w := fun ad e2 hc => by
    rw [e2]; exact run_convert_bytes_back w src dst e ad cap l hs he hd hc
  rcases Nat.eq_zero_or_pos l.length with h0 | h0
  · obtain rfl : l = [] := List.eq_nil_of_length_eq_zero h0
    cases A with
    | none => rw [List.length_nil, run_convert_bytes_string w src dst e none 0 cap hs he hd]; simp [Conv.bytesToString]; rfl
    | some ad => exact key ad rfl (fun j hj => absurd hj (by simp))
  · obtain ⟨g, o, e2, _, hc⟩ := h.addr h0
    refine key _ e2 fun j hj => ?_
    rw [add_none, hc j hj, bz, at_get hj]
theorem run_str_take {P : Program} {w : World} {A : Option Addr} {l : List UInt8} (h : BsAt w A l) {n : Nat} (hn : n ≤ l.length) (src dst e : TypeId) (cap : Nat) (hs : P.underlying src = some (.slice e)) (he : P.underlying e = some (.int .u8)) (hd : P.underlying dst = some .string) :
    (convert src dst (.slice A n cap)).run P w = .ok (.string (bstr (l.take n))) w := by
  have := run_str (P := P) src dst e cap hs he hd (h.take n)
  rwa [List.length_take, Nat.min_eq_left hn] at this
theorem own_form {w : World} {base e size n : Nat} {v : Value} {xs : List Value} (h : w.ownsRow base e size v n xs) (hn : 0 < n) : ∃ g cap, v = .slice (some ⟨g, 0, none⟩) n cap ∧ n ≤ cap ∧ g < w.heap.size := by
  rcases h.2 with ⟨_, h0⟩ | ⟨g, cap, cur, rfl, _, hh, hc, _⟩
  · omega
  · refine ⟨g, cap, rfl, hc, ?_⟩
    rcases Nat.lt_or_ge g w.heap.size with hlt | hge
    · exact hlt
    · rw [Array.getElem?_eq_none hge] at hh; cases hh
theorem own_bs {w : World} {base e n : Nat} {v : Value} {xs : List Value} {l : List UInt8} (h : w.ownsRow base e 1 v n xs) (hx : xs = bc l) : ∃ A c, v = .slice A l.length c ∧ l.length ≤ c ∧ BsAt w A l := by
  subst hx
  obtain ⟨hn, h⟩ := h
  rw [bc_length, Nat.mul_one] at hn
  subst hn
  rcases h with ⟨rfl, h0⟩ | ⟨g, cap, cur, rfl, _, hh, hc, _, _, ht⟩
  · obtain rfl : l = [] := List.eq_nil_of_length_eq_zero h0
    exact ⟨none, 0, rfl, Nat.le_refl _, BsAt.nil _ _⟩
  · refine ⟨_, cap, rfl, hc, BsAt.of_blk (t := e) (cs := cur.toList) (by unfold Blk; rw [hh, Array.toArray_toList]) fun i hi => ?_⟩
    rw [← bc_get hi, ← ht, List.getElem?_take, if_pos (by omega), Nat.zero_add]
/-- A row of the call's own that holds bytes, at least one. -/
theorem own_bytes {w : World} {base e n : Nat} {v : Value} {l : List UInt8} (h : w.ownsRow base e 1 v n (bc l)) (hl : 0 < l.length) :
    ∃ g c, v = .slice (some ⟨g, 0, none⟩) l.length c ∧ l.length ≤ c ∧ g < w.heap.size ∧ BsAt w (some ⟨g, 0, none⟩) l := by
  have hn : n = l.length := by have := h.1; rw [bc_length, Nat.mul_one] at this; omega
  subst hn
  obtain ⟨g, c, rfl, hc, hlt⟩ := own_form h hl
  obtain ⟨A, c', e2, _, hb⟩ := own_bs h rfl
  injection e2 with e2 _ _
  subst e2
  exact ⟨g, c, rfl, hc, hlt, hb⟩
/-- A row whose block is not below B. -/
def From (B : Nat) (v : Value) : Prop := ∀ k, v.ownBlock = some k → B ≤ k
theorem From.none_ (B : Nat) (n c : Nat) : From B (.slice none n c) := fun k h => by simp [Value.ownBlock] at h
theorem From.at_ {B g : Nat} (h : B ≤ g) (o n c : Nat) : From B (.slice (some ⟨g, o, none⟩) n c) := fun k hk => by simp [Value.ownBlock] at hk; omega
theorem From.next {B : Nat} {w : World} {v v' : Value} (h : From B v) (hB : B ≤ w.heap.size) (hat : v'.ownBlock = v.ownBlock ∨ v'.ownBlock = some w.heap.size) : From B v' := fun k hk => by
  rcases hat with e | e
  · exact h k (e ▸ hk)
  · rw [e] at hk; injection hk with hk; omega
theorem Only.grow0 {a w w' : World} {S : List Nat} {v : Value} (h : Only S a w) (hg : w.grownBy w' v.ownBlock) (hv : From a.heap.size v) : Only S a w' := h.grow hg fun k hk => .inr (hv k hk)
/-- A row dst that is appended to: what has turned, and where it is now. -/
structure Grow (w : World) (dst : Value) (w' : World) (v' : Value) : Prop where
  only : Only dst.ownBlock.toList w w'
  now : v'.ownBlock = dst.ownBlock ∨ ∃ g, v'.ownBlock = some g ∧ w.heap.size ≤ g
namespace Grow
variable {w w1 w2 : World} {v v1 v2 : Value}
theorem refl (w : World) (v : Value) : Grow w v w v := ⟨Only.refl _ _, .inl rfl⟩
theorem alloc (h : Grow w v w1 v1) (o : Obj) : Grow w v (w1.alloc o) v1 := ⟨h.only.alloc o, h.now⟩
theorem drewN (h : Grow w v w1 v1) (n : Nat) : Grow w v (w1.drewN n) v1 := ⟨h.only.drewN n, h.now⟩
theorem new (h : Grow w v w1 v1) (k : Only [] w1 w2) : Grow w v w2 v1 := ⟨h.only.new k, h.now⟩
theorem row (h : Grow w v w1 v1) : ∀ k, v1.ownBlock = some k → k ∈ v.ownBlock.toList ∨ w.heap.size ≤ k := fun k hk => by
  rcases h.now with e | ⟨g, e, hg⟩
  · exact .inl (by rw [← e, hk]; simp)
  · rw [e] at hk; injection hk with hk; exact .inr (by omega)
theorem step (h : Grow w v w1 v1) (hg : w1.grownBy w2 v1.ownBlock) (hat : v2.ownBlock = v1.ownBlock ∨ v2.ownBlock = some w1.heap.size) : Grow w v w2 v2 :=
  ⟨h.only.grow hg h.row, by
    rcases hat with e | e
    · rw [e]; exact h.now
    · exact .inr ⟨_, e, h.only.size⟩⟩
theorem trans (h : Grow w v w1 v1) (k : Grow w1 v1 w2 v2) : Grow w v w2 v2 :=
  ⟨h.only.trans' k.only fun i hi hm => by
    rcases h.row i (by simpa using hm) with h' | h'
    · exact h'
    · omega, by
    rcases k.now with e | ⟨g, e, hg⟩
    · rw [e]; exact h.now
    · exact .inr ⟨g, e, Nat.le_trans h.only.size hg⟩⟩
/-- A store into it. -/
theorem set_ (h : Grow w v w1 v1) {g : Nat} (hv : v1.ownBlock = some g) (j : Nat) (u : Value) : Grow w v (w1.setCell ⟨g, j, none⟩ u) v1 := ⟨h.only.setCell (h.row g hv) u, h.now⟩
/-- Nothing of the start's has turned where the row was none of it. -/
theorem only0 (h : Grow w v w1 v1) (hv : From w.heap.size v) : Only [] w w1 := h.only.mono fun k hk hm => by have := hv k (by simpa using hm); omega
end Grow
theorem csAt_one (w : World) (u : Value) (t : TypeId) : CsAt (w.alloc (.cells #[u] t)) (some ⟨w.heap.size, 0, none⟩) [u] := by
  have := CsAt.of_blk (Blk.new w t [u]) 0 1
  simpa using this
/-! ### a region that draws its order, walked once, at a class of worlds -/
section
variable {P : Program} {ops : Array Oper} {C : World → Prop} {Q : Act → Prop} {a : Act} {o : Oper} {rest : List Oper}
theorem wp_region_cls {id : Nat} {Q : Exit → Act → World → Prop} {a : Act} {w : World} {l : List Oper} (C : World → Prop) (hm : P.follows .mixedOrders = true) (hB : Region.lexB .any l.toArray = true) (hC : C w.drew)
    (h : wpQuiet P l.toArray C (fun a' => ∀ w', C w' → Q .normal a' w') l a) : (Code.region id l.toArray true).wp P Q a w :=
  wp_region_quiet (C := C) hm hB hC (by simpa using h)
theorem wpQuiet_plain (hg : o.guard = none) (h : ∀ K : Act → Prop, (∀ a, wpQuiet P ops C Q rest a → K a) → o.quiet P a C K) : wpQuiet P ops C Q (o :: rest) a :=
  wpQuiet_step fun K hK => by simp only [Region.wanted, hg, if_true]; exact h K hK
theorem quiet_mk {K : Act → Prop} {v : Value} (h1 : ∀ w', C w' → o.quietAt P a C w' v) (h2 : K (a.put o.dst v)) : o.quiet P a C K := ⟨v, h1, h2⟩
end
/-! ### the laws -/
section
variable {P : Program} {ops : Array Oper} {rest : List Oper} {o : Oper} {a : Act} {Q : Exit → Act → World → Prop} {w : World}

/-- make([]T, n, c), T of one cell. -/
theorem wp_make (hgd : o.guard = none) (l c : Operand) (t : TypeId) (hop : o.op = .makeSlice t l c) (e : TypeId) (z : Value) (bytes : Nat) (ht : P.underlying t = some (.slice e))
    (hinfo : (P.info? e).map (fun i => (i.zero, i.size, i.bytes)) = some (some z, 1, bytes)) (hz1 : z.cells = #[z]) (kl kc : IntKind) (x y : Int) (n m : Nat) (hl : a.eval l = .int kl x) (hc : a.eval c = .int kc y)
    (hx : x = (n : Int)) (hy : y = (m : Int)) (hnm : n ≤ m) (hb : bytes * m ≤ 281474976710656) (h63 : m ≤ 9223372036854775807)
    (h : ∀ w', Blk w' w.heap.size e (List.replicate m z) → w'.heap.size = w.heap.size + 1 → Only [] w w' → wpList P ops Q rest (a.put o.dst (.slice (some ⟨w.heap.size, 0, none⟩) n m)) w') :
    wpList P ops Q (o :: rest) a w := by
  obtain ⟨i, hi, hzz⟩ := Option.map_eq_some_iff.1 hinfo
  simp only [Prod.mk.injEq] at hzz
  obtain ⟨hz, hs, hbt⟩ := hzz
  subst hx; subst hy
  refine wpList_plain hgd fun K hK => ?_
  have hbb : (i.bytes : Int) * (m : Int) ≤ 281474976710656 := by
    have h' : ((i.bytes * m : Nat) : Int) ≤ 281474976710656 := by rw [hbt]; omega
    rwa [Int.natCast_mul] at h'
  have hrun := run_make (P := P) w t e i z ht hi hz kl kc n m (by omega) (by omega) hbb (by omega)
  simp only [Int.toNat_natCast, hs, Nat.mul_one, hz1] at hrun
  unfold Oper.wp
  simp [execOp, hop, hl, hc, hrun, Result.andThen]
  refine hK _ _ (h _ ?_ (by simp) ((Only.refl _ _).alloc _))
  have hmk : madeCells #[z] m = (List.replicate m z).toArray := Array.ext' (by rw [toList_madeCells_one])
  rw [hmk]
  exact Blk.new w e _

/-- copy(dst, src), both of one cell an element, into a block known whole. -/
theorem wp_copy (hgd : o.guard = none) (d s : Operand) (dT sT : TypeId) (ho : o.op = .call { callee := .builtin .copy, args := #[d, s], argTypes := #[dT, sT] }) (elem : TypeId) (hu : P.underlying dT = some (.slice elem))
    (hsz : (P.info? elem).map (·.size) = some 1) (g off dLen dCap : Nat) (A : Option Addr) (sLen sCap : Nat) (hd : a.eval d = .slice (some ⟨g, off, none⟩) dLen dCap) (hs : a.eval s = .slice A sLen sCap)
    (cur : List Value) (t : TypeId) (hg : Blk w g t cur) (l : List UInt8) (hA : BsAt w A l) (hn : l.length = min sLen dLen) (hfit : off + l.length ≤ cur.length)
    (h : ∀ w', Blk w' g t (splice cur off (bc l)) → w'.heap.size = w.heap.size → Only [g] w w' → wpList P ops Q rest (a.put o.dst (.int .i64 (l.length : Int))) w') :
    wpList P ops Q (o :: rest) a w := by
  by_cases h0 : l.length = 0
  · obtain rfl : l = [] := List.eq_nil_of_length_eq_zero h0
    refine wpList_copy_nothing hgd d s dT sT ho elem hu hsz _ _ _ _ _ _ hd hs (by simpa using (show min sLen dLen = 0 from hn.symm)) ?_
    exact h w (by simpa [splice, bc] using hg) rfl (Only.refl _ _)
  · obtain ⟨g', o', rfl, _, hc⟩ := hA.addr (by omega)
    refine wpList_copy_own hgd d s dT sT ho elem hu hsz g off dLen dCap _ sLen sCap hd hs cur.toArray t hg (bc l) (by rw [bc_length]; exact hn) (fun j v hj => ?_) (by simpa [bc_length] using hfit) (bc_one l) ?_
    · rw [add_none]
      have hjl : j < l.length := by
        have := (List.getElem?_eq_some_iff.1 hj).1
        rwa [bc_length] at this
      rw [hc j hjl, ← bc_get hjl, hj]
    · rw [show goInt (bc l).length = .int .i64 (l.length : Int) by rw [bc_length]; rfl]
      refine h _ ?_ (by simp [World.setRow]) ?_
      · have := setRow_heap w g cur.toArray (splice cur off (bc l)).toArray t _ hg
        simpa [Blk, splice] using this
      · exact ⟨rfl, rfl, rfl, by simp [World.setRow], fun k _ hk => setRow_other w g k _ (by simpa using hk)⟩

theorem run_append_of_nil (base : Nat) (t ty e : TypeId) (i : TypeInfo) (size : Nat) (ht : P.underlying t = some (.slice e)) (hi : P.info? e = some i)
    (v : Value) (n : Nat) (xs : List Value) (hown : w.ownsRow base e size v n xs) (c : Nat) : (Builtin.append_ #[t, t] ty #[v, .slice none 0 c]).run P w = .ok v w := by
  rcases hown.2 with ⟨rfl, rfl⟩ | ⟨g, cap, cur, rfl, _, _, hnc, _⟩
  · simp [Builtin.append_, run_underlying ht, sizeOf, typeInfo, hi, Builtin.lenOf, Builtin.firstCells]
  · simp [Builtin.append_, run_underlying ht, sizeOf, typeInfo, hi, Builtin.lenOf, Builtin.firstCells, hnc, storeCells]

/-- append(v, src...) onto a row of the call's own; the source nil, empty or not. -/
theorem wp_append (hgd : o.guard = none) (s x : Operand) (t : TypeId) (ho : o.op = .call { callee := .builtin .append, args := #[s, x], argTypes := #[t, t] })
    (e : TypeId) (z : Value) (size bytes : Nat) (ht : P.underlying t = some (.slice e)) (hinfo : (P.info? e).map (fun i => (i.zero, i.size, i.bytes)) = some (some z, size, bytes)) (hzs : z.cells.size = size) (hsz : 0 < size)
    (v : Value) (n : Nat) (xs : List Value) (hs : a.eval s = v) (hown : w.ownsRow 0 e size v n xs) (A : Option Addr) (m c : Nat) (news : List Value) (hx : a.eval x = .slice A m c) (hl : news.length = m * size) (hA : CsAt w A news)
    (h1 : ∀ u ∈ news, u.oneCell' = true) (h63 : n + m ≤ maxLen) (hbytes : (n + m) * bytes ≤ 140737488355328)
    (h : ∀ v' w', w'.ownsRow 0 e size v' (n + m) (xs ++ news) → w.grownBy w' v.ownBlock → (v' = .slice none 0 0 ↔ v = .slice none 0 0 ∧ m = 0) → (v'.ownBlock = v.ownBlock ∨ v'.ownBlock = some w.heap.size) → wpList P ops Q rest (a.put o.dst v') w') :
    wpList P ops Q (o :: rest) a w := by
  obtain ⟨i, hi, hzz⟩ := Option.map_eq_some_iff.1 hinfo
  simp only [Prod.mk.injEq] at hzz
  obtain ⟨hz, hss, hbt⟩ := hzz
  have key : ∀ ad, A = some ad → (∀ j u, news[j]? = some u → w.cell? (ad.add j) = some u) → wpList P ops Q (o :: rest) a w := fun ad e2 hc =>
    wpList_append_own_at w hgd s x t ho 0 e i z size bytes ht hi hz hss hbt hzs hsz v n xs hs hown ad m c news (by rw [hx, e2]) hl hc h1 h63 hbytes (Nat.zero_le _) h
  rcases Nat.eq_zero_or_pos news.length with h0 | h0
  · obtain rfl : news = [] := List.eq_nil_of_length_eq_zero h0
    rcases A with _ | ad
    · have hm : m = 0 := by
        rcases Nat.eq_zero_or_pos m with h | h
        · exact h
        · have := Nat.mul_pos h hsz; simp at hl; omega
      subst hm
      refine wpList_plain hgd fun K hK => ?_
      have hrun := run_append_of_nil (P := P) (w := w) 0 t o.type e i size ht hi v n xs hown c
      unfold Oper.wp execOp
      simp only [ho, resolve, invoke, builtin, Sem.run_bind, Sem.run_pure, Result.andThen_ok, List.map_toArray, List.map_cons, List.map_nil, hs, hx, hrun]
      exact hK _ _ (h v w (by simpa using hown) (World.grownBy.refl w _) (by simp) (.inl rfl))
    · exact key ad rfl (fun j u hj => by simp at hj)
  · obtain ⟨g, o', e2, _, hc⟩ := hA.addr h0
    refine key _ e2 fun j u hj => ?_
    have hjl := (List.getElem?_eq_some_iff.1 hj).1
    rw [add_none, hc j hjl, hj]
end
/-! ### a row of the call's own, kept -/
theorem own_only {w w' : World} {base e size n : Nat} {v : Value} {xs : List Value} {S : List Nat} (h : w.ownsRow base e size v n xs) (ho : Only S w w') (hS : ∀ k, v.ownBlock = some k → k ∉ S) : w'.ownsRow base e size v n xs := by
  refine ⟨h.1, ?_⟩
  rcases h.2 with h0 | ⟨g, cap, cur, rfl, hb, hh, hr⟩
  · exact .inl h0
  · have hlt : g < w.heap.size := by
      rcases Nat.lt_or_ge g w.heap.size with hlt | hge
      · exact hlt
      · rw [Array.getElem?_eq_none hge] at hh; cases hh
    exact .inr ⟨g, cap, cur, rfl, hb, (ho.block g hlt (hS g rfl)).trans hh, hr⟩
theorem own_ne {w : World} {base e size n g t : Nat} {v : Value} {xs cs : List Value} (h : w.ownsRow base e size v n xs) (hg : Blk w g t cs) (hne : e ≠ t) : ∀ k, v.ownBlock = some k → k ≠ g := by
  intro k hk
  rcases h.2 with ⟨rfl, _⟩ | ⟨g', cap, cur, rfl, hb, hh, _⟩
  · cases hk
  · simp [Value.ownBlock] at hk
    subst hk
    rintro rfl
    unfold Blk at hg
    rw [hh] at hg
    injection hg with hg
    injection hg with _ hg
    exact hne hg
theorem own_lt {w : World} {base e size n : Nat} {v : Value} {xs : List Value} (h : w.ownsRow base e size v n xs) : ∀ k, v.ownBlock = some k → k < w.heap.size := fun k hk => (h.lt k hk).2
end Go.Proofs.Ytloflmcgbbbnjaa
