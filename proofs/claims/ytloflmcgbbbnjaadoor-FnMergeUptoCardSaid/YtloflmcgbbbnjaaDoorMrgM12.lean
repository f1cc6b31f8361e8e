/-
  Splices of lists of cells.
  util.Buffer, written to: its bytes lie nowhere, in its own bootstrap, or in a block of its own. makeSlice, Len, grow.
  util.Buffer, written to: Alloc, Bytes, Len.
  util.Buffer, written to: Write.
  util.Buffer: all of it.
  PutUvarint, PutUint32: into cells that are owned.
  table.blockWriter: append.
  table.blockWriter: finish.
-/
import Derived.Test.YtloflmcgbbbnjaaDoorMrgM2
import Derived.Test.YtloflmcgbbbnjaaDoorMrgM3
import Derived.StillTailTactics
import Derived.Defers
import Derived.Recover
import Derived.Test.YtloflmcgbbbnjaaDoorMrgM1
import Derived.Test.YtloflmcgbbbnjaaDoorMrgM6
namespace Go.Proofs.YtloflmcgbbbnjaaDoor
open Go.RowKit Plain
set_option linter.all false

theorem splice_snoc {α : Type} (cs : List α) (o : Nat) (p : List α) (u : α) (h : o + p.length < cs.length) : splice cs o (p ++ [u]) = (splice cs o p).set (o + p.length) u := by
  have h1 : (cs.take o).length = o := by rw [List.length_take]; omega
  unfold splice
  rw [List.set_append_right _ _ (by omega), h1, Nat.add_sub_cancel_left, List.set_append_right _ _ (Nat.le_refl _), Nat.sub_self, List.append_assoc]
  congr 2
  rw [List.length_append, List.length_singleton, ← Nat.add_assoc]
  rw [← List.getElem_cons_drop h]
  rfl
theorem splice_one {α : Type} (cs : List α) (o : Nat) (u : α) (h : o < cs.length) : cs.set o u = splice cs o [u] := by
  have := splice_snoc cs o [] u (by simpa using h)
  simp only [List.nil_append, List.length_nil, Nat.add_zero] at this
  rw [this]
  congr 1
  simp [splice]
theorem splice_splice {α : Type} (cs : List α) (o : Nat) (p q : List α) (h : o + p.length ≤ cs.length) : splice (splice cs o p) (o + p.length) q = splice cs o (p ++ q) := by
  have h1 : (cs.take o ++ p).length = o + p.length := by rw [List.length_append, List.length_take]; omega
  have h2 : splice cs o p = (cs.take o ++ p) ++ cs.drop (o + p.length) := by simp [splice]
  rw [h2]
  unfold splice
  rw [List.take_left' h1, ← List.drop_drop, List.drop_left' h1, List.drop_drop]
  simp [Nat.add_assoc]
theorem splice_take {α : Type} (cs : List α) (o : Nat) (p : List α) (h : o + p.length ≤ cs.length) : (splice cs o p).take (o + p.length) = cs.take o ++ p := by
  have h1 : (cs.take o ++ p).length = o + p.length := by rw [List.length_append, List.length_take]; omega
  have h2 : splice cs o p = (cs.take o ++ p) ++ cs.drop (o + p.length) := by simp [splice]
  rw [h2, List.take_left' h1]
theorem bc_cons (b : UInt8) (p : List UInt8) : bc (b :: p) = .int .u8 (b.toNat : Int) :: bc p := rfl
theorem bc_snoc (p : List UInt8) (b : UInt8) : bc (p ++ [b]) = bc p ++ [.int .u8 (b.toNat : Int)] := by simp [bc]
theorem splice_take0 {α : Type} (cs p : List α) (h : p.length ≤ cs.length) : (splice cs 0 p).take p.length = p := by simp [splice]
end Go.Proofs.YtloflmcgbbbnjaaDoor
namespace Go.Proofs.YtloflmcgbbbnjaaDoor
open Go.RowKit Plain

theorem makeSlice_idle (w : World) :
    CallsD Tryd.prog 138 #[] .returning w fun e u' w' => e = .returned (.tuple #[]) ∧ u' = .returning ∧ w' = w := by
  refine callsD_of_wpS Tryd.func138 rfl fun c₀ cs hu => ?_
  apply wpS_seq
  apply wpS_region
  simp [wpOpsS, go_sem, recoverD, hu, Tryd.ntmps138, Exit.thenS]
  refine wpS_cond (t := false) (by simp [Act.eval, Array.replicate]) ?_
  simp only [Bool.false_eq_true, if_false]
  refine wpS_of_wp (wp_skip ?_)
  cases c₀
  simp_all [bodyPostS, results, Tryd.results138]

set_option maxHeartbeats 800000 in
theorem makeSlice_any (n : Nat) (hn : n ≤ 140737488355328) (w : World) :
    Calls Tryd.prog 131 #[.int .i64 n] w fun e w' => ∃ g, e = .returned (.slice (some ⟨g, 0, none⟩) n n) ∧ Own [fw g 5 (List.replicate n (.int .u8 0))] w w' := by
  have hmf : ∀ (fn : Fn) (first cap : Array Value) (w : World), (Instr.makeFunc fn first cap).run Tryd.prog w = .ok (.func fn first cap) w := fun _ _ _ _ => rfl
  go_enter_defers Tryd.func131, Tryd.ntmps131
  go_wp2_with (at_make; refine own_make (R := []) (w0 := w) rfl _ _ _ rfl 5 (.int .u8 0) 1 Tryd.underlying25 Tryd.info_u8 rfl _ _ _ _ n n rfl rfl rfl rfl (Nat.le_refl _) (by omega) (by omega) (Own.start w) ?_; intro g w1 hO1)
  refine leaves_cons (f := 138) (args := #[]) (by simp) (by simp [go_sem]) ?_
  refine (makeSlice_idle _).mono ?_
  rintro e u' w'' ⟨rfl, rfl, rfl⟩
  simp [Leaves, settle, results, Tryd.results131, go_sem]
  exact hO1

theorem makeSlice_n (x : Int) (n : Nat) (hx : x = (n : Int)) (hn : n ≤ 140737488355328) (w : World) :
    Calls Tryd.prog 131 #[.int .i64 x] w fun e w' => ∃ g, e = .returned (.slice (some ⟨g, 0, none⟩) n n) ∧ Own [fw g 5 (List.replicate n (.int .u8 0))] w w' := by
  subst hx; exact makeSlice_any n hn w

theorem bc_zeros (n : Nat) : List.replicate n (Value.int .u8 0) = bc (List.replicate n 0) := by simp [bc]
theorem bc_splice (a b : List UInt8) (i : Nat) : splice (bc a) i (bc b) = bc (splice a i b) := by simp [splice, bc, List.map_take, List.map_drop]
/-- A buffer at ⟨b, o⟩ that is L long; its bytes begin with data; they lie at the head of S. -/
def BufG (b o : Nat) (data : List UInt8) (L : Nat) (S : Fr) (J F : List Fr) : Prop :=
  data.length ≤ L ∧ L ≤ S.cs.length ∧ S.cs.length ≤ 4398046511104 ∧ (S.cs.take data.length = bc data ∧ ∃ full, S.cs = bc full) ∧ F = fp b o [.slice (some ⟨S.g, S.off, none⟩) L S.cs.length, .int .i64 0] :: S :: J
/-- A buffer that has taken nothing yet. -/
def BufN (b o : Nat) (boot : List Value) (F : List Fr) : Prop := (boot.length = 64 ∧ ∃ full, boot = bc full) ∧ F = [fp b o [.slice none 0 0, .int .i64 0], fp b (o + 2) boot]
/-- A buffer at ⟨b, o⟩ with these bytes. -/
def BufF (b o : Nat) (data : List UInt8) (F : List Fr) : Prop := (data = [] ∧ ∃ boot, BufN b o boot F) ∨ ∃ S J, BufG b o data data.length S J F

set_option maxHeartbeats 800000 in
theorem len_raw (b o L c : Nat) (A : Option Addr) (w : World) (c0 : w.cell? ⟨b, o, none⟩ = some (.slice A L c)) (c1 : w.cell? ⟨b, o + 1, none⟩ = some (.int .i64 0)) (hL : L ≤ 4398046511104) :
    Calls Tryd.prog 92 #[.pointer (some ⟨b, o, none⟩)] w fun e w' => e = .returned (.int .i64 L) ∧ Dr w w' := by
  go_enter Tryd.func92, Tryd.ntmps92
  go_wp2
  go_quiet (fail)
  go_wp2
  go_ret
  refine ⟨?_, ⟨_, rfl⟩⟩
  simp

theorem BufG.hdr {b o L : Nat} {data : List UInt8} {S : Fr} {J F R : List Fr} {w0 w : World} (h : BufG b o data L S J F) (hO : Own (F ++ R) w0 w) :
    w.cell? ⟨b, o, none⟩ = some (.slice (some ⟨S.g, S.off, none⟩) L S.cs.length) ∧ w.cell? ⟨b, o + 1, none⟩ = some (.int .i64 0) ∧ (∀ k, w.frozen? ⟨b, k, none⟩ = false) := by
  obtain ⟨_, _, _, _, rfl⟩ := h
  exact ⟨hO.cell 0 rfl 0 rfl (by simp), hO.cell 0 rfl 1 rfl (by simp), fun k => hO.frozen 0 rfl k⟩
theorem BufN.hdr {b o : Nat} {boot : List Value} {F R : List Fr} {w0 w : World} (h : BufN b o boot F) (hO : Own (F ++ R) w0 w) :
    w.cell? ⟨b, o, none⟩ = some (.slice none 0 0) ∧ w.cell? ⟨b, o + 1, none⟩ = some (.int .i64 0) ∧ (∀ k, w.frozen? ⟨b, k, none⟩ = false) := by
  obtain ⟨_, rfl⟩ := h
  exact ⟨hO.cell 0 rfl 0 rfl (by simp), hO.cell 0 rfl 1 rfl (by simp), fun k => hO.frozen 0 rfl k⟩

theorem BufG.le {b o L : Nat} {data : List UInt8} {S : Fr} {J F : List Fr} (h : BufG b o data L S J F) : data.length ≤ L ∧ L ≤ S.cs.length ∧ S.cs.length ≤ 4398046511104 := ⟨h.1, h.2.1, h.2.2.1⟩
/-- The header's length is set. -/
theorem BufG.setLen {b o L L' : Nat} {data : List UInt8} {S : Fr} {J F R : List Fr} {w0 w : World} (h : BufG b o data L S J F) (hO : Own (F ++ R) w0 w) (h1 : data.length ≤ L') (h2 : L' ≤ S.cs.length) :
    ∃ F', BufG b o data L' S J F' ∧ Own (F' ++ R) w0 (w.setCell ⟨b, o, none⟩ (.slice (some ⟨S.g, S.off, none⟩) L' S.cs.length)) := by
  obtain ⟨_, _, h3, h4, rfl⟩ := h
  exact ⟨_, ⟨h1, h2, h3, h4, rfl⟩, hO.set 0 rfl (by simp) _⟩
set_option maxHeartbeats 1600000 in
set_option maxRecDepth 100000 in
theorem grow_room (b o n : Nat) (data : List UInt8) (S : Fr) (J F R : List Fr) (w0 w : World) (h : BufG b o data data.length S J F) (hO : Own (F ++ R) w0 w) (hn : data.length + n ≤ S.cs.length) :
    Calls Tryd.prog 120 #[.pointer (some ⟨b, o, none⟩), .int .i64 n] w fun e w' => e = .returned (.int .i64 (data.length : Int)) ∧
      ∃ F', BufG b o data (data.length + n) S J F' ∧ Own (F' ++ R) w0 w' := by
  obtain ⟨c0, c1, f0⟩ := h.hdr hO
  obtain ⟨_, _, h3⟩ := h.le
  have HG := hid h
  have HO := hid hO
  clear hO h
  obtain ⟨L, hL⟩ : ∃ L, data.length = L := ⟨_, rfl⟩
  rw [hL] at c0 hn ⊢
  have HL := hid hL
  clear hL
  have hle : decide ((S.cs.length : Int) < (L : Int) + (n : Int)) = false := decide_eq_false (by omega)
  have e1 : IntKind.i64.wrap ((L : Int) + (n : Int)) = (L : Int) + (n : Int) := i64_id (by omega) (by omega)
  have s1 : (L : Int) + (n : Int) ≤ (S.cs.length : Int) := by omega
  have e2 : ((L : Int) + (n : Int)).toNat = L + n := by omega
  have e3 : 0 ≤ (L : Int) + (n : Int) := by omega
  have e4 : IntKind.i64.wrap (L : Int) = L := i64_id (by omega) (by omega)
  cases hb : ((L : Int) == 0) <;> (
    go_enter Tryd.func120, Tryd.ntmps120
    go_wp2_with (go_at_call 92; refine (len_raw b o L S.cs.length _ _ c0 c1 (by omega)).mono ?_; rintro e w1 ⟨rfl, hd1⟩; have hO1 := HO.out.dr hd1; clear hd1 c0 c1 f0 HO; obtain ⟨c0, c1, f0⟩ := HG.out.hdr hO1; rw [HL.out] at c0; have HO := hid hO1; clear hO1)
    go_quiet (fail)
    go_wp2
    have hO2 := HO.out.drewN nq
    generalize w1.drewN nq = W at hO2 ⊢
    clear c0 c1 f0 HO
    obtain ⟨c0, c1, f0⟩ := HG.out.hdr hO2
    rw [HL.out] at c0
    have HO := hid hO2
    clear hO2
    go_still_tail 16, (by kernel_rfl)
    go_wp2
    go_ret
    obtain ⟨F', hF', hO3⟩ := HG.out.setLen HO.out.drew (L' := data.length + n) (by omega) (by rw [HL.out]; exact hn)
    rw [HL.out] at hF' hO3
    exact ⟨by simp, F', hF', hO3⟩)

theorem BufN.toG {b o : Nat} {boot : List Value} {F R : List Fr} {w0 w : World} (h : BufN b o boot F) (hO : Own (F ++ R) w0 w) :
    ∃ F', BufG b o [] 64 (fp b (o + 2) boot) [] F' ∧ Own (F' ++ R) w0 ((w.setCell ⟨b, o, none⟩ (.slice (some ⟨b, o + 2, none⟩) 64 64)).setCell ⟨b, o + 1, none⟩ (.int .i64 0)) := by
  obtain ⟨⟨h1, hfull⟩, rfl⟩ := h
  have := (hO.set (k := o) 0 rfl (by simp) (.slice (some ⟨b, o + 2, none⟩) 64 64)).set (k := o + 1) 1 rfl (by simp) (.int .i64 0)
  exact ⟨_, ⟨by simp, by simp [h1], by simp [h1], ⟨by simp [bc], hfull⟩, rfl⟩, by simpa [h1] using this⟩
set_option maxHeartbeats 1600000 in
set_option maxRecDepth 100000 in
theorem grow_boot (b o n : Nat) (boot : List Value) (F R : List Fr) (w0 w : World) (h : BufN b o boot F) (hO : Own (F ++ R) w0 w) (hn0 : 0 < n) (hn : n ≤ 64) :
    Calls Tryd.prog 120 #[.pointer (some ⟨b, o, none⟩), .int .i64 n] w fun e w' => e = .returned (.int .i64 0) ∧
      ∃ F', BufG b o [] n (fp b (o + 2) boot) [] F' ∧ Own (F' ++ R) w0 w' := by
  obtain ⟨c0, c1, f0⟩ := h.hdr hO
  have HG := hid h
  have HO := hid hO
  clear hO h
  have en := fun W x n c => Lib.run_eql_slice_nil (P := Tryd.prog) W 25 5 x n c 0 0 Tryd.underlying25
  have e2 : ((n : Nat) : Int).toNat = n := by omega
  have e4 : IntKind.i64.wrap (n : Int) = n := i64_id (by omega) (by omega)
  have s1 : (n : Int) ≤ 64 := by omega
  have s0 : 0 < (n : Int) := by omega
  go_enter Tryd.func120, Tryd.ntmps120
  go_wp2_with (go_at_call 92; refine (len_raw b o 0 0 _ _ c0 c1 (by omega)).mono ?_; rintro e w1 ⟨rfl, hd1⟩; have hO1 := HO.out.dr hd1; clear hd1 c0 c1 f0 HO; obtain ⟨c0, c1, f0⟩ := HG.out.hdr hO1; have HO := hid hO1; clear hO1)
  go_quiet (fail)
  go_wp2
  obtain ⟨F1, hF1, hO2⟩ := HG.out.toG (HO.out.drewN nq)
  generalize ((w1.drewN nq).setCell ⟨b, o, none⟩ (.slice (some ⟨b, o + 2, none⟩) 64 64)).setCell ⟨b, o + 1, none⟩ (.int .i64 0) = W at hO2 ⊢
  have h64 : boot.length = 64 := HG.out.1.1
  clear c0 c1 f0 HO HG
  obtain ⟨c0, c1, f0⟩ := hF1.hdr hO2
  simp only [h64] at c0
  have HO := hid hO2
  have HG := hid hF1
  have H64 := hid h64
  clear hO2 hF1 h64
  have e5 : IntKind.i64.wrap 0 = 0 := rfl
  go_still_tail 16, (by kernel_rfl)
  go_wp2
  go_ret
  obtain ⟨F', hF', hO3⟩ := HG.out.setLen HO.out.drew (L' := n) (by simp) (by simp only [H64.out]; exact hn)
  simp only [H64.out] at hO3
  exact ⟨rfl, F', hF', hO3⟩
theorem buf_home {b o L : Nat} {v0 v1 : Value} {J R : List Fr} {S : Fr} {data : List UInt8} {w0 w : World} (hO : Own (S :: (fp b o [v0, v1] :: J ++ R)) w0 w) (h1 : data.length ≤ L) (h2 : L ≤ S.cs.length) (h3 : S.cs.length ≤ 4398046511104) (h4 : S.cs.take data.length = bc data) (h5 : ∃ full, S.cs = bc full) :
    ∃ F', BufG b o data L S J F' ∧ Own (F' ++ R) w0 ((w.setCell ⟨b, o, none⟩ (.slice (some ⟨S.g, S.off, none⟩) L S.cs.length)).setCell ⟨b, o + 1, none⟩ (.int .i64 0)) := by
  have := (hO.swap01.set (k := o) 0 rfl (by simp) (.slice (some ⟨S.g, S.off, none⟩) L S.cs.length)).set (k := o + 1) 1 rfl (by simp) (.int .i64 0)
  exact ⟨_, ⟨h1, h2, h3, ⟨h4, h5⟩, rfl⟩, this⟩
set_option maxHeartbeats 1600000 in
set_option maxRecDepth 100000 in
/-- Nothing taken yet, and more than the bootstrap holds. -/
theorem grow_first (b o n : Nat) (boot : List Value) (F R : List Fr) (w0 w : World) (h : BufN b o boot F) (hO : Own (F ++ R) w0 w) (hn0 : 64 < n) (hn : n ≤ 1099511627776) :
    Calls Tryd.prog 120 #[.pointer (some ⟨b, o, none⟩), .int .i64 n] w fun e w' => e = .returned (.int .i64 0) ∧
      ∃ S J F', BufG b o [] n S J F' ∧ Own (F' ++ R) w0 w' := by
  obtain ⟨c0, c1, f0⟩ := h.hdr hO
  have HG := hid h
  have HO := hid hO
  clear hO h
  have en := fun W x n c => Lib.run_eql_slice_nil (P := Tryd.prog) W 25 5 x n c 0 0 Tryd.underlying25
  have e2 : ((n : Nat) : Int).toNat = n := by omega
  have e4 : IntKind.i64.wrap (n : Int) = n := i64_id (by omega) (by omega)
  have s1 : ¬ (n : Int) ≤ 64 := by omega
  have s0 : 0 < (n : Int) := by omega
  go_enter Tryd.func120, Tryd.ntmps120
  go_wp2_with (go_at_call 92; refine (len_raw b o 0 0 _ _ c0 c1 (by omega)).mono ?_; rintro e w1 ⟨rfl, hd1⟩; have hO1 := HO.out.dr hd1; clear hd1 c0 c1 f0 HO; obtain ⟨c0, c1, f0⟩ := HG.out.hdr hO1; have HO := hid hO1; clear hO1)
  go_quiet (fail)
  go_wp2_with (go_at_call 131; refine (makeSlice_any n (by omega) _).mono ?_; rintro e w2 ⟨g, rfl, hN⟩; have hO1 := (HO.out.drewN nq).join hN; clear hN c0 c1 f0 HO)
  have hN : BufN b o boot F := HG.out
  have hh := hN.hdr (F := F) (R := [fw g 5 (List.replicate n (Value.int IntKind.u8 0))] ++ R) (hO1.perm (perm_of fun _ _ z => by simp only [List.count_append, List.count_cons, List.count_nil]; omega))
  obtain ⟨c0, c1, f0⟩ := hh
  have HO := hid hO1
  clear hO1 hN
  have e5 : IntKind.i64.wrap 0 = 0 := rfl
  go_still_tail 10, (by kernel_rfl)
  go_wp2_with (refine own_copy rfl (.tmp 86) (.tmp 95) 25 25 rfl 5 Tryd.underlying25 Tryd.size_u8 (fw g 5 (List.replicate n (Value.int IntKind.u8 0))) 0 0 n n none 0 0 rfl rfl rfl HO.out.drew [] (BsAt.nil _ _) (by simp) (by simp) ?_; intro w3 hO3; have HO := hid hO3; clear hO3 c0 c1 f0; obtain ⟨c0, c1, f0⟩ := HG.out.hdr HO.out.drop)
  obtain ⟨F1, J, hF1, hO2⟩ : ∃ F1 J, BufG b o [] n (fw g 5 (List.replicate n (Value.int IntKind.u8 0))) J F1 ∧ Own (F1 ++ R) w0 ((w3.setCell ⟨b, o, none⟩ (.slice (some ⟨g, 0, none⟩) n n)).setCell ⟨b, o + 1, none⟩ (.int .i64 0)) := by
    obtain ⟨h64, rfl⟩ := HG.out
    have h1 := HO.out
    have e : splice (List.replicate n (Value.int IntKind.u8 0)) 0 (bc []) = List.replicate n (Value.int IntKind.u8 0) := by simp [splice, bc]
    rw [e] at h1
    obtain ⟨F1, h2, h3⟩ := buf_home (L := n) (data := []) (S := fw g 5 (List.replicate n (Value.int IntKind.u8 0))) (J := [fp b (o + 2) boot]) h1 (by simp) (by simp) (by simp; omega) (by simp [bc]) ⟨_, bc_zeros n⟩
    simp only [List.length_replicate] at h3
    exact ⟨F1, _, h2, h3⟩
  generalize (w3.setCell ⟨b, o, none⟩ (.slice (some ⟨g, 0, none⟩) n n)).setCell ⟨b, o + 1, none⟩ (.int .i64 0) = W at hO2 ⊢
  clear c0 c1 f0 HO HG
  obtain ⟨c0, c1, f0⟩ := hF1.hdr hO2
  simp only [List.length_replicate] at c0
  have HO := hid hO2
  have HG := hid hF1
  clear hO2 hF1
  go_still_tail 16, (by kernel_rfl)
  go_wp2
  go_ret
  obtain ⟨F', hF', hO3⟩ := HG.out.setLen HO.out.drew (L' := n) (by simp) (by simp)
  simp only [List.length_replicate] at hO3
  exact ⟨rfl, _, _, F', hF', hO3⟩
set_option maxHeartbeats 3200000 in
set_option maxRecDepth 100000 in
/-- No room: a greater block. -/
theorem grow_more (b o n : Nat) (data : List UInt8) (S : Fr) (J F R : List Fr) (w0 w : World) (h : BufG b o data data.length S J F) (hO : Own (F ++ R) w0 w) (hn : S.cs.length < data.length + n) (hm : data.length + n ≤ 1099511627776) :
    Calls Tryd.prog 120 #[.pointer (some ⟨b, o, none⟩), .int .i64 n] w fun e w' => e = .returned (.int .i64 (data.length : Int)) ∧
      ∃ S' J' F', BufG b o data (data.length + n) S' J' F' ∧ Own (F' ++ R) w0 w' := by
  obtain ⟨c0, c1, f0⟩ := h.hdr hO
  obtain ⟨_, h2, h3⟩ := h.le
  have hbs : BsAt w (some ⟨S.g, S.off, none⟩) data := by
    obtain ⟨_, _, _, h4, rfl⟩ := h
    exact Rd.fr (x := S) (R := [S]) (w0 := w0) (by simp) (i := 0) rfl (by omega) (by simpa using h4.1) w hO.only (fun x hx => by simp at hx; subst hx; exact hO.ins _ (by simp))
  have HG := hid h
  have HO := hid hO
  clear hO h
  obtain ⟨L, hL⟩ : ∃ L, data.length = L := ⟨_, rfl⟩
  obtain ⟨C, hC⟩ : ∃ C, S.cs.length = C := ⟨_, rfl⟩
  rw [hL] at c0 hn hm h2 ⊢
  rw [hC] at c0 hn h2 h3
  have HL := hid hL
  have HC := hid hC
  clear hL hC
  have en := fun W x n c => Lib.run_eql_slice_nil (P := Tryd.prog) W 25 5 x n c 0 0 Tryd.underlying25
  have hle : decide ((C : Int) < (L : Int) + (n : Int)) = true := decide_eq_true (by omega)
  have e1 : IntKind.i64.wrap ((L : Int) + (n : Int)) = (L : Int) + (n : Int) := i64_id (by omega) (by omega)
  have s5 : ¬ (L : Int) + (n : Int) ≤ (C : Int) / 2 := by omega
  have m1 : IntKind.i64.wrap (2 * (C : Int)) = 2 * (C : Int) := i64_id (by omega) (by omega)
  have m2 : IntKind.i64.wrap (2 * (C : Int) + (n : Int)) = ((2 * C + n : Nat) : Int) := by rw [i64_id (by omega) (by omega)]; omega
  cases hb : ((L : Int) == 0) <;> (
    go_enter Tryd.func120, Tryd.ntmps120
    go_wp2_with (go_at_call 92; refine (len_raw b o L C _ _ c0 c1 (by omega)).mono ?_; rintro e w1 ⟨rfl, hd1⟩; have hO1 := HO.out.dr hd1; replace hbs := hbs.dr hd1; clear hd1 c0 c1 f0 HO; obtain ⟨c0, c1, f0⟩ := HG.out.hdr hO1; rw [HL.out, HC.out] at c0; have HO := hid hO1; clear hO1)
    go_quiet (fail)
    go_wp2_with (go_at_call 131; refine (makeSlice_n _ (2 * C + n) (by omega) (by omega) _).mono ?_; rintro e w2 ⟨g, rfl, hN⟩; have hO1 := (HO.out.drewN nq).join hN; replace hbs := (hbs.drewN nq).keep0 hN.only; clear hN c0 c1 f0 HO; obtain ⟨c0, c1, f0⟩ := HG.out.hdr hO1.drop; rw [HL.out, HC.out] at c0; have HO := hid hO1; clear hO1)
    have e5 : IntKind.i64.wrap 0 = 0 := rfl
    go_still_tail 10, (by kernel_rfl)
    go_wp2_with (refine own_copy rfl (.tmp 86) (.tmp 95) 25 25 rfl 5 Tryd.underlying25 Tryd.size_u8 (fw g 5 (List.replicate (2 * C + n) (Value.int IntKind.u8 0))) 0 0 (2 * C + n) (2 * C + n) (some ⟨S.g, S.off, none⟩) L C rfl rfl rfl HO.out.drew data hbs.drew (by rw [HL.out]; omega) (by rw [HL.out]; simp; omega) ?_; intro w3 hO3; have HO := hid hO3; clear hO3 c0 c1 f0 hbs; obtain ⟨c0, c1, f0⟩ := HG.out.hdr HO.out.drop; rw [HL.out, HC.out] at c0)
    obtain ⟨S1, F1, J1, hF1, hS1, hO2⟩ : ∃ S1 F1 J1, BufG b o data (2 * C + n) S1 J1 F1 ∧ S1.cs.length = 2 * C + n ∧ Own (F1 ++ R) w0 ((w3.setCell ⟨b, o, none⟩ (.slice (some ⟨g, 0, none⟩) (2 * C + n) (2 * C + n))).setCell ⟨b, o + 1, none⟩ (.int .i64 0)) := by
      obtain ⟨_, _, _, _, rfl⟩ := HG.out
      have hl : (splice (List.replicate (2 * C + n) (Value.int IntKind.u8 0)) 0 (bc data)).length = 2 * C + n := by rw [length_splice _ _ _ (by rw [bc_length, HL.out]; simp; omega)]; simp
      obtain ⟨F1, h2, h3⟩ := buf_home (L := 2 * C + n) (data := data) HO.out (by rw [HL.out]; omega) (by simp only [hl]; omega) (by simp only [hl]; omega) (by
        have := splice_take0 (List.replicate (2 * C + n) (Value.int IntKind.u8 0)) (bc data) (by rw [bc_length, HL.out]; simp; omega)
        rwa [bc_length] at this) ⟨_, by rw [bc_zeros, bc_splice]⟩
      simp only [hl] at h3
      exact ⟨_, F1, _, h2, hl, h3⟩
    generalize (w3.setCell ⟨b, o, none⟩ (.slice (some ⟨g, 0, none⟩) (2 * C + n) (2 * C + n))).setCell ⟨b, o + 1, none⟩ (.int .i64 0) = W at hO2 ⊢
    clear c0 c1 f0 HO HG hle s5 m1 m2 en
    obtain ⟨c0, c1, f0⟩ := hF1.hdr hO2
    rw [hS1] at c0
    have HO := hid hO2
    have HG := hid hF1
    have HS := hid hS1
    clear hO2 hF1 hS1
    have s1 : (L : Int) + (n : Int) ≤ 2 * (C : Int) + (n : Int) := by omega
    have s2 : (L : Int) + (n : Int) ≤ ((2 * C + n : Nat) : Int) := by omega
    have e2 : ((L : Int) + (n : Int)).toNat = L + n := by omega
    have e3 : 0 ≤ (L : Int) + (n : Int) := by omega
    have e4 : IntKind.i64.wrap (L : Int) = L := i64_id (by omega) (by omega)
    go_still_tail 16, (by kernel_rfl)
    go_wp2
    go_ret
    obtain ⟨F', hF', hO3⟩ := HG.out.setLen HO.out.drew (L' := data.length + n) (by omega) (by rw [HS.out, HL.out]; omega)
    rw [HL.out] at hF' hO3
    rw [HS.out] at hO3
    exact ⟨by simp, _, _, F', hF', hO3⟩)
/-- Room for n bytes more. -/
theorem grow_any (b o n : Nat) (data : List UInt8) (F R : List Fr) (w0 w : World) (h : BufF b o data F) (hO : Own (F ++ R) w0 w) (hn : 0 < n ∨ data ≠ []) (hm : data.length + n ≤ 1099511627776) :
    Calls Tryd.prog 120 #[.pointer (some ⟨b, o, none⟩), .int .i64 n] w fun e w' => e = .returned (.int .i64 (data.length : Int)) ∧
      ∃ S' J' F', BufG b o data (data.length + n) S' J' F' ∧ Own (F' ++ R) w0 w' := by
  rcases h with ⟨rfl, boot, h⟩ | ⟨S, J, h⟩
  · replace hn : 0 < n := by simpa using hn
    by_cases h64 : n ≤ 64
    · refine (grow_boot b o n boot F R w0 w h hO hn h64).mono ?_
      rintro e w' ⟨rfl, F', h1, h2⟩
      exact ⟨rfl, _, _, F', by simpa using h1, h2⟩
    · refine (grow_first b o n boot F R w0 w h hO (by omega) (by simpa using hm)).mono ?_
      rintro e w' ⟨rfl, S, J, F', h1, h2⟩
      exact ⟨rfl, _, _, F', by simpa using h1, h2⟩
  · by_cases hc : data.length + n ≤ S.cs.length
    · refine (grow_room b o n data S J F R w0 w h hO hc).mono ?_
      rintro e w' ⟨rfl, F', h1, h2⟩
      exact ⟨rfl, _, _, F', h1, h2⟩
    · exact grow_more b o n data S J F R w0 w h hO (by omega) hm
end Go.Proofs.YtloflmcgbbbnjaaDoor
namespace Go.Proofs.YtloflmcgbbbnjaaDoor
open Go.RowKit Plain

theorem BufF.of {b o : Nat} {data : List UInt8} {S : Fr} {J F : List Fr} (h : BufG b o data data.length S J F) : BufF b o data F := .inr ⟨S, J, h⟩
theorem BufF.some_ {b o : Nat} {data : List UInt8} {F : List Fr} (h : BufF b o data F) (hd : data ≠ []) : ∃ S J, BufG b o data data.length S J F := by
  rcases h with ⟨h, _⟩ | h
  · exact absurd h hd
  · exact h
set_option maxHeartbeats 1600000 in
theorem alloc_any (b o n : Nat) (data : List UInt8) (F R : List Fr) (w0 w : World) (h : BufF b o data F) (hO : Own (F ++ R) w0 w) (hn : 0 < n) (hm : data.length + n ≤ 1099511627776) :
    Calls Tryd.prog 105 #[.pointer (some ⟨b, o, none⟩), .int .i64 n] w fun e w' => ∃ S J F', e = .returned (.slice (some ⟨S.g, S.off + data.length, none⟩) n (S.cs.length - data.length)) ∧
      BufG b o data (data.length + n) S J F' ∧ Own (F' ++ R) w0 w' := by
  have HC := hid (grow_any b o n data F R w0 w h hO (.inl hn) hm)
  clear h hO
  have hn' : ¬ (n : Int) < 0 := by omega
  go_enter Tryd.func105, Tryd.ntmps105
  go_wp2_with (first
    | (go_at_call 120; refine HC.out.mono ?_; rintro e w1 ⟨rfl, S, J, F1, hG, hO1⟩
       obtain ⟨c0, c1, f0⟩ := hG.hdr hO1
       obtain ⟨_, hle, hc⟩ := hG.le
       have hcap : ¬ S.cs.length = data.length := by omega
       have HG := hid hG
       have HO := hid hO1
       clear hG hO1))
  go_ret
  exact ⟨S, J, F1, by simp, HG.out, HO.out⟩
/-- What was laid by Alloc is filled. -/
theorem BufG.fill {b o n : Nat} {data p : List UInt8} {S : Fr} {J F R : List Fr} {w0 w : World} (h : BufG b o data (data.length + n) S J F) (hp : p.length = n)
    (hO : Own ({ S with cs := splice S.cs data.length (bc p) } :: (F.eraseIdx 1 ++ R)) w0 w) : ∃ F', BufF b o (data ++ p) F' ∧ Own (F' ++ R) w0 w := by
  obtain ⟨h1, h2, h3, h4, rfl⟩ := h
  have hl : (splice S.cs data.length (bc p)).length = S.cs.length := length_splice _ _ _ (by rw [bc_length]; omega)
  refine ⟨_, .of (S := { S with cs := splice S.cs data.length (bc p) }) (J := J) ⟨Nat.le_refl _, ?_, ?_, ⟨?_, by obtain ⟨full, hf⟩ := h4.2; exact ⟨_, by simp only [hf, bc_splice]; rfl⟩⟩, rfl⟩, ?_⟩
  · rw [List.length_append]; simp only [hl]; omega
  · simp only [hl]; omega
  · have := splice_take S.cs data.length (bc p) (by rw [bc_length]; omega)
    rw [bc_length, h4.1, ← bc_append] at this
    rw [List.length_append]; exact this
  · simp only [hl, List.length_append, hp]
    exact hO.swap01
set_option maxHeartbeats 800000 in
theorem bytes_any (b o L c : Nat) (A : Option Addr) (w : World) (c0 : w.cell? ⟨b, o, none⟩ = some (.slice A L c)) (c1 : w.cell? ⟨b, o + 1, none⟩ = some (.int .i64 0)) :
    Calls Tryd.prog 78 #[.pointer (some ⟨b, o, none⟩)] w fun e w' => e = .returned (.slice A L c) ∧ Dr w w' := by
  go_enter Tryd.func78, Tryd.ntmps78
  go_wp2
  go_quiet (fail)
  go_wp2
  go_ret
  refine ⟨?_, ⟨_, rfl⟩⟩
  cases A <;> simp
theorem len_buf (b o : Nat) (data : List UInt8) (F R : List Fr) (w0 w : World) (h : BufF b o data F) (hO : Own (F ++ R) w0 w) (hm : data.length ≤ 4398046511104) :
    Calls Tryd.prog 92 #[.pointer (some ⟨b, o, none⟩)] w fun e w' => e = .returned (.int .i64 (data.length : Int)) ∧ Dr w w' := by
  rcases h with ⟨rfl, boot, h⟩ | ⟨S, J, h⟩
  · obtain ⟨c0, c1, _⟩ := h.hdr hO
    exact len_raw b o 0 0 none w c0 c1 (by omega)
  · obtain ⟨c0, c1, _⟩ := h.hdr hO
    exact len_raw b o data.length S.cs.length _ w c0 c1 hm
theorem bytes_buf (b o : Nat) (data : List UInt8) (F R : List Fr) (w0 w : World) (h : BufF b o data F) (hO : Own (F ++ R) w0 w) :
    Calls Tryd.prog 78 #[.pointer (some ⟨b, o, none⟩)] w fun e w' => ∃ A c, e = .returned (.slice A data.length c) ∧ data.length ≤ c ∧ Rd F w0 A data ∧ Dr w w' := by
  rcases h with ⟨rfl, boot, h⟩ | ⟨S, J, h⟩
  · obtain ⟨c0, c1, _⟩ := h.hdr hO
    exact (bytes_any b o 0 0 none w c0 c1).mono fun e w' ⟨he, hd⟩ => ⟨none, 0, he, Nat.le_refl _, Rd.nil _ _ _, hd⟩
  · obtain ⟨c0, c1, _⟩ := h.hdr hO
    refine (bytes_any b o data.length S.cs.length _ w c0 c1).mono fun e w' ⟨he, hd⟩ => ⟨_, _, he, h.2.1, ?_, hd⟩
    obtain ⟨_, h2, _, h4, rfl⟩ := h
    exact Rd.fr (x := S) (by simp) (i := 0) rfl (by omega) (by simpa using h4.1)
end Go.Proofs.YtloflmcgbbbnjaaDoor
namespace Go.Proofs.YtloflmcgbbbnjaaDoor
open Go.RowKit Plain

set_option maxHeartbeats 1600000 in
theorem write_some (b o pc : Nat) (pA : Option Addr) (data p : List UInt8) (F R : List Fr) (w0 w : World) (h : BufF b o data F) (hO : Own (F ++ R) w0 w) (hp : Rd R w0 pA p) (hp0 : 0 < p.length) (hm : data.length + p.length ≤ 1099511627776) :
    Calls Tryd.prog 104 #[.pointer (some ⟨b, o, none⟩), .slice pA p.length pc] w fun e w' => e = .returned (.tuple #[.int .i64 (p.length : Int), .nilIface]) ∧
      ∃ F', BufF b o (data ++ p) F' ∧ Own (F' ++ R) w0 w' := by
  have HC := hid (grow_any b o p.length data F R w0 w h hO (.inl hp0) hm)
  clear h hO
  go_enter Tryd.func104, Tryd.ntmps104
  go_wp2_with (first
    | (go_at_call 120; refine HC.out.mono ?_; rintro e w1 ⟨rfl, S, J, F1, hG, hO1⟩
       obtain ⟨c0, c1, f0⟩ := hG.hdr hO1
       obtain ⟨_, hle, hc⟩ := hG.le
       have hcap : ¬ S.cs.length = data.length := by omega
       have hbp := hO1.stR hp
       have HG := hid hG
       have HO := hid hO1
       clear hG hO1)
    | (refine own_copy rfl (.tmp 16) (.tmp 17) 25 25 rfl 5 Tryd.underlying25 Tryd.size_u8 S data.length (S.off + data.length) p.length (S.cs.length - data.length) pA p.length pc rfl rfl rfl (R := [fp b o [.slice (some ⟨S.g, S.off, none⟩) (data.length + p.length) S.cs.length, .int .i64 0]] ++ (J ++ R)) (HO.out.perm (by rw [HG.out.2.2.2.2]; exact List.Perm.swap _ _ _)) p hbp (by omega) (by omega) ?_; intro w2 hO2; have HO2 := hid hO2; clear hO2))
  go_ret2
  refine ⟨rfl, ?_⟩
  obtain ⟨h1, h2, h3, h4, h5⟩ := HG.out
  have hl : (splice S.cs data.length (bc p)).length = S.cs.length := length_splice _ _ _ (by rw [bc_length]; omega)
  refine ⟨_, .of (S := { S with cs := splice S.cs data.length (bc p) }) (J := J) ⟨Nat.le_refl _, ?_, ?_, ⟨?_, by obtain ⟨full, hf⟩ := h4.2; exact ⟨_, by simp only [hf, bc_splice]; rfl⟩⟩, rfl⟩, ?_⟩
  · rw [List.length_append]; simp only [hl]; omega
  · simp only [hl]; omega
  · have := splice_take S.cs data.length (bc p) (by rw [bc_length]; omega)
    rw [bc_length, h4.1, ← bc_append] at this
    rw [List.length_append]; exact this
  · simp only [hl, List.length_append]
    exact HO2.out.perm (List.Perm.swap _ _ _)
set_option maxHeartbeats 1600000 in
/-- Nothing written. -/
theorem write_none (b o pc : Nat) (pA : Option Addr) (data : List UInt8) (F R : List Fr) (w0 w : World) (h : BufF b o data F) (hd : data ≠ []) (hO : Own (F ++ R) w0 w) (hm : data.length ≤ 1099511627776) :
    Calls Tryd.prog 104 #[.pointer (some ⟨b, o, none⟩), .slice pA 0 pc] w fun e w' => e = .returned (.tuple #[.int .i64 0, .nilIface]) ∧
      ∃ F', BufF b o data F' ∧ Own (F' ++ R) w0 w' := by
  have HC := hid (grow_any b o 0 data F R w0 w h hO (.inr hd) hm)
  clear h hO
  go_enter Tryd.func104, Tryd.ntmps104
  go_wp2_with (first
    | (go_at_call 120; refine HC.out.mono ?_; rintro e w1 ⟨rfl, S, J, F1, hG, hO1⟩
       obtain ⟨c0, c1, f0⟩ := hG.hdr hO1
       obtain ⟨_, hle, hc⟩ := hG.le
       have HG := hid hG
       have HO := hid hO1
       clear hG hO1)
    | (refine wpList_copy_nothing rfl (.tmp 16) (.tmp 17) 25 25 rfl 5 Tryd.underlying25 Tryd.size_u8 _ _ _ _ _ _ rfl rfl (by simp) ?_))
  all_goals
    go_ret2
    exact ⟨rfl, _, .of HG.out, HO.out⟩
theorem write_any (b o n pc : Nat) (pA : Option Addr) (data p : List UInt8) (F R : List Fr) (w0 w : World) (h : BufF b o data F) (hO : Own (F ++ R) w0 w) (hp : Rd R w0 pA p) (hn : n = p.length) (hne : p ≠ [] ∨ data ≠ []) (hm : data.length + p.length ≤ 1099511627776) :
    Calls Tryd.prog 104 #[.pointer (some ⟨b, o, none⟩), .slice pA n pc] w fun e w' => e = .returned (.tuple #[.int .i64 (p.length : Int), .nilIface]) ∧
      ∃ F', BufF b o (data ++ p) F' ∧ Own (F' ++ R) w0 w' := by
  subst hn
  cases p with
  | nil =>
    have := write_none b o pc pA data F R w0 w h (by simpa using hne) hO (by simpa using hm)
    simpa using this
  | cons x p => exact write_some b o pc pA data (x :: p) F R w0 w h hO hp (by simp) hm
end Go.Proofs.YtloflmcgbbbnjaaDoor

namespace Go.Proofs.YtloflmcgbbbnjaaDoor
open Go.RowKit Plain

theorem u8_or128_fin : ∀ y : Fin 256, bits .or .u8 (y.val : Int) 128 = ((y.val % 128 + 128 : Nat) : Int) := by decide +kernel
theorem u8_or128 (m : Nat) : bits .or .u8 ((m : Int) % 256) 128 = ((m % 128 + 128 : Nat) : Int) := by
  have h := u8_or128_fin ⟨m % 256, Nat.mod_lt _ (by decide)⟩
  have e : ((m : Int) % 256) = ((m % 256 : Nat) : Int) := by omega
  rw [e, h]
  congr 1
  show m % 256 % 128 + 128 = m % 128 + 128
  omega

set_option maxHeartbeats 1600000 in
theorem putUv (X : Fr) (i k n c x : Nat) (R : List Fr) (w0 w : World) (hk : k = X.off + i) (hO : Own (X :: R) w0 w) (hfit : i + n ≤ X.cs.length) (hn : (uv x).length ≤ n) (hx : x < 18446744073709551616) (hn63 : n ≤ 4611686018427387904) :
    Calls Tryd.prog 103 #[.slice (some ⟨X.g, k, none⟩) n c, .int .u64 x] w fun e w' => e = .returned (.int .i64 ((uv x).length : Int)) ∧ Own ({ X with cs := splice X.cs i (bc (uv x)) } :: R) w0 w' := by
  subst hk
  go_enter Tryd.func103, Tryd.ntmps103
  go_wp2
  go_loopw [1, 5] (fun y j wr => ∃ (m k : Nat) (p : List UInt8), y = .int .u64 m ∧ j = .int .i64 k ∧ p.length = k ∧ m < 18446744073709551616 ∧ uv x = p ++ uv m ∧ Own ({ X with cs := splice X.cs i (bc p) } :: R) w0 wr) (fun y _ _ => (intOf y).toNat)
  case atStart => exact ⟨x, 0, [], rfl, rfl, rfl, hx, rfl, by simpa [splice, bc] using hO⟩
  case round =>
    obtain ⟨m, k, p, rfl, rfl, rfl, hm, hu, hbr⟩ := hrel
    have hlen : (uv x).length = p.length + (uv m).length := by rw [hu, List.length_append]
    have hup := uv_pos m
    have hkn : (p.length : Int) < (n : Int) := by omega
    have hkn' : p.length < n := by omega
    have hsl : (splice X.cs i (bc p)).length = X.cs.length := length_splice _ _ _ (by rw [bc_length]; omega)
    have hcl : i + p.length < (splice X.cs i (bc p)).length := by omega
    have c0 := (hbr.cell 0 rfl (k := X.off + i + p.length) (i + p.length) (by simp; omega) hcl).trans (List.getElem?_eq_getElem hcl)
    have f0 := hbr.frozen 0 rfl (X.off + i + p.length) (hbr.head.ro_none (by simp only; omega))
    generalize (splice X.cs i (bc p))[i + p.length]'hcl = v0 at c0
    have e1 : IntKind.i64.wrap ((p.length : Int) + 1) = (p.length : Int) + 1 := i64_id (by omega) (by omega)
    have hset := splice_snoc X.cs i (bc p)
    rw [bc_length] at hset
    have HS := hid (hset · (by omega))
    clear hset
    simp only at c0 f0
    by_cases h4 : m < 128
    · have h4' : ¬ (128 : Int) ≤ (m : Int) := by omega
      have HU := hid hu
      have HB := hid hbr
      clear hu hbr hO hfit hlen hn
      have e2 : ((m : Int) % 256) = (m : Int) := by omega
      go_wp2
      go_ret
      refine ⟨ret_int ?_, ?_⟩
      · rw [HU.out, uv_small h4, List.length_append]; rfl
      · rw [HU.out, uv_small h4, bc_snoc, HS.out, show (((UInt8.ofNat m).toNat : Nat) : Int) = (m : Int) by simp; omega]
        exact HB.out.set (i + p.length) (by simp; omega) hcl _
    · have h4' : (128 : Int) ≤ (m : Int) := by omega
      have HU := hid hu
      have HB := hid hbr
      clear hu hbr hO hfit hlen hn
      go_wp2
      refine ⟨⟨m / 128, p.length + 1, p ++ [UInt8.ofNat (m % 128 + 128)], by simp, by first | rfl | (rw [show wrap64 ((p.length : Int) + 1) = (p.length : Int) + 1 from e1]; rfl) , by simp, by omega, ?_, ?_⟩, by simp [intOf]; omega⟩
      · rw [HU.out, uv_big h4, List.append_assoc]; rfl
      · rw [bc_snoc, HS.out, u8_or128, show (((UInt8.ofNat (m % 128 + 128)).toNat : Nat) : Int) = ((m % 128 + 128 : Nat) : Int) by simp; omega]
        exact HB.out.set (i + p.length) (by simp; omega) hcl _

theorem putUv_n (X : Fr) (i k n c x : Nat) (y : Int) (R : List Fr) (w0 w : World) (hy : y = (x : Int)) (hk : k = X.off + i) (hO : Own (X :: R) w0 w) (hfit : i + n ≤ X.cs.length) (hn : (uv x).length ≤ n) (hx : x < 18446744073709551616) (hn63 : n ≤ 4611686018427387904) :
    Calls Tryd.prog 103 #[.slice (some ⟨X.g, k, none⟩) n c, .int .u64 y] w fun e w' => e = .returned (.int .i64 ((uv x).length : Int)) ∧ Own ({ X with cs := splice X.cs i (bc (uv x)) } :: R) w0 w' := by
  subst hy; exact putUv X i k n c x R w0 w hk hO hfit hn hx hn63
theorem splice_set {α : Type} (cur : List α) (o : Nat) (v : α) (L : List α) (h : o + 1 + L.length ≤ cur.length) : splice (cur.set o v) (o + 1) L = splice cur o (v :: L) := by
  have := splice_splice cur o [v] L (by simp; omega)
  rw [← splice_one cur o v (by omega)] at this
  simpa using this
theorem splice_nil {α : Type} (cur : List α) (o : Nat) : splice cur o [] = cur := by simp [splice]
theorem bc_leB_4 (x : Int) : bc (leB x 4) = [.int .u8 (x % 256), .int .u8 (x / 256 % 256), .int .u8 (x / 65536 % 256), .int .u8 (x / 16777216 % 256)] := by
  have h : ∀ y : Int, Value.int .u8 ((UInt8.ofNat (y % 256).toNat).toNat : Int) = .int .u8 (y % 256) := fun y => by rw [byte_of (by omega) (by omega)]
  simp only [leB, bc, List.nil_append, List.cons_append, List.map_cons, List.map_nil, h, Int.reducePow, Int.ediv_one]

set_option maxHeartbeats 1600000 in
set_option maxRecDepth 100000 in
theorem put32 (X : Fr) (i k n c : Nat) (x : Int) (R : List Fr) (w0 w : World) (hk : k = X.off + i) (hO : Own (X :: R) w0 w) (hfit : i + 4 ≤ X.cs.length) (hn : 4 ≤ n) (h0 : 0 ≤ x) (h1 : x < 4294967296) :
    Calls Tryd.prog 106 #[.agg #[], .slice (some ⟨X.g, k, none⟩) n c, .int .u32 x] w fun e w' => e = .returned (.tuple #[]) ∧ Own ({ X with cs := splice X.cs i (bc (leB x 4)) } :: R) w0 w' := by
  subst hk
  have c0 := (hO.cell 0 rfl (k := X.off + i) i rfl (by omega)).trans (List.getElem?_eq_getElem (by omega))
  have c1 := (hO.cell 0 rfl (k := X.off + i + 1) (i + 1) (by omega) (by omega)).trans (List.getElem?_eq_getElem (by omega))
  have c2 := (hO.cell 0 rfl (k := X.off + i + 2) (i + 2) (by omega) (by omega)).trans (List.getElem?_eq_getElem (by omega))
  have c3 := (hO.cell 0 rfl (k := X.off + i + 3) (i + 3) (by omega) (by omega)).trans (List.getElem?_eq_getElem (by omega))
  generalize X.cs[i]'_ = v0 at c0; generalize X.cs[i + 1]'_ = v1 at c1; generalize X.cs[i + 2]'_ = v2 at c2; generalize X.cs[i + 3]'_ = v3 at c3
  have f : ∀ j, w.frozen? ⟨X.g, j, none⟩ = false := fun j => hO.frozen 0 rfl j (hO.head.ro_none (by omega))
  have hlt := hO.lt (x := X) (by simp)
  have l0 : 0 < n := by omega
  have l1 : (1 : Int) < (n : Int) := by omega
  have l2 : (2 : Int) < (n : Int) := by omega
  have l3 : (3 : Int) < (n : Int) := by omega
  have HB := hid hO
  clear hO
  go_enter Tryd.func106, Tryd.ntmps106
  go_wp2
  go_end0
  refine ⟨rfl, ?_⟩
  rw [bc_leB_4, show x / 16777216 % 256 = x / 16777216 from by omega]
  have e : ∀ a b c d : Value, splice X.cs i [a, b, c, d] = (((X.cs.set i a).set (i + 1) b).set (i + 2) c).set (i + 3) d := fun a b c d => by
    rw [← splice_set _ _ _ _ (by simp; omega), ← splice_set _ _ _ _ (by simp; omega), ← splice_set _ _ _ _ (by simp; omega), ← splice_set _ _ _ _ (by simp; omega), splice_nil]
  rw [e]
  exact ((((HB.out.set i rfl (by omega) _).set (i + 1) (by simp; omega) (by simp; omega) _).set (i + 2) (by simp; omega) (by simp; omega) _).set (i + 3) (by simp; omega) (by simp; omega) _).skip _
end Go.Proofs.YtloflmcgbbbnjaaDoor
namespace Go.Proofs.YtloflmcgbbbnjaaDoor
open Go.RowKit Plain
set_option linter.all false

theorem Tryd.info_u32 : (Tryd.prog.info? 181).map (fun i => (i.zero, i.size, i.bytes)) = some (some (.int .u32 0), 1, 4) := by kernel_rfl
def c32 (l : List Nat) : List Value := l.map fun x : Nat => .int .u32 (x : Int)
theorem c32_length (l : List Nat) : (c32 l).length = l.length := by simp [c32]
theorem c32_append (a b : List Nat) : c32 (a ++ b) = c32 a ++ c32 b := by simp [c32]
theorem c32_one (l : List Nat) : ∀ v ∈ c32 l, v.oneCell' = true := by
  intro v hv
  obtain ⟨b, _, rfl⟩ := List.mem_map.1 hv
  rfl
/-- A block's writer at ⟨b, o⟩: every rs pairs a restart; nE pairs taken; data, the last key, the restarts; its scratch at ⟨sg, so⟩. -/
def BW (b o rs nE : Nat) (data prev : List UInt8) (rst : List Nat) (sg so : Nat) (F : List Fr) : Prop :=
  ∃ pA pc rA rc Fb Fp Fq, BufF b (o + 1) data Fb ∧ Row 5 1 pA prev.length pc (bc prev) Fp ∧ Row 181 1 rA rst.length rc (c32 rst) Fq ∧
    F = fp b o [.int .i64 rs] :: fp b (o + 67) [.int .i64 nE, .slice pA prev.length pc, .slice rA rst.length rc, .slice (some ⟨sg, so, none⟩) 30 30] :: (Fb ++ (Fp ++ Fq))

theorem bw_hdr {b o : Nat} {v0 v1 v2 v3 v4 : Value} {L : List Fr} {w0 w : World} (hO : Own (fp b o [v0] :: fp b (o + 67) [v1, v2, v3, v4] :: L) w0 w) :
    w.cell? ⟨b, o, none⟩ = some v0 ∧ w.cell? ⟨b, o + 67, none⟩ = some v1 ∧ w.cell? ⟨b, o + 68, none⟩ = some v2 ∧ w.cell? ⟨b, o + 69, none⟩ = some v3 ∧ w.cell? ⟨b, o + 70, none⟩ = some v4 ∧ (∀ k, w.frozen? ⟨b, k, none⟩ = false) ∧ b < w.heap.size :=
  ⟨hO.cell 0 rfl 0 rfl (by simp), hO.cell 1 rfl 0 rfl (by simp), hO.cell 1 rfl 1 (by simp) (by simp), hO.cell 1 rfl 2 (by simp) (by simp), hO.cell 1 rfl 3 (by simp) (by simp), fun k => hO.frozen 0 rfl k, hO.lt (x := fp b o [v0]) (by simp)⟩
def bwN (rs nE : Nat) (prev k : List UInt8) : Nat := if nE % rs = 0 then 0 else shared prev k
def bwR (rs nE : Nat) (data : List UInt8) (rst : List Nat) : List Nat := if nE % rs = 0 then rst ++ [data.length] else rst
set_option maxHeartbeats 3200000 in
set_option maxRecDepth 100000 in
theorem bw_append (b o rs nE kc vc sg so : Nat) (kA vA : Option Addr) (data prev k v : List UInt8) (rst : List Nat) (scr : List Value) (F R : List Fr) (w0 w : World) (h : BW b o rs nE data prev rst sg so F)
    (hO : Own (F ++ (fp sg so scr :: R)) w0 w) (hs : scr.length = 30) (hk : Rd R w0 kA k) (hv : Rd R w0 vA v) (hkc : k.length ≤ kc) (hrs : 0 < rs) (h0 : rs ≤ 1073741824) (h1 : data.length ≤ 1073741824) (h2 : k.length ≤ 2147483648) (h3 : v.length ≤ 2147483648) (h4 : nE ≤ 1073741824) (h5 : rst.length ≤ 1073741824) (h6 : prev.length ≤ 2147483648) :
    Calls Tryd.prog 76 #[.pointer (some ⟨b, o, none⟩), .slice kA k.length kc, .slice vA v.length vc] w fun e w' => e = .returned (.tuple #[]) ∧
      ∃ F' scr', BW b o rs (nE + 1) (data ++ ent (bwN rs nE prev k) k v) k (bwR rs nE data rst) sg so F' ∧ scr'.length = 30 ∧ Own (F' ++ (fp sg so scr' :: R)) w0 w' := by
  obtain ⟨pA, pc, rA, rc, Fb, Fp, Fq, hB, hP, hQ, rfl⟩ := h
  obtain ⟨c0, c1, c2, c3, c4, f0, bl⟩ := bw_hdr hO
  have r1 : ¬ (rs : Int) = 0 := by omega
  have HO := hid hO
  have HB := hid hB
  have HP := hid hP
  have HQ := hid hQ
  clear hO hB hP hQ
  go_enter Tryd.func76, Tryd.ntmps76
  go_wp2
  go_quiet (fail)
  have hO1 := HO.out.drewN nq
  generalize w.drewN nq = W at hO1 ⊢
  clear c0 c1 c2 c3 c4 f0 bl HO
  have HO := hid hO1
  clear hO1
  go_upto_if 17 with fail
  go_cut [6] (fun s6 wx => ∃ rA' rc' Fq', s6 = .int .i64 (bwN rs nE prev k) ∧ Row 181 1 rA' (bwR rs nE data rst).length rc' (c32 (bwR rs nE data rst)) Fq' ∧
    Own (fp b o [.int .i64 rs] :: fp b (o + 67) [.int .i64 nE, .slice pA prev.length pc, .slice rA' (bwR rs nE data rst).length rc', .slice (some ⟨sg, so, none⟩) 30 30] :: (Fb ++ (Fp ++ Fq')) ++ (fp sg so scr :: R)) w0 wx)
  case first =>
    obtain ⟨c0, c1, c2, c3, c4, f0, bl⟩ := bw_hdr HO.out
    by_cases hm : nE % rs = 0
    · have r2 : (((nE : Int).tmod (rs : Int)) == 0) = true := by
        rw [show (nE : Int).tmod (rs : Int) = ((nE % rs : Nat) : Int) by rw [Int.tmod_eq_emod_of_nonneg (by omega)]; omega, hm]; rfl
      have r3 : (((nE : Int) % (rs : Int)) == 0) = true := by
        rw [show (nE : Int) % (rs : Int) = ((nE % rs : Nat) : Int) by omega, hm]; rfl
      have HM := hid hm
      clear hm
      have e5 : IntKind.u32.wrap (data.length : Int) = (data.length : Int) := by simp [IntKind.wrap, IntKind.bits, IntKind.signed]; omega
      have e6 : (data.length : Int) % 4294967296 = (data.length : Int) := by omega
      go_wp2
      go_region_law (first
        | (go_simp; go_at_call 92; refine (len_buf b (o + 1) data Fb (fp b o [.int .i64 rs] :: fp b (o + 67) [.int .i64 nE, .slice pA prev.length pc, .slice rA rst.length rc, .slice (some ⟨sg, so, none⟩) 30 30] :: (Fp ++ Fq) ++ (fp sg so scr :: R)) w0 _ HB.out (HO.out.drew.perm (perm_of fun _ _ z => by simp only [List.count_append, List.count_cons, List.cons_append]; omega)) (by omega)).mono ?_; rintro e w1 ⟨rfl, hd⟩; have hO1 := HO.out.drew.dr hd; clear hd c0 c1 c2 c3 c4 f0 bl; obtain ⟨c0, c1, c2, c3, c4, f0, bl⟩ := bw_hdr hO1; have HO1 := hid hO1; clear hO1)
        | (refine own_step_append rfl (.tmp 22) (.tmp 28) 137 rfl 181 (.int .u32 0) 1 4 Tryd.underlying137 Tryd.info_u32 rfl (by decide) rA rst.length rc (c32 rst) Fq rfl HQ.out (R := fp b o [.int .i64 rs] :: fp b (o + 67) [.int .i64 nE, .slice pA prev.length pc, .slice rA rst.length rc, .slice (some ⟨sg, so, none⟩) 30 30] :: (Fb ++ Fp ++ (fp sg so scr :: R))) ((HO1.out.skip _).perm (perm_of fun _ _ z => by simp only [List.count_append, List.count_cons, List.cons_append]; omega)) (some ⟨w1.heap.size, 0, none⟩) 1 1 [.int .u32 (data.length : Int)] rfl rfl (csAt_one _ _ _) (by simp [Value.oneCell']) (by simp [maxLen]; omega) (by omega) ?_; intro rA' rc' Fq' w2 hQ2 hO2 _; clear c0 c1 c2 c3 c4 f0 bl HO1; obtain ⟨c0, c1, c2, c3, c4, f0, bl⟩ := bw_hdr hO2.right; have HO := hid hO2; have HQ := hid hQ2; clear hO2 hQ2))
      all_goals
        go_wp2_with fail
        go_meet
        have e1 : bwR rs nE data rst = rst ++ [data.length] := if_pos HM.out
        have e2 : bwN rs nE prev k = 0 := if_pos HM.out
        refine ⟨rA', rc', Fq', by rw [e2]; rfl, ?_, ?_⟩
        · rw [e1]; simpa [c32] using HQ.out
        · rw [e1]
          have h8 : Own (fp b (o + 67) [.int .i64 nE, .slice pA prev.length pc, .slice rA' (rst.length + 1) rc', .slice (some ⟨sg, so, none⟩) 30 30] :: (fp b o [.int .i64 rs] :: (Fq' ++ (Fb ++ Fp ++ (fp sg so scr :: R))))) w0 _ := (HO.out.perm (L' := fp b (o + 67) [.int .i64 nE, .slice pA prev.length pc, .slice rA rst.length rc, .slice (some ⟨sg, so, none⟩) 30 30] :: (fp b o [.int .i64 rs] :: (Fq' ++ (Fb ++ Fp ++ (fp sg so scr :: R))))) (perm_of fun _ _ z => by simp only [List.count_append, List.count_cons, List.cons_append]; omega)).set (k := o + 69) 2 (by simp) (by simp) (.slice rA' (rst.length + 1) rc')
          rw [List.length_append, List.length_singleton]
          exact h8.perm (perm_of fun _ _ z => by simp only [List.count_append, List.count_cons, List.cons_append]; omega)
    · have hm' : ¬ ((nE % rs : Nat) : Int) = 0 := by omega
      have r2 : (((nE : Int).tmod (rs : Int)) == 0) = false := by
        rw [show (nE : Int).tmod (rs : Int) = ((nE % rs : Nat) : Int) by rw [Int.tmod_eq_emod_of_nonneg (by omega)]; omega]; simpa using hm'
      have r3 : (((nE : Int) % (rs : Int)) == 0) = false := by
        rw [show (nE : Int) % (rs : Int) = ((nE % rs : Nat) : Int) by omega]; simpa using hm'
      have HM := hid hm
      clear hm hm'
      have hbp : BsAt W pA prev := HO.out.st (HP.out.rd w0) (by intro x hx; simp [hx])
      have hbk : BsAt W kA k := HO.out.st hk (by intro x hx; simp [hx])
      go_wp2_with (go_at_call 102; refine (spl_any pA kA _ _ pc kc prev k _ hbp hbk rfl rfl (by omega) (by omega)).mono ?_; rintro e w1 ⟨rfl, hd⟩; have HD := hid hd; clear hd)
      go_meet
      have e1 : bwR rs nE data rst = rst := if_neg HM.out
      have e2 : bwN rs nE prev k = shared prev k := if_neg HM.out
      refine ⟨rA, rc, Fq, by rw [e2], ?_, ?_⟩
      · rw [e1]; exact HQ.out
      · rw [e1]; exact HO.out.dr HD.out
  case rest =>
    obtain ⟨rA', rc', Fq', rfl, hQ2, hO⟩ := hcut
    obtain ⟨c0, c1, c2, c3, c4, f0, bl⟩ := bw_hdr hO
    have hnk : bwN rs nE prev k ≤ k.length := by unfold bwN; split <;> have := shared_le prev k <;> omega
    obtain ⟨n, hn⟩ : ∃ n, bwN rs nE prev k = n := ⟨_, rfl⟩
    obtain ⟨rst', hr'⟩ : ∃ r, bwR rs nE data rst = r := ⟨_, rfl⟩
    rw [hn] at hnk ⊢
    rw [hr'] at hQ2 hO c3
    have HN := hid hn
    have HR := hid hr'
    have lu1 := uv_len5 (x := n) (by omega)
    have lu2 := uv_len5 (x := k.length - n) (by omega)
    have lu3 := uv_len5 (x := v.length) (by omega)
    have lv1 := uv_pos n
    have lv2 := uv_pos (k.length - n)
    have lv3 := uv_pos v.length
    have HQ := hid hQ2
    have HO := hid hO
    clear hQ2 hO hn hr'
    have ee1 : ∀ x : Nat, IntKind.u64.wrap (x : Int) = if x < 18446744073709551616 then (x : Int) else IntKind.u64.wrap (x : Int) := fun x => by split <;> simp [IntKind.wrap, IntKind.bits, IntKind.signed]; omega
    have ka : IntKind.u64.wrap (n : Int) = (n : Int) := by rw [ee1, if_pos (by omega)]
    have kb : IntKind.i64.wrap ((k.length : Int) - (n : Int)) = (k.length : Int) - (n : Int) := i64_id (by omega) (by omega)
    have kc1 : IntKind.u64.wrap ((k.length : Int) - (n : Int)) = (k.length : Int) - (n : Int) := by
      have := ee1 (k.length - n)
      rw [if_pos (by omega), Int.ofNat_sub hnk] at this
      exact this
    have kd : IntKind.u64.wrap (v.length : Int) = (v.length : Int) := by rw [ee1, if_pos (by omega)]
    clear ee1
    go_wp2_with fail
    refine (putUv_n (fp sg so scr) 0 so 30 30 n _ (fp b o [.int .i64 rs] :: fp b (o + 67) [.int .i64 nE, .slice pA prev.length pc, .slice rA' rst'.length rc', .slice (some ⟨sg, so, none⟩) 30 30] :: (Fb ++ (Fp ++ Fq')) ++ R) w0 _ rfl rfl (HO.out.perm (perm_of fun _ _ z => by simp only [List.count_append, List.count_cons, List.cons_append]; omega)) (by simp [hs]) (by omega) (by omega) (by omega)).mono ?_
    rintro e w1 ⟨rfl, hO1⟩
    clear c0 c1 c2 c3 c4 f0 bl HO
    obtain ⟨c0, c1, c2, c3, c4, f0, bl⟩ := bw_hdr hO1.drop
    have HO := hid hO1
    clear hO1
    obtain ⟨l1, hl1⟩ : ∃ l, (uv n).length = l := ⟨_, rfl⟩
    obtain ⟨l2, hl2⟩ : ∃ l, (uv (k.length - n)).length = l := ⟨_, rfl⟩
    obtain ⟨l3, hl3⟩ : ∃ l, (uv v.length).length = l := ⟨_, rfl⟩
    rw [hl1] at lu1 lv1 ⊢
    rw [hl2] at lu2 lv2
    rw [hl3] at lu3 lv3
    have L1 := hid hl1
    have L2 := hid hl2
    have L3 := hid hl3
    clear hl1 hl2 hl3
    have hn1 : ¬ 30 = l1 := by omega
    have hs1 : (splice scr 0 (bc (uv n))).length = 30 := by rw [length_splice _ _ _ (by rw [bc_length, L1.out]; omega), hs]
    go_wp2_with fail
    refine (putUv_n (fp sg so (splice scr 0 (bc (uv n)))) l1 (so + l1) (30 - l1) (30 - l1) (k.length - n) _ (fp b o [.int .i64 rs] :: fp b (o + 67) [.int .i64 nE, .slice pA prev.length pc, .slice rA' rst'.length rc', .slice (some ⟨sg, so, none⟩) 30 30] :: (Fb ++ (Fp ++ Fq')) ++ R) w0 _ (by omega) rfl HO.out (by simp only [hs1]; omega) (by rw [L2.out]; omega) (by omega) (by omega)).mono ?_
    rintro e w2 ⟨rfl, hO1⟩
    rw [L2.out]
    clear c0 c1 c2 c3 c4 f0 bl HO
    obtain ⟨c0, c1, c2, c3, c4, f0, bl⟩ := bw_hdr hO1.drop
    have HO := hid hO1
    clear hO1
    have hs2 : (splice (splice scr 0 (bc (uv n))) l1 (bc (uv (k.length - n)))).length = 30 := by rw [length_splice _ _ _ (by rw [bc_length, L2.out]; omega), hs1]
    have hn2 : ¬ 30 = l1 + l2 := by omega
    have tn2 : ((l1 : Int) + (l2 : Int)).toNat = l1 + l2 := by omega
    have le2 : (l1 : Int) + (l2 : Int) ≤ 30 := by omega
    go_wp2_with fail
    refine (putUv_n (fp sg so (splice (splice scr 0 (bc (uv n))) l1 (bc (uv (k.length - n))))) (l1 + l2) (so + (l1 + l2)) (30 - (l1 + l2)) (30 - (l1 + l2)) v.length _ (fp b o [.int .i64 rs] :: fp b (o + 67) [.int .i64 nE, .slice pA prev.length pc, .slice rA' rst'.length rc', .slice (some ⟨sg, so, none⟩) 30 30] :: (Fb ++ (Fp ++ Fq')) ++ R) w0 _ rfl rfl HO.out (by simp only [hs2]; omega) (by rw [L3.out]; omega) (by omega) (by omega)).mono ?_
    rintro e w3 ⟨rfl, hO1⟩
    rw [L3.out]
    have hs3 : (splice (splice (splice scr 0 (bc (uv n))) l1 (bc (uv (k.length - n)))) (l1 + l2) (bc (uv v.length))).length = 30 := by rw [length_splice _ _ _ (by rw [bc_length, L3.out]; omega), hs2]
    have hp3 : (splice (splice (splice scr 0 (bc (uv n))) l1 (bc (uv (k.length - n)))) (l1 + l2) (bc (uv v.length))).take (l1 + l2 + l3) = bc (uv n ++ uv (k.length - n) ++ uv v.length) := by
      have q1 := splice_splice scr 0 (bc (uv n)) (bc (uv (k.length - n))) (by rw [bc_length, L1.out]; omega)
      rw [bc_length, L1.out, Nat.zero_add] at q1
      have q2 := splice_splice scr 0 (bc (uv n) ++ bc (uv (k.length - n))) (bc (uv v.length)) (by rw [List.length_append, bc_length, bc_length, L1.out, L2.out]; omega)
      rw [List.length_append, bc_length, bc_length, L1.out, L2.out, Nat.zero_add, ← q1] at q2
      rw [q2, bc_append, bc_append]
      have q3 := splice_take0 scr (bc (uv n) ++ bc (uv (k.length - n)) ++ bc (uv v.length)) (by simp only [List.length_append, bc_length, L1.out, L2.out, L3.out]; omega)
      simp only [List.length_append, bc_length, L1.out, L2.out, L3.out] at q3
      exact q3
    have hpl : (uv n ++ uv (k.length - n) ++ uv v.length).length = l1 + l2 + l3 := by simp only [List.length_append, L1.out, L2.out, L3.out]
    generalize splice (splice (splice scr 0 (bc (uv n))) l1 (bc (uv (k.length - n)))) (l1 + l2) (bc (uv v.length)) = scr3 at hs3 hp3 hO1
    obtain ⟨p1, hp1⟩ : ∃ p, uv n ++ uv (k.length - n) ++ uv v.length = p := ⟨_, rfl⟩
    rw [hp1] at hp3 hpl
    have HP1 := hid hp1
    have HP3 := hid hp3
    have HPL := hid hpl
    clear c0 c1 c2 c3 c4 f0 bl HO hp1 hp3 hpl hs1 hs2 ka kb kc1 kd hn1 hn2 tn2 le2
    obtain ⟨c0, c1, c2, c3, c4, f0, bl⟩ := bw_hdr hO1.drop
    have hO1' : Own (fp sg so scr3 :: (fp b o [.int .i64 rs] :: fp b (o + 67) [.int .i64 nE, .slice pA prev.length pc, .slice rA' rst'.length rc', .slice (some ⟨sg, so, none⟩) 30 30] :: (Fb ++ (Fp ++ Fq')) ++ R)) w0 w3 := hO1
    have HO := hid hO1'
    clear hO1 hO1'
    have le3 : (l1 : Int) + (l2 : Int) + (l3 : Int) ≤ 30 := by omega
    have tn3 : ((l1 : Int) + (l2 : Int) + (l3 : Int)).toNat = l1 + l2 + l3 := by omega
    have ge3 : 0 ≤ (l1 : Int) + (l2 : Int) + (l3 : Int) := by omega
    go_wp2_with fail
    go_still_tail 9, (by kernel_rfl)
    go_wp2_with fail
    have hp0 : p1 ≠ [] := by
      intro h
      have := HPL.out
      rw [h] at this
      simp at this
      omega
    have hne : data ++ p1 ≠ [] := by simp [hp0]
    have HNE := hid hne
    clear hne
    refine (write_any b (o + 1) (l1 + l2 + l3) 30 (some ⟨sg, so, none⟩) data p1 Fb (fp b o [.int .i64 rs] :: fp b (o + 67) [.int .i64 nE, .slice pA prev.length pc, .slice rA' rst'.length rc', .slice (some ⟨sg, so, none⟩) 30 30] :: (fp sg so scr3 :: (Fp ++ Fq' ++ R))) w0 _ HB.out (HO.out.drew.perm (perm_of fun _ _ z => by simp only [List.count_append, List.count_cons, List.cons_append]; omega)) (Rd.fr (x := fp sg so scr3) (by simp) (i := 0) rfl (by rw [HPL.out]; show 0 + (l1 + l2 + l3) ≤ scr3.length; omega) (by rw [HPL.out]; simpa using HP3.out)) HPL.out.symm (.inl hp0) (by rw [HPL.out]; omega)).mono ?_
    rintro e w4 ⟨rfl, Fb1, hB1, hO1⟩
    clear c0 c1 c2 c3 c4 f0 bl HO hp0
    have HO := hid hO1
    have HB1 := hid hB1
    clear hO1 hB1
    go_upto_region 8 with fail
    go_cut [] (fun wx => ∃ Fb2, BufF b (o + 1) (data ++ p1 ++ k.drop n) Fb2 ∧ Own (Fb2 ++ (fp b o [.int .i64 rs] :: fp b (o + 67) [.int .i64 nE, .slice pA prev.length pc, .slice rA' rst'.length rc', .slice (some ⟨sg, so, none⟩) 30 30] :: (fp sg so scr3 :: (Fp ++ Fq' ++ R)))) w0 wx)
    case first =>
      obtain ⟨c0, c1, c2, c3, c4, f0, bl⟩ := bw_hdr HO.out.right
      by_cases hkn : kc = n
      · subst hkn
        have hd0 : k.drop kc = [] := List.drop_eq_nil_of_le hkc
        have HD0 := hid hd0
        clear hd0
        go_still_tail 6, (by kernel_rfl)
        go_wp2_with fail
        refine (write_any b (o + 1) _ _ _ (data ++ p1) [] Fb1 (fp b o [.int .i64 rs] :: fp b (o + 67) [.int .i64 nE, .slice pA prev.length pc, .slice rA' rst'.length rc', .slice (some ⟨sg, so, none⟩) 30 30] :: (fp sg so scr3 :: (Fp ++ Fq' ++ R))) w0 _ HB1.out HO.out.drew (Rd.nil _ _ _) (by rw [List.length_nil]) (.inr HNE.out) (by rw [List.length_append, HPL.out, List.length_nil]; omega)).mono ?_
        rintro e w5 ⟨rfl, Fb2, hB2, hO2⟩
        have HO2 := hid hO2
        have HB2 := hid hB2
        clear hO2 hB2
        go_wp2_with fail
        go_meet
        exact ⟨Fb2, by rw [HD0.out]; exact HB2.out, HO2.out⟩
      · go_still_tail 6, (by kernel_rfl)
        go_wp2_with fail
        refine (write_any b (o + 1) _ _ _ (data ++ p1) (k.drop n) Fb1 (fp b o [.int .i64 rs] :: fp b (o + 67) [.int .i64 nE, .slice pA prev.length pc, .slice rA' rst'.length rc', .slice (some ⟨sg, so, none⟩) 30 30] :: (fp sg so scr3 :: (Fp ++ Fq' ++ R))) w0 _ HB1.out HO.out.drew (Rd.cutM (St.cons (St.cons (St.cons (St.right hk (Fp ++ Fq')) _) _) _) n) (by rw [List.length_drop]) (.inr HNE.out) (by rw [List.length_append, HPL.out, List.length_drop]; omega)).mono ?_
        rintro e w5 ⟨rfl, Fb2, hB2, hO2⟩
        have HO2 := hid hO2
        have HB2 := hid hB2
        clear hO2 hB2
        go_wp2_with fail
        go_meet
        exact ⟨Fb2, HB2.out, HO2.out⟩
    case rest =>
      obtain ⟨Fb2, hB2, hO2⟩ := hcut
      obtain ⟨c0, c1, c2, c3, c4, f0, bl⟩ := bw_hdr hO2.right
      have HO2 := hid hO2
      have HB2 := hid hB2
      clear hO2 hB2 HB1 HO
      have hne : data ++ p1 ++ k.drop n ≠ [] := fun h => HNE.out (List.append_eq_nil_iff.1 h).1
      go_wp2_with fail
      refine (write_any b (o + 1) _ _ _ (data ++ p1 ++ k.drop n) v Fb2 (fp b o [.int .i64 rs] :: fp b (o + 67) [.int .i64 nE, .slice pA prev.length pc, .slice rA' rst'.length rc', .slice (some ⟨sg, so, none⟩) 30 30] :: (fp sg so scr3 :: (Fp ++ Fq' ++ R))) w0 _ HB2.out HO2.out (St.cons (St.cons (St.cons (St.right hv (Fp ++ Fq')) _) _) _) rfl (.inr hne) (by simp only [List.length_append, HPL.out, List.length_drop]; omega)).mono ?_
      rintro e w6 ⟨rfl, Fb3, hB3, hO3⟩
      clear c0 c1 c2 c3 c4 f0 bl HO2 hne
      obtain ⟨c0, c1, c2, c3, c4, f0, bl⟩ := bw_hdr hO3.right
      have HO := hid hO3
      have HB3 := hid hB3
      clear hO3 hB3 HB2
      have hP0 : Row 5 1 pA 0 pc [] Fp := by simpa using HP.out.back (m := 0) (Nat.zero_le _)
      have hbk : BsAt w6 kA k := HO.out.st hk (by intro x hx; simp [hx])
      have e9 : IntKind.i64.wrap ((nE : Int) + 1) = (nE : Int) + 1 := i64_id (by omega) (by omega)
      go_wp2_with (at_builtin; refine own_append rfl (.tmp 99) (.tmp 100) 25 rfl 5 (.int .u8 0) 1 1 Tryd.underlying25 Tryd.info_u8 rfl (by decide) pA 0 pc [] Fp rfl hP0 (R := fp b o [.int .i64 rs] :: fp b (o + 67) [.int .i64 nE, .slice pA prev.length pc, .slice rA' rst'.length rc', .slice (some ⟨sg, so, none⟩) 30 30] :: (fp sg so scr3 :: (Fb3 ++ Fq' ++ R))) (HO.out.perm (perm_of fun _ _ z => by simp only [List.count_append, List.count_cons, List.cons_append]; omega)) kA k.length kc (bc k) rfl (by rw [bc_length, Nat.mul_one]) hbk.cs (bc_one k) (by simp [maxLen]; omega) (by omega) ?_; intro pA' pc' Fp' w7 hP7 hO7 _; clear c0 c1 c2 c3 c4 f0 bl HO hP0 hbk; obtain ⟨c0, c1, c2, c3, c4, f0, bl⟩ := bw_hdr hO7.right; have HO := hid hO7; have HP7 := hid hP7; clear hO7 hP7)
      go_end0
      refine ⟨rfl, fp b o [.int .i64 rs] :: fp b (o + 67) [.int .i64 ((nE + 1 : Nat) : Int), .slice pA' k.length pc', .slice rA' rst'.length rc', .slice (some ⟨sg, so, none⟩) 30 30] :: (Fb3 ++ (Fp' ++ Fq')), scr3, ⟨pA', pc', rA', rc', Fb3, Fp', Fq', ?_, ?_, ?_, ?_⟩, hs3, ?_⟩
      · have h9 := HB3.out
        rw [← HP1.out, ← HN.out] at h9
        have e10 : data ++ ent (bwN rs nE prev k) k v = data ++ (uv (bwN rs nE prev k) ++ uv (k.length - bwN rs nE prev k) ++ uv v.length) ++ k.drop (bwN rs nE prev k) ++ v := by simp [ent]
        rw [e10]
        exact h9
      · have h9 := HP7.out
        rw [Nat.zero_add, List.nil_append] at h9
        exact h9
      · rw [HR.out]; exact HQ.out
      · rw [HR.out]
      · have h9 : Own (fp b (o + 67) [.int .i64 nE, .slice pA prev.length pc, .slice rA' rst'.length rc', .slice (some ⟨sg, so, none⟩) 30 30] :: (fp b o [.int .i64 rs] :: (Fp' ++ (fp sg so scr3 :: (Fb3 ++ Fq' ++ R))))) w0 w7 := HO.out.perm (perm_of fun _ _ z => by simp only [List.count_append, List.count_cons, List.cons_append]; omega)
        have h10 : Own (fp b (o + 67) [.int .i64 ((nE + 1 : Nat) : Int), .slice pA' k.length pc', .slice rA' rst'.length rc', .slice (some ⟨sg, so, none⟩) 30 30] :: (fp b o [.int .i64 rs] :: (Fp' ++ (fp sg so scr3 :: (Fb3 ++ Fq' ++ R))))) w0 _ := (h9.set (k := o + 68) 1 (by simp) (by simp) (.slice pA' k.length pc')).set (k := o + 67) 0 (by simp) (by simp) (.int .i64 ((nE + 1 : Nat) : Int))
        have h11 := h10.perm (L' := fp b o [.int .i64 rs] :: fp b (o + 67) [.int .i64 ((nE + 1 : Nat) : Int), .slice pA' k.length pc', .slice rA' rst'.length rc', .slice (some ⟨sg, so, none⟩) 30 30] :: (Fb3 ++ (Fp' ++ Fq')) ++ (fp sg so scr3 :: R)) (perm_of fun _ _ z => by simp only [List.count_append, List.count_cons, List.cons_append]; omega)
        simpa using h11
end Go.Proofs.YtloflmcgbbbnjaaDoor
namespace Go.Proofs.YtloflmcgbbbnjaaDoor
open Go.RowKit Plain
set_option linter.all false

def le4s (l : List Nat) : List UInt8 := l.flatMap fun x : Nat => leB (x : Int) 4
theorem le4s_append (a b : List Nat) : le4s (a ++ b) = le4s a ++ le4s b := by simp [le4s]
theorem le4s_length (l : List Nat) : (le4s l).length = 4 * l.length := by
  induction l with
  | nil => rfl
  | cons x l ih => simp only [le4s, List.flatMap_cons, List.length_append, leB_length, List.length_cons] at ih ⊢; omega
theorem le4s_take {l : List Nat} {k : Nat} (h : k < l.length) : le4s (l.take (k + 1)) = le4s (l.take k) ++ leB (l[k] : Int) 4 := by
  rw [List.take_succ_eq_append_getElem h, le4s_append]; simp [le4s]
/-- The restarts that finish writes. -/
def finR (nE : Nat) (rst : List Nat) : List Nat := if nE = 0 then rst ++ [0] else rst
theorem c32_get {l : List Nat} {i : Nat} (h : i < l.length) : (c32 l)[i]? = some (.int .u32 (l[i] : Int)) := by simp [c32, List.getElem?_eq_getElem h]

set_option maxHeartbeats 3200000 in
set_option maxRecDepth 100000 in
theorem bw_finish (b o rs nE sg so : Nat) (data prev : List UInt8) (rst : List Nat) (F R : List Fr) (w0 w : World) (h : BW b o rs nE data prev rst sg so F)
    (hO : Own (F ++ R) w0 w) (h1 : data.length ≤ 1073741824) (h5 : rst.length ≤ 1073741824) (hx : ∀ x ∈ rst, x < 4294967296) :
    Calls Tryd.prog 77 #[.pointer (some ⟨b, o, none⟩)] w fun e w' => e = .returned (.tuple #[]) ∧
      ∃ F', BW b o rs nE (data ++ le4s (finR nE rst ++ [(finR nE rst).length])) prev (finR nE rst ++ [(finR nE rst).length]) sg so F' ∧ Own (F' ++ R) w0 w' := by
  obtain ⟨pA, pc, rA, rc, Fb, Fp, Fq, hB, hP, hQ, rfl⟩ := h
  obtain ⟨c0, c1, c2, c3, c4, f0, bl⟩ := bw_hdr hO
  have HO := hid hO
  have HB := hid hB
  have HP := hid hP
  have HQ := hid hQ
  have HX := hid hx
  clear hO hB hP hQ hx
  go_enter Tryd.func77, Tryd.ntmps77
  go_upto_if 9 with fail
  go_cut [] (fun wx => ∃ rA' rc' Fq', Row 181 1 rA' (finR nE rst).length rc' (c32 (finR nE rst)) Fq' ∧
    Own (fp b o [.int .i64 rs] :: fp b (o + 67) [.int .i64 nE, .slice pA prev.length pc, .slice rA' (finR nE rst).length rc', .slice (some ⟨sg, so, none⟩) 30 30] :: (Fb ++ (Fp ++ Fq')) ++ R) w0 wx)
  case first =>
    by_cases hm : nE = 0
    · have r1 : (((nE : Nat) : Int) == 0) = true := by rw [hm]; rfl
      have HM := hid hm
      clear hm
      go_wp2_with (at_builtin; refine own_append rfl (.tmp 14) (.tmp 15) 137 rfl 181 (.int .u32 0) 1 4 Tryd.underlying137 Tryd.info_u32 rfl (by decide) rA rst.length rc (c32 rst) Fq rfl HQ.out (R := fp b o [.int .i64 rs] :: fp b (o + 67) [.int .i64 nE, .slice pA prev.length pc, .slice rA rst.length rc, .slice (some ⟨sg, so, none⟩) 30 30] :: (Fb ++ Fp ++ R)) ((HO.out.skip _).perm (perm_of fun _ _ z => by simp only [List.count_append, List.count_cons, List.cons_append]; omega)) (some ⟨w.heap.size, 0, none⟩) 1 1 [.int .u32 0] rfl rfl (csAt_one _ _ _) (by simp [Value.oneCell']) (by simp [maxLen]; omega) (by omega) ?_; intro rA' rc' Fq' w2 hQ2 hO2 _; clear c0 c1 c2 c3 c4 f0 bl; obtain ⟨c0, c1, c2, c3, c4, f0, bl⟩ := bw_hdr hO2.right; have HO2 := hid hO2; have HQ2 := hid hQ2; clear hO2 hQ2)
      go_meet
      have e1 : finR nE rst = rst ++ [0] := if_pos HM.out
      refine ⟨rA', rc', Fq', ?_, ?_⟩
      · rw [e1]; simpa [c32] using HQ2.out
      · rw [e1, List.length_append, List.length_singleton]
        have h8 : Own (fp b (o + 67) [.int .i64 nE, .slice pA prev.length pc, .slice rA' (rst.length + 1) rc', .slice (some ⟨sg, so, none⟩) 30 30] :: (fp b o [.int .i64 rs] :: (Fq' ++ (Fb ++ Fp ++ R)))) w0 _ := (HO2.out.perm (L' := fp b (o + 67) [.int .i64 nE, .slice pA prev.length pc, .slice rA rst.length rc, .slice (some ⟨sg, so, none⟩) 30 30] :: (fp b o [.int .i64 rs] :: (Fq' ++ (Fb ++ Fp ++ R)))) (perm_of fun _ _ z => by simp only [List.count_append, List.count_cons, List.cons_append]; omega)).set (k := o + 69) 2 (by simp) (by simp) (.slice rA' (rst.length + 1) rc')
        exact h8.perm (perm_of fun _ _ z => by simp only [List.count_append, List.count_cons, List.cons_append]; omega)
    · have r1 : (((nE : Nat) : Int) == 0) = false := by simpa using hm
      have HM := hid hm
      clear hm
      go_wp2_with fail
      go_meet
      have e1 : finR nE rst = rst := if_neg HM.out
      exact ⟨rA, rc, Fq, by rw [e1]; exact HQ.out, by rw [e1]; exact HO.out⟩
  case rest =>
    obtain ⟨rA1, rc1, Fq1, hQ1, hO1⟩ := hcut
    have hr5 : (finR nE rst).length ≤ 1073741825 := by
      unfold finR
      split
      · rw [List.length_append, List.length_singleton]; omega
      · omega
    have hrx : ∀ x ∈ finR nE rst, x < 4294967296 := fun x hx => by
      have := HX.out
      unfold finR at hx
      split at hx
      · rcases List.mem_append.1 hx with h | h
        · exact this x h
        · simp at h; omega
      · exact this x hx
    obtain ⟨r1, hr1⟩ : ∃ r, finR nE rst = r := ⟨_, rfl⟩
    rw [hr1] at hQ1 hO1 hr5 hrx
    have HR1 := hid hr1
    have HRX := hid hrx
    clear hr1 hrx c0 c1 c2 c3 c4 f0 bl HO HQ
    obtain ⟨c0, c1, c2, c3, c4, f0, bl⟩ := bw_hdr hO1
    have HO := hid hO1
    have HQ := hid hQ1
    clear hO1 hQ1
    have e5 : IntKind.u32.wrap (r1.length : Int) = (r1.length : Int) := by simp [IntKind.wrap, IntKind.bits, IntKind.signed]; omega
    have e6 : (r1.length : Int) % 4294967296 = (r1.length : Int) := by omega
    go_upto_region 2 with fail
    go_cut [] (fun wx => ∃ rA' rc' Fq', Row 181 1 rA' (r1 ++ [r1.length]).length rc' (c32 (r1 ++ [r1.length])) Fq' ∧ Own (fp b o [.int .i64 rs] :: fp b (o + 67) [.int .i64 nE, .slice pA prev.length pc, .slice rA' (r1 ++ [r1.length]).length rc', .slice (some ⟨sg, so, none⟩) 30 30] :: (Fb ++ (Fp ++ Fq')) ++ R) w0 wx)
    case first =>
      go_region_law (refine own_step_append rfl (.tmp 23) (.tmp 30) 137 rfl 181 (.int .u32 0) 1 4 Tryd.underlying137 Tryd.info_u32 rfl (by decide) rA1 r1.length rc1 (c32 r1) Fq1 rfl HQ.out (R := fp b o [.int .i64 rs] :: fp b (o + 67) [.int .i64 nE, .slice pA prev.length pc, .slice rA1 r1.length rc1, .slice (some ⟨sg, so, none⟩) 30 30] :: (Fb ++ Fp ++ R)) ((HO.out.drew.skip _).perm (perm_of fun _ _ z => by simp only [List.count_append, List.count_cons, List.cons_append]; omega)) (some ⟨wc.heap.size, 0, none⟩) 1 1 [.int .u32 (r1.length : Int)] rfl rfl (csAt_one _ _ _) (by simp [Value.oneCell']) (by simp [maxLen]; omega) (by omega) ?_; intro rA' rc' Fq' w2 hQ2 hO2 _; clear c0 c1 c2 c3 c4 f0 bl; obtain ⟨c0, c1, c2, c3, c4, f0, bl⟩ := bw_hdr hO2.right; have HO2 := hid hO2; have HQ2 := hid hQ2; clear hO2 hQ2)
      all_goals
        go_wp2_with fail
        go_meet
        refine ⟨rA', rc', Fq', ?_, ?_⟩
        · simpa [c32] using HQ2.out
        · rw [List.length_append, List.length_singleton]
          have h8 : Own (fp b (o + 67) [.int .i64 nE, .slice pA prev.length pc, .slice rA' (r1.length + 1) rc', .slice (some ⟨sg, so, none⟩) 30 30] :: (fp b o [.int .i64 rs] :: (Fq' ++ (Fb ++ Fp ++ R)))) w0 _ := (HO2.out.perm (L' := fp b (o + 67) [.int .i64 nE, .slice pA prev.length pc, .slice rA1 r1.length rc1, .slice (some ⟨sg, so, none⟩) 30 30] :: (fp b o [.int .i64 rs] :: (Fq' ++ (Fb ++ Fp ++ R)))) (perm_of fun _ _ z => by simp only [List.count_append, List.count_cons, List.cons_append]; omega)).set (k := o + 69) 2 (by simp) (by simp) (.slice rA' (r1.length + 1) rc')
          exact h8.perm (perm_of fun _ _ z => by simp only [List.count_append, List.count_cons, List.cons_append]; omega)
    case rest =>
      obtain ⟨rA', rc', Fq', hQ2, hO2⟩ := hcut
      have hrx : ∀ x ∈ r1 ++ [r1.length], x < 4294967296 := fun x hx => by
        rcases List.mem_append.1 hx with h | h
        · exact HRX.out x h
        · simp at h; omega
      have hl2 : (r1 ++ [r1.length]).length ≤ 1073741826 := by rw [List.length_append, List.length_singleton]; omega
      obtain ⟨r2, hr2⟩ : ∃ r, r1 ++ [r1.length] = r := ⟨_, rfl⟩
      rw [hr2] at hQ2 hO2 hrx hl2
      have HR2 := hid hr2
      have HRX2 := hid hrx
      clear hr2 hrx c0 c1 c2 c3 c4 f0 bl HO HQ HRX
      obtain ⟨c0, c1, c2, c3, c4, f0, bl⟩ := bw_hdr hO2
      have HO := hid hO2
      have HQ := hid hQ2
      clear hO2 hQ2
      go_wp2_with fail
      go_loopw [39] (fun i wr => ∃ (k : Nat) (Fb' : List Fr), i = .int .i64 k ∧ k ≤ r2.length ∧ BufF b (o + 1) (data ++ le4s (r2.take k)) Fb' ∧ Own (fp b o [.int .i64 rs] :: fp b (o + 67) [.int .i64 nE, .slice pA prev.length pc, .slice rA' r2.length rc', .slice (some ⟨sg, so, none⟩) 30 30] :: (Fb' ++ (Fp ++ Fq')) ++ R) w0 wr) (fun i _ => r2.length - (intOf i).toNat)
      case atStart => exact ⟨0, Fb, rfl, Nat.zero_le _, by simpa [le4s] using HB.out, HO.out⟩
      case round =>
        obtain ⟨k, Fb', rfl, hk, hb, ho⟩ := hrel
        have hll : (le4s (r2.take k)).length ≤ 4294967304 := by rw [le4s_length, List.length_take]; omega
        by_cases h7 : k < r2.length
        · have h7' : (k : Int) < (r2.length : Int) := by omega
          have hcs : CsAt wr rA' (c32 r2) := ho.st (HQ.out.st w0) (by intro x hx; simp [hx])
          obtain ⟨g, o', rfl, hcell⟩ := hcs k (by rw [c32_length]; exact h7)
          rw [c32_get h7] at hcell
          have hxk := HRX2.out _ (List.getElem_mem h7)
          have htk := le4s_take h7
          generalize r2[k] = x at hcell hxk htk
          obtain ⟨D, hD⟩ : ∃ D, data ++ le4s (r2.take k) = D := ⟨_, rfl⟩
          have hD2 : data ++ le4s (r2.take (k + 1)) = D ++ leB (x : Int) 4 := by rw [htk, ← List.append_assoc, hD]
          have hDl : D.length ≤ 5368709128 := by rw [← hD, List.length_append]; omega
          rw [hD] at hb
          have HD2 := hid hD2
          have HB1 := hid hb
          have HO1 := hid ho
          clear hb ho htk hcs hD hD2 hll
          go_wp2_with fail
          refine (alloc_any b (o + 1) 4 D Fb' (fp b o [.int .i64 rs] :: fp b (o + 67) [.int .i64 nE, .slice pA prev.length pc, .slice (some ⟨g, o', none⟩) r2.length rc', .slice (some ⟨sg, so, none⟩) 30 30] :: (Fp ++ Fq' ++ R)) w0 _ HB1.out (HO1.out.perm (perm_of fun _ _ z => by simp only [List.count_append, List.count_cons, List.cons_append]; omega)) (by omega) (by omega)).mono ?_
          rintro e w3 ⟨S, J, F3, rfl, hG, hO3⟩
          obtain ⟨g1, g2, g3, g4, g5⟩ := hG
          have HG := hid (show BufG b (o + 1) D (D.length + 4) S J F3 from ⟨g1, g2, g3, g4, g5⟩)
          rw [g5] at hO3
          have HO3 := hid hO3
          clear hO3 g5 g4
          go_wp2_with fail
          refine (put32 S D.length _ 4 _ (x : Int) (fp b (o + 1) [.slice (some ⟨S.g, S.off, none⟩) (D.length + 4) S.cs.length, .int .i64 0] :: (J ++ (fp b o [.int .i64 rs] :: fp b (o + 67) [.int .i64 nE, .slice pA prev.length pc, .slice (some ⟨g, o', none⟩) r2.length rc', .slice (some ⟨sg, so, none⟩) 30 30] :: (Fp ++ Fq' ++ R)))) w0 _ rfl (HO3.out.perm (perm_of fun _ _ z => by simp only [List.count_append, List.count_cons, List.cons_append]; omega)) (by omega) (by omega) (by omega) (by omega)).mono ?_
          rintro e w4 ⟨rfl, hO5⟩
          have hO6 := HG.out.fill (p := leB (x : Int) 4) (R := fp b o [.int .i64 rs] :: fp b (o + 67) [.int .i64 nE, .slice pA prev.length pc, .slice (some ⟨g, o', none⟩) r2.length rc', .slice (some ⟨sg, so, none⟩) 30 30] :: (Fp ++ Fq' ++ R)) (leB_length _ _) (by rw [HG.out.2.2.2.2]; exact hO5)
          have HO6 := hid hO6
          clear hO5 hO6
          go_wp2_with fail
          obtain ⟨F6, h6, h7⟩ := HO6.out
          rw [← HD2.out] at h6
          exact ⟨⟨k + 1, F6, rfl, by omega, h6, h7.perm (perm_of fun _ _ z => by simp only [List.count_append, List.count_cons, List.cons_append]; omega)⟩, by simp [intOf]; omega⟩
        · have h7' : ¬ (k : Int) < (r2.length : Int) := by omega
          have hk2 : k = r2.length := by omega
          rw [hk2, List.take_length] at hb
          have HB1 := hid hb
          have HO1 := hid ho
          clear hb ho hk2 hll
          go_wp2
          go_end0
          refine ⟨rfl, _, ⟨pA, pc, rA', rc', Fb', Fp, Fq', ?_, HP.out, ?_, ?_⟩, HO1.out⟩
          · rw [HR1.out, HR2.out]; exact HB1.out
          · rw [HR1.out, HR2.out]; exact HQ.out
          · rw [HR1.out, HR2.out]
end Go.Proofs.YtloflmcgbbbnjaaDoor
