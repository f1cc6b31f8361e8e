/-
  util.Buffer, written to: its bytes lie nowhere, in its own bootstrap, or in a block of its own. makeSlice, Len, grow.
  util.Buffer, written to: Alloc, Bytes, Len.
  util.Buffer, written to: Write.
  util.Buffer: all of it.
  PLAIN: numbers in bytes, the low one first; the hash of LevelDB, as both texts reckon it.
  PutUvarint, PutUint32: into cells that are owned.
  spec.Shared, sharedPrefixLen: how much two keys share at their heads.
  The laws over what is owned, as steps of a region that draws its order.
  PLAIN: what a block of a table is, as the reference writes it. No Go in sight.
-/
import Derived.Test.YtloflmcgbbbnjaaDoorTabM2
import Derived.StillTailTactics
import Derived.Defers
import Derived.Recover
import Derived.Test.YtloflmcgbbbnjaaDoorTabM1
import Derived.Lib.EndianBits
import Derived.Deep.RegionLaw
import Derived.Deep.RegionWith
import Derived.Deep.RegionHeld3
namespace Go.Proofs.YtloflmcgbbbnjaaDoor
open Go.RowKit Plain

theorem makeSlice_idle (w : World) :
    CallsD Tryd.prog 138 #[] .returning w fun e u' w' => e = .returned (.tuple #[]) ∧ u' = .returning ∧ w' = w := by
  refine callsD_of_wpS Tryd.func138 rfl fun c₀ cs hu => ?_
  apply wpS_seq
  apply wpS_region
  simp [wpOpsS, go_sem, recoverD, hu, Tryd.ntmps138, Exit.thenS]
  refine wpS_cond (t := false) (by simp [Act.eval, Array.replicate]) ?_
  simp only [Bool.false_eq_true, if_false]
  refine wpS_of_wp (wp_skip ?_)
  cases c₀
  simp_all [bodyPostS, results, Tryd.results138]

set_option maxHeartbeats 800000 in
theorem makeSlice_any (n : Nat) (hn : n ≤ 140737488355328) (w : World) :
    Calls Tryd.prog 131 #[.int .i64 n] w fun e w' => ∃ g, e = .returned (.slice (some ⟨g, 0, none⟩) n n) ∧ Own [fw g 5 (List.replicate n (.int .u8 0))] w w' := by
  have hmf : ∀ (fn : Fn) (first cap : Array Value) (w : World), (Instr.makeFunc fn first cap).run Tryd.prog w = .ok (.func fn first cap) w := fun _ _ _ _ => rfl
  go_enter_defers Tryd.func131, Tryd.ntmps131
  go_wp2_with (at_make; refine own_make (R := []) (w0 := w) rfl _ _ _ rfl 5 (.int .u8 0) 1 Tryd.underlying25 Tryd.info_u8 rfl _ _ _ _ n n rfl rfl rfl rfl (Nat.le_refl _) (by omega) (by omega) (Own.start w) ?_; intro g w1 hO1)
  refine leaves_cons (f := 138) (args := #[]) (by simp) (by simp [go_sem]) ?_
  refine (makeSlice_idle _).mono ?_
  rintro e u' w'' ⟨rfl, rfl, rfl⟩
  simp [Leaves, settle, results, Tryd.results131, go_sem]
  exact hO1

theorem makeSlice_n (x : Int) (n : Nat) (hx : x = (n : Int)) (hn : n ≤ 140737488355328) (w : World) :
    Calls Tryd.prog 131 #[.int .i64 x] w fun e w' => ∃ g, e = .returned (.slice (some ⟨g, 0, none⟩) n n) ∧ Own [fw g 5 (List.replicate n (.int .u8 0))] w w' := by
  subst hx; exact makeSlice_any n hn w

theorem bc_zeros (n : Nat) : List.replicate n (Value.int .u8 0) = bc (List.replicate n 0) := by simp [bc]
theorem bc_splice (a b : List UInt8) (i : Nat) : splice (bc a) i (bc b) = bc (splice a i b) := by simp [splice, bc, List.map_take, List.map_drop]
/-- A buffer at ⟨b, o⟩ that is L long; its bytes begin with data; they lie at the head of S. -/
def BufG (b o : Nat) (data : List UInt8) (L : Nat) (S : Fr) (J F : List Fr) : Prop :=
  data.length ≤ L ∧ L ≤ S.cs.length ∧ S.cs.length ≤ 4398046511104 ∧ (S.cs.take data.length = bc data ∧ ∃ full, S.cs = bc full) ∧ F = fp b o [.slice (some ⟨S.g, S.off, none⟩) L S.cs.length, .int .i64 0] :: S :: J
/-- A buffer that has taken nothing yet. -/
def BufN (b o : Nat) (boot : List Value) (F : List Fr) : Prop := (boot.length = 64 ∧ ∃ full, boot = bc full) ∧ F = [fp b o [.slice none 0 0, .int .i64 0], fp b (o + 2) boot]
/-- A buffer at ⟨b, o⟩ with these bytes. -/
def BufF (b o : Nat) (data : List UInt8) (F : List Fr) : Prop := (data = [] ∧ ∃ boot, BufN b o boot F) ∨ ∃ S J, BufG b o data data.length S J F

set_option maxHeartbeats 800000 in
theorem len_raw (b o L c : Nat) (A : Option Addr) (w : World) (c0 : w.cell? ⟨b, o, none⟩ = some (.slice A L c)) (c1 : w.cell? ⟨b, o + 1, none⟩ = some (.int .i64 0)) (hL : L ≤ 4398046511104) :
    Calls Tryd.prog 92 #[.pointer (some ⟨b, o, none⟩)] w fun e w' => e = .returned (.int .i64 L) ∧ Dr w w' := by
  go_enter Tryd.func92, Tryd.ntmps92
  go_wp2
  go_quiet (fail)
  go_wp2
  go_ret
  refine ⟨?_, ⟨_, rfl⟩⟩
  simp

theorem BufG.hdr {b o L : Nat} {data : List UInt8} {S : Fr} {J F R : List Fr} {w0 w : World} (h : BufG b o data L S J F) (hO : Own (F ++ R) w0 w) :
    w.cell? ⟨b, o, none⟩ = some (.slice (some ⟨S.g, S.off, none⟩) L S.cs.length) ∧ w.cell? ⟨b, o + 1, none⟩ = some (.int .i64 0) ∧ (∀ k, w.frozen? ⟨b, k, none⟩ = false) := by
  obtain ⟨_, _, _, _, rfl⟩ := h
  exact ⟨hO.cell 0 rfl 0 rfl (by simp), hO.cell 0 rfl 1 rfl (by simp), fun k => hO.frozen 0 rfl k⟩
theorem BufN.hdr {b o : Nat} {boot : List Value} {F R : List Fr} {w0 w : World} (h : BufN b o boot F) (hO : Own (F ++ R) w0 w) :
    w.cell? ⟨b, o, none⟩ = some (.slice none 0 0) ∧ w.cell? ⟨b, o + 1, none⟩ = some (.int .i64 0) ∧ (∀ k, w.frozen? ⟨b, k, none⟩ = false) := by
  obtain ⟨_, rfl⟩ := h
  exact ⟨hO.cell 0 rfl 0 rfl (by simp), hO.cell 0 rfl 1 rfl (by simp), fun k => hO.frozen 0 rfl k⟩

theorem BufG.le {b o L : Nat} {data : List UInt8} {S : Fr} {J F : List Fr} (h : BufG b o data L S J F) : data.length ≤ L ∧ L ≤ S.cs.length ∧ S.cs.length ≤ 4398046511104 := ⟨h.1, h.2.1, h.2.2.1⟩
/-- The header's length is set. -/
theorem BufG.setLen {b o L L' : Nat} {data : List UInt8} {S : Fr} {J F R : List Fr} {w0 w : World} (h : BufG b o data L S J F) (hO : Own (F ++ R) w0 w) (h1 : data.length ≤ L') (h2 : L' ≤ S.cs.length) :
    ∃ F', BufG b o data L' S J F' ∧ Own (F' ++ R) w0 (w.setCell ⟨b, o, none⟩ (.slice (some ⟨S.g, S.off, none⟩) L' S.cs.length)) := by
  obtain ⟨_, _, h3, h4, rfl⟩ := h
  exact ⟨_, ⟨h1, h2, h3, h4, rfl⟩, hO.set 0 rfl (by simp) _⟩
set_option maxHeartbeats 1600000 in
set_option maxRecDepth 100000 in
theorem grow_room (b o n : Nat) (data : List UInt8) (S : Fr) (J F R : List Fr) (w0 w : World) (h : BufG b o data data.length S J F) (hO : Own (F ++ R) w0 w) (hn : data.length + n ≤ S.cs.length) :
    Calls Tryd.prog 120 #[.pointer (some ⟨b, o, none⟩), .int .i64 n] w fun e w' => e = .returned (.int .i64 (data.length : Int)) ∧
      ∃ F', BufG b o data (data.length + n) S J F' ∧ Own (F' ++ R) w0 w' := by
  obtain ⟨c0, c1, f0⟩ := h.hdr hO
  obtain ⟨_, _, h3⟩ := h.le
  have HG := hid h
  have HO := hid hO
  clear hO h
  obtain ⟨L, hL⟩ : ∃ L, data.length = L := ⟨_, rfl⟩
  rw [hL] at c0 hn ⊢
  have HL := hid hL
  clear hL
  have hle : decide ((S.cs.length : Int) < (L : Int) + (n : Int)) = false := decide_eq_false (by omega)
  have e1 : IntKind.i64.wrap ((L : Int) + (n : Int)) = (L : Int) + (n : Int) := i64_id (by omega) (by omega)
  have s1 : (L : Int) + (n : Int) ≤ (S.cs.length : Int) := by omega
  have e2 : ((L : Int) + (n : Int)).toNat = L + n := by omega
  have e3 : 0 ≤ (L : Int) + (n : Int) := by omega
  have e4 : IntKind.i64.wrap (L : Int) = L := i64_id (by omega) (by omega)
  cases hb : ((L : Int) == 0) <;> (
    go_enter Tryd.func120, Tryd.ntmps120
    go_wp2_with (go_at_call 92; refine (len_raw b o L S.cs.length _ _ c0 c1 (by omega)).mono ?_; rintro e w1 ⟨rfl, hd1⟩; have hO1 := HO.out.dr hd1; clear hd1 c0 c1 f0 HO; obtain ⟨c0, c1, f0⟩ := HG.out.hdr hO1; rw [HL.out] at c0; have HO := hid hO1; clear hO1)
    go_quiet (fail)
    go_wp2
    have hO2 := HO.out.drewN nq
    generalize w1.drewN nq = W at hO2 ⊢
    clear c0 c1 f0 HO
    obtain ⟨c0, c1, f0⟩ := HG.out.hdr hO2
    rw [HL.out] at c0
    have HO := hid hO2
    clear hO2
    go_still_tail 16, (by kernel_rfl)
    go_wp2
    go_ret
    obtain ⟨F', hF', hO3⟩ := HG.out.setLen HO.out.drew (L' := data.length + n) (by omega) (by rw [HL.out]; exact hn)
    rw [HL.out] at hF' hO3
    exact ⟨by simp, F', hF', hO3⟩)

theorem BufN.toG {b o : Nat} {boot : List Value} {F R : List Fr} {w0 w : World} (h : BufN b o boot F) (hO : Own (F ++ R) w0 w) :
    ∃ F', BufG b o [] 64 (fp b (o + 2) boot) [] F' ∧ Own (F' ++ R) w0 ((w.setCell ⟨b, o, none⟩ (.slice (some ⟨b, o + 2, none⟩) 64 64)).setCell ⟨b, o + 1, none⟩ (.int .i64 0)) := by
  obtain ⟨⟨h1, hfull⟩, rfl⟩ := h
  have := (hO.set (k := o) 0 rfl (by simp) (.slice (some ⟨b, o + 2, none⟩) 64 64)).set (k := o + 1) 1 rfl (by simp) (.int .i64 0)
  exact ⟨_, ⟨by simp, by simp [h1], by simp [h1], ⟨by simp [bc], hfull⟩, rfl⟩, by simpa [h1] using this⟩
set_option maxHeartbeats 1600000 in
set_option maxRecDepth 100000 in
theorem grow_boot (b o n : Nat) (boot : List Value) (F R : List Fr) (w0 w : World) (h : BufN b o boot F) (hO : Own (F ++ R) w0 w) (hn0 : 0 < n) (hn : n ≤ 64) :
    Calls Tryd.prog 120 #[.pointer (some ⟨b, o, none⟩), .int .i64 n] w fun e w' => e = .returned (.int .i64 0) ∧
      ∃ F', BufG b o [] n (fp b (o + 2) boot) [] F' ∧ Own (F' ++ R) w0 w' := by
  obtain ⟨c0, c1, f0⟩ := h.hdr hO
  have HG := hid h
  have HO := hid hO
  clear hO h
  have en := fun W x n c => Lib.run_eql_slice_nil (P := Tryd.prog) W 25 5 x n c 0 0 Tryd.underlying25
  have e2 : ((n : Nat) : Int).toNat = n := by omega
  have e4 : IntKind.i64.wrap (n : Int) = n := i64_id (by omega) (by omega)
  have s1 : (n : Int) ≤ 64 := by omega
  have s0 : 0 < (n : Int) := by omega
  go_enter Tryd.func120, Tryd.ntmps120
  go_wp2_with (go_at_call 92; refine (len_raw b o 0 0 _ _ c0 c1 (by omega)).mono ?_; rintro e w1 ⟨rfl, hd1⟩; have hO1 := HO.out.dr hd1; clear hd1 c0 c1 f0 HO; obtain ⟨c0, c1, f0⟩ := HG.out.hdr hO1; have HO := hid hO1; clear hO1)
  go_quiet (fail)
  go_wp2
  obtain ⟨F1, hF1, hO2⟩ := HG.out.toG (HO.out.drewN nq)
  generalize ((w1.drewN nq).setCell ⟨b, o, none⟩ (.slice (some ⟨b, o + 2, none⟩) 64 64)).setCell ⟨b, o + 1, none⟩ (.int .i64 0) = W at hO2 ⊢
  have h64 : boot.length = 64 := HG.out.1.1
  clear c0 c1 f0 HO HG
  obtain ⟨c0, c1, f0⟩ := hF1.hdr hO2
  simp only [h64] at c0
  have HO := hid hO2
  have HG := hid hF1
  have H64 := hid h64
  clear hO2 hF1 h64
  have e5 : IntKind.i64.wrap 0 = 0 := rfl
  go_still_tail 16, (by kernel_rfl)
  go_wp2
  go_ret
  obtain ⟨F', hF', hO3⟩ := HG.out.setLen HO.out.drew (L' := n) (by simp) (by simp only [H64.out]; exact hn)
  simp only [H64.out] at hO3
  exact ⟨rfl, F', hF', hO3⟩
theorem buf_home {b o L : Nat} {v0 v1 : Value} {J R : List Fr} {S : Fr} {data : List UInt8} {w0 w : World} (hO : Own (S :: (fp b o [v0, v1] :: J ++ R)) w0 w) (h1 : data.length ≤ L) (h2 : L ≤ S.cs.length) (h3 : S.cs.length ≤ 4398046511104) (h4 : S.cs.take data.length = bc data) (h5 : ∃ full, S.cs = bc full) :
    ∃ F', BufG b o data L S J F' ∧ Own (F' ++ R) w0 ((w.setCell ⟨b, o, none⟩ (.slice (some ⟨S.g, S.off, none⟩) L S.cs.length)).setCell ⟨b, o + 1, none⟩ (.int .i64 0)) := by
  have := (hO.swap01.set (k := o) 0 rfl (by simp) (.slice (some ⟨S.g, S.off, none⟩) L S.cs.length)).set (k := o + 1) 1 rfl (by simp) (.int .i64 0)
  exact ⟨_, ⟨h1, h2, h3, ⟨h4, h5⟩, rfl⟩, this⟩
set_option maxHeartbeats 1600000 in
set_option maxRecDepth 100000 in
/-- Nothing taken yet, and more than the bootstrap holds. -/
theorem grow_first (b o n : Nat) (boot : List Value) (F R : List Fr) (w0 w : World) (h : BufN b o boot F) (hO : Own (F ++ R) w0 w) (hn0 : 64 < n) (hn : n ≤ 1099511627776) :
    Calls Tryd.prog 120 #[.pointer (some ⟨b, o, none⟩), .int .i64 n] w fun e w' => e = .returned (.int .i64 0) ∧
      ∃ S J F', BufG b o [] n S J F' ∧ Own (F' ++ R) w0 w' := by
  obtain ⟨c0, c1, f0⟩ := h.hdr hO
  have HG := hid h
  have HO := hid hO
  clear hO h
  have en := fun W x n c => Lib.run_eql_slice_nil (P := Tryd.prog) W 25 5 x n c 0 0 Tryd.underlying25
  have e2 : ((n : Nat) : Int).toNat = n := by omega
  have e4 : IntKind.i64.wrap (n : Int) = n := i64_id (by omega) (by omega)
  have s1 : ¬ (n : Int) ≤ 64 := by omega
  have s0 : 0 < (n : Int) := by omega
  go_enter Tryd.func120, Tryd.ntmps120
  go_wp2_with (go_at_call 92; refine (len_raw b o 0 0 _ _ c0 c1 (by omega)).mono ?_; rintro e w1 ⟨rfl, hd1⟩; have hO1 := HO.out.dr hd1; clear hd1 c0 c1 f0 HO; obtain ⟨c0, c1, f0⟩ := HG.out.hdr hO1; have HO := hid hO1; clear hO1)
  go_quiet (fail)
  go_wp2_with (go_at_call 131; refine (makeSlice_any n (by omega) _).mono ?_; rintro e w2 ⟨g, rfl, hN⟩; have hO1 := (HO.out.drewN nq).join hN; clear hN c0 c1 f0 HO)
  have hN : BufN b o boot F := HG.out
  have hh := hN.hdr (F := F) (R := [fw g 5 (List.replicate n (Value.int IntKind.u8 0))] ++ R) (hO1.perm (perm_of fun _ _ z => by simp only [List.count_append, List.count_cons, List.count_nil]; omega))
  obtain ⟨c0, c1, f0⟩ := hh
  have HO := hid hO1
  clear hO1 hN
  have e5 : IntKind.i64.wrap 0 = 0 := rfl
  go_still_tail 10, (by kernel_rfl)
  go_wp2_with (refine own_copy rfl (.tmp 86) (.tmp 95) 25 25 rfl 5 Tryd.underlying25 Tryd.size_u8 (fw g 5 (List.replicate n (Value.int IntKind.u8 0))) 0 0 n n none 0 0 rfl rfl rfl HO.out.drew [] (BsAt.nil _ _) (by simp) (by simp) ?_; intro w3 hO3; have HO := hid hO3; clear hO3 c0 c1 f0; obtain ⟨c0, c1, f0⟩ := HG.out.hdr HO.out.drop)
  obtain ⟨F1, J, hF1, hO2⟩ : ∃ F1 J, BufG b o [] n (fw g 5 (List.replicate n (Value.int IntKind.u8 0))) J F1 ∧ Own (F1 ++ R) w0 ((w3.setCell ⟨b, o, none⟩ (.slice (some ⟨g, 0, none⟩) n n)).setCell ⟨b, o + 1, none⟩ (.int .i64 0)) := by
    obtain ⟨h64, rfl⟩ := HG.out
    have h1 := HO.out
    have e : splice (List.replicate n (Value.int IntKind.u8 0)) 0 (bc []) = List.replicate n (Value.int IntKind.u8 0) := by simp [splice, bc]
    rw [e] at h1
    obtain ⟨F1, h2, h3⟩ := buf_home (L := n) (data := []) (S := fw g 5 (List.replicate n (Value.int IntKind.u8 0))) (J := [fp b (o + 2) boot]) h1 (by simp) (by simp) (by simp; omega) (by simp [bc]) ⟨_, bc_zeros n⟩
    simp only [List.length_replicate] at h3
    exact ⟨F1, _, h2, h3⟩
  generalize (w3.setCell ⟨b, o, none⟩ (.slice (some ⟨g, 0, none⟩) n n)).setCell ⟨b, o + 1, none⟩ (.int .i64 0) = W at hO2 ⊢
  clear c0 c1 f0 HO HG
  obtain ⟨c0, c1, f0⟩ := hF1.hdr hO2
  simp only [List.length_replicate] at c0
  have HO := hid hO2
  have HG := hid hF1
  clear hO2 hF1
  go_still_tail 16, (by kernel_rfl)
  go_wp2
  go_ret
  obtain ⟨F', hF', hO3⟩ := HG.out.setLen HO.out.drew (L' := n) (by simp) (by simp)
  simp only [List.length_replicate] at hO3
  exact ⟨rfl, _, _, F', hF', hO3⟩
set_option maxHeartbeats 3200000 in
set_option maxRecDepth 100000 in
/-- No room: a greater block. -/
theorem grow_more (b o n : Nat) (data : List UInt8) (S : Fr) (J F R : List Fr) (w0 w : World) (h : BufG b o data data.length S J F) (hO : Own (F ++ R) w0 w) (hn : S.cs.length < data.length + n) (hm : data.length + n ≤ 1099511627776) :
    Calls Tryd.prog 120 #[.pointer (some ⟨b, o, none⟩), .int .i64 n] w fun e w' => e = .returned (.int .i64 (data.length : Int)) ∧
      ∃ S' J' F', BufG b o data (data.length + n) S' J' F' ∧ Own (F' ++ R) w0 w' := by
  obtain ⟨c0, c1, f0⟩ := h.hdr hO
  obtain ⟨_, h2, h3⟩ := h.le
  have hbs : BsAt w (some ⟨S.g, S.off, none⟩) data := by
    obtain ⟨_, _, _, h4, rfl⟩ := h
    exact Rd.fr (x := S) (R := [S]) (w0 := w0) (by simp) (i := 0) rfl (by omega) (by simpa using h4.1) w hO.only (fun x hx => by simp at hx; subst hx; exact hO.ins _ (by simp))
  have HG := hid h
  have HO := hid hO
  clear hO h
  obtain ⟨L, hL⟩ : ∃ L, data.length = L := ⟨_, rfl⟩
  obtain ⟨C, hC⟩ : ∃ C, S.cs.length = C := ⟨_, rfl⟩
  rw [hL] at c0 hn hm h2 ⊢
  rw [hC] at c0 hn h2 h3
  have HL := hid hL
  have HC := hid hC
  clear hL hC
  have en := fun W x n c => Lib.run_eql_slice_nil (P := Tryd.prog) W 25 5 x n c 0 0 Tryd.underlying25
  have hle : decide ((C : Int) < (L : Int) + (n : Int)) = true := decide_eq_true (by omega)
  have e1 : IntKind.i64.wrap ((L : Int) + (n : Int)) = (L : Int) + (n : Int) := i64_id (by omega) (by omega)
  have s5 : ¬ (L : Int) + (n : Int) ≤ (C : Int) / 2 := by omega
  have m1 : IntKind.i64.wrap (2 * (C : Int)) = 2 * (C : Int) := i64_id (by omega) (by omega)
  have m2 : IntKind.i64.wrap (2 * (C : Int) + (n : Int)) = ((2 * C + n : Nat) : Int) := by rw [i64_id (by omega) (by omega)]; omega
  cases hb : ((L : Int) == 0) <;> (
    go_enter Tryd.func120, Tryd.ntmps120
    go_wp2_with (go_at_call 92; refine (len_raw b o L C _ _ c0 c1 (by omega)).mono ?_; rintro e w1 ⟨rfl, hd1⟩; have hO1 := HO.out.dr hd1; replace hbs := hbs.dr hd1; clear hd1 c0 c1 f0 HO; obtain ⟨c0, c1, f0⟩ := HG.out.hdr hO1; rw [HL.out, HC.out] at c0; have HO := hid hO1; clear hO1)
    go_quiet (fail)
    go_wp2_with (go_at_call 131; refine (makeSlice_n _ (2 * C + n) (by omega) (by omega) _).mono ?_; rintro e w2 ⟨g, rfl, hN⟩; have hO1 := (HO.out.drewN nq).join hN; replace hbs := (hbs.drewN nq).keep0 hN.only; clear hN c0 c1 f0 HO; obtain ⟨c0, c1, f0⟩ := HG.out.hdr hO1.drop; rw [HL.out, HC.out] at c0; have HO := hid hO1; clear hO1)
    have e5 : IntKind.i64.wrap 0 = 0 := rfl
    go_still_tail 10, (by kernel_rfl)
    go_wp2_with (refine own_copy rfl (.tmp 86) (.tmp 95) 25 25 rfl 5 Tryd.underlying25 Tryd.size_u8 (fw g 5 (List.replicate (2 * C + n) (Value.int IntKind.u8 0))) 0 0 (2 * C + n) (2 * C + n) (some ⟨S.g, S.off, none⟩) L C rfl rfl rfl HO.out.drew data hbs.drew (by rw [HL.out]; omega) (by rw [HL.out]; simp; omega) ?_; intro w3 hO3; have HO := hid hO3; clear hO3 c0 c1 f0 hbs; obtain ⟨c0, c1, f0⟩ := HG.out.hdr HO.out.drop; rw [HL.out, HC.out] at c0)
    obtain ⟨S1, F1, J1, hF1, hS1, hO2⟩ : ∃ S1 F1 J1, BufG b o data (2 * C + n) S1 J1 F1 ∧ S1.cs.length = 2 * C + n ∧ Own (F1 ++ R) w0 ((w3.setCell ⟨b, o, none⟩ (.slice (some ⟨g, 0, none⟩) (2 * C + n) (2 * C + n))).setCell ⟨b, o + 1, none⟩ (.int .i64 0)) := by
      obtain ⟨_, _, _, _, rfl⟩ := HG.out
      have hl : (splice (List.replicate (2 * C + n) (Value.int IntKind.u8 0)) 0 (bc data)).length = 2 * C + n := by rw [length_splice _ _ _ (by rw [bc_length, HL.out]; simp; omega)]; simp
      obtain ⟨F1, h2, h3⟩ := buf_home (L := 2 * C + n) (data := data) HO.out (by rw [HL.out]; omega) (by simp only [hl]; omega) (by simp only [hl]; omega) (by
        have := splice_take0 (List.replicate (2 * C + n) (Value.int IntKind.u8 0)) (bc data) (by rw [bc_length, HL.out]; simp; omega)
        rwa [bc_length] at this) ⟨_, by rw [bc_zeros, bc_splice]⟩
      simp only [hl] at h3
      exact ⟨_, F1, _, h2, hl, h3⟩
    generalize (w3.setCell ⟨b, o, none⟩ (.slice (some ⟨g, 0, none⟩) (2 * C + n) (2 * C + n))).setCell ⟨b, o + 1, none⟩ (.int .i64 0) = W at hO2 ⊢
    clear c0 c1 f0 HO HG hle s5 m1 m2 en
    obtain ⟨c0, c1, f0⟩ := hF1.hdr hO2
    rw [hS1] at c0
    have HO := hid hO2
    have HG := hid hF1
    have HS := hid hS1
    clear hO2 hF1 hS1
    have s1 : (L : Int) + (n : Int) ≤ 2 * (C : Int) + (n : Int) := by omega
    have s2 : (L : Int) + (n : Int) ≤ ((2 * C + n : Nat) : Int) := by omega
    have e2 : ((L : Int) + (n : Int)).toNat = L + n := by omega
    have e3 : 0 ≤ (L : Int) + (n : Int) := by omega
    have e4 : IntKind.i64.wrap (L : Int) = L := i64_id (by omega) (by omega)
    go_still_tail 16, (by kernel_rfl)
    go_wp2
    go_ret
    obtain ⟨F', hF', hO3⟩ := HG.out.setLen HO.out.drew (L' := data.length + n) (by omega) (by rw [HS.out, HL.out]; omega)
    rw [HL.out] at hF' hO3
    rw [HS.out] at hO3
    exact ⟨by simp, _, _, F', hF', hO3⟩)
/-- Room for n bytes more. -/
theorem grow_any (b o n : Nat) (data : List UInt8) (F R : List Fr) (w0 w : World) (h : BufF b o data F) (hO : Own (F ++ R) w0 w) (hn : 0 < n ∨ data ≠ []) (hm : data.length + n ≤ 1099511627776) :
    Calls Tryd.prog 120 #[.pointer (some ⟨b, o, none⟩), .int .i64 n] w fun e w' => e = .returned (.int .i64 (data.length : Int)) ∧
      ∃ S' J' F', BufG b o data (data.length + n) S' J' F' ∧ Own (F' ++ R) w0 w' := by
  rcases h with ⟨rfl, boot, h⟩ | ⟨S, J, h⟩
  · replace hn : 0 < n := by simpa using hn
    by_cases h64 : n ≤ 64
    · refine (grow_boot b o n boot F R w0 w h hO hn h64).mono ?_
      rintro e w' ⟨rfl, F', h1, h2⟩
      exact ⟨rfl, _, _, F', by simpa using h1, h2⟩
    · refine (grow_first b o n boot F R w0 w h hO (by omega) (by simpa using hm)).mono ?_
      rintro e w' ⟨rfl, S, J, F', h1, h2⟩
      exact ⟨rfl, _, _, F', by simpa using h1, h2⟩
  · by_cases hc : data.length + n ≤ S.cs.length
    · refine (grow_room b o n data S J F R w0 w h hO hc).mono ?_
      rintro e w' ⟨rfl, F', h1, h2⟩
      exact ⟨rfl, _, _, F', h1, h2⟩
    · exact grow_more b o n data S J F R w0 w h hO (by omega) hm
end Go.Proofs.YtloflmcgbbbnjaaDoor
namespace Go.Proofs.YtloflmcgbbbnjaaDoor
open Go.RowKit Plain

theorem BufF.of {b o : Nat} {data : List UInt8} {S : Fr} {J F : List Fr} (h : BufG b o data data.length S J F) : BufF b o data F := .inr ⟨S, J, h⟩
theorem BufF.some_ {b o : Nat} {data : List UInt8} {F : List Fr} (h : BufF b o data F) (hd : data ≠ []) : ∃ S J, BufG b o data data.length S J F := by
  rcases h with ⟨h, _⟩ | h
  · exact absurd h hd
  · exact h
set_option maxHeartbeats 1600000 in
theorem alloc_any (b o n : Nat) (data : List UInt8) (F R : List Fr) (w0 w : World) (h : BufF b o data F) (hO : Own (F ++ R) w0 w) (hn : 0 < n) (hm : data.length + n ≤ 1099511627776) :
    Calls Tryd.prog 105 #[.pointer (some ⟨b, o, none⟩), .int .i64 n] w fun e w' => ∃ S J F', e = .returned (.slice (some ⟨S.g, S.off + data.length, none⟩) n (S.cs.length - data.length)) ∧
      BufG b o data (data.length + n) S J F' ∧ Own (F' ++ R) w0 w' := by
  have HC := hid (grow_any b o n data F R w0 w h hO (.inl hn) hm)
  clear h hO
  have hn' : ¬ (n : Int) < 0 := by omega
  go_enter Tryd.func105, Tryd.ntmps105
  go_wp2_with (first
    | (go_at_call 120; refine HC.out.mono ?_; rintro e w1 ⟨rfl, S, J, F1, hG, hO1⟩
       obtain ⟨c0, c1, f0⟩ := hG.hdr hO1
       obtain ⟨_, hle, hc⟩ := hG.le
       have hcap : ¬ S.cs.length = data.length := by omega
       have HG := hid hG
       have HO := hid hO1
       clear hG hO1))
  go_ret
  exact ⟨S, J, F1, by simp, HG.out, HO.out⟩
/-- What was laid by Alloc is filled. -/
theorem BufG.fill {b o n : Nat} {data p : List UInt8} {S : Fr} {J F R : List Fr} {w0 w : World} (h : BufG b o data (data.length + n) S J F) (hp : p.length = n)
    (hO : Own ({ S with cs := splice S.cs data.length (bc p) } :: (F.eraseIdx 1 ++ R)) w0 w) : ∃ F', BufF b o (data ++ p) F' ∧ Own (F' ++ R) w0 w := by
  obtain ⟨h1, h2, h3, h4, rfl⟩ := h
  have hl : (splice S.cs data.length (bc p)).length = S.cs.length := length_splice _ _ _ (by rw [bc_length]; omega)
  refine ⟨_, .of (S := { S with cs := splice S.cs data.length (bc p) }) (J := J) ⟨Nat.le_refl _, ?_, ?_, ⟨?_, by obtain ⟨full, hf⟩ := h4.2; exact ⟨_, by simp only [hf, bc_splice]; rfl⟩⟩, rfl⟩, ?_⟩
  · rw [List.length_append]; simp only [hl]; omega
  · simp only [hl]; omega
  · have := splice_take S.cs data.length (bc p) (by rw [bc_length]; omega)
    rw [bc_length, h4.1, ← bc_append] at this
    rw [List.length_append]; exact this
  · simp only [hl, List.length_append, hp]
    exact hO.swap01
set_option maxHeartbeats 800000 in
theorem bytes_any (b o L c : Nat) (A : Option Addr) (w : World) (c0 : w.cell? ⟨b, o, none⟩ = some (.slice A L c)) (c1 : w.cell? ⟨b, o + 1, none⟩ = some (.int .i64 0)) :
    Calls Tryd.prog 78 #[.pointer (some ⟨b, o, none⟩)] w fun e w' => e = .returned (.slice A L c) ∧ Dr w w' := by
  go_enter Tryd.func78, Tryd.ntmps78
  go_wp2
  go_quiet (fail)
  go_wp2
  go_ret
  refine ⟨?_, ⟨_, rfl⟩⟩
  cases A <;> simp
theorem len_buf (b o : Nat) (data : List UInt8) (F R : List Fr) (w0 w : World) (h : BufF b o data F) (hO : Own (F ++ R) w0 w) (hm : data.length ≤ 4398046511104) :
    Calls Tryd.prog 92 #[.pointer (some ⟨b, o, none⟩)] w fun e w' => e = .returned (.int .i64 (data.length : Int)) ∧ Dr w w' := by
  rcases h with ⟨rfl, boot, h⟩ | ⟨S, J, h⟩
  · obtain ⟨c0, c1, _⟩ := h.hdr hO
    exact len_raw b o 0 0 none w c0 c1 (by omega)
  · obtain ⟨c0, c1, _⟩ := h.hdr hO
    exact len_raw b o data.length S.cs.length _ w c0 c1 hm
theorem bytes_buf (b o : Nat) (data : List UInt8) (F R : List Fr) (w0 w : World) (h : BufF b o data F) (hO : Own (F ++ R) w0 w) :
    Calls Tryd.prog 78 #[.pointer (some ⟨b, o, none⟩)] w fun e w' => ∃ A c, e = .returned (.slice A data.length c) ∧ data.length ≤ c ∧ Rd F w0 A data ∧ Dr w w' := by
  rcases h with ⟨rfl, boot, h⟩ | ⟨S, J, h⟩
  · obtain ⟨c0, c1, _⟩ := h.hdr hO
    exact (bytes_any b o 0 0 none w c0 c1).mono fun e w' ⟨he, hd⟩ => ⟨none, 0, he, Nat.le_refl _, Rd.nil _ _ _, hd⟩
  · obtain ⟨c0, c1, _⟩ := h.hdr hO
    refine (bytes_any b o data.length S.cs.length _ w c0 c1).mono fun e w' ⟨he, hd⟩ => ⟨_, _, he, h.2.1, ?_, hd⟩
    obtain ⟨_, h2, _, h4, rfl⟩ := h
    exact Rd.fr (x := S) (by simp) (i := 0) rfl (by omega) (by simpa using h4.1)
end Go.Proofs.YtloflmcgbbbnjaaDoor
namespace Go.Proofs.YtloflmcgbbbnjaaDoor
open Go.RowKit Plain

set_option maxHeartbeats 1600000 in
theorem write_some (b o pc : Nat) (pA : Option Addr) (data p : List UInt8) (F R : List Fr) (w0 w : World) (h : BufF b o data F) (hO : Own (F ++ R) w0 w) (hp : Rd R w0 pA p) (hp0 : 0 < p.length) (hm : data.length + p.length ≤ 1099511627776) :
    Calls Tryd.prog 104 #[.pointer (some ⟨b, o, none⟩), .slice pA p.length pc] w fun e w' => e = .returned (.tuple #[.int .i64 (p.length : Int), .nilIface]) ∧
      ∃ F', BufF b o (data ++ p) F' ∧ Own (F' ++ R) w0 w' := by
  have HC := hid (grow_any b o p.length data F R w0 w h hO (.inl hp0) hm)
  clear h hO
  go_enter Tryd.func104, Tryd.ntmps104
  go_wp2_with (first
    | (go_at_call 120; refine HC.out.mono ?_; rintro e w1 ⟨rfl, S, J, F1, hG, hO1⟩
       obtain ⟨c0, c1, f0⟩ := hG.hdr hO1
       obtain ⟨_, hle, hc⟩ := hG.le
       have hcap : ¬ S.cs.length = data.length := by omega
       have hbp := hO1.stR hp
       have HG := hid hG
       have HO := hid hO1
       clear hG hO1)
    | (refine own_copy rfl (.tmp 16) (.tmp 17) 25 25 rfl 5 Tryd.underlying25 Tryd.size_u8 S data.length (S.off + data.length) p.length (S.cs.length - data.length) pA p.length pc rfl rfl rfl (R := [fp b o [.slice (some ⟨S.g, S.off, none⟩) (data.length + p.length) S.cs.length, .int .i64 0]] ++ (J ++ R)) (HO.out.perm (by rw [HG.out.2.2.2.2]; exact List.Perm.swap _ _ _)) p hbp (by omega) (by omega) ?_; intro w2 hO2; have HO2 := hid hO2; clear hO2))
  go_ret2
  refine ⟨rfl, ?_⟩
  obtain ⟨h1, h2, h3, h4, h5⟩ := HG.out
  have hl : (splice S.cs data.length (bc p)).length = S.cs.length := length_splice _ _ _ (by rw [bc_length]; omega)
  refine ⟨_, .of (S := { S with cs := splice S.cs data.length (bc p) }) (J := J) ⟨Nat.le_refl _, ?_, ?_, ⟨?_, by obtain ⟨full, hf⟩ := h4.2; exact ⟨_, by simp only [hf, bc_splice]; rfl⟩⟩, rfl⟩, ?_⟩
  · rw [List.length_append]; simp only [hl]; omega
  · simp only [hl]; omega
  · have := splice_take S.cs data.length (bc p) (by rw [bc_length]; omega)
    rw [bc_length, h4.1, ← bc_append] at this
    rw [List.length_append]; exact this
  · simp only [hl, List.length_append]
    exact HO2.out.perm (List.Perm.swap _ _ _)
set_option maxHeartbeats 1600000 in
/-- Nothing written. -/
theorem write_none (b o pc : Nat) (pA : Option Addr) (data : List UInt8) (F R : List Fr) (w0 w : World) (h : BufF b o data F) (hd : data ≠ []) (hO : Own (F ++ R) w0 w) (hm : data.length ≤ 1099511627776) :
    Calls Tryd.prog 104 #[.pointer (some ⟨b, o, none⟩), .slice pA 0 pc] w fun e w' => e = .returned (.tuple #[.int .i64 0, .nilIface]) ∧
      ∃ F', BufF b o data F' ∧ Own (F' ++ R) w0 w' := by
  have HC := hid (grow_any b o 0 data F R w0 w h hO (.inr hd) hm)
  clear h hO
  go_enter Tryd.func104, Tryd.ntmps104
  go_wp2_with (first
    | (go_at_call 120; refine HC.out.mono ?_; rintro e w1 ⟨rfl, S, J, F1, hG, hO1⟩
       obtain ⟨c0, c1, f0⟩ := hG.hdr hO1
       obtain ⟨_, hle, hc⟩ := hG.le
       have HG := hid hG
       have HO := hid hO1
       clear hG hO1)
    | (refine wpList_copy_nothing rfl (.tmp 16) (.tmp 17) 25 25 rfl 5 Tryd.underlying25 Tryd.size_u8 _ _ _ _ _ _ rfl rfl (by simp) ?_))
  all_goals
    go_ret2
    exact ⟨rfl, _, .of HG.out, HO.out⟩
theorem write_any (b o n pc : Nat) (pA : Option Addr) (data p : List UInt8) (F R : List Fr) (w0 w : World) (h : BufF b o data F) (hO : Own (F ++ R) w0 w) (hp : Rd R w0 pA p) (hn : n = p.length) (hne : p ≠ [] ∨ data ≠ []) (hm : data.length + p.length ≤ 1099511627776) :
    Calls Tryd.prog 104 #[.pointer (some ⟨b, o, none⟩), .slice pA n pc] w fun e w' => e = .returned (.tuple #[.int .i64 (p.length : Int), .nilIface]) ∧
      ∃ F', BufF b o (data ++ p) F' ∧ Own (F' ++ R) w0 w' := by
  subst hn
  cases p with
  | nil =>
    have := write_none b o pc pA data F R w0 w h (by simpa using hne) hO (by simpa using hm)
    simpa using this
  | cons x p => exact write_some b o pc pA data (x :: p) F R w0 w h hO hp (by simp) hm
end Go.Proofs.YtloflmcgbbbnjaaDoor

namespace Go.Proofs.YtloflmcgbbbnjaaDoor.Plain
open Go

/-- The number that bytes spell, the low one first. -/
def leI : List UInt8 → Int
  | [] => 0
  | b :: r => (b.toNat : Int) + 256 * leI r
theorem leI_nonneg (l : List UInt8) : 0 ≤ leI l := by
  induction l with
  | nil => simp [leI]
  | cons b r ih => simp only [leI]; omega
theorem leI_lt_of {l : List UInt8} {n : Nat} (h : l.length ≤ n) : leI l < 256 ^ n := by
  induction l generalizing n with
  | nil => simp only [leI]; exact Int.pow_pos (by decide)
  | cons b r ih =>
    cases n with
    | zero => simp at h
    | succ n =>
      have := u8_lt b
      have := ih (n := n) (by simpa using h)
      simp only [leI, Int.pow_succ]
      omega
theorem leI_drop {l : List UInt8} {k : Nat} (h : k < l.length) : leI (l.drop k) = bz l k + 256 * leI (l.drop (k + 1)) := by rw [drop_at h]; rfl
theorem leI_lt7 {l : List UInt8} (h : l.length ≤ 7) : leI l < 72057594037927936 := leI_lt_of h
theorem leI_lt8 {l : List UInt8} (h : l.length ≤ 8) : leI l < 18446744073709551616 := leI_lt_of h
theorem leI_lt4 {l : List UInt8} (h : l.length ≤ 4) : leI l < 4294967296 := leI_lt_of h
theorem leI_take4 {l : List UInt8} (h : 4 ≤ l.length) : leI (l.take 4) = bz l 0 + 256 * bz l 1 + 65536 * bz l 2 + 16777216 * bz l 3 := by
  match l, h with
  | a :: b :: c :: d :: r, _ => simp [leI, bz, at_]; omega

theorem leI_take8 {l : List UInt8} (h : 8 ≤ l.length) : leI (l.take 8) = bz l 0 + 256 * bz l 1 + 65536 * bz l 2 + 16777216 * bz l 3 + 4294967296 * bz l 4 + 1099511627776 * bz l 5 + 281474976710656 * bz l 6 + 72057594037927936 * bz l 7 := by
  match l, h with
  | a :: b :: c :: d :: e :: f :: g :: h :: r, _ => simp [leI, bz, at_]; omega
/-- The bytes of a number, the low one first. -/
def leB (x : Int) : Nat → List UInt8
  | 0 => []
  | k + 1 => leB x k ++ [UInt8.ofNat (x / 256 ^ k % 256).toNat]
theorem leB_length (x : Int) (k : Nat) : (leB x k).length = k := by
  induction k with
  | zero => rfl
  | succ k ih => simp [leB, ih]
theorem byte_of {y : Int} (h0 : 0 ≤ y) (h1 : y < 256) : ((UInt8.ofNat y.toNat).toNat : Int) = y := by
  have : y.toNat < 256 := by omega
  simp [Nat.mod_eq_of_lt this]; omega
theorem leB_head (x : Int) (k : Nat) : leB x (k + 1) = UInt8.ofNat (x % 256).toNat :: leB (x / 256) k := by
  induction k with
  | zero => simp [leB]
  | succ k ih =>
    rw [leB, ih, leB, List.cons_append, Int.pow_succ, Int.mul_comm, ← Int.ediv_ediv_of_nonneg (by decide)]
theorem leI_leB (x : Int) (k : Nat) (h0 : 0 ≤ x) (h1 : x < 256 ^ k) : leI (leB x k) = x := by
  induction k generalizing x with
  | zero => simp [leB, leI] at *; omega
  | succ k ih =>
    rw [leB_head, leI, byte_of (by omega) (by omega), ih (x / 256) (by omega) (by rw [Int.pow_succ] at h1; omega)]
    omega

theorem bits_or_comm (k : IntKind) (x y : Int) : bits .or k x y = bits .or k y x := by simp [bits, BitVec.or_comm]
theorem u64_hi_or8 {x y : Int} (hy₀ : 0 ≤ y) (hy : y < 256) (hx₀ : 0 ≤ x) (hx : x % 256 = 0) (hx₁ : x < 18446744073709551616) : bits .or .u64 x y = x + y := by
  rw [bits_or_comm, u64_or8 (x := x) (y := y) (hy₀ := hy₀) (hy := hy) (hx₀ := hx₀) (hx := hx) (hx₁ := hx₁)]; omega

theorem u64_and255 {x : Int} (h0 : 0 ≤ x) (h1 : x < 18446744073709551616) : bits .and .u64 x 255 = x % 256 := by
  obtain ⟨n, rfl⟩ := Int.eq_ofNat_of_zero_le h0
  have h := (bits_nat .u64 64 (by decide) wraps_u64 n 255 (by omega) (by decide)).1
  rw [show ((255 : Nat) : Int) = 255 from rfl] at h
  rw [h, show (255 : Nat) = 2 ^ 8 - 1 from rfl, Nat.and_two_pow_sub_one_eq_mod]
  omega
def w32 (x : Int) : Int := x % 4294967296
theorem wrap32_eq (x : Int) : IntKind.u32.wrap x = w32 x := by simp [IntKind.wrap, IntKind.bits, IntKind.signed, w32]
theorem w32_lo (x : Int) : 0 ≤ w32 x := by unfold w32; omega
theorem w32_hi (x : Int) : w32 x < 4294967296 := by unfold w32; omega
/-- One step of the hash. -/
def hmul (h d : Int) : Int := w32 (w32 (h + d) * 3332679571)
def hstep (h d : Int) : Int := bits .xor .u32 (hmul h d) (hmul h d / 65536)
def htail (h d : Int) : Int := bits .xor .u32 (hmul h d) (hmul h d / 16777216)
def htailY (y : Int) : Int := bits .xor .u32 (w32 (y * 3332679571)) (w32 (y * 3332679571) / 16777216)
theorem htail_eq (h d y : Int) (e : y = w32 (h + d)) : htailY y = htail h d := by subst e; rfl
/-- The whole hash. -/
def hashAll (h : Int) (l : List UInt8) : Int :=
  if _ : 4 ≤ l.length then hashAll (hstep h (leI (l.take 4))) (l.drop 4)
  else if l = [] then h else htail h (leI l)
  termination_by l.length
theorem hashAll_step {h : Int} {l : List UInt8} (hl : 4 ≤ l.length) : hashAll h l = hashAll (hstep h (leI (l.take 4))) (l.drop 4) := by
  rw [hashAll, dif_pos hl]
theorem hashAll_end {h : Int} {l : List UInt8} (hl : ¬ 4 ≤ l.length) : hashAll h l = if l = [] then h else htail h (leI l) := by
  rw [hashAll, dif_neg hl]
theorem u32_wf_xor (x y : Int) : 0 ≤ bits .xor .u32 x y ∧ bits .xor .u32 x y < 4294967296 := by
  have h : bits .xor .u32 x y = IntKind.u32.wrap (bits .xor .u32 x y) := by simp [bits, IntKind.wrap, IntKind.bits, IntKind.signed]
  rw [h, wrap32_eq]
  exact ⟨w32_lo _, w32_hi _⟩
end Go.Proofs.YtloflmcgbbbnjaaDoor.Plain
namespace Go.Proofs.YtloflmcgbbbnjaaDoor
open Go.RowKit Plain

theorem u8_or128_fin : ∀ y : Fin 256, bits .or .u8 (y.val : Int) 128 = ((y.val % 128 + 128 : Nat) : Int) := by decide +kernel
theorem u8_or128 (m : Nat) : bits .or .u8 ((m : Int) % 256) 128 = ((m % 128 + 128 : Nat) : Int) := by
  have h := u8_or128_fin ⟨m % 256, Nat.mod_lt _ (by decide)⟩
  have e : ((m : Int) % 256) = ((m % 256 : Nat) : Int) := by omega
  rw [e, h]
  congr 1
  show m % 256 % 128 + 128 = m % 128 + 128
  omega

set_option maxHeartbeats 1600000 in
theorem putUv (X : Fr) (i k n c x : Nat) (R : List Fr) (w0 w : World) (hk : k = X.off + i) (hO : Own (X :: R) w0 w) (hfit : i + n ≤ X.cs.length) (hn : (uv x).length ≤ n) (hx : x < 18446744073709551616) (hn63 : n ≤ 4611686018427387904) :
    Calls Tryd.prog 103 #[.slice (some ⟨X.g, k, none⟩) n c, .int .u64 x] w fun e w' => e = .returned (.int .i64 ((uv x).length : Int)) ∧ Own ({ X with cs := splice X.cs i (bc (uv x)) } :: R) w0 w' := by
  subst hk
  go_enter Tryd.func103, Tryd.ntmps103
  go_wp2
  go_loopw [1, 5] (fun y j wr => ∃ (m k : Nat) (p : List UInt8), y = .int .u64 m ∧ j = .int .i64 k ∧ p.length = k ∧ m < 18446744073709551616 ∧ uv x = p ++ uv m ∧ Own ({ X with cs := splice X.cs i (bc p) } :: R) w0 wr) (fun y _ _ => (intOf y).toNat)
  case atStart => exact ⟨x, 0, [], rfl, rfl, rfl, hx, rfl, by simpa [splice, bc] using hO⟩
  case round =>
    obtain ⟨m, k, p, rfl, rfl, rfl, hm, hu, hbr⟩ := hrel
    have hlen : (uv x).length = p.length + (uv m).length := by rw [hu, List.length_append]
    have hup := uv_pos m
    have hkn : (p.length : Int) < (n : Int) := by omega
    have hkn' : p.length < n := by omega
    have hsl : (splice X.cs i (bc p)).length = X.cs.length := length_splice _ _ _ (by rw [bc_length]; omega)
    have hcl : i + p.length < (splice X.cs i (bc p)).length := by omega
    have c0 := (hbr.cell 0 rfl (k := X.off + i + p.length) (i + p.length) (by simp; omega) hcl).trans (List.getElem?_eq_getElem hcl)
    have f0 := hbr.frozen 0 rfl (X.off + i + p.length) (hbr.head.ro_none (by simp only; omega))
    generalize (splice X.cs i (bc p))[i + p.length]'hcl = v0 at c0
    have e1 : IntKind.i64.wrap ((p.length : Int) + 1) = (p.length : Int) + 1 := i64_id (by omega) (by omega)
    have hset := splice_snoc X.cs i (bc p)
    rw [bc_length] at hset
    have HS := hid (hset · (by omega))
    clear hset
    simp only at c0 f0
    by_cases h4 : m < 128
    · have h4' : ¬ (128 : Int) ≤ (m : Int) := by omega
      have HU := hid hu
      have HB := hid hbr
      clear hu hbr hO hfit hlen hn
      have e2 : ((m : Int) % 256) = (m : Int) := by omega
      go_wp2
      go_ret
      refine ⟨ret_int ?_, ?_⟩
      · rw [HU.out, uv_small h4, List.length_append]; rfl
      · rw [HU.out, uv_small h4, bc_snoc, HS.out, show (((UInt8.ofNat m).toNat : Nat) : Int) = (m : Int) by simp; omega]
        exact HB.out.set (i + p.length) (by simp; omega) hcl _
    · have h4' : (128 : Int) ≤ (m : Int) := by omega
      have HU := hid hu
      have HB := hid hbr
      clear hu hbr hO hfit hlen hn
      go_wp2
      refine ⟨⟨m / 128, p.length + 1, p ++ [UInt8.ofNat (m % 128 + 128)], by simp, by first | rfl | (rw [show wrap64 ((p.length : Int) + 1) = (p.length : Int) + 1 from e1]; rfl) , by simp, by omega, ?_, ?_⟩, by simp [intOf]; omega⟩
      · rw [HU.out, uv_big h4, List.append_assoc]; rfl
      · rw [bc_snoc, HS.out, u8_or128, show (((UInt8.ofNat (m % 128 + 128)).toNat : Nat) : Int) = ((m % 128 + 128 : Nat) : Int) by simp; omega]
        exact HB.out.set (i + p.length) (by simp; omega) hcl _

theorem putUv_n (X : Fr) (i k n c x : Nat) (y : Int) (R : List Fr) (w0 w : World) (hy : y = (x : Int)) (hk : k = X.off + i) (hO : Own (X :: R) w0 w) (hfit : i + n ≤ X.cs.length) (hn : (uv x).length ≤ n) (hx : x < 18446744073709551616) (hn63 : n ≤ 4611686018427387904) :
    Calls Tryd.prog 103 #[.slice (some ⟨X.g, k, none⟩) n c, .int .u64 y] w fun e w' => e = .returned (.int .i64 ((uv x).length : Int)) ∧ Own ({ X with cs := splice X.cs i (bc (uv x)) } :: R) w0 w' := by
  subst hy; exact putUv X i k n c x R w0 w hk hO hfit hn hx hn63
theorem splice_set {α : Type} (cur : List α) (o : Nat) (v : α) (L : List α) (h : o + 1 + L.length ≤ cur.length) : splice (cur.set o v) (o + 1) L = splice cur o (v :: L) := by
  have := splice_splice cur o [v] L (by simp; omega)
  rw [← splice_one cur o v (by omega)] at this
  simpa using this
theorem splice_nil {α : Type} (cur : List α) (o : Nat) : splice cur o [] = cur := by simp [splice]
theorem bc_leB_4 (x : Int) : bc (leB x 4) = [.int .u8 (x % 256), .int .u8 (x / 256 % 256), .int .u8 (x / 65536 % 256), .int .u8 (x / 16777216 % 256)] := by
  have h : ∀ y : Int, Value.int .u8 ((UInt8.ofNat (y % 256).toNat).toNat : Int) = .int .u8 (y % 256) := fun y => by rw [byte_of (by omega) (by omega)]
  simp only [leB, bc, List.nil_append, List.cons_append, List.map_cons, List.map_nil, h, Int.reducePow, Int.ediv_one]

set_option maxHeartbeats 1600000 in
set_option maxRecDepth 100000 in
theorem put32 (X : Fr) (i k n c : Nat) (x : Int) (R : List Fr) (w0 w : World) (hk : k = X.off + i) (hO : Own (X :: R) w0 w) (hfit : i + 4 ≤ X.cs.length) (hn : 4 ≤ n) (h0 : 0 ≤ x) (h1 : x < 4294967296) :
    Calls Tryd.prog 106 #[.agg #[], .slice (some ⟨X.g, k, none⟩) n c, .int .u32 x] w fun e w' => e = .returned (.tuple #[]) ∧ Own ({ X with cs := splice X.cs i (bc (leB x 4)) } :: R) w0 w' := by
  subst hk
  have c0 := (hO.cell 0 rfl (k := X.off + i) i rfl (by omega)).trans (List.getElem?_eq_getElem (by omega))
  have c1 := (hO.cell 0 rfl (k := X.off + i + 1) (i + 1) (by omega) (by omega)).trans (List.getElem?_eq_getElem (by omega))
  have c2 := (hO.cell 0 rfl (k := X.off + i + 2) (i + 2) (by omega) (by omega)).trans (List.getElem?_eq_getElem (by omega))
  have c3 := (hO.cell 0 rfl (k := X.off + i + 3) (i + 3) (by omega) (by omega)).trans (List.getElem?_eq_getElem (by omega))
  generalize X.cs[i]'_ = v0 at c0; generalize X.cs[i + 1]'_ = v1 at c1; generalize X.cs[i + 2]'_ = v2 at c2; generalize X.cs[i + 3]'_ = v3 at c3
  have f : ∀ j, w.frozen? ⟨X.g, j, none⟩ = false := fun j => hO.frozen 0 rfl j (hO.head.ro_none (by omega))
  have hlt := hO.lt (x := X) (by simp)
  have l0 : 0 < n := by omega
  have l1 : (1 : Int) < (n : Int) := by omega
  have l2 : (2 : Int) < (n : Int) := by omega
  have l3 : (3 : Int) < (n : Int) := by omega
  have HB := hid hO
  clear hO
  go_enter Tryd.func106, Tryd.ntmps106
  go_wp2
  go_end0
  refine ⟨rfl, ?_⟩
  rw [bc_leB_4, show x / 16777216 % 256 = x / 16777216 from by omega]
  have e : ∀ a b c d : Value, splice X.cs i [a, b, c, d] = (((X.cs.set i a).set (i + 1) b).set (i + 2) c).set (i + 3) d := fun a b c d => by
    rw [← splice_set _ _ _ _ (by simp; omega), ← splice_set _ _ _ _ (by simp; omega), ← splice_set _ _ _ _ (by simp; omega), ← splice_set _ _ _ _ (by simp; omega), splice_nil]
  rw [e]
  exact ((((HB.out.set i rfl (by omega) _).set (i + 1) (by simp; omega) (by simp; omega) _).set (i + 2) (by simp; omega) (by simp; omega) _).set (i + 3) (by simp; omega) (by simp; omega) _).skip _
end Go.Proofs.YtloflmcgbbbnjaaDoor
namespace Go.Proofs.YtloflmcgbbbnjaaDoor
open Go.RowKit Plain
set_option linter.all false

set_option maxHeartbeats 400000 in
theorem shared_any (A B : Option Addr) (ca cb : Nat) (a b : List UInt8) (w : World) (ha : BsAt w A a) (hb : BsAt w B b) (la : a.length ≤ 140737488351232) :
    Calls Tryd.prog 38 #[.slice A a.length ca, .slice B b.length cb] w fun e w' => e = .returned (.int .i64 (shared a b)) ∧ Dr w w' := by
  go_enter Tryd.func38, Tryd.ntmps38
  go_wp2
  go_loopw [5] (fun i wr => ∃ k : Nat, i = .int .i64 k ∧ k ≤ shared a b ∧ Dr w wr) (fun i _ => a.length - (intOf i).toNat)
  case atStart => exact ⟨0, rfl, Nat.zero_le _, Dr.refl _⟩
  case round =>
    obtain ⟨k, rfl, hk, ⟨n, rfl⟩⟩ := hrel
    have hs := shared_le a b
    by_cases h1 : k < a.length
    · have t1 : decide ((k : Int) < (a.length : Int)) = true := by simp; omega
      have t1' : decide (k < a.length) = true := by simp; omega
      by_cases h2 : k < b.length
      · have t2 : decide ((k : Int) < (b.length : Int)) = true := by simp; omega
        obtain ⟨g, o, rfl, hc⟩ := ha k h1
        obtain ⟨g', o', rfl, hc'⟩ := hb k h2
        by_cases e : at_ a k = at_ b k
        · have e1 : (bz a k == bz b k) = true := by rw [beq_iff_eq]; exact bz_eq.2 e
          have hk' := shared_step hk h1 h2 e
          clear e
          go_wp2
          repeat (go_quiet (fail); try go_wp2)
          go_roundw
          case rel => exact ⟨k + 1, by go_num, hk', by repeat (first | exact Dr.refl _ | apply Dr.step)⟩
          case measure => simp [intOf]; omega
        · have e1 : (bz a k == bz b k) = false := by rw [beq_eq_false_iff_ne]; exact fun h => e (bz_eq.1 h)
          have hk' := shared_stop hk e
          have HK := hid hk'
          clear e hk'
          go_wp2
          repeat (go_quiet (fail); try go_wp2)
          go_ret
          exact ⟨ret_int (by have := HK.out; omega), by repeat (first | exact Dr.refl _ | apply Dr.step)⟩
      · have t2 : decide ((k : Int) < (b.length : Int)) = false := by simp; omega
        have t2' : decide (k < b.length) = false := by simp; omega
        have hk' : k = shared a b := by omega
        have HK := hid hk'
        clear hk'
        go_wp2
        repeat (go_quiet (fail); try go_wp2)
        go_ret
        exact ⟨ret_int (by have := HK.out; omega), by repeat (first | exact Dr.refl _ | apply Dr.step)⟩
    · have t1 : decide ((k : Int) < (a.length : Int)) = false := by simp; omega
      have t1' : decide (k < a.length) = false := by simp; omega
      have hk' : k = shared a b := by omega
      have HK := hid hk'
      clear hk'
      go_wp2
      repeat (go_quiet (fail); try go_wp2)
      go_ret
      exact ⟨ret_int (by have := HK.out; omega), by repeat (first | exact Dr.refl _ | apply Dr.step)⟩

set_option maxHeartbeats 800000 in
theorem spl_any (A B : Option Addr) (n m ca cb : Nat) (a b : List UInt8) (w : World) (ha : BsAt w A a) (hb : BsAt w B b) (hn : n = a.length) (hm : m = b.length) (la : a.length ≤ 140737488351232) (lb : b.length ≤ 140737488351232) :
    Calls Tryd.prog 102 #[.slice A n ca, .slice B m cb] w fun e w' => e = .returned (.int .i64 (shared a b)) ∧ Dr w w' := by
  subst hn; subst hm
  obtain ⟨N, hN⟩ : ∃ N, N = min a.length b.length := ⟨_, rfl⟩
  have HN := hid hN
  have hs := shared_le a b
  have hr : (fun (i : Value) (wr : World) => ∃ k : Nat, i = .int .i64 k ∧ k ≤ shared a b ∧ Dr w wr) (.int .i64 0) w := ⟨0, rfl, Nat.zero_le _, Dr.refl _⟩
  cases hgt : decide ((b.length : Int) < (a.length : Int)) <;> (
    have hgt' : decide (b.length < a.length) = decide ((b.length : Int) < (a.length : Int)) := by simp
    rw [hgt] at hgt'
    have hNv : (N : Int) = if (b.length : Int) < (a.length : Int) then (b.length : Int) else (a.length : Int) := by simp at hgt; split <;> omega
    have hgt2 := hgt
    simp only [decide_eq_true_eq, decide_eq_false_iff_not] at hgt2
    first | rw [if_pos hgt2] at hNv | rw [if_neg hgt2] at hNv
    clear hgt2
    have HNv := hid hNv
    clear hNv hN
    go_enter Tryd.func102, Tryd.ntmps102
    go_wp2
    go_loopw [5] (fun i wr => ∃ k : Nat, i = .int .i64 k ∧ k ≤ shared a b ∧ Dr w wr) (fun i _ => a.length - (intOf i).toNat)
    case atStart => exact ⟨0, rfl, Nat.zero_le _, Dr.refl _⟩
    case round =>
      obtain ⟨k, rfl, hk, ⟨nd, rfl⟩⟩ := hrel
      by_cases h1 : k < N
      · have h2 : k < a.length := by have := HN.out; omega
        have h3 : k < b.length := by have := HN.out; omega
        have t1 : decide ((k : Int) < (a.length : Int)) = true := by simp; omega
        have t1' : decide (k < a.length) = true := by simp; omega
        have t2 : decide ((k : Int) < (b.length : Int)) = true := by simp; omega
        have t2' : decide (k < b.length) = true := by simp; omega
        obtain ⟨g, o, rfl, hc⟩ := ha k h2
        obtain ⟨g', o', rfl, hc'⟩ := hb k h3
        by_cases e : at_ a k = at_ b k
        · have e1 : (bz a k == bz b k) = true := by rw [beq_iff_eq]; exact bz_eq.2 e
          have hk' := shared_step hk h2 h3 e
          clear e
          go_wp2
          repeat (go_quiet (fail); try go_wp2)
          go_roundw
          case rel => exact ⟨k + 1, by go_num, hk', by repeat (first | exact Dr.refl _ | apply Dr.step)⟩
          case measure => simp [intOf]; omega
        · have e1 : (bz a k == bz b k) = false := by rw [beq_eq_false_iff_ne]; exact fun h => e (bz_eq.1 h)
          have hk' := shared_stop hk e
          have HK := hid hk'
          clear e hk'
          go_wp2
          repeat (go_quiet (fail); try go_wp2)
          go_ret
          exact ⟨ret_int (by have := HK.out; omega), by repeat (first | exact Dr.refl _ | apply Dr.step)⟩
      · have hk' : k = shared a b := by have := HN.out; omega
        have HK := hid hk'
        have t1 : decide ((k : Int) < (a.length : Int)) = false ∨ decide ((k : Int) < (b.length : Int)) = false := by have := HN.out; simp; omega
        have t3 : decide ((k : Int) < (N : Int)) = false := by simp; omega
        rw [HNv.out] at t3
        have t3' := t3
        simp only [Int.ofNat_lt] at t3'
        clear hk' t1
        go_wp2
        repeat (go_quiet (fail); try go_wp2)
        go_ret
        exact ⟨ret_int (by have := HK.out; omega), by repeat (first | exact Dr.refl _ | apply Dr.step)⟩)
end Go.Proofs.YtloflmcgbbbnjaaDoor
namespace Go.Proofs.YtloflmcgbbbnjaaDoor
open Go.RowKit Plain

section
variable {P : Program} {ops : Array Oper} {o : Oper} {a : Act} {w0 w : World} {R : List Fr} {K : Act → World → Prop} {Q : Exit → Act → World → Prop} {E : Prop}
theorem run_append_any (t ty e : TypeId) (z : Value) (size bytes : Nat) (ht : P.underlying t = some (.slice e)) (hinfo : (P.info? e).map (fun i => (i.zero, i.size, i.bytes)) = some (some z, size, bytes)) (hzs : z.cells.size = size) (hsz : 0 < size)
    (v : Value) (n : Nat) (xs : List Value) (hown : w.ownsRow 0 e size v n xs) (A : Option Addr) (m c : Nat) (news : List Value) (hl : news.length = m * size) (hA : CsAt w A news)
    (h1 : ∀ u ∈ news, u.oneCell' = true) (h63 : n + m ≤ maxLen) (hbytes : (n + m) * bytes ≤ 140737488355328) :
    ∃ v' w', (Builtin.append_ #[t, t] ty #[v, .slice A m c]).run P w = .ok v' w' ∧ w'.ownsRow 0 e size v' (n + m) (xs ++ news) ∧ w.grownBy w' v.ownBlock ∧ (v' = .slice none 0 0 ↔ v = .slice none 0 0 ∧ m = 0) ∧ (v'.ownBlock = v.ownBlock ∨ v'.ownBlock = some w.heap.size) := by
  obtain ⟨i, hi, hzz⟩ := Option.map_eq_some_iff.1 hinfo
  simp only [Prod.mk.injEq] at hzz
  obtain ⟨hz, hss, hbt⟩ := hzz
  have key : ∀ ad, A = some ad → (∀ j u, news[j]? = some u → w.cell? (ad.add j) = some u) → ∃ v' w', (Builtin.append_ #[t, t] ty #[v, .slice A m c]).run P w = .ok v' w' ∧ w'.ownsRow 0 e size v' (n + m) (xs ++ news) ∧ w.grownBy w' v.ownBlock ∧ (v' = .slice none 0 0 ↔ v = .slice none 0 0 ∧ m = 0) ∧ (v'.ownBlock = v.ownBlock ∨ v'.ownBlock = some w.heap.size) := fun ad e2 hc => by
    subst e2
    exact run_append_own_at (P := P) w 0 t ty e i z size bytes ht hi hz hss hbt hzs hsz v n xs hown ad m c news hl hc h1 h63 hbytes (Nat.zero_le _)
  rcases Nat.eq_zero_or_pos news.length with h0 | h0
  · obtain rfl : news = [] := List.eq_nil_of_length_eq_zero h0
    rcases A with _ | ad
    · have hm : m = 0 := by
        rcases Nat.eq_zero_or_pos m with h | h
        · exact h
        · have := Nat.mul_pos h hsz; simp at hl; omega
      subst hm
      exact ⟨v, w, run_append_of_nil (P := P) (w := w) 0 t ty e i size ht hi v n xs hown c, by simpa using hown, World.grownBy.refl w _, by simp, .inl rfl⟩
    · exact key ad rfl (fun j u hj => by simp at hj)
  · obtain ⟨g, o', e2, _, hc⟩ := hA.addr h0
    refine key _ e2 fun j u hj => ?_
    have hjl := (List.getElem?_eq_some_iff.1 hj).1
    rw [add_none, hc j hjl, hj]

/-- append(s, src...) onto a row of the call's own. -/
theorem own_append_wp (s x : Operand) (t : TypeId) (ho : o.op = .call { callee := .builtin .append, args := #[s, x], argTypes := #[t, t] })
    (e : TypeId) (z : Value) (size bytes : Nat) (ht : P.underlying t = some (.slice e)) (hinfo : (P.info? e).map (fun i => (i.zero, i.size, i.bytes)) = some (some z, size, bytes)) (hzs : z.cells.size = size) (hsz : 0 < size)
    (A : Option Addr) (n c : Nat) (xs : List Value) (F : List Fr) (hs : a.eval s = .slice A n c) (hr : Row e size A n c xs F) (hO : Own (F ++ R) w0 w)
    (A2 : Option Addr) (m c2 : Nat) (news : List Value) (hx : a.eval x = .slice A2 m c2) (hl : news.length = m * size) (hA : CsAt w A2 news)
    (h1 : ∀ u ∈ news, u.oneCell' = true) (h63 : n + m ≤ maxLen) (hbytes : (n + m) * bytes ≤ 140737488355328)
    (h : ∀ A' c' F' w', Row e size A' (n + m) c' (xs ++ news) F' → Own (F' ++ R) w0 w' → (A' = none ↔ A = none ∧ m = 0) → K (a.put o.dst (.slice A' (n + m) c')) w') :
    o.wp P a w K Q := by
  obtain ⟨v', w', hrun, hown, hgr, hnil, hat⟩ := run_append_any (P := P) (w := w) t o.type e z size bytes ht hinfo hzs hsz (.slice A n c) n xs (hr.owns fun x hx => hO.ins x (List.mem_append_left _ hx)) A2 m c2 news hl hA h1 h63 hbytes
  unfold Oper.wp execOp
  simp only [ho, resolve, invoke, builtin, Sem.run_bind, Sem.run_pure, Result.andThen_ok, List.map_toArray, List.map_cons, List.map_nil, hs, hx, hrun]
  obtain ⟨A', c', F', rfl, hr', hb', hF, hdj⟩ := Row.of_owns hown
  refine h A' c' F' w' hr' ?_ ?_
  · have hFo := hr.block
    refine hO.swap hr.whole (Only.of_grown hgr fun k hk => by rw [hFo, hk]; simp) hb' (fun y hy => ?_) hdj
    have hy' : y.g ∈ F'.map (·.g) := List.mem_map.2 ⟨y, hy, rfl⟩
    rw [hF] at hy'
    rcases hat with e | e
    · rw [e, ← hFo] at hy'; exact .inl hy'
    · rw [e] at hy'; simp at hy'; exact .inr (by omega)
  · rw [hr'.none_iff, hnil, hr.none_iff]
theorem own_step_append (hgd : o.guard = none) (s x : Operand) (t : TypeId) (ho : o.op = .call { callee := .builtin .append, args := #[s, x], argTypes := #[t, t] })
    (e : TypeId) (z : Value) (size bytes : Nat) (ht : P.underlying t = some (.slice e)) (hinfo : (P.info? e).map (fun i => (i.zero, i.size, i.bytes)) = some (some z, size, bytes)) (hzs : z.cells.size = size) (hsz : 0 < size)
    (A : Option Addr) (n c : Nat) (xs : List Value) (F : List Fr) (hs : a.eval s = .slice A n c) (hr : Row e size A n c xs F) (hO : Own (F ++ R) w0 w)
    (A2 : Option Addr) (m c2 : Nat) (news : List Value) (hx : a.eval x = .slice A2 m c2) (hl : news.length = m * size) (hA : CsAt w A2 news)
    (h1 : ∀ u ∈ news, u.oneCell' = true) (h63 : n + m ≤ maxLen) (hbytes : (n + m) * bytes ≤ 140737488355328)
    (h : ∀ A' c' F' w', Row e size A' (n + m) c' (xs ++ news) F' → Own (F' ++ R) w0 w' → (A' = none ↔ A = none ∧ m = 0) → K (a.put o.dst (.slice A' (n + m) c')) w') :
    if Region.wanted o (yielded ops a.tmps) = true then Oper.wp P o a w K Q else E := by
  rw [if_pos (by simp [Region.wanted, hgd])]
  exact own_append_wp s x t ho e z size bytes ht hinfo hzs hsz A n c xs F hs hr hO A2 m c2 news hx hl hA h1 h63 hbytes h
end
end Go.Proofs.YtloflmcgbbbnjaaDoor
namespace Go.Proofs.YtloflmcgbbbnjaaDoor.Plain

/-- A choice from 0 to n-1 by numbers, and how many were made. -/
def pick (ns : List Int) (n at_ : Nat) : Nat × Nat := if ns = [] ∨ n < 2 then (0, at_) else ((ns.getD (at_ % ns.length) 0 % (n : Int)).toNat, at_ + 1)
theorem pick_nil (n a : Nat) : pick [] n a = (0, a) := by simp [pick]
theorem pick_lt {ns : List Int} {n a : Nat} (h : 0 < n) : (pick ns n a).1 < n := by
  unfold pick
  split
  · exact h
  · have h1 := Int.emod_nonneg (ns.getD (a % ns.length) 0) (show (n : Int) ≠ 0 by omega)
    have h2 := Int.emod_lt_of_pos (ns.getD (a % ns.length) 0) (show 0 < (n : Int) by omega)
    simp only; omega
theorem pick_at (ns : List Int) (n a : Nat) : a ≤ (pick ns n a).2 ∧ (pick ns n a).2 ≤ a + 1 := by
  unfold pick
  split <;> simp

abbrev KV := List UInt8 × List UInt8
def key (l : List KV) (j : Nat) : List UInt8 := (l.getD j ([], [])).1
def val (l : List KV) (j : Nat) : List UInt8 := (l.getD j ([], [])).2
/-- An entry that leaves out n bytes of its key. -/
def ent (n : Nat) (k v : List UInt8) : List UInt8 := uv n ++ uv (k.length - n) ++ uv v.length ++ (k.drop n ++ v)
structure BS where
  c : Nat
  b : List UInt8
  tail : List UInt8
  many : Nat
def bstep (rs : Nat) (ns : List Int) (i : Nat) (prev k v : List UInt8) (s : BS) : BS :=
  if i % rs = 0 then ⟨s.c, s.b ++ ent 0 k v, s.tail ++ leB s.b.length 4, s.many + 1⟩
  else if (pick ns 4 s.c).1 = 1 then ⟨(pick ns (shared prev k + 1) (pick ns 4 s.c).2).2, s.b ++ ent (pick ns (shared prev k + 1) (pick ns 4 s.c).2).1 k v, s.tail, s.many⟩
  else ⟨(pick ns 4 s.c).2, s.b ++ ent (shared prev k) k v, s.tail, s.many⟩
/-- Behind the first j pairs. -/
def bst (rs : Nat) (ns : List Int) (l : List KV) (c0 : Nat) : Nat → BS
  | 0 => ⟨c0, [], [], 0⟩
  | j + 1 => bstep rs ns j (key l (j - 1)) (key l j) (val l j) (bst rs ns l c0 j)
def blockB (rs : Nat) (ns : List Int) (l : List KV) (c0 : Nat) : List UInt8 :=
  let s := bst rs ns l c0 l.length
  if s.many = 0 then s.b ++ (s.tail ++ leB 0 4) ++ leB 1 4 else s.b ++ s.tail ++ leB s.many 4
theorem ent_le {n : Nat} {k v : List UInt8} (hn : n ≤ k.length) (hk : k.length < 34359738368) (hv : v.length < 34359738368) : (ent n k v).length ≤ 15 + k.length + v.length := by
  have h1 := uv_len5 (x := n) (by omega)
  have h2 := uv_len5 (x := k.length - n) (by omega)
  have h3 := uv_len5 hv
  simp only [ent, List.length_append, List.length_drop]; omega
theorem ent_pos (n : Nat) (k v : List UInt8) : 3 ≤ (ent n k v).length := by
  have h1 := uv_pos n; have h2 := uv_pos (k.length - n); have h3 := uv_pos v.length
  simp only [ent, List.length_append]; omega
/-- The weight of pairs. -/
def kvw (l : List KV) : Nat := (l.map fun p => p.1.length + p.2.length + 1).sum
theorem kvw_take_succ {l : List KV} {j : Nat} (h : j < l.length) : kvw (l.take (j + 1)) = kvw (l.take j) + ((key l j).length + (val l j).length + 1) := by
  rw [List.take_succ_eq_append_getElem h]
  simp only [kvw, key, val, List.getD_eq_getElem?_getD, List.getElem?_eq_getElem h, Option.getD_some, List.map_append, List.sum_append, List.map_cons, List.map_nil, List.sum_cons, List.sum_nil, Nat.add_zero]
theorem kvw_take (l : List KV) (j : Nat) : kvw (l.take j) ≤ kvw l := by
  have : kvw l = kvw (l.take j) + kvw (l.drop j) := by
    conv => lhs; rw [← List.take_append_drop j l]
    simp only [kvw, List.map_append, List.sum_append]
  omega
theorem kvw_mem {l : List KV} {p : KV} (h : p ∈ l) : p.1.length + p.2.length + 1 ≤ kvw l := by
  induction l with
  | nil => cases h
  | cons x l ih =>
    simp only [kvw, List.map_cons, List.sum_cons] at ih ⊢
    rcases List.mem_cons.1 h with rfl | h
    · omega
    · have := ih h; omega
theorem kvw_key (l : List KV) (j : Nat) : (key l j).length + (val l j).length ≤ kvw l := by
  unfold key val
  rcases Nat.lt_or_ge j l.length with h | h
  · have := kvw_mem (List.getElem_mem h)
    simp only [List.getD_eq_getElem?_getD, List.getElem?_eq_getElem h, Option.getD_some]; omega
  · simp [List.getD_eq_getElem?_getD, List.getElem?_eq_none h]
theorem bst_le {rs : Nat} {ns : List Int} {l : List KV} {c0 : Nat} (hw : kvw l < 34359738368) : ∀ j, j ≤ l.length →
    (bst rs ns l c0 j).b.length ≤ 16 * kvw (l.take j) ∧ (bst rs ns l c0 j).many ≤ j ∧ (bst rs ns l c0 j).tail.length = 4 * (bst rs ns l c0 j).many ∧ c0 ≤ (bst rs ns l c0 j).c ∧ (bst rs ns l c0 j).c ≤ c0 + 2 * j
  | 0, _ => by simp [bst]
  | j + 1, h => by
    obtain ⟨h1, h2, h3, h4, h5⟩ := bst_le (rs := rs) (ns := ns) (c0 := c0) hw j (by omega)
    have hk := kvw_key l j
    have ht := kvw_take_succ h
    have hsh := shared_le (key l (j - 1)) (key l j)
    have hp4 := pick_at ns 4 (bst rs ns l c0 j).c
    have hpn := pick_at ns (shared (key l (j - 1)) (key l j) + 1) (pick ns 4 (bst rs ns l c0 j).c).2
    have hpl := pick_lt (ns := ns) (n := shared (key l (j - 1)) (key l j) + 1) (a := (pick ns 4 (bst rs ns l c0 j).c).2) (by omega)
    have hl4 : (leB ((bst rs ns l c0 j).b.length : Int) 4).length = 4 := leB_length _ _
    simp only [bst, bstep]
    split
    · have := ent_le (n := 0) (k := key l j) (v := val l j) (by omega) (by omega) (by omega)
      simp only [List.length_append]
      refine ⟨by omega, by omega, by omega, by omega, by omega⟩
    · split
      · have := ent_le (n := (pick ns (shared (key l (j - 1)) (key l j) + 1) (pick ns 4 (bst rs ns l c0 j).c).2).1) (k := key l j) (v := val l j) (by omega) (by omega) (by omega)
        simp only [List.length_append]
        refine ⟨by omega, by omega, by omega, by omega, by omega⟩
      · have := ent_le (n := shared (key l (j - 1)) (key l j)) (k := key l j) (v := val l j) (by omega) (by omega) (by omega)
        simp only [List.length_append]
        refine ⟨by omega, by omega, by omega, by omega, by omega⟩
end Go.Proofs.YtloflmcgbbbnjaaDoor.Plain
