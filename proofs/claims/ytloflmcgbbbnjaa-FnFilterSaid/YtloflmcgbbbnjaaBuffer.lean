/-
  util.Buffer, written to: its bytes lie nowhere, in its own bootstrap, or in a block of its own. makeSlice, Len, grow.
-/
import Derived.Test.YtloflmcgbbbnjaaOwn
import Derived.Test.YtloflmcgbbbnjaaSplice
import Derived.Test.YtloflmcgbbbnjaaInfo
import Derived.StillTailTactics
import Derived.Defers
import Derived.Recover
namespace Go.Proofs.Ytloflmcgbbbnjaa
open Go.RowKit Plain

theorem makeSlice_idle (w : World) :
    CallsD Try.prog 76 #[] .returning w fun e u' w' => e = .returned (.tuple #[]) ∧ u' = .returning ∧ w' = w := by
  refine callsD_of_wpS Try.func76 rfl fun c₀ cs hu => ?_
  apply wpS_seq
  apply wpS_region
  simp [wpOpsS, go_sem, recoverD, hu, Try.ntmps76, Exit.thenS]
  refine wpS_cond (t := false) (by simp [Act.eval, Array.replicate]) ?_
  simp only [Bool.false_eq_true, if_false]
  refine wpS_of_wp (wp_skip ?_)
  cases c₀
  simp_all [bodyPostS, results, Try.results76]

set_option maxHeartbeats 800000 in
theorem makeSlice_any (n : Nat) (hn : n ≤ 140737488355328) (w : World) :
    Calls Try.prog 75 #[.int .i64 n] w fun e w' => ∃ g, e = .returned (.slice (some ⟨g, 0, none⟩) n n) ∧ Own [fw g 5 (List.replicate n (.int .u8 0))] w w' := by
  have hmf : ∀ (fn : Fn) (first cap : Array Value) (w : World), (Instr.makeFunc fn first cap).run Try.prog w = .ok (.func fn first cap) w := fun _ _ _ _ => rfl
  go_enter_defers Try.func75, Try.ntmps75
  go_wp2_with (at_make; refine own_make (R := []) (w0 := w) rfl _ _ _ rfl 5 (.int .u8 0) 1 Try.underlying24 Try.info_u8 rfl _ _ _ _ n n rfl rfl rfl rfl (Nat.le_refl _) (by omega) (by omega) (Own.start w) ?_; intro g w1 hO1)
  refine leaves_cons (f := 76) (args := #[]) (by simp) (by simp [go_sem]) ?_
  refine (makeSlice_idle _).mono ?_
  rintro e u' w'' ⟨rfl, rfl, rfl⟩
  simp [Leaves, settle, results, Try.results75, go_sem]
  exact hO1

theorem makeSlice_n (x : Int) (n : Nat) (hx : x = (n : Int)) (hn : n ≤ 140737488355328) (w : World) :
    Calls Try.prog 75 #[.int .i64 x] w fun e w' => ∃ g, e = .returned (.slice (some ⟨g, 0, none⟩) n n) ∧ Own [fw g 5 (List.replicate n (.int .u8 0))] w w' := by
  subst hx; exact makeSlice_any n hn w

theorem bc_zeros (n : Nat) : List.replicate n (Value.int .u8 0) = bc (List.replicate n 0) := by simp [bc]
theorem bc_splice (a b : List UInt8) (i : Nat) : splice (bc a) i (bc b) = bc (splice a i b) := by simp [splice, bc, List.map_take, List.map_drop]
/-- A buffer at ⟨b, o⟩ that is L long; its bytes begin with data; they lie at the head of S. -/
def BufG (b o : Nat) (data : List UInt8) (L : Nat) (S : Fr) (J F : List Fr) : Prop :=
  data.length ≤ L ∧ L ≤ S.cs.length ∧ S.cs.length ≤ 4398046511104 ∧ (S.cs.take data.length = bc data ∧ ∃ full, S.cs = bc full) ∧ F = fp b o [.slice (some ⟨S.g, S.off, none⟩) L S.cs.length, .int .i64 0] :: S :: J
/-- A buffer that has taken nothing yet. -/
def BufN (b o : Nat) (boot : List Value) (F : List Fr) : Prop := (boot.length = 64 ∧ ∃ full, boot = bc full) ∧ F = [fp b o [.slice none 0 0, .int .i64 0], fp b (o + 2) boot]
/-- A buffer at ⟨b, o⟩ with these bytes. -/
def BufF (b o : Nat) (data : List UInt8) (F : List Fr) : Prop := (data = [] ∧ ∃ boot, BufN b o boot F) ∨ ∃ S J, BufG b o data data.length S J F

set_option maxHeartbeats 800000 in
theorem len_raw (b o L c : Nat) (A : Option Addr) (w : World) (c0 : w.cell? ⟨b, o, none⟩ = some (.slice A L c)) (c1 : w.cell? ⟨b, o + 1, none⟩ = some (.int .i64 0)) (hL : L ≤ 4398046511104) :
    Calls Try.prog 73 #[.pointer (some ⟨b, o, none⟩)] w fun e w' => e = .returned (.int .i64 L) ∧ Dr w w' := by
  go_enter Try.func73, Try.ntmps73
  go_wp2
  go_quiet (fail)
  go_wp2
  go_ret
  refine ⟨?_, ⟨_, rfl⟩⟩
  simp

theorem BufG.hdr {b o L : Nat} {data : List UInt8} {S : Fr} {J F R : List Fr} {w0 w : World} (h : BufG b o data L S J F) (hO : Own (F ++ R) w0 w) :
    w.cell? ⟨b, o, none⟩ = some (.slice (some ⟨S.g, S.off, none⟩) L S.cs.length) ∧ w.cell? ⟨b, o + 1, none⟩ = some (.int .i64 0) ∧ (∀ k, w.frozen? ⟨b, k, none⟩ = false) := by
  obtain ⟨_, _, _, _, rfl⟩ := h
  exact ⟨hO.cell 0 rfl 0 rfl (by simp), hO.cell 0 rfl 1 rfl (by simp), fun k => hO.frozen 0 rfl k⟩
theorem BufN.hdr {b o : Nat} {boot : List Value} {F R : List Fr} {w0 w : World} (h : BufN b o boot F) (hO : Own (F ++ R) w0 w) :
    w.cell? ⟨b, o, none⟩ = some (.slice none 0 0) ∧ w.cell? ⟨b, o + 1, none⟩ = some (.int .i64 0) ∧ (∀ k, w.frozen? ⟨b, k, none⟩ = false) := by
  obtain ⟨_, rfl⟩ := h
  exact ⟨hO.cell 0 rfl 0 rfl (by simp), hO.cell 0 rfl 1 rfl (by simp), fun k => hO.frozen 0 rfl k⟩

theorem BufG.le {b o L : Nat} {data : List UInt8} {S : Fr} {J F : List Fr} (h : BufG b o data L S J F) : data.length ≤ L ∧ L ≤ S.cs.length ∧ S.cs.length ≤ 4398046511104 := ⟨h.1, h.2.1, h.2.2.1⟩
/-- The header's length is set. -/
theorem BufG.setLen {b o L L' : Nat} {data : List UInt8} {S : Fr} {J F R : List Fr} {w0 w : World} (h : BufG b o data L S J F) (hO : Own (F ++ R) w0 w) (h1 : data.length ≤ L') (h2 : L' ≤ S.cs.length) :
    ∃ F', BufG b o data L' S J F' ∧ Own (F' ++ R) w0 (w.setCell ⟨b, o, none⟩ (.slice (some ⟨S.g, S.off, none⟩) L' S.cs.length)) := by
  obtain ⟨_, _, h3, h4, rfl⟩ := h
  exact ⟨_, ⟨h1, h2, h3, h4, rfl⟩, hO.set 0 rfl (by simp) _⟩
set_option maxHeartbeats 1600000 in
set_option maxRecDepth 100000 in
theorem grow_room (b o n : Nat) (data : List UInt8) (S : Fr) (J F R : List Fr) (w0 w : World) (h : BufG b o data data.length S J F) (hO : Own (F ++ R) w0 w) (hn : data.length + n ≤ S.cs.length) :
    Calls Try.prog 72 #[.pointer (some ⟨b, o, none⟩), .int .i64 n] w fun e w' => e = .returned (.int .i64 (data.length : Int)) ∧
      ∃ F', BufG b o data (data.length + n) S J F' ∧ Own (F' ++ R) w0 w' := by
  obtain ⟨c0, c1, f0⟩ := h.hdr hO
  obtain ⟨_, _, h3⟩ := h.le
  have HG := hid h
  have HO := hid hO
  clear hO h
  obtain ⟨L, hL⟩ : ∃ L, data.length = L := ⟨_, rfl⟩
  rw [hL] at c0 hn ⊢
  have HL := hid hL
  clear hL
  have hle : decide ((S.cs.length : Int) < (L : Int) + (n : Int)) = false := decide_eq_false (by omega)
  have e1 : IntKind.i64.wrap ((L : Int) + (n : Int)) = (L : Int) + (n : Int) := i64_id (by omega) (by omega)
  have s1 : (L : Int) + (n : Int) ≤ (S.cs.length : Int) := by omega
  have e2 : ((L : Int) + (n : Int)).toNat = L + n := by omega
  have e3 : 0 ≤ (L : Int) + (n : Int) := by omega
  have e4 : IntKind.i64.wrap (L : Int) = L := i64_id (by omega) (by omega)
  cases hb : ((L : Int) == 0) <;> (
    go_enter Try.func72, Try.ntmps72
    go_wp2_with (go_at_call 73; refine (len_raw b o L S.cs.length _ _ c0 c1 (by omega)).mono ?_; rintro e w1 ⟨rfl, hd1⟩; have hO1 := HO.out.dr hd1; clear hd1 c0 c1 f0 HO; obtain ⟨c0, c1, f0⟩ := HG.out.hdr hO1; rw [HL.out] at c0; have HO := hid hO1; clear hO1)
    go_quiet (fail)
    go_wp2
    have hO2 := HO.out.drewN nq
    generalize w1.drewN nq = W at hO2 ⊢
    clear c0 c1 f0 HO
    obtain ⟨c0, c1, f0⟩ := HG.out.hdr hO2
    rw [HL.out] at c0
    have HO := hid hO2
    clear hO2
    go_still_tail 16, (by kernel_rfl)
    go_wp2
    go_ret
    obtain ⟨F', hF', hO3⟩ := HG.out.setLen HO.out.drew (L' := data.length + n) (by omega) (by rw [HL.out]; exact hn)
    rw [HL.out] at hF' hO3
    exact ⟨by simp, F', hF', hO3⟩)

theorem BufN.toG {b o : Nat} {boot : List Value} {F R : List Fr} {w0 w : World} (h : BufN b o boot F) (hO : Own (F ++ R) w0 w) :
    ∃ F', BufG b o [] 64 (fp b (o + 2) boot) [] F' ∧ Own (F' ++ R) w0 ((w.setCell ⟨b, o, none⟩ (.slice (some ⟨b, o + 2, none⟩) 64 64)).setCell ⟨b, o + 1, none⟩ (.int .i64 0)) := by
  obtain ⟨⟨h1, hfull⟩, rfl⟩ := h
  have := (hO.set (k := o) 0 rfl (by simp) (.slice (some ⟨b, o + 2, none⟩) 64 64)).set (k := o + 1) 1 rfl (by simp) (.int .i64 0)
  exact ⟨_, ⟨by simp, by simp [h1], by simp [h1], ⟨by simp [bc], hfull⟩, rfl⟩, by simpa [h1] using this⟩
set_option maxHeartbeats 1600000 in
set_option maxRecDepth 100000 in
theorem grow_boot (b o n : Nat) (boot : List Value) (F R : List Fr) (w0 w : World) (h : BufN b o boot F) (hO : Own (F ++ R) w0 w) (hn0 : 0 < n) (hn : n ≤ 64) :
    Calls Try.prog 72 #[.pointer (some ⟨b, o, none⟩), .int .i64 n] w fun e w' => e = .returned (.int .i64 0) ∧
      ∃ F', BufG b o [] n (fp b (o + 2) boot) [] F' ∧ Own (F' ++ R) w0 w' := by
  obtain ⟨c0, c1, f0⟩ := h.hdr hO
  have HG := hid h
  have HO := hid hO
  clear hO h
  have en := fun W x n c => Lib.run_eql_slice_nil (P := Try.prog) W 24 5 x n c 0 0 Try.underlying24
  have e2 : ((n : Nat) : Int).toNat = n := by omega
  have e4 : IntKind.i64.wrap (n : Int) = n := i64_id (by omega) (by omega)
  have s1 : (n : Int) ≤ 64 := by omega
  have s0 : 0 < (n : Int) := by omega
  go_enter Try.func72, Try.ntmps72
  go_wp2_with (go_at_call 73; refine (len_raw b o 0 0 _ _ c0 c1 (by omega)).mono ?_; rintro e w1 ⟨rfl, hd1⟩; have hO1 := HO.out.dr hd1; clear hd1 c0 c1 f0 HO; obtain ⟨c0, c1, f0⟩ := HG.out.hdr hO1; have HO := hid hO1; clear hO1)
  go_quiet (fail)
  go_wp2
  obtain ⟨F1, hF1, hO2⟩ := HG.out.toG (HO.out.drewN nq)
  generalize ((w1.drewN nq).setCell ⟨b, o, none⟩ (.slice (some ⟨b, o + 2, none⟩) 64 64)).setCell ⟨b, o + 1, none⟩ (.int .i64 0) = W at hO2 ⊢
  have h64 : boot.length = 64 := HG.out.1.1
  clear c0 c1 f0 HO HG
  obtain ⟨c0, c1, f0⟩ := hF1.hdr hO2
  simp only [h64] at c0
  have HO := hid hO2
  have HG := hid hF1
  have H64 := hid h64
  clear hO2 hF1 h64
  have e5 : IntKind.i64.wrap 0 = 0 := rfl
  go_still_tail 16, (by kernel_rfl)
  go_wp2
  go_ret
  obtain ⟨F', hF', hO3⟩ := HG.out.setLen HO.out.drew (L' := n) (by simp) (by simp only [H64.out]; exact hn)
  simp only [H64.out] at hO3
  exact ⟨rfl, F', hF', hO3⟩
theorem buf_home {b o L : Nat} {v0 v1 : Value} {J R : List Fr} {S : Fr} {data : List UInt8} {w0 w : World} (hO : Own (S :: (fp b o [v0, v1] :: J ++ R)) w0 w) (h1 : data.length ≤ L) (h2 : L ≤ S.cs.length) (h3 : S.cs.length ≤ 4398046511104) (h4 : S.cs.take data.length = bc data) (h5 : ∃ full, S.cs = bc full) :
    ∃ F', BufG b o data L S J F' ∧ Own (F' ++ R) w0 ((w.setCell ⟨b, o, none⟩ (.slice (some ⟨S.g, S.off, none⟩) L S.cs.length)).setCell ⟨b, o + 1, none⟩ (.int .i64 0)) := by
  have := (hO.swap01.set (k := o) 0 rfl (by simp) (.slice (some ⟨S.g, S.off, none⟩) L S.cs.length)).set (k := o + 1) 1 rfl (by simp) (.int .i64 0)
  exact ⟨_, ⟨h1, h2, h3, ⟨h4, h5⟩, rfl⟩, this⟩
set_option maxHeartbeats 1600000 in
set_option maxRecDepth 100000 in
/-- Nothing taken yet, and more than the bootstrap holds. -/
theorem grow_first (b o n : Nat) (boot : List Value) (F R : List Fr) (w0 w : World) (h : BufN b o boot F) (hO : Own (F ++ R) w0 w) (hn0 : 64 < n) (hn : n ≤ 1099511627776) :
    Calls Try.prog 72 #[.pointer (some ⟨b, o, none⟩), .int .i64 n] w fun e w' => e = .returned (.int .i64 0) ∧
      ∃ S J F', BufG b o [] n S J F' ∧ Own (F' ++ R) w0 w' := by
  obtain ⟨c0, c1, f0⟩ := h.hdr hO
  have HG := hid h
  have HO := hid hO
  clear hO h
  have en := fun W x n c => Lib.run_eql_slice_nil (P := Try.prog) W 24 5 x n c 0 0 Try.underlying24
  have e2 : ((n : Nat) : Int).toNat = n := by omega
  have e4 : IntKind.i64.wrap (n : Int) = n := i64_id (by omega) (by omega)
  have s1 : ¬ (n : Int) ≤ 64 := by omega
  have s0 : 0 < (n : Int) := by omega
  go_enter Try.func72, Try.ntmps72
  go_wp2_with (go_at_call 73; refine (len_raw b o 0 0 _ _ c0 c1 (by omega)).mono ?_; rintro e w1 ⟨rfl, hd1⟩; have hO1 := HO.out.dr hd1; clear hd1 c0 c1 f0 HO; obtain ⟨c0, c1, f0⟩ := HG.out.hdr hO1; have HO := hid hO1; clear hO1)
  go_quiet (fail)
  go_wp2_with (go_at_call 75; refine (makeSlice_any n (by omega) _).mono ?_; rintro e w2 ⟨g, rfl, hN⟩; have hO1 := (HO.out.drewN nq).join hN; clear hN c0 c1 f0 HO)
  have hN : BufN b o boot F := HG.out
  have hh := hN.hdr (F := F) (R := [fw g 5 (List.replicate n (Value.int IntKind.u8 0))] ++ R) (hO1.perm (perm_of fun _ _ z => by simp only [List.count_append, List.count_cons, List.count_nil]; omega))
  obtain ⟨c0, c1, f0⟩ := hh
  have HO := hid hO1
  clear hO1 hN
  have e5 : IntKind.i64.wrap 0 = 0 := rfl
  go_still_tail 10, (by kernel_rfl)
  go_wp2_with (refine own_copy rfl (.tmp 86) (.tmp 95) 24 24 rfl 5 Try.underlying24 Try.size_u8 (fw g 5 (List.replicate n (Value.int IntKind.u8 0))) 0 0 n n none 0 0 rfl rfl rfl HO.out.drew [] (BsAt.nil _ _) (by simp) (by simp) ?_; intro w3 hO3; have HO := hid hO3; clear hO3 c0 c1 f0; obtain ⟨c0, c1, f0⟩ := HG.out.hdr HO.out.drop)
  obtain ⟨F1, J, hF1, hO2⟩ : ∃ F1 J, BufG b o [] n (fw g 5 (List.replicate n (Value.int IntKind.u8 0))) J F1 ∧ Own (F1 ++ R) w0 ((w3.setCell ⟨b, o, none⟩ (.slice (some ⟨g, 0, none⟩) n n)).setCell ⟨b, o + 1, none⟩ (.int .i64 0)) := by
    obtain ⟨h64, rfl⟩ := HG.out
    have h1 := HO.out
    have e : splice (List.replicate n (Value.int IntKind.u8 0)) 0 (bc []) = List.replicate n (Value.int IntKind.u8 0) := by simp [splice, bc]
    rw [e] at h1
    obtain ⟨F1, h2, h3⟩ := buf_home (L := n) (data := []) (S := fw g 5 (List.replicate n (Value.int IntKind.u8 0))) (J := [fp b (o + 2) boot]) h1 (by simp) (by simp) (by simp; omega) (by simp [bc]) ⟨_, bc_zeros n⟩
    simp only [List.length_replicate] at h3
    exact ⟨F1, _, h2, h3⟩
  generalize (w3.setCell ⟨b, o, none⟩ (.slice (some ⟨g, 0, none⟩) n n)).setCell ⟨b, o + 1, none⟩ (.int .i64 0) = W at hO2 ⊢
  clear c0 c1 f0 HO HG
  obtain ⟨c0, c1, f0⟩ := hF1.hdr hO2
  simp only [List.length_replicate] at c0
  have HO := hid hO2
  have HG := hid hF1
  clear hO2 hF1
  go_still_tail 16, (by kernel_rfl)
  go_wp2
  go_ret
  obtain ⟨F', hF', hO3⟩ := HG.out.setLen HO.out.drew (L' := n) (by simp) (by simp)
  simp only [List.length_replicate] at hO3
  exact ⟨rfl, _, _, F', hF', hO3⟩
set_option maxHeartbeats 3200000 in
set_option maxRecDepth 100000 in
/-- No room: a greater block. -/
theorem grow_more (b o n : Nat) (data : List UInt8) (S : Fr) (J F R : List Fr) (w0 w : World) (h : BufG b o data data.length S J F) (hO : Own (F ++ R) w0 w) (hn : S.cs.length < data.length + n) (hm : data.length + n ≤ 1099511627776) :
    Calls Try.prog 72 #[.pointer (some ⟨b, o, none⟩), .int .i64 n] w fun e w' => e = .returned (.int .i64 (data.length : Int)) ∧
      ∃ S' J' F', BufG b o data (data.length + n) S' J' F' ∧ Own (F' ++ R) w0 w' := by
  obtain ⟨c0, c1, f0⟩ := h.hdr hO
  obtain ⟨_, h2, h3⟩ := h.le
  have hbs : BsAt w (some ⟨S.g, S.off, none⟩) data := by
    obtain ⟨_, _, _, h4, rfl⟩ := h
    exact Rd.fr (x := S) (R := [S]) (w0 := w0) (by simp) (i := 0) rfl (by omega) (by simpa using h4.1) w hO.only (fun x hx => by simp at hx; subst hx; exact hO.ins _ (by simp))
  have HG := hid h
  have HO := hid hO
  clear hO h
  obtain ⟨L, hL⟩ : ∃ L, data.length = L := ⟨_, rfl⟩
  obtain ⟨C, hC⟩ : ∃ C, S.cs.length = C := ⟨_, rfl⟩
  rw [hL] at c0 hn hm h2 ⊢
  rw [hC] at c0 hn h2 h3
  have HL := hid hL
  have HC := hid hC
  clear hL hC
  have en := fun W x n c => Lib.run_eql_slice_nil (P := Try.prog) W 24 5 x n c 0 0 Try.underlying24
  have hle : decide ((C : Int) < (L : Int) + (n : Int)) = true := decide_eq_true (by omega)
  have e1 : IntKind.i64.wrap ((L : Int) + (n : Int)) = (L : Int) + (n : Int) := i64_id (by omega) (by omega)
  have s5 : ¬ (L : Int) + (n : Int) ≤ (C : Int) / 2 := by omega
  have m1 : IntKind.i64.wrap (2 * (C : Int)) = 2 * (C : Int) := i64_id (by omega) (by omega)
  have m2 : IntKind.i64.wrap (2 * (C : Int) + (n : Int)) = ((2 * C + n : Nat) : Int) := by rw [i64_id (by omega) (by omega)]; omega
  cases hb : ((L : Int) == 0) <;> (
    go_enter Try.func72, Try.ntmps72
    go_wp2_with (go_at_call 73; refine (len_raw b o L C _ _ c0 c1 (by omega)).mono ?_; rintro e w1 ⟨rfl, hd1⟩; have hO1 := HO.out.dr hd1; replace hbs := hbs.dr hd1; clear hd1 c0 c1 f0 HO; obtain ⟨c0, c1, f0⟩ := HG.out.hdr hO1; rw [HL.out, HC.out] at c0; have HO := hid hO1; clear hO1)
    go_quiet (fail)
    go_wp2_with (go_at_call 75; refine (makeSlice_n _ (2 * C + n) (by omega) (by omega) _).mono ?_; rintro e w2 ⟨g, rfl, hN⟩; have hO1 := (HO.out.drewN nq).join hN; replace hbs := (hbs.drewN nq).keep0 hN.only; clear hN c0 c1 f0 HO; obtain ⟨c0, c1, f0⟩ := HG.out.hdr hO1.drop; rw [HL.out, HC.out] at c0; have HO := hid hO1; clear hO1)
    have e5 : IntKind.i64.wrap 0 = 0 := rfl
    go_still_tail 10, (by kernel_rfl)
    go_wp2_with (refine own_copy rfl (.tmp 86) (.tmp 95) 24 24 rfl 5 Try.underlying24 Try.size_u8 (fw g 5 (List.replicate (2 * C + n) (Value.int IntKind.u8 0))) 0 0 (2 * C + n) (2 * C + n) (some ⟨S.g, S.off, none⟩) L C rfl rfl rfl HO.out.drew data hbs.drew (by rw [HL.out]; omega) (by rw [HL.out]; simp; omega) ?_; intro w3 hO3; have HO := hid hO3; clear hO3 c0 c1 f0 hbs; obtain ⟨c0, c1, f0⟩ := HG.out.hdr HO.out.drop; rw [HL.out, HC.out] at c0)
    obtain ⟨S1, F1, J1, hF1, hS1, hO2⟩ : ∃ S1 F1 J1, BufG b o data (2 * C + n) S1 J1 F1 ∧ S1.cs.length = 2 * C + n ∧ Own (F1 ++ R) w0 ((w3.setCell ⟨b, o, none⟩ (.slice (some ⟨g, 0, none⟩) (2 * C + n) (2 * C + n))).setCell ⟨b, o + 1, none⟩ (.int .i64 0)) := by
      obtain ⟨_, _, _, _, rfl⟩ := HG.out
      have hl : (splice (List.replicate (2 * C + n) (Value.int IntKind.u8 0)) 0 (bc data)).length = 2 * C + n := by rw [length_splice _ _ _ (by rw [bc_length, HL.out]; simp; omega)]; simp
      obtain ⟨F1, h2, h3⟩ := buf_home (L := 2 * C + n) (data := data) HO.out (by rw [HL.out]; omega) (by simp only [hl]; omega) (by simp only [hl]; omega) (by
        have := splice_take0 (List.replicate (2 * C + n) (Value.int IntKind.u8 0)) (bc data) (by rw [bc_length, HL.out]; simp; omega)
        rwa [bc_length] at this) ⟨_, by rw [bc_zeros, bc_splice]⟩
      simp only [hl] at h3
      exact ⟨_, F1, _, h2, hl, h3⟩
    generalize (w3.setCell ⟨b, o, none⟩ (.slice (some ⟨g, 0, none⟩) (2 * C + n) (2 * C + n))).setCell ⟨b, o + 1, none⟩ (.int .i64 0) = W at hO2 ⊢
    clear c0 c1 f0 HO HG hle s5 m1 m2 en
    obtain ⟨c0, c1, f0⟩ := hF1.hdr hO2
    rw [hS1] at c0
    have HO := hid hO2
    have HG := hid hF1
    have HS := hid hS1
    clear hO2 hF1 hS1
    have s1 : (L : Int) + (n : Int) ≤ 2 * (C : Int) + (n : Int) := by omega
    have s2 : (L : Int) + (n : Int) ≤ ((2 * C + n : Nat) : Int) := by omega
    have e2 : ((L : Int) + (n : Int)).toNat = L + n := by omega
    have e3 : 0 ≤ (L : Int) + (n : Int) := by omega
    have e4 : IntKind.i64.wrap (L : Int) = L := i64_id (by omega) (by omega)
    go_still_tail 16, (by kernel_rfl)
    go_wp2
    go_ret
    obtain ⟨F', hF', hO3⟩ := HG.out.setLen HO.out.drew (L' := data.length + n) (by omega) (by rw [HS.out, HL.out]; omega)
    rw [HL.out] at hF' hO3
    rw [HS.out] at hO3
    exact ⟨by simp, _, _, F', hF', hO3⟩)
/-- Room for n bytes more. -/
theorem grow_any (b o n : Nat) (data : List UInt8) (F R : List Fr) (w0 w : World) (h : BufF b o data F) (hO : Own (F ++ R) w0 w) (hn : 0 < n ∨ data ≠ []) (hm : data.length + n ≤ 1099511627776) :
    Calls Try.prog 72 #[.pointer (some ⟨b, o, none⟩), .int .i64 n] w fun e w' => e = .returned (.int .i64 (data.length : Int)) ∧
      ∃ S' J' F', BufG b o data (data.length + n) S' J' F' ∧ Own (F' ++ R) w0 w' := by
  rcases h with ⟨rfl, boot, h⟩ | ⟨S, J, h⟩
  · replace hn : 0 < n := by simpa using hn
    by_cases h64 : n ≤ 64
    · refine (grow_boot b o n boot F R w0 w h hO hn h64).mono ?_
      rintro e w' ⟨rfl, F', h1, h2⟩
      exact ⟨rfl, _, _, F', by simpa using h1, h2⟩
    · refine (grow_first b o n boot F R w0 w h hO (by omega) (by simpa using hm)).mono ?_
      rintro e w' ⟨rfl, S, J, F', h1, h2⟩
      exact ⟨rfl, _, _, F', by simpa using h1, h2⟩
  · by_cases hc : data.length + n ≤ S.cs.length
    · refine (grow_room b o n data S J F R w0 w h hO hc).mono ?_
      rintro e w' ⟨rfl, F', h1, h2⟩
      exact ⟨rfl, _, _, F', h1, h2⟩
    · exact grow_more b o n data S J F R w0 w h hO (by omega) hm
end Go.Proofs.Ytloflmcgbbbnjaa
