/-
  bytes.Buffer, that has only been written: Write.
  bytes.Buffer, that has only been written: Len, grow, Write.
  bytes.Buffer, that has only been written: Write.
  table.Writer: writeBlock.
  LittleEndian.Uint32, util.Hash: what they return.
  More words on memory.
-/
import Derived.Test.YtloflmcgbbbnjaaDoorTabM2
import Derived.Test.YtloflmcgbbbnjaaDoorTabM4
import Derived.StillTailTactics
import Derived.Defers
import Derived.Recover
import Derived.Lib.AppendZeros
import Derived.Laws.ResultCell
import Derived.Test.YtloflmcgbbbnjaaDoorTabM3
namespace Go.Proofs.YtloflmcgbbbnjaaDoor
open Go.RowKit Plain
set_option linter.all false

theorem i64_id63' {x : Int} (h0 : -9223372036854775808 ≤ x) (h1 : x ≤ 9223372036854775807) : IntKind.i64.wrap x = x := by
  simp [IntKind.wrap, IntKind.bits, IntKind.signed]; omega
theorem ob_hdr {g : Nat} {v0 v1 v2 : Value} {R : List Fr} {w0 w : World} (hO : Own (fw g 88 [v0, v1, v2] :: R) w0 w) :
    w.cell? ⟨g, 0, none⟩ = some v0 ∧ w.cell? ⟨g, 1, none⟩ = some v1 ∧ w.cell? ⟨g, 2, none⟩ = some v2 ∧ (∀ k, w.frozen? ⟨g, k, none⟩ = false) ∧ g < w.heap.size :=
  ⟨hO.cell 0 rfl 0 rfl (by simp), hO.cell 0 rfl 1 rfl (by simp), hO.cell 0 rfl 2 rfl (by simp), fun k => hO.frozen 0 rfl k, hO.head.lt⟩
set_option maxHeartbeats 1600000 in
theorem tryGrow_no (g L n c : Nat) (A : Option Addr) (w : World) (c0 : w.cell? ⟨g, 0, none⟩ = some (.slice A L c)) (h : c < L + n) (hL : L ≤ c) (hc : c ≤ maxLen) (hn : n ≤ 1099511627776) :
    Calls Tryd.prog 164 #[.pointer (some ⟨g, 0, none⟩), .int .i64 n] w fun e w' => e = .returned (.tuple #[.int .i64 0, .bool false]) ∧ w = w' := by
  unfold maxLen at hc
  have e1 : IntKind.i64.wrap ((c : Int) - (L : Int)) = (c : Int) - (L : Int) := i64_id (by omega) (by omega)
  have t1 : decide ((n : Int) ≤ (c : Int) - (L : Int)) = false := decide_eq_false (by omega)
  go_enter Tryd.func164, Tryd.ntmps164
  go_wp2_with fail
  go_ret2
  exact ⟨rfl, rfl⟩
set_option maxHeartbeats 1600000 in
theorem tryGrow_yes (g L n c : Nat) (A : Option Addr) (v1 v2 : Value) (R : List Fr) (w0 w : World) (hO : Own (fw g 88 [.slice A L c, v1, v2] :: R) w0 w) (h : L + n ≤ c) (hL : L ≤ 1099511627776) (hc : c ≤ maxLen) (hn : n ≤ 1099511627776) :
    Calls Tryd.prog 164 #[.pointer (some ⟨g, 0, none⟩), .int .i64 n] w fun e w' => e = .returned (.tuple #[.int .i64 (L : Int), .bool true]) ∧ Own (fw g 88 [.slice A (L + n) c, v1, v2] :: R) w0 w' := by
  obtain ⟨c0, c1, c2, f0, bl⟩ := ob_hdr hO
  have HO := hid hO
  clear hO
  unfold maxLen at hc
  have e1 : IntKind.i64.wrap ((c : Int) - (L : Int)) = (c : Int) - (L : Int) := i64_id63' (by omega) (by omega)
  have t1 : decide ((n : Int) ≤ (c : Int) - (L : Int)) = true := decide_eq_true (by omega)
  have e2 : IntKind.i64.wrap ((L : Int) + (n : Int)) = (L : Int) + (n : Int) := i64_id (by omega) (by omega)
  have s1 : (L : Int) + (n : Int) ≤ (c : Int) := by omega
  have s2 : ((L : Int) + (n : Int)).toNat = L + n := by omega
  have s3 : 0 ≤ (L : Int) + (n : Int) := by omega
  go_enter Tryd.func164, Tryd.ntmps164
  go_wp2_with fail
  go_ret2
  exact ⟨rfl, HO.out.set (k := 0) 0 rfl (by simp) _⟩
theorem growSlice_idle (w : World) :
    CallsD Tryd.prog 167 #[] .returning w fun e u' w' => e = .returned (.tuple #[]) ∧ u' = .returning ∧ w' = w := by
  refine callsD_of_wpS Tryd.func167 rfl fun c₀ cs hu => ?_
  apply wpS_seq
  apply wpS_region
  simp [wpOpsS, go_sem, recoverD, hu, Tryd.ntmps167, Exit.thenS]
  refine wpS_cond (t := false) (by simp [Act.eval, Array.replicate]) ?_
  simp only [Bool.false_eq_true, if_false]
  refine wpS_of_wp (wp_skip ?_)
  cases c₀
  simp_all [bodyPostS, results, Tryd.results167]
/-- append of nothing but zeros to nil: a new row, as long as is asked, or longer. -/
theorem own_zeros {P : Program} {ops : Array Oper} {rest : List Oper} {o : Oper} {a : Act} {Q : Exit → Act → World → Prop} {w0 w : World} {R : List Fr} (hgd : o.guard = none) (s x : Operand) (t tn e : TypeId) (kn : IntKind)
    (ho : o.op = .call { callee := .builtin .append, args := #[s, x], argTypes := #[t, tn] }) (ht : P.underlying t = some (.slice e)) (htn : P.underlying tn = some (.int kn)) (hinfo : (P.info? e).map (fun i => (i.zero, i.size, i.bytes)) = some (some (.int .u8 0), 1, 1))
    (n : Nat) (y : Int) (hy : y = (n : Int)) (h0 : 0 < n) (hn : n ≤ 140737488355328) (hs : a.eval s = .slice none 0 0) (hx : a.eval x = .int .i64 y) (hO : Own R w0 w)
    (h : ∀ g c w', n ≤ c → c ≤ maxLen → Own (fw g e (List.replicate c (.int .u8 0)) :: R) w0 w' → wpList P ops Q rest (a.put o.dst (.slice (some ⟨g, 0, none⟩) n c)) w') : wpList P ops Q (o :: rest) a w := by
  subst hy
  obtain ⟨i, hi, hzz⟩ := Option.map_eq_some_iff.1 hinfo
  simp only [Prod.mk.injEq] at hzz
  obtain ⟨hz, hsz, hbt⟩ := hzz
  have hrun := Lib.run_append_nil_zeros (P := P) (ty := o.type) w t tn e i (.int .u8 0) .i64 kn ht htn hi hz n h0 (by omega) (by omega) (by rw [hbt]; omega)
  refine Lib.wpList_append_run w hgd s x t tn ho _ _ hs hx _ _ hrun ?_
  have hge := grownCap_ge w n 0 e
  have hle := grownCap_le_maxLen w n 0 e (by unfold maxLen; omega)
  have hcells : (Builtin.zeroCells (Value.int .u8 0).cells n ++ Builtin.zeroCells (Value.int .u8 0).cells (grownCap w n 0 e - n)).toList = List.replicate (grownCap w n 0 e) (.int .u8 0) := by
    have hz : ∀ m, (Builtin.zeroCells (Value.int .u8 0).cells m).toList = List.replicate m (.int .u8 0) := fun m => by
      refine List.eq_replicate_iff.2 ⟨by simp [Builtin.zeroCells, Value.cells], fun v hv => ?_⟩
      simp [Builtin.zeroCells, Value.cells] at hv
      obtain ⟨i, _, rfl⟩ := hv
      simp [Nat.mod_one]
    rw [Array.toList_append, hz, hz, List.replicate_append_replicate]
    congr 1; omega
  have hO1 := hO.drew.allocA rfl e (Builtin.zeroCells (Value.int .u8 0).cells n ++ Builtin.zeroCells (Value.int .u8 0).cells (grownCap w n 0 e - n))
  rw [hcells] at hO1
  exact h _ _ _ hge hle hO1

def GSOut (L n : Nat) (data : List UInt8) (R : List Fr) (w0 : World) (e : Ending) (w' : World) : Prop :=
  ∃ g c2 cs, e = .returned (.slice (some ⟨g, 0, none⟩) L c2) ∧ L + n ≤ c2 ∧ c2 ≤ maxLen ∧ cs.length = c2 ∧ cs.take L = bc data ∧ (∃ full, cs = bc full) ∧ Own (fw g 5 cs :: R) w0 w'
set_option maxHeartbeats 1600000 in
set_option maxRecDepth 100000 in
theorem growSlice_any (L n c : Nat) (A : Option Addr) (data : List UInt8) (R : List Fr) (w0 w : World) (hO : Own R w0 w) (hD : Rd R w0 A data) (hL : data.length = L) (hLc : L ≤ c) (hc : c < L + n) (hn : n ≤ 1099511627776) (hLm : L ≤ 1099511627776) :
    Calls Tryd.prog 166 #[.slice A L c, .int .i64 n] w (GSOut L n data R w0) := by
  have e1 : IntKind.i64.wrap ((L : Int) + (n : Int)) = (L : Int) + (n : Int) := i64_id (by omega) (by omega)
  have e2 : IntKind.i64.wrap (2 * (c : Int)) = 2 * (c : Int) := i64_id (by omega) (by omega)
  have hb : BsAt w A data := hO.st hD (fun x hx => hx)
  have HO := hid hO
  have HD := hid hD
  have HL := hid hL
  have hfin : ∀ (g c2 m : Nat) (W : World), m ≤ c2 → L ≤ m → Own (fw g 5 (splice (List.replicate c2 (Value.int .u8 0)) 0 (bc data)) :: R) w0 W →
      (splice (List.replicate c2 (Value.int .u8 0)) 0 (bc data)).length = c2 ∧ (splice (List.replicate c2 (Value.int .u8 0)) 0 (bc data)).take L = bc data ∧ ∃ full, splice (List.replicate c2 (Value.int .u8 0)) 0 (bc data) = bc full := fun g c2 m W h1 h2 _ => by
    refine ⟨by rw [length_splice _ _ _ (by rw [bc_length, hL]; simp; omega)]; simp, ?_, splice (List.replicate c2 0) 0 data, ?_⟩
    · have := splice_take0 (List.replicate c2 (Value.int .u8 0)) (bc data) (by rw [bc_length, hL]; simp; omega)
      rwa [bc_length, hL] at this
    · simp [splice, bc, List.map_drop]
  have HF := hid hfin
  clear hO hD hL hfin
  cases h2 : decide ((L : Int) + (n : Int) < 2 * (c : Int)) with
  | true =>
    have h2' := of_decide_eq_true h2
    go_enter_defers Tryd.func166, Tryd.ntmps166
    go_wp2_with (first
      | (at_builtin; refine own_zeros rfl _ _ 25 3 5 .i64 rfl Tryd.underlying25 Tryd.underlying3 Tryd.info_u8 (2 * c) _ (by omega) (by omega) (by omega) rfl rfl HO.out ?_; intro g c2 w1 hc2 hcm hO1; have HO1 := hid hO1; clear hO1)
      | (refine own_copy rfl (.tmp 22) (.tmp 23) 25 25 rfl 5 Tryd.underlying25 Tryd.size_u8 (fw g 5 (List.replicate c2 (Value.int .u8 0))) 0 0 (2 * c) c2 A L c rfl rfl rfl HO1.out data (HO1.out.st HD.out (fun x hx => List.mem_cons_of_mem _ hx)) (by rw [HL.out]; omega) (by rw [HL.out]; simp; omega) ?_; intro w2 hO2; rw [HL.out]; have HO2 := hid hO2; clear hO2))
    refine leaves_cons (f := 167) (args := #[]) (by simp) (by simp [go_sem]) ?_
    refine (growSlice_idle _).mono ?_
    rintro e u' w'' ⟨rfl, rfl, rfl⟩
    simp [Leaves, settle, results, Tryd.results166, go_sem]
    obtain ⟨f1, f2, f3⟩ := HF.out g c2 (2 * c) _ (by omega) (by omega) HO2.out
    exact ⟨g, c2, _, rfl, by omega, hcm, f1, f2, f3, HO2.out⟩
  | false =>
    have h2' := of_decide_eq_false h2
    go_enter_defers Tryd.func166, Tryd.ntmps166
    go_wp2_with (first
      | (at_builtin; refine own_zeros rfl _ _ 25 3 5 .i64 rfl Tryd.underlying25 Tryd.underlying3 Tryd.info_u8 (L + n) _ (by omega) (by omega) (by omega) rfl rfl HO.out ?_; intro g c2 w1 hc2 hcm hO1; have HO1 := hid hO1; clear hO1)
      | (refine own_copy rfl (.tmp 22) (.tmp 23) 25 25 rfl 5 Tryd.underlying25 Tryd.size_u8 (fw g 5 (List.replicate c2 (Value.int .u8 0))) 0 0 (L + n) c2 A L c rfl rfl rfl HO1.out data (HO1.out.st HD.out (fun x hx => List.mem_cons_of_mem _ hx)) (by rw [HL.out]; omega) (by rw [HL.out]; simp; omega) ?_; intro w2 hO2; rw [HL.out]; have HO2 := hid hO2; clear hO2))
    refine leaves_cons (f := 167) (args := #[]) (by simp) (by simp [go_sem]) ?_
    refine (growSlice_idle _).mono ?_
    rintro e u' w'' ⟨rfl, rfl, rfl⟩
    simp [Leaves, settle, results, Tryd.results166, go_sem]
    obtain ⟨f1, f2, f3⟩ := HF.out g c2 (L + n) _ (by omega) (by omega) HO2.out
    exact ⟨g, c2, _, rfl, by omega, hcm, f1, f2, f3, HO2.out⟩
end Go.Proofs.YtloflmcgbbbnjaaDoor
namespace Go.Proofs.YtloflmcgbbbnjaaDoor
open Go.RowKit Plain
set_option linter.all false

/-- What a bytes.Buffer's bytes stand in. -/
def Bk (A : Option Addr) (L c : Nat) (data : List UInt8) (F : List Fr) : Prop :=
  (A = none ∧ L = 0 ∧ c = 0 ∧ data = [] ∧ F = []) ∨ ∃ b full, A = some ⟨b, 0, none⟩ ∧ F = [fw b 5 (bc full)] ∧ full.length = c ∧ full.take L = data ∧ L ≤ c ∧ c ≤ maxLen
theorem Bk.len {A L c data F} (h : Bk A L c data F) : data.length = L ∧ L ≤ c ∧ c ≤ maxLen := by
  rcases h with ⟨rfl, rfl, rfl, rfl, rfl⟩ | ⟨b, full, rfl, rfl, h1, rfl, h3, h4⟩
  · simp [maxLen]
  · exact ⟨by rw [List.length_take]; omega, h3, h4⟩
theorem Bk.rd {A L c data F} (h : Bk A L c data F) (w0 : World) : Rd F w0 A data := by
  rcases h with ⟨rfl, rfl, rfl, rfl, rfl⟩ | ⟨b, full, rfl, rfl, h1, rfl, h3, h4⟩
  · exact Rd.nil _ _ _
  · exact Rd.fr (x := fw b 5 (bc full)) (by simp) (i := 0) rfl (by rw [List.length_take]; show 0 + min L full.length ≤ (bc full).length; rw [bc_length]; omega) (by rw [List.length_take, List.drop_zero, show min L full.length = L by omega]; simp [bc, List.map_take])
set_option maxHeartbeats 1600000 in
theorem len_ob (g L c : Nat) (A : Option Addr) (w : World) (c0 : w.cell? ⟨g, 0, none⟩ = some (.slice A L c)) (c1 : w.cell? ⟨g, 1, none⟩ = some (.int .i64 0)) (hL : L ≤ 1099511627776) :
    Calls Tryd.prog 163 #[.pointer (some ⟨g, 0, none⟩)] w fun e w' => e = .returned (.int .i64 (L : Int)) ∧ Dr w w' := by
  have e1 : IntKind.i64.wrap ((L : Int) - 0) = (L : Int) := by rw [Int.sub_zero]; exact i64_id (by omega) (by omega)
  have e2 : IntKind.i64.wrap (L : Int) = (L : Int) := i64_id (by omega) (by omega)
  go_enter Tryd.func163, Tryd.ntmps163
  go_wp2
  go_quiet (fail)
  go_wp2
  go_ret
  refine ⟨?_, ⟨_, rfl⟩⟩
  simp
def GrowOut (g L n : Nat) (data : List UInt8) (R : List Fr) (v2 : Value) (w0 : World) (e : Ending) (w' : World) : Prop :=
  e = .returned (.int .i64 (L : Int)) ∧ ∃ A c d F, Bk A (L + n) c d F ∧ d.take L = data ∧ Own (fw g 88 [.slice A (L + n) c, .int .i64 0, v2] :: (F ++ R)) w0 w'
set_option maxHeartbeats 3200000 in
set_option maxRecDepth 100000 in
theorem grow_small (g n : Nat) (v2 : Value) (R : List Fr) (w0 w : World) (hO : Own (fw g 88 [.slice none 0 0, .int .i64 0, v2] :: R) w0 w) (hn0 : 0 < n) (hn : n ≤ 64) :
    Calls Tryd.prog 165 #[.pointer (some ⟨g, 0, none⟩), .int .i64 n] w (GrowOut g 0 n [] R v2 w0) := by
  obtain ⟨c0, c1, c2, f0, bl⟩ := ob_hdr hO
  have HO := hid hO
  clear hO
  have t0 : ((0 : Int) == 0) = true := rfl
  have t1 : decide ((n : Int) ≤ 64) = true := decide_eq_true (by omega)
  have en := fun W x n c => Lib.run_eql_slice_nil (P := Tryd.prog) W 25 5 x n c 0 0 Tryd.underlying25
  go_enter Tryd.func165, Tryd.ntmps165
  go_wp2_with fail
  refine (len_ob g 0 0 none w c0 c1 (by omega)).mono ?_
  rintro e w1 ⟨rfl, hd1⟩
  have hO1 := HO.out.dr hd1
  clear hd1 c0 c1 c2 f0 bl HO
  obtain ⟨c0, c1, c2, f0, bl⟩ := ob_hdr hO1
  have HO := hid hO1
  clear hO1
  go_wp2_with (first
    | (go_at_call 164; refine (tryGrow_no g 0 n 0 none _ c0 (by omega) (by omega) (by unfold maxLen; omega) (by omega)).mono ?_; rintro e w2 ⟨rfl, rfl⟩)
    | (refine own_make rfl _ _ 25 rfl 5 (.int .u8 0) 1 Tryd.underlying25 Tryd.info_u8 rfl .i64 .i64 (n : Int) 64 n 64 rfl rfl rfl rfl (by omega) (by omega) (by omega) HO.out ?_; intro b w3 hO3; clear c0 c1 c2 f0 bl HO; obtain ⟨c0, c1, c2, f0, bl⟩ := ob_hdr hO3.swap01; have HO := hid hO3; clear hO3))
  go_ret
  have hOf := HO.out
  refine ⟨rfl, some ⟨b, 0, none⟩, 64, List.replicate (0 + n) 0, _, .inr ⟨b, List.replicate 64 0, rfl, rfl, by simp, ?_, by omega, by unfold maxLen; omega⟩, by simp, ?_⟩
  · rw [List.take_replicate]; congr 1; omega
  · rw [Nat.zero_add]
    have := HO.out.swap01.set (k := 0) 0 rfl (by simp) (.slice (some ⟨b, 0, none⟩) n 64)
    simpa [bc] using this
theorem bc_inj {a b : List UInt8} (h : bc a = bc b) : a = b := by
  refine (List.map_inj_right (fun x y hxy => ?_)).1 h
  simp only [Value.int.injEq, true_and] at hxy
  exact UInt8.toNat_inj.1 (by omega)
theorem grow_fin {g b L n m cc : Nat} {full data : List UInt8} {v0 v1 v2 x : Value} {F R : List Fr} {w0 w3 : World} {e : Ending} (h5 : (bc full).length = cc) (h6 : (bc full).take L = bc data) (h3 : L + n ≤ cc) (h4 : cc ≤ maxLen)
    (hO : Own (fw g 88 [v0, v1, v2] :: (fw b 5 (bc full) :: (F ++ R))) w0 w3) (he : e = .returned (.int .i64 (L : Int))) (hm : m = L + n) :
    GrowOut g L n data R v2 w0 e (((w3.setCell ⟨g, 0, none⟩ x).setCell ⟨g, 1, none⟩ (.int .i64 0)).setCell ⟨g, 0, none⟩ (.slice (some ⟨b, 0, none⟩) m cc)) := by
  rw [bc_length] at h5
  subst hm
  have h6' : full.take L = data := bc_inj (by rw [← h6]; simp [bc, List.map_take])
  refine ⟨he, some ⟨b, 0, none⟩, cc, full.take (L + n), _, .inr ⟨b, full, rfl, rfl, h5, rfl, h3, h4⟩, ?_, ?_⟩
  · rw [List.take_take, show min L (L + n) = L by omega, h6']
  · have h := ((hO.set (k := 0) 0 rfl (by simp) x).set (k := 1) 1 rfl (by simp) (.int .i64 0)).set (k := 0) 0 rfl (by simp) (.slice (some ⟨b, 0, none⟩) (L + n) cc)
    have h2 : Own (fw g 88 [.slice (some ⟨b, 0, none⟩) (L + n) cc, .int .i64 0, v2] :: (fw b 5 (bc full) :: (F ++ R))) w0 _ := h
    exact (h2.perm (L' := F ++ (fw g 88 [.slice (some ⟨b, 0, none⟩) (L + n) cc, .int .i64 0, v2] :: fw b 5 (bc full) :: R)) (perm_of fun _ _ z => by simp only [List.count_append, List.count_cons, List.cons_append, List.count_nil, List.nil_append, List.append_nil]; omega)).right
set_option maxHeartbeats 3200000 in
set_option maxRecDepth 100000 in
theorem grow_big (g L n c : Nat) (A : Option Addr) (data : List UInt8) (v2 : Value) (F R : List Fr) (w0 w : World) (hB : Bk A L c data F) (hO : Own (fw g 88 [.slice A L c, .int .i64 0, v2] :: (F ++ R)) w0 w) (hb : A = none → 64 < n) (hc : c < L + n) (hn : n ≤ 1099511627776) (hL : L ≤ 1099511627776) :
    Calls Tryd.prog 165 #[.pointer (some ⟨g, 0, none⟩), .int .i64 n] w (GrowOut g L n data R v2 w0) := by
  obtain ⟨c0, c1, c2, f0, bl⟩ := ob_hdr hO
  obtain ⟨hdl, hLc, hcm⟩ := hB.len
  have HO := hid hO
  have HB := hid hB
  have HDL := hid hdl
  clear hO hB hdl
  have t0 : ((0 : Int) == 0) = true := rfl
  have t1 : decide ((n : Int) ≤ (c : Int) / 2 - (L : Int)) = false := decide_eq_false (by omega)
  have t2 : decide ((c : Int) > 9223372036854775807 - (c : Int) - (n : Int)) = false := decide_eq_false (by omega)
  have en := fun W x n c => Lib.run_eql_slice_nil (P := Tryd.prog) W 25 5 x n c 0 0 Tryd.underlying25
  have en := fun W x n c => Lib.run_eql_slice_nil (P := Tryd.prog) W 25 5 x n c 0 0 Tryd.underlying25
  cases A with
  | none =>
    obtain ⟨_, rfl, rfl, rfl, rfl⟩ | ⟨b, full, h1, _⟩ := HB.out
    rotate_left
    · exact absurd h1 (by simp)
    have h64 := hb rfl
    have t3 : decide ((n : Int) ≤ 64) = false := decide_eq_false (by omega)
    have t4 : decide ((n : Int) ≤ 0) = false := decide_eq_false (by omega)
    have t5 : decide ((0:Int) > 9223372036854775807 - (n : Int)) = false := decide_eq_false (by omega)
    have e3 : IntKind.i64.wrap (n : Int) = n := i64_id (by omega) (by omega)
    have e4 : IntKind.i64.wrap (0 + (n : Int)) = n := by rw [Int.zero_add]; exact e3
    have q1 : (0:Int).tdiv 2 = 0 := rfl
    have q2 : (0:Int) / 2 = 0 := rfl
    go_enter Tryd.func165, Tryd.ntmps165
    go_wp2_with fail
    refine (len_ob g 0 0 none w c0 c1 (by omega)).mono ?_
    rintro e w1 ⟨rfl, hd1⟩
    have hO1 := HO.out.dr hd1
    clear hd1 c0 c1 c2 f0 bl HO
    obtain ⟨c0, c1, c2, f0, bl⟩ := ob_hdr hO1
    have HO := hid hO1
    clear hO1
    go_wp2_with (first
      | (go_at_call 164; refine (tryGrow_no g 0 n 0 none _ c0 (by omega) (by omega) (by unfold maxLen; omega) (by omega)).mono ?_; rintro e w2 ⟨rfl, rfl⟩))
    refine AnyT.start (S := fun w' => w'.cell? ⟨g, 0, none⟩ = some (.slice none 0 0) ∧ w'.cell? ⟨g, 1, none⟩ = some (.int .i64 0)) (T := [19]) (by kernel_rfl) (⟨c0, c1⟩) (fun hHeld => ?_)
    refine AnyT.take (i := 0) (v := ?_) (by simp only [List.getElem?_toArray, List.getElem?_cons_succ, List.getElem?_cons_zero]; rfl) (by kernel_rfl) (by kernel_rfl) (by kernel_rfl) (by kernel_rfl) (by intro _ _ _ h; exact h) (Or.inl ⟨by rfl, fun w hSw => ?_⟩) hHeld ?_
    rotate_left
    · ((try dsimp only at hSw); go_simp; first | done | with_reducible rfl | rfl)
    try simp only [Act.put, List.setIfInBounds_toArray, List.set_cons_zero, List.set_cons_succ]
    refine AnyT.take (i := 1) (v := ?_) (by simp only [List.getElem?_toArray, List.getElem?_cons_succ, List.getElem?_cons_zero]; rfl) (by kernel_rfl) (by kernel_rfl) (by kernel_rfl) (by kernel_rfl) (by intro _ _ _ h; exact h) (Or.inl ⟨by rfl, fun w hSw => ?_⟩) hHeld ?_
    rotate_left
    · ((try dsimp only at hSw); go_simp; first | done | with_reducible rfl | rfl)
    try simp only [Act.put, List.setIfInBounds_toArray, List.set_cons_zero, List.set_cons_succ]
    refine AnyT.take (i := 2) (v := ?_) (by simp only [List.getElem?_toArray, List.getElem?_cons_succ, List.getElem?_cons_zero]; rfl) (by kernel_rfl) (by kernel_rfl) (by kernel_rfl) (by kernel_rfl) (by intro _ _ _ h; exact h) (Or.inl ⟨by rfl, fun w hSw => ?_⟩) hHeld ?_
    rotate_left
    · ((try dsimp only at hSw); go_simp; first | done | with_reducible rfl | rfl)
    try simp only [Act.put, List.setIfInBounds_toArray, List.set_cons_zero, List.set_cons_succ]
    refine AnyT.take (i := 3) (v := ?_) (by simp only [List.getElem?_toArray, List.getElem?_cons_succ, List.getElem?_cons_zero]; rfl) (by kernel_rfl) (by kernel_rfl) (by kernel_rfl) (by kernel_rfl) (by intro _ _ _ h; exact h) (Or.inl ⟨by rfl, fun w hSw => ?_⟩) hHeld ?_
    rotate_left
    · ((try dsimp only at hSw); go_simp; first | done | with_reducible rfl | rfl)
    try simp only [Act.put, List.setIfInBounds_toArray, List.set_cons_zero, List.set_cons_succ]
    refine AnyT.take (i := 4) (v := ?_) (by simp only [List.getElem?_toArray, List.getElem?_cons_succ, List.getElem?_cons_zero]; rfl) (by kernel_rfl) (by kernel_rfl) (by kernel_rfl) (by kernel_rfl) (by intro _ _ _ h; exact h) (Or.inl ⟨by rfl, fun w hSw => ?_⟩) hHeld ?_
    rotate_left
    · ((try dsimp only at hSw); go_simp; first | done | with_reducible rfl | rfl)
    try simp only [Act.put, List.setIfInBounds_toArray, List.set_cons_zero, List.set_cons_succ]
    refine AnyT.take (i := 5) (v := ?_) (by simp only [List.getElem?_toArray, List.getElem?_cons_succ, List.getElem?_cons_zero]; rfl) (by kernel_rfl) (by kernel_rfl) (by kernel_rfl) (by kernel_rfl) (by intro _ _ _ h; exact h) (Or.inl ⟨by rfl, fun w hSw => ?_⟩) hHeld ?_
    rotate_left
    · ((try dsimp only at hSw); go_simp; first | done | with_reducible rfl | rfl)
    try simp only [Act.put, List.setIfInBounds_toArray, List.set_cons_zero, List.set_cons_succ]
    refine AnyT.take (i := 6) (v := ?_) (by simp only [List.getElem?_toArray, List.getElem?_cons_succ, List.getElem?_cons_zero]; rfl) (by kernel_rfl) (by kernel_rfl) (by kernel_rfl) (by kernel_rfl) (by intro _ _ _ h; exact h) (Or.inl ⟨by rfl, fun w hSw => ?_⟩) hHeld ?_
    rotate_left
    · ((try dsimp only at hSw); go_simp; first | done | with_reducible rfl | rfl)
    try simp only [Act.put, List.setIfInBounds_toArray, List.set_cons_zero, List.set_cons_succ]
    refine AnyT.take (i := 7) (v := ?_) (by simp only [List.getElem?_toArray, List.getElem?_cons_succ, List.getElem?_cons_zero]; rfl) (by kernel_rfl) (by kernel_rfl) (by kernel_rfl) (by kernel_rfl) (by intro _ _ _ h; exact h) (Or.inl ⟨by rfl, fun w hSw => ?_⟩) hHeld ?_
    rotate_left
    · ((try dsimp only at hSw); go_simp; first | done | with_reducible rfl | rfl)
    try simp only [Act.put, List.setIfInBounds_toArray, List.set_cons_zero, List.set_cons_succ]
    refine AnyT.take (i := 8) (v := ?_) (by simp only [List.getElem?_toArray, List.getElem?_cons_succ, List.getElem?_cons_zero]; rfl) (by kernel_rfl) (by kernel_rfl) (by kernel_rfl) (by kernel_rfl) (by intro _ _ _ h; exact h) (Or.inl ⟨by rfl, fun w hSw => ?_⟩) hHeld ?_
    rotate_left
    · ((try dsimp only at hSw); go_simp; first | done | with_reducible rfl | rfl)
    try simp only [Act.put, List.setIfInBounds_toArray, List.set_cons_zero, List.set_cons_succ]
    refine AnyT.take (i := 9) (v := ?_) (by simp only [List.getElem?_toArray, List.getElem?_cons_succ, List.getElem?_cons_zero]; rfl) (by kernel_rfl) (by kernel_rfl) (by kernel_rfl) (by kernel_rfl) (by intro _ _ _ h; exact h) (Or.inl ⟨by rfl, fun w hSw => ?_⟩) hHeld ?_
    rotate_left
    · ((try dsimp only at hSw); go_simp; first | done | with_reducible rfl | rfl)
    try simp only [Act.put, List.setIfInBounds_toArray, List.set_cons_zero, List.set_cons_succ]
    refine AnyT.take (i := 10) (v := ?_) (by simp only [List.getElem?_toArray, List.getElem?_cons_succ, List.getElem?_cons_zero]; rfl) (by kernel_rfl) (by kernel_rfl) (by kernel_rfl) (by kernel_rfl) (by intro _ _ _ h; exact h) (Or.inl ⟨by rfl, fun w hSw => ?_⟩) hHeld ?_
    rotate_left
    · ((try dsimp only at hSw); go_simp; first | done | with_reducible rfl | rfl)
    try simp only [Act.put, List.setIfInBounds_toArray, List.set_cons_zero, List.set_cons_succ]
    refine AnyT.take (i := 11) (v := ?_) (by simp only [List.getElem?_toArray, List.getElem?_cons_succ, List.getElem?_cons_zero]; rfl) (by kernel_rfl) (by kernel_rfl) (by kernel_rfl) (by kernel_rfl) (by intro _ _ _ h; exact h) (Or.inl ⟨by rfl, fun w hSw => ?_⟩) hHeld ?_
    rotate_left
    · ((try dsimp only at hSw); go_simp; first | done | with_reducible rfl | rfl)
    try simp only [Act.put, List.setIfInBounds_toArray, List.set_cons_zero, List.set_cons_succ]
    refine AnyT.take (i := 12) (v := ?_) (by simp only [List.getElem?_toArray, List.getElem?_cons_succ, List.getElem?_cons_zero]; rfl) (by kernel_rfl) (by kernel_rfl) (by kernel_rfl) (by kernel_rfl) (by intro _ _ _ h; exact h) (Or.inl ⟨by rfl, fun w hSw => ?_⟩) hHeld ?_
    rotate_left
    · ((try dsimp only at hSw); go_simp; first | done | with_reducible rfl | rfl)
    try simp only [Act.put, List.setIfInBounds_toArray, List.set_cons_zero, List.set_cons_succ]
    refine AnyT.take (i := 13) (v := ?_) (by simp only [List.getElem?_toArray, List.getElem?_cons_succ, List.getElem?_cons_zero]; rfl) (by kernel_rfl) (by kernel_rfl) (by kernel_rfl) (by kernel_rfl) (by intro _ _ _ h; exact h) (Or.inl ⟨by rfl, fun w hSw => ?_⟩) hHeld ?_
    rotate_left
    · ((try dsimp only at hSw); go_simp; first | done | with_reducible rfl | rfl)
    try simp only [Act.put, List.setIfInBounds_toArray, List.set_cons_zero, List.set_cons_succ]
    refine AnyT.take (i := 14) (v := ?_) (by simp only [List.getElem?_toArray, List.getElem?_cons_succ, List.getElem?_cons_zero]; rfl) (by kernel_rfl) (by kernel_rfl) (by kernel_rfl) (by kernel_rfl) (by intro _ _ _ h; exact h) (Or.inl ⟨by rfl, fun w hSw => ?_⟩) hHeld ?_
    rotate_left
    · ((try dsimp only at hSw); go_simp; first | done | with_reducible rfl | rfl)
    try simp only [Act.put, List.setIfInBounds_toArray, List.set_cons_zero, List.set_cons_succ]
    refine AnyT.take (i := 15) (v := ?_) (by simp only [List.getElem?_toArray, List.getElem?_cons_succ, List.getElem?_cons_zero]; rfl) (by kernel_rfl) (by kernel_rfl) (by kernel_rfl) (by kernel_rfl) (by intro _ _ _ h; exact h) (Or.inl ⟨by rfl, fun w hSw => ?_⟩) hHeld ?_
    rotate_left
    · ((try dsimp only at hSw); go_simp; first | done | with_reducible rfl | rfl)
    try simp only [Act.put, List.setIfInBounds_toArray, List.set_cons_zero, List.set_cons_succ]
    refine AnyT.ready (rs := [16]) (by kernel_rfl) (by simp) ?_
    refine AllT.cons (by simp only [List.getElem?_toArray, List.getElem?_cons_succ, List.getElem?_cons_zero]; rfl) (fun K hK => ?_) AllT.nil
    go_simp
    try simp only [e3, e4]
    refine (growSlice_any 0 n 0 none [] _ w0 _ HO.out.drew (Rd.nil _ _ _) rfl (by omega) (by omega) (by omega) (by omega)).mono ?_
    rintro e w3 ⟨b, cc, cs, rfl, q3, q4, q5, q6, ⟨full, rfl⟩, hO3⟩
    try go_wp2_with fail
    have hO4 := hO3.swap01
    clear c0 c1 c2 f0 bl HO
    obtain ⟨c0, c1, c2, f0, bl⟩ := ob_hdr hO4
    have HO := hid hO4
    clear hO3 hO4
    refine hK.out _ _ ?_ (fun hHeld => ?_)
    · exact ⟨c0, c1⟩
    clear hK
    try simp only [Act.put, List.setIfInBounds_toArray, List.set_cons_zero, List.set_cons_succ]
    refine AnyT.ready (rs := [17]) (by kernel_rfl) (by simp) ?_
    refine AllT.cons (by simp only [List.getElem?_toArray, List.getElem?_cons_succ, List.getElem?_cons_zero]; rfl) (fun K hK => ?_) AllT.nil
    go_simp
    refine hK.out _ _ ?_ (fun hHeld => ?_)
    · exact ⟨c0, c1⟩
    clear hK
    try simp only [Act.put, List.setIfInBounds_toArray, List.set_cons_zero, List.set_cons_succ]
    refine AnyT.take (i := 18) (v := ?_) (by simp only [List.getElem?_toArray, List.getElem?_cons_succ, List.getElem?_cons_zero]; rfl) (by kernel_rfl) (by kernel_rfl) (by kernel_rfl) (by kernel_rfl) (by intro _ _ _ h; exact h) (Or.inl ⟨by rfl, fun w hSw => ?_⟩) hHeld ?_
    rotate_left
    · ((try dsimp only at hSw); go_simp; first | done | with_reducible rfl | rfl)
    try simp only [Act.put, List.setIfInBounds_toArray, List.set_cons_zero, List.set_cons_succ]
    refine AnyT.ready (rs := [19]) (by kernel_rfl) (by simp) ?_
    refine AllT.late (by simp only [List.getElem?_toArray, List.getElem?_cons_succ, List.getElem?_cons_zero]; rfl) (by kernel_rfl) (fun K hK => ?_)
    go_simp
    refine hK.out _ _ ?_
    clear hK
    try simp only [Act.put, List.setIfInBounds_toArray, List.set_cons_zero, List.set_cons_succ]
    refine AnyT.done (by kernel_rfl) ?_ _
    go_wp2_with fail
    go_ret
    exact grow_fin (F := []) (v1 := .int .i64 0) q5 q6 q3 q4 HO.out rfl (by omega)
  | some a =>
    obtain ⟨b, full, h1, h2, h3, h4, h5, h6⟩ : ∃ b full, some a = some ⟨b, 0, none⟩ ∧ F = [fw b 5 (bc full)] ∧ full.length = c ∧ full.take L = data ∧ L ≤ c ∧ c ≤ maxLen := by
      rcases HB.out with ⟨h, _⟩ | h
      · exact absurd h (by simp)
      · exact h
    obtain rfl : a = ⟨b, 0, none⟩ := by injection h1
    clear h1
    subst h2
    have e3 : IntKind.i64.wrap (n : Int) = n := i64_id (by omega) (by omega)
    have e4 : IntKind.i64.wrap (0 + (n : Int)) = n := by rw [Int.zero_add]; exact e3
    have q1 : ((c : Int)).tdiv 2 = (c : Int) / 2 := Int.tdiv_eq_ediv_of_nonneg (by omega)
    have e6 : IntKind.i64.wrap ((c : Int) / 2) = (c : Int) / 2 := i64_id (by omega) (by omega)
    have e7 : IntKind.i64.wrap ((c : Int) / 2 - L) = (c : Int) / 2 - L := i64_id (by omega) (by omega)
    have e8 : IntKind.i64.wrap (9223372036854775807 - (c : Int)) = 9223372036854775807 - (c : Int) := i64_id63' (by omega) (by omega)
    have e9 : IntKind.i64.wrap (9223372036854775807 - (c : Int) - n) = 9223372036854775807 - (c : Int) - n := i64_id63' (by omega) (by omega)
    have e10 : IntKind.i64.wrap ((L : Int) + n) = (L : Int) + n := i64_id (by omega) (by omega)
    have s2 : ((L : Int) + (n : Int)).toNat = L + n := by omega
    cases hL0 : ((L : Int) == 0) <;> (
    go_enter Tryd.func165, Tryd.ntmps165
    go_wp2_with fail
    refine (len_ob g L c _ w c0 c1 (by omega)).mono ?_
    rintro e w1 ⟨rfl, hd1⟩
    have hO1 := HO.out.dr hd1
    clear hd1 c0 c1 c2 f0 bl HO
    obtain ⟨c0, c1, c2, f0, bl⟩ := ob_hdr hO1
    have HO := hid hO1
    clear hO1
    go_wp2_with (first
      | (go_at_call 164; refine (tryGrow_no g L n c _ _ c0 (by omega) (by omega) (by unfold maxLen; omega) (by omega)).mono ?_; rintro e w2 ⟨rfl, rfl⟩))
    refine AnyT.start (S := fun w' => w'.cell? ⟨g, 0, none⟩ = some (.slice (some ⟨b, 0, none⟩) L c) ∧ w'.cell? ⟨g, 1, none⟩ = some (.int .i64 0)) (T := [19]) (by kernel_rfl) (⟨c0, c1⟩) (fun hHeld => ?_)
    refine AnyT.take (i := 0) (v := ?_) (by simp only [List.getElem?_toArray, List.getElem?_cons_succ, List.getElem?_cons_zero]; rfl) (by kernel_rfl) (by kernel_rfl) (by kernel_rfl) (by kernel_rfl) (by intro _ _ _ h; exact h) (Or.inl ⟨by rfl, fun w hSw => ?_⟩) hHeld ?_
    rotate_left
    · ((try dsimp only at hSw); go_simp; first | done | with_reducible rfl | rfl)
    try simp only [Act.put, List.setIfInBounds_toArray, List.set_cons_zero, List.set_cons_succ]
    refine AnyT.take (i := 1) (v := ?_) (by simp only [List.getElem?_toArray, List.getElem?_cons_succ, List.getElem?_cons_zero]; rfl) (by kernel_rfl) (by kernel_rfl) (by kernel_rfl) (by kernel_rfl) (by intro _ _ _ h; exact h) (Or.inl ⟨by rfl, fun w hSw => ?_⟩) hHeld ?_
    rotate_left
    · ((try dsimp only at hSw); go_simp; first | done | with_reducible rfl | rfl)
    try simp only [Act.put, List.setIfInBounds_toArray, List.set_cons_zero, List.set_cons_succ]
    refine AnyT.take (i := 2) (v := ?_) (by simp only [List.getElem?_toArray, List.getElem?_cons_succ, List.getElem?_cons_zero]; rfl) (by kernel_rfl) (by kernel_rfl) (by kernel_rfl) (by kernel_rfl) (by intro _ _ _ h; exact h) (Or.inl ⟨by rfl, fun w hSw => ?_⟩) hHeld ?_
    rotate_left
    · ((try dsimp only at hSw); go_simp; first | done | with_reducible rfl | rfl)
    try simp only [Act.put, List.setIfInBounds_toArray, List.set_cons_zero, List.set_cons_succ]
    refine AnyT.take (i := 3) (v := ?_) (by simp only [List.getElem?_toArray, List.getElem?_cons_succ, List.getElem?_cons_zero]; rfl) (by kernel_rfl) (by kernel_rfl) (by kernel_rfl) (by kernel_rfl) (by intro _ _ _ h; exact h) (Or.inl ⟨by rfl, fun w hSw => ?_⟩) hHeld ?_
    rotate_left
    · ((try dsimp only at hSw); go_simp; first | done | with_reducible rfl | rfl)
    try simp only [Act.put, List.setIfInBounds_toArray, List.set_cons_zero, List.set_cons_succ]
    refine AnyT.take (i := 4) (v := ?_) (by simp only [List.getElem?_toArray, List.getElem?_cons_succ, List.getElem?_cons_zero]; rfl) (by kernel_rfl) (by kernel_rfl) (by kernel_rfl) (by kernel_rfl) (by intro _ _ _ h; exact h) (Or.inl ⟨by rfl, fun w hSw => ?_⟩) hHeld ?_
    rotate_left
    · ((try dsimp only at hSw); go_simp; first | done | with_reducible rfl | rfl)
    try simp only [Act.put, List.setIfInBounds_toArray, List.set_cons_zero, List.set_cons_succ]
    refine AnyT.take (i := 5) (v := ?_) (by simp only [List.getElem?_toArray, List.getElem?_cons_succ, List.getElem?_cons_zero]; rfl) (by kernel_rfl) (by kernel_rfl) (by kernel_rfl) (by kernel_rfl) (by intro _ _ _ h; exact h) (Or.inl ⟨by rfl, fun w hSw => ?_⟩) hHeld ?_
    rotate_left
    · ((try dsimp only at hSw); go_simp; first | done | with_reducible rfl | rfl)
    try simp only [Act.put, List.setIfInBounds_toArray, List.set_cons_zero, List.set_cons_succ]
    refine AnyT.take (i := 6) (v := ?_) (by simp only [List.getElem?_toArray, List.getElem?_cons_succ, List.getElem?_cons_zero]; rfl) (by kernel_rfl) (by kernel_rfl) (by kernel_rfl) (by kernel_rfl) (by intro _ _ _ h; exact h) (Or.inl ⟨by rfl, fun w hSw => ?_⟩) hHeld ?_
    rotate_left
    · ((try dsimp only at hSw); go_simp; first | done | with_reducible rfl | rfl)
    try simp only [Act.put, List.setIfInBounds_toArray, List.set_cons_zero, List.set_cons_succ]
    refine AnyT.take (i := 7) (v := ?_) (by simp only [List.getElem?_toArray, List.getElem?_cons_succ, List.getElem?_cons_zero]; rfl) (by kernel_rfl) (by kernel_rfl) (by kernel_rfl) (by kernel_rfl) (by intro _ _ _ h; exact h) (Or.inl ⟨by rfl, fun w hSw => ?_⟩) hHeld ?_
    rotate_left
    · ((try dsimp only at hSw); go_simp; first | done | with_reducible rfl | rfl)
    try simp only [Act.put, List.setIfInBounds_toArray, List.set_cons_zero, List.set_cons_succ]
    refine AnyT.take (i := 8) (v := ?_) (by simp only [List.getElem?_toArray, List.getElem?_cons_succ, List.getElem?_cons_zero]; rfl) (by kernel_rfl) (by kernel_rfl) (by kernel_rfl) (by kernel_rfl) (by intro _ _ _ h; exact h) (Or.inl ⟨by rfl, fun w hSw => ?_⟩) hHeld ?_
    rotate_left
    · ((try dsimp only at hSw); go_simp; first | done | with_reducible rfl | rfl)
    try simp only [Act.put, List.setIfInBounds_toArray, List.set_cons_zero, List.set_cons_succ]
    refine AnyT.take (i := 9) (v := ?_) (by simp only [List.getElem?_toArray, List.getElem?_cons_succ, List.getElem?_cons_zero]; rfl) (by kernel_rfl) (by kernel_rfl) (by kernel_rfl) (by kernel_rfl) (by intro _ _ _ h; exact h) (Or.inl ⟨by rfl, fun w hSw => ?_⟩) hHeld ?_
    rotate_left
    · ((try dsimp only at hSw); go_simp; first | done | with_reducible rfl | rfl)
    try simp only [Act.put, List.setIfInBounds_toArray, List.set_cons_zero, List.set_cons_succ]
    refine AnyT.take (i := 10) (v := ?_) (by simp only [List.getElem?_toArray, List.getElem?_cons_succ, List.getElem?_cons_zero]; rfl) (by kernel_rfl) (by kernel_rfl) (by kernel_rfl) (by kernel_rfl) (by intro _ _ _ h; exact h) (Or.inl ⟨by rfl, fun w hSw => ?_⟩) hHeld ?_
    rotate_left
    · ((try dsimp only at hSw); go_simp; first | done | with_reducible rfl | rfl)
    try simp only [Act.put, List.setIfInBounds_toArray, List.set_cons_zero, List.set_cons_succ]
    refine AnyT.take (i := 11) (v := ?_) (by simp only [List.getElem?_toArray, List.getElem?_cons_succ, List.getElem?_cons_zero]; rfl) (by kernel_rfl) (by kernel_rfl) (by kernel_rfl) (by kernel_rfl) (by intro _ _ _ h; exact h) (Or.inl ⟨by rfl, fun w hSw => ?_⟩) hHeld ?_
    rotate_left
    · ((try dsimp only at hSw); go_simp; first | done | with_reducible rfl | rfl)
    try simp only [Act.put, List.setIfInBounds_toArray, List.set_cons_zero, List.set_cons_succ]
    refine AnyT.take (i := 12) (v := ?_) (by simp only [List.getElem?_toArray, List.getElem?_cons_succ, List.getElem?_cons_zero]; rfl) (by kernel_rfl) (by kernel_rfl) (by kernel_rfl) (by kernel_rfl) (by intro _ _ _ h; exact h) (Or.inl ⟨by rfl, fun w hSw => ?_⟩) hHeld ?_
    rotate_left
    · ((try dsimp only at hSw); go_simp; first | done | with_reducible rfl | rfl)
    try simp only [Act.put, List.setIfInBounds_toArray, List.set_cons_zero, List.set_cons_succ]
    refine AnyT.take (i := 13) (v := ?_) (by simp only [List.getElem?_toArray, List.getElem?_cons_succ, List.getElem?_cons_zero]; rfl) (by kernel_rfl) (by kernel_rfl) (by kernel_rfl) (by kernel_rfl) (by intro _ _ _ h; exact h) (Or.inl ⟨by rfl, fun w hSw => ?_⟩) hHeld ?_
    rotate_left
    · ((try dsimp only at hSw); go_simp; first | done | with_reducible rfl | rfl)
    try simp only [Act.put, List.setIfInBounds_toArray, List.set_cons_zero, List.set_cons_succ]
    refine AnyT.take (i := 14) (v := ?_) (by simp only [List.getElem?_toArray, List.getElem?_cons_succ, List.getElem?_cons_zero]; rfl) (by kernel_rfl) (by kernel_rfl) (by kernel_rfl) (by kernel_rfl) (by intro _ _ _ h; exact h) (Or.inl ⟨by rfl, fun w hSw => ?_⟩) hHeld ?_
    rotate_left
    · ((try dsimp only at hSw); go_simp; first | done | with_reducible rfl | rfl)
    try simp only [Act.put, List.setIfInBounds_toArray, List.set_cons_zero, List.set_cons_succ]
    refine AnyT.take (i := 15) (v := ?_) (by simp only [List.getElem?_toArray, List.getElem?_cons_succ, List.getElem?_cons_zero]; rfl) (by kernel_rfl) (by kernel_rfl) (by kernel_rfl) (by kernel_rfl) (by intro _ _ _ h; exact h) (Or.inl ⟨by rfl, fun w hSw => ?_⟩) hHeld ?_
    rotate_left
    · ((try dsimp only at hSw); go_simp; first | done | with_reducible rfl | rfl)
    try simp only [Act.put, List.setIfInBounds_toArray, List.set_cons_zero, List.set_cons_succ]
    refine AnyT.ready (rs := [16]) (by kernel_rfl) (by simp) ?_
    refine AllT.cons (by simp only [List.getElem?_toArray, List.getElem?_cons_succ, List.getElem?_cons_zero]; rfl) (fun K hK => ?_) AllT.nil
    go_simp
    try simp only [e3, e4]
    refine (growSlice_any L n c (some ⟨b, 0, none⟩) data _ w0 _ HO.out.drew ((HB.out.rd w0).mono (by simp)) HDL.out (by omega) (by omega) (by omega) (by omega)).mono ?_
    rintro e w3 ⟨b', cc, cs, rfl, q3, q4, q5, q6, ⟨full', rfl⟩, hO3⟩
    try go_wp2_with fail
    have hO4 := hO3.swap01
    clear c0 c1 c2 f0 bl HO
    obtain ⟨c0, c1, c2, f0, bl⟩ := ob_hdr hO4
    have HO := hid hO4
    clear hO3 hO4
    refine hK.out _ _ ?_ (fun hHeld => ?_)
    · exact ⟨c0, c1⟩
    clear hK
    try simp only [Act.put, List.setIfInBounds_toArray, List.set_cons_zero, List.set_cons_succ]
    refine AnyT.ready (rs := [17]) (by kernel_rfl) (by simp) ?_
    refine AllT.cons (by simp only [List.getElem?_toArray, List.getElem?_cons_succ, List.getElem?_cons_zero]; rfl) (fun K hK => ?_) AllT.nil
    go_simp
    refine hK.out _ _ ?_ (fun hHeld => ?_)
    · exact ⟨c0, c1⟩
    clear hK
    try simp only [Act.put, List.setIfInBounds_toArray, List.set_cons_zero, List.set_cons_succ]
    refine AnyT.take (i := 18) (v := ?_) (by simp only [List.getElem?_toArray, List.getElem?_cons_succ, List.getElem?_cons_zero]; rfl) (by kernel_rfl) (by kernel_rfl) (by kernel_rfl) (by kernel_rfl) (by intro _ _ _ h; exact h) (Or.inl ⟨by rfl, fun w hSw => ?_⟩) hHeld ?_
    rotate_left
    · ((try dsimp only at hSw); go_simp; first | done | with_reducible rfl | rfl)
    try simp only [Act.put, List.setIfInBounds_toArray, List.set_cons_zero, List.set_cons_succ]
    refine AnyT.ready (rs := [19]) (by kernel_rfl) (by simp) ?_
    refine AllT.late (by simp only [List.getElem?_toArray, List.getElem?_cons_succ, List.getElem?_cons_zero]; rfl) (by kernel_rfl) (fun K hK => ?_)
    go_simp
    refine hK.out _ _ ?_
    clear hK
    try simp only [Act.put, List.setIfInBounds_toArray, List.set_cons_zero, List.set_cons_succ]
    refine AnyT.done (by kernel_rfl) ?_ _
    go_wp2_with fail
    go_ret
    exact grow_fin (F := [fw b 5 (bc full)]) (v1 := .int .i64 0) q5 q6 q3 q4 HO.out rfl rfl)
end Go.Proofs.YtloflmcgbbbnjaaDoor
namespace Go.Proofs.YtloflmcgbbbnjaaDoor
open Go.RowKit Plain
set_option linter.all false

theorem grow_ob (g L n c : Nat) (A : Option Addr) (data : List UInt8) (v2 : Value) (F R : List Fr) (w0 w : World) (hB : Bk A L c data F) (hO : Own (fw g 88 [.slice A L c, .int .i64 0, v2] :: (F ++ R)) w0 w) (hc : c < L + n) (hn : n ≤ 1099511627776) (hL : L ≤ 1099511627776) :
    Calls Tryd.prog 165 #[.pointer (some ⟨g, 0, none⟩), .int .i64 n] w (GrowOut g L n data R v2 w0) := by
  by_cases h : A = none ∧ n ≤ 64
  · obtain ⟨rfl, hn4⟩ := h
    rcases hB with ⟨_, rfl, rfl, rfl, rfl⟩ | ⟨b, full, h1, _⟩
    · exact grow_small g n v2 R w0 w hO (by omega) hn4
    · exact absurd h1 (by simp)
  · exact grow_big g L n c A data v2 F R w0 w hB hO (fun hA => by by_cases h4 : n ≤ 64; exact absurd ⟨hA, h4⟩ h; omega) hc hn hL
/-- A bytes.Buffer at g that has been written the bytes of data. -/
def OB (g : Nat) (data : List UInt8) (F : List Fr) : Prop := ∃ A c v2 F1, Bk A data.length c data F1 ∧ F = fw g 88 [.slice A data.length c, .int .i64 0, v2] :: F1
theorem splice_end {full data d p : List UInt8} {L n : Nat} (hL : data.length = L) (hp : p.length = n) (hd : (full.take (L + n)).take L = data) (hf : L + n ≤ full.length) : (splice full L p).take (L + n) = data ++ p := by
  have := splice_take full L p (by omega)
  rw [hp] at this
  rw [this]
  congr 1
  rw [← hd, List.take_take, show min L (L + n) = L by omega]
set_option maxHeartbeats 3200000 in
set_option maxRecDepth 100000 in
theorem write_ob (g n pc : Nat) (pA : Option Addr) (data p : List UInt8) (F R : List Fr) (w0 w : World) (h : OB g data F) (hO : Own (F ++ R) w0 w) (hP : Rd R w0 pA p) (hn : p.length = n) (hn0 : 0 < n) (hnm : n ≤ 1099511627776) (hL : data.length ≤ 1099511627776) :
    Calls Tryd.prog 162 #[.pointer (some ⟨g, 0, none⟩), .slice pA n pc] w fun e w' => e = .returned (.tuple #[.int .i64 n, .nilIface]) ∧ ∃ F', OB g (data ++ p) F' ∧ Own (F' ++ R) w0 w' := by
  obtain ⟨A, c, v2, F1, hB, rfl⟩ := h
  obtain ⟨L, hLL⟩ : ∃ L, data.length = L := ⟨_, rfl⟩
  have HLL := hid hLL
  rw [hLL] at hB hO hL
  rw [List.cons_append] at hO
  obtain ⟨_, hLc, hcm⟩ := hB.len
  obtain ⟨c0, c1, c2, f0, bl⟩ := ob_hdr hO
  have hO1 : Own (fw g 88 [.slice A L c, .int .i64 0, .int .i8 0] :: (F1 ++ R)) w0 (w.setCell ⟨g, 2, none⟩ (.int .i8 0)) := hO.set (k := 2) 2 rfl (by simp) (.int .i8 0)
  obtain ⟨W, hW⟩ : ∃ W, w.setCell ⟨g, 2, none⟩ (.int .i8 0) = W := ⟨_, rfl⟩
  have HW := hid hW
  rw [hW] at hO1
  have HO := hid hO1
  have HB := hid hB
  have HP := hid hP
  have HN := hid hn
  clear hO hO1 hB hP hn hLL
  have hfin : ∀ (b cc m : Nat) (full : List UInt8) (R' : List Fr) (w' : World), m = L + n → full.length = cc → (full.take (L + n)).take L = data → L + n ≤ cc → cc ≤ maxLen → Own (fw b 5 (splice (bc full) L (bc p)) :: (fw g 88 [.slice (some ⟨b, 0, none⟩) m cc, .int .i64 0, .int .i8 0] :: R')) w0 w' →
      ∃ F', OB g (data ++ p) F' ∧ Own (F' ++ R') w0 w' := fun b cc m full R' w' hm h1 h2 h3 h4 hO => by
    subst hm
    rw [show splice (bc full) L (bc p) = bc (splice full L p) by simp [splice, bc, List.map_take, List.map_drop]] at hO
    refine ⟨_, ⟨some ⟨b, 0, none⟩, cc, .int .i8 0, [fw b 5 (bc (splice full L p))], .inr ⟨b, splice full L p, rfl, rfl, ?_, ?_, ?_, h4⟩, rfl⟩, ?_⟩
    · rw [length_splice _ _ _ (by rw [HN.out, h1]; omega), h1]
    · rw [List.length_append, HLL.out, HN.out]
      exact splice_end (d := []) HLL.out HN.out h2 (by omega)
    · rw [List.length_append, HLL.out, HN.out]; exact h3
    · rw [List.length_append, HLL.out, HN.out]
      exact hO.swap01
  have HF := hid hfin
  clear hfin
  by_cases hg : L + n ≤ c
  · obtain ⟨b, full, rfl, rfl, h3, h4, h5, h6⟩ : ∃ b full, A = some ⟨b, 0, none⟩ ∧ F1 = [fw b 5 (bc full)] ∧ full.length = c ∧ full.take L = data ∧ L ≤ c ∧ c ≤ maxLen := by
      rcases HB.out with ⟨_, rfl, rfl, _⟩ | h
      · omega
      · exact h
    go_enter Tryd.func162, Tryd.ntmps162
    go_wp2_with fail
    try rw [HW.out]
    clear HW hW
    refine (tryGrow_yes g L n c _ _ _ _ w0 W HO.out hg (by omega) hcm (by omega)).mono ?_
    rintro e w1 ⟨rfl, hO1⟩
    clear c0 c1 c2 f0 bl HO
    obtain ⟨c0, c1, c2, f0, bl⟩ := ob_hdr hO1
    have HO := hid hO1
    clear hO1
    have z1 : ¬ c = L := by omega
    have z2 : (L : Int) ≤ (c : Int) := by omega
    have z3 : L + n - L = n := by omega
    have HO2 := hid (HO.out.swap01)
    go_wp2_with (first
      | (refine own_copy rfl (.tmp 29) (.tmp 30) 25 25 rfl 5 Tryd.underlying25 Tryd.size_u8 (fw b 5 (bc full)) L L n (c - L) pA n pc (Nat.zero_add _).symm rfl rfl HO2.out p (HO2.out.st HP.out (fun x hx => by simp [hx])) (by rw [HN.out]; omega) (by rw [HN.out]; show L + n ≤ (bc full).length; rw [bc_length]; omega) ?_; intro w2 hO2; rw [HN.out]; have HO3 := hid hO2; clear hO2))
    go_ret2
    refine ⟨rfl, ?_⟩
    exact HF.out b c _ full _ _ rfl h3 (by rw [List.take_take, show min L (L + n) = L by omega, h4]) hg hcm HO3.out
  · go_enter Tryd.func162, Tryd.ntmps162
    go_wp2_with fail
    try rw [HW.out]
    clear HW hW c0 c1 c2 f0 bl
    obtain ⟨c0, c1, c2, f0, bl⟩ := ob_hdr HO.out
    refine (tryGrow_no g L n c _ _ c0 (by omega) hLc hcm (by omega)).mono ?_
    rintro e w1 ⟨rfl, rfl⟩
    go_wp2_with fail
    refine (grow_ob g L n c A data _ F1 R w0 _ HB.out HO.out (by omega) (by omega) (by omega)).mono ?_
    rintro e w1 ⟨rfl, A', c', d, F2, hB2, hd, hO1⟩
    obtain ⟨b, full, rfl, rfl, h3, h4, h5, h6⟩ : ∃ b full, A' = some ⟨b, 0, none⟩ ∧ F2 = [fw b 5 (bc full)] ∧ full.length = c' ∧ full.take (L + n) = d ∧ L + n ≤ c' ∧ c' ≤ maxLen := by
      rcases hB2 with ⟨_, h0, _⟩ | h
      · omega
      · exact h
    clear c0 c1 c2 f0 bl HO hB2
    obtain ⟨c0, c1, c2, f0, bl⟩ := ob_hdr hO1
    have HO := hid hO1
    clear hO1
    have z1 : ¬ c' = L := by omega
    have z2 : (L : Int) ≤ (c' : Int) := by omega
    have z3 : L + n - L = n := by omega
    have HO2 := hid (HO.out.swap01)
    go_wp2_with (first
      | (refine own_copy rfl (.tmp 29) (.tmp 30) 25 25 rfl 5 Tryd.underlying25 Tryd.size_u8 (fw b 5 (bc full)) L L n (c' - L) pA n pc (Nat.zero_add _).symm rfl rfl HO2.out p (HO2.out.st HP.out (fun x hx => by simp [hx])) (by rw [HN.out]; omega) (by rw [HN.out]; show L + n ≤ (bc full).length; rw [bc_length]; omega) ?_; intro w2 hO2; rw [HN.out]; have HO3 := hid hO2; clear hO2))
    go_ret2
    refine ⟨rfl, ?_⟩
    exact HF.out b c' _ full _ _ rfl h3 (by rw [h4]; exact hd) h5 h6 HO3.out
end Go.Proofs.YtloflmcgbbbnjaaDoor
namespace Go.Proofs.YtloflmcgbbbnjaaDoor
open Go.RowKit Plain
set_option linter.all false

/-- What stands behind a block's bytes: the kind 0 and its check sum. -/
def trail (l : List UInt8) : List UInt8 := 0 :: leB (crcM (l ++ [0])) 4
theorem trail_length (l : List UInt8) : (trail l).length = 5 := by simp [trail, leB_length]
theorem method_owrite (d : Nat) (w : World) (g : Nat) : (method (d + 1) 91 (.pointer (some ⟨g, 0, none⟩)) "Write").run Tryd.prog w = .ok (162, .pointer (some ⟨g, 0, none⟩)) w := by kernel_rfl
theorem wb_hdr {wp q : Nat} {G' : List Fr} {v1 v2 v3 v4 : Value} {R' : List Fr} {w0 w' : World} (hO : Own (G' ++ (fp wp 0 [v1] :: fp wp 219 [v2] :: fw q 157 [v3, v4] :: R')) w0 w') :
    w'.cell? ⟨wp, 0, none⟩ = some v1 ∧ w'.cell? ⟨wp, 219, none⟩ = some v2 ∧ w'.cell? ⟨q, 0, none⟩ = some v3 ∧ w'.cell? ⟨q, 1, none⟩ = some v4 ∧ (∀ k, w'.frozen? ⟨wp, k, none⟩ = false) ∧ (∀ k, w'.frozen? ⟨q, k, none⟩ = false) :=
  ⟨hO.right.cell 0 rfl 0 rfl (by simp), hO.right.cell 1 rfl 0 rfl (by simp), hO.right.cell 2 rfl 0 rfl (by simp), hO.right.cell 2 rfl 1 rfl (by simp), fun k => hO.right.frozen 0 rfl k, fun k => hO.right.frozen 2 rfl k⟩
def WBOut (b o wp off : Nat) (g : Nat) (data out : List UInt8) (R : List Fr) (w0 : World) (e : Ending) (w' : World) : Prop :=
  e = .returned (.tuple #[.agg #[.int .u64 off, .int .u64 data.length], .nilIface]) ∧ ∃ F' G', BufF b o (data ++ trail data) F' ∧ OB g (out ++ (data ++ trail data)) G' ∧
    Own (F' ++ (G' ++ (fp wp 0 [.iface 91 (.pointer (some ⟨g, 0, none⟩))] :: fp wp 219 [.int .u64 ((off + data.length + 5 : Nat) : Int)] :: R))) w0 w'
set_option maxHeartbeats 3200000 in
set_option maxRecDepth 100000 in
theorem writeBlock_any (b o wp off g : Nat) (data out : List UInt8) (F G R : List Fr) (w0 w : World) (h : BufF b o data F) (hG : OB g out G)
    (hO : Own (F ++ (G ++ (fp wp 0 [.iface 91 (.pointer (some ⟨g, 0, none⟩))] :: fp wp 219 [.int .u64 off] :: R))) w0 w) (hd : data.length ≤ 1099511627000) (ho : out.length ≤ 1099511627776) (hoff : off ≤ 1099511627776) :
    Calls Tryd.prog 93 #[.pointer (some ⟨wp, 0, none⟩), .pointer (some ⟨b, o, none⟩), .int .u64 1] w (WBOut b o wp off g data out R w0) := by
  obtain ⟨q, hq⟩ : ∃ q, w.heap.size = q := ⟨_, rfl⟩
  have hO0 := hO.alloc' hq 157 [.int .u64 0, .int .u64 0]
  have HO := hid (hO0.perm (L' := F ++ (G ++ (fp wp 0 [.iface 91 (.pointer (some ⟨g, 0, none⟩))] :: fp wp 219 [.int .u64 off] :: fw q 157 [.int .u64 0, .int .u64 0] :: R))) (perm_of fun _ _ z => by simp only [List.count_append, List.count_cons, List.cons_append, List.count_nil, List.nil_append, List.append_nil]; omega))
  have HG := hid hG
  have HB := hid h
  clear hO hO0 h hG
  go_enter Tryd.func93, Tryd.ntmps93
  go_wp2_with fail
  obtain ⟨L, hL⟩ : ∃ L, data.length = L := ⟨_, rfl⟩
  have HL := hid hL
  have HL0 := hid hL
  refine (alloc_any b o 5 data F _ w0 _ HB.out HO.out (by omega) (by omega)).mono ?_
  rintro e w1 ⟨S, J, F1, rfl, hG1, hO1⟩
  obtain ⟨h1, h2, h3, ⟨h4, full, h5⟩, rfl⟩ := hG1
  rw [hL] at h1 h2 h4 hO1 hd ⊢
  have hO2 : Own (S :: (fp b o [.slice (some ⟨S.g, S.off, none⟩) (L + 5) S.cs.length, .int .i64 0] :: (J ++ (G ++ (fp wp 0 [.iface 91 (.pointer (some ⟨g, 0, none⟩))] :: fp wp 219 [.int .u64 off] :: fw q 157 [.int .u64 0, .int .u64 0] :: R))))) w0 w1 := hO1.perm (perm_of fun _ _ z => by simp only [List.count_append, List.count_cons, List.cons_append, List.count_nil, List.nil_append, List.append_nil]; omega)
  clear hO1 HO HB
  have hlt : L < S.cs.length := by omega
  have d0 := (hO2.cell 0 rfl (k := S.off + L) L rfl hlt).trans (List.getElem?_eq_getElem hlt)
  have d1 := hO2.frozen 0 rfl (S.off + L) (hO2.head.ro_none (by omega))
  generalize S.cs[L] = x0 at d0
  have HO := hid hO2
  clear hO2
  have H5 := hid h5
  have H4 := hid h4
  obtain ⟨sz, hsz⟩ : ∃ sz, S.cs.length = sz := ⟨_, rfl⟩
  have HSZ := hid hsz
  rw [hsz] at h2 h3 HO hlt
  clear h4 h5 h1
  rw [hsz]
  go_wp2_with fail
  have hO3 := HO.out.set (k := S.off + L) L rfl (by rw [HSZ.out]; omega) (.int .u8 0)
  generalize w1.setCell ⟨S.g, S.off + L, none⟩ (.int .u8 0) = W at hO3 ⊢
  obtain ⟨c0, c1, f0⟩ := buf2_hdr hO3.swap01
  have HO3 := hid hO3
  have hrd : (({ S with cs := S.cs.set L (.int .u8 0) } : Fr).cs.drop 0).take (data ++ [0]).length = bc (data ++ [0]) := by
    have h := splice_take S.cs L [Value.int .u8 0] (by rw [HSZ.out]; simp; omega)
    rw [← splice_one _ _ _ (by rw [HSZ.out]; omega), H4.out] at h
    rw [List.drop_zero, List.length_append, HL.out, bc_append]
    exact h
  have HRD := hid (fun (M : List Fr) => Rd.fr (x := { S with cs := S.cs.set L (.int .u8 0) }) (R := { S with cs := S.cs.set L (.int .u8 0) } :: M) (w0 := w0) (l := data ++ [0]) (by simp) (i := 0) (k := S.off) rfl (by simp [HL.out, HSZ.out]; omega) hrd)
  clear HO hO3 hrd d0 d1
  have hlen1 : (data ++ [0]).length = L + 1 := by simp [HL.out]
  have HLEN := hid hlen1
  clear hlen1 hL hsz
  obtain ⟨bd, hbd⟩ : ∃ bd, data ++ [(0 : UInt8)] = bd := ⟨_, rfl⟩
  rw [hbd] at HRD HLEN
  have e1 : (L : Int) + 5 - 4 = (L : Int) + 1 := by omega
  have e2 : IntKind.i64.wrap ((L : Int) + 1) = (L : Int) + 1 := i64_id (by omega) (by omega)
  have e3 : ((L : Int) + 1).toNat = L + 1 := by omega
  have z1 : ¬ sz = L + 1 := by omega
  have z2 : (L : Int) + 1 ≤ (L : Int) + 5 := by omega
  have z3 : (L : Int) + 1 ≤ (sz : Int) := by omega
  have z4 : L + 5 - (L + 1) = 4 := by omega
  go_wp2_with (first
    | (go_at_call 78; refine (bytes_any b o (L + 5) sz (some ⟨S.g, S.off, none⟩) _ c0 c1).mono ?_; rintro e w2 ⟨rfl, hd2⟩; have HO4 := hid (HO3.out.dr hd2); clear hd2 HO3 c0 c1 f0)
    | (go_at_call 110; refine (newCrc (L + 1) _ _ bd _ w0 _ HO4.out (HRD.out _) HLEN.out.symm (by rw [HLEN.out]; omega)).mono ?_; rintro e w3 ⟨rfl, hO5⟩; have HO5 := hid hO5; clear hO5 HO4)
    | (go_at_call 111; refine (crcValue _ _ (not32_wf _).1 (not32_wf _).2).mono ?_; rintro e w4 ⟨rfl, rfl⟩))
  have hcv := mask_wf (not32 (crcB 4294967295 bd))
  have HM := hid (show mask (not32 (crcB 4294967295 bd)) = crcM bd from rfl)
  rw [HM.out] at hcv ⊢
  generalize hcr : crcM bd = crc at hcv ⊢
  refine AnyT.start (S := fun _ => True) (T := []) (by kernel_rfl) (trivial) (fun hHeld => ?_)
  refine AnyT.take (i := 0) (v := ?_) (by simp only [List.getElem?_toArray, List.getElem?_cons_succ, List.getElem?_cons_zero]; rfl) (by kernel_rfl) (by kernel_rfl) (by kernel_rfl) (by kernel_rfl) (by intro _ _ _ h; exact h) (Or.inl ⟨by rfl, fun w hSw => ?_⟩) hHeld ?_
  rotate_left
  · ((try dsimp only at hSw); go_simp; first | done | with_reducible rfl | rfl)
  try simp only [Act.put, List.setIfInBounds_toArray, List.set_cons_zero, List.set_cons_succ]
  refine AnyT.take (i := 1) (v := ?_) (by simp only [List.getElem?_toArray, List.getElem?_cons_succ, List.getElem?_cons_zero]; rfl) (by kernel_rfl) (by kernel_rfl) (by kernel_rfl) (by kernel_rfl) (by intro _ _ _ h; exact h) (Or.inl ⟨by rfl, fun w hSw => ?_⟩) hHeld ?_
  rotate_left
  · ((try dsimp only at hSw); go_simp; first | done | with_reducible rfl | rfl)
  try simp only [Act.put, List.setIfInBounds_toArray, List.set_cons_zero, List.set_cons_succ]
  refine AnyT.take (i := 2) (v := ?_) (by simp only [List.getElem?_toArray, List.getElem?_cons_succ, List.getElem?_cons_zero]; rfl) (by kernel_rfl) (by kernel_rfl) (by kernel_rfl) (by kernel_rfl) (by intro _ _ _ h; exact h) (Or.inl ⟨by rfl, fun w hSw => ?_⟩) hHeld ?_
  rotate_left
  · ((try dsimp only at hSw); go_simp; first | done | with_reducible rfl | rfl)
  try simp only [Act.put, List.setIfInBounds_toArray, List.set_cons_zero, List.set_cons_succ]
  refine AnyT.take (i := 3) (v := ?_) (by simp only [List.getElem?_toArray, List.getElem?_cons_succ, List.getElem?_cons_zero]; rfl) (by kernel_rfl) (by kernel_rfl) (by kernel_rfl) (by kernel_rfl) (by intro _ _ _ h; exact h) (Or.inl ⟨by rfl, fun w hSw => ?_⟩) hHeld ?_
  rotate_left
  · ((try dsimp only at hSw); go_simp; first | done | with_reducible rfl | rfl)
  try simp only [Act.put, List.setIfInBounds_toArray, List.set_cons_zero, List.set_cons_succ]
  refine AnyT.take (i := 4) (v := ?_) (by simp only [List.getElem?_toArray, List.getElem?_cons_succ, List.getElem?_cons_zero]; rfl) (by kernel_rfl) (by kernel_rfl) (by kernel_rfl) (by kernel_rfl) (by intro _ _ _ h; exact h) (Or.inl ⟨by rfl, fun w hSw => ?_⟩) hHeld ?_
  rotate_left
  · ((try dsimp only at hSw); go_simp; first | done | with_reducible rfl | rfl)
  try simp only [Act.put, List.setIfInBounds_toArray, List.set_cons_zero, List.set_cons_succ]
  refine AnyT.ready (rs := [5]) (by kernel_rfl) (by simp) ?_
  refine AllT.cons (by simp only [List.getElem?_toArray, List.getElem?_cons_succ, List.getElem?_cons_zero]; rfl) (fun K hK => ?_) AllT.nil
  go_simp
  refine (put32 { S with cs := S.cs.set L (.int .u8 0) } (L + 1) (S.off + (L + 1)) 4 (sz - (L + 1)) crc _ w0 _ rfl HO5.out.drew (by simp only [List.length_set, HSZ.out]; omega) (by omega) hcv.1 hcv.2).mono ?_
  rintro e w4 ⟨rfl, hO6⟩
  have hsp : splice (S.cs.set L (.int .u8 0)) (L + 1) (bc (leB crc 4)) = splice S.cs L (bc (trail data)) := by
    rw [splice_set _ _ _ _ (by rw [bc_length, leB_length, HSZ.out]; omega), trail, hbd, hcr]; rfl
  have hO7 : Own ({ S with cs := splice S.cs L (bc (trail data)) } :: (fp b o [.slice (some ⟨S.g, S.off, none⟩) (L + 5) sz, .int .i64 0] :: (J ++ (G ++ (fp wp 0 [.iface 91 (.pointer (some ⟨g, 0, none⟩))] :: fp wp 219 [.int .u64 off] :: fw q 157 [.int .u64 0, .int .u64 0] :: R))))) w0 w4 := by rw [← hsp]; exact hO6
  have hslen : (splice S.cs L (bc (trail data))).length = sz := by rw [length_splice _ _ _ (by rw [bc_length, trail_length, HSZ.out]; omega), HSZ.out]
  have hbt : (splice S.cs L (bc (trail data))).take (L + 5) = bc (data ++ trail data) := by
    have h := splice_take S.cs L (bc (trail data)) (by rw [bc_length, trail_length, HSZ.out]; omega)
    rw [bc_length, trail_length, H4.out] at h
    rw [h, bc_append]
  have hpl : (data ++ trail data).length = L + 5 := by rw [List.length_append, trail_length, HL.out]
  have hbuf : BufF b o (data ++ trail data) (fp b o [.slice (some ⟨S.g, S.off, none⟩) (L + 5) sz, .int .i64 0] :: { S with cs := splice S.cs L (bc (trail data)) } :: J) := by
    refine .inr ⟨{ S with cs := splice S.cs L (bc (trail data)) }, J, Nat.le_refl _, ?_, ?_, ⟨?_, ?_⟩, ?_⟩
    · rw [hpl, hslen]; omega
    · rw [hslen]; exact h3
    · rw [hpl]; exact hbt
    · rw [H5.out]; exact ⟨splice full L (trail data), by simp [splice, bc, List.map_take, List.map_drop]⟩
    · rw [hpl, hslen]
  have hrd2 : ∀ M : List Fr, Rd ({ S with cs := splice S.cs L (bc (trail data)) } :: M) w0 (some ⟨S.g, S.off, none⟩) (data ++ trail data) := fun M =>
    Rd.fr (x := { S with cs := splice S.cs L (bc (trail data)) }) (by simp) (i := 0) rfl (by rw [hpl, hslen]; omega) (by rw [hpl]; exact hbt)
  have HO7 := hid hO7
  have HBUF := hid hbuf
  have HRD2 := hid hrd2
  have HPL := hid hpl
  clear hO6 hO7 HO5 hsp hslen hbt hpl hbuf hrd2 HRD HLEN H5 H4 HL hbd hcr hcv
  try go_wp2_with fail
  refine hK.out _ _ ?_ (fun hHeld => ?_)
  · trivial
  clear hK
  try simp only [Act.put, List.setIfInBounds_toArray, List.set_cons_zero, List.set_cons_succ]
  refine AnyT.done (by kernel_rfl) ?_ _
  obtain ⟨blk, hblk⟩ : ∃ blk, data ++ trail data = blk := ⟨_, rfl⟩
  have HBLK := hid hblk
  have HB0 := hid HBUF.out
  rw [hblk] at HBUF HRD2 HPL
  obtain ⟨FB, hFB⟩ : ∃ FB, fp b o [.slice (some ⟨S.g, S.off, none⟩) (L + 5) sz, .int .i64 0] :: { S with cs := splice S.cs L (bc (trail data)) } :: J = FB := ⟨_, rfl⟩
  have hO8 : Own (G ++ (fp wp 0 [.iface 91 (.pointer (some ⟨g, 0, none⟩))] :: fp wp 219 [.int .u64 off] :: fw q 157 [.int .u64 0, .int .u64 0] :: (FB ++ R))) w0 w4 := by
    rw [← hFB]; exact HO7.out.perm (perm_of fun _ _ z => by simp only [List.count_append, List.count_cons, List.cons_append, List.count_nil, List.nil_append, List.append_nil]; omega)
  have hrd3 : ∀ M, Rd (M ++ FB) w0 (some ⟨S.g, S.off, none⟩) blk := fun M => by
    refine (HRD2.out (fp b o [.slice (some ⟨S.g, S.off, none⟩) (L + 5) sz, .int .i64 0] :: J)).mono (fun x hx => List.mem_append_right _ ?_)
    rw [← hFB]; simp only [List.mem_cons] at hx ⊢; rcases hx with h | h | h; exact .inr (.inl h); exact .inl h; exact .inr (.inr h)
  rw [hFB] at HB0
  clear HBUF
  have HRD3 := hid hrd3
  have HO := hid hO8
  have m1 := method_owrite
  clear hO8 HO7 HRD2 hrd3 hFB hblk
  obtain ⟨cw, c219, cq0, cq1, fw_, fq_⟩ := wb_hdr HO.out
  go_wp2_with (first
    | (go_at_call 162; refine (write_ob g (L + 5) sz _ out blk G _ w0 _ HG.out HO.out ((HRD3.out [fp wp 0 [.iface 91 (.pointer (some ⟨g, 0, none⟩))], fp wp 219 [.int .u64 off], fw q 157 [.int .u64 0, .int .u64 0]]).left R) HPL.out (by omega) (by omega) (by omega)).mono ?_; rintro e w5 ⟨rfl, G', hG', hO9⟩; have HG' := hid hG'; have HO9 := hid hO9; clear hG' cw c219 cq0 cq1 fw_ fq_ HO; obtain ⟨cw, c219, cq0, cq1, fw_, fq_⟩ := wb_hdr hO9; clear hO9))
  have h1 : Own (fw q 157 [.int .u64 0, .int .u64 0] :: (G' ++ (fp wp 0 [.iface 91 (.pointer (some ⟨g, 0, none⟩))] :: fp wp 219 [.int .u64 off] :: (FB ++ R)))) w0 w5 := HO9.out.perm (perm_of fun _ _ z => by simp only [List.count_append, List.count_cons, List.cons_append, List.count_nil, List.nil_append, List.append_nil]; omega)
  have h2 : Own (fw q 157 [.int .u64 off, .int .u64 L] :: (G' ++ (fp wp 0 [.iface 91 (.pointer (some ⟨g, 0, none⟩))] :: fp wp 219 [.int .u64 off] :: (FB ++ R)))) w0 _ := (h1.set (k := 0) 0 rfl (by simp) (.int .u64 off)).set (k := 1) 1 rfl (by simp) (.int .u64 L)
  have h3 : Own (fp wp 219 [.int .u64 off] :: (G' ++ (fp wp 0 [.iface 91 (.pointer (some ⟨g, 0, none⟩))] :: fw q 157 [.int .u64 off, .int .u64 L] :: (FB ++ R)))) w0 _ := h2.perm (perm_of fun _ _ z => by simp only [List.count_append, List.count_cons, List.cons_append, List.count_nil, List.nil_append, List.append_nil]; omega)
  have h4 : Own (fp wp 219 [.int .u64 ((off : Int) + ((L : Int) + 5))] :: (G' ++ (fp wp 0 [.iface 91 (.pointer (some ⟨g, 0, none⟩))] :: fw q 157 [.int .u64 off, .int .u64 L] :: (FB ++ R)))) w0 _ := h3.set (k := 219) 0 rfl (by simp) (.int .u64 ((off : Int) + ((L : Int) + 5)))
  have h5 : Own (G' ++ (fp wp 0 [.iface 91 (.pointer (some ⟨g, 0, none⟩))] :: fp wp 219 [.int .u64 ((off : Int) + ((L : Int) + 5))] :: fw q 157 [.int .u64 off, .int .u64 L] :: (FB ++ R))) w0 _ := h4.perm (perm_of fun _ _ z => by simp only [List.count_append, List.count_cons, List.cons_append, List.count_nil, List.nil_append, List.append_nil]; omega)
  generalize World.setCell _ _ _ = W5 at h5 ⊢
  clear h1 h2 h3 h4 cw c219 cq0 cq1 fw_ fq_
  obtain ⟨cw, c219, cq0, cq1, fw_, fq_⟩ := wb_hdr h5
  have HO10 := hid h5
  clear h5
  refine bodyPost_ret (v := .tuple #[.agg #[.int .u64 off, .int .u64 L], .nilIface]) (by rw [results_cell_tmp rfl]; go_simp) rfl ?_
  refine ⟨by rw [HL0.out], _, G', HB0.out, by rw [HBLK.out]; exact HG'.out, ?_⟩
  rw [HL0.out, show ((off + L + 5 : Nat) : Int) = (off : Int) + ((L : Int) + 5) by omega]
  exact (HO10.out.perm (L' := fw q 157 [.int .u64 off, .int .u64 L] :: (FB ++ (G' ++ (fp wp 0 [.iface 91 (.pointer (some ⟨g, 0, none⟩))] :: fp wp 219 [.int .u64 ((off : Int) + ((L : Int) + 5))] :: R)))) (perm_of fun _ _ z => by simp only [List.count_append, List.count_cons, List.cons_append, List.count_nil, List.nil_append, List.append_nil]; omega)).drop
end Go.Proofs.YtloflmcgbbbnjaaDoor
namespace Go.Proofs.YtloflmcgbbbnjaaDoor
open Go.RowKit Plain

set_option maxHeartbeats 800000 in
theorem leUint32_any (g o c : Nat) (l : List UInt8) (w : World) (h : BsAt w (some ⟨g, o, none⟩) l) (hl : 4 ≤ l.length) (n : Nat) (hn : n = l.length) :
    Calls Tryd.prog 98 #[.agg #[], .slice (some ⟨g, o, none⟩) n c] w fun e w' => e = .returned (.int .u32 (leI (l.take 4))) ∧ Only [] w w' := by
  subst hn
  obtain ⟨_, _, e, _, hc⟩ := h.addr (by omega)
  injection e with e
  injection e with e1 e2
  subst e1; subst e2
  have c0 := hc 0 (by omega); have c1 := hc 1 (by omega); have c2 := hc 2 (by omega); have c3 := hc 3 (by omega)
  rw [Nat.add_zero] at c0
  have x0 := bz_lo l 0; have x1 := bz_lo l 1; have x2 := bz_lo l 2; have x3 := bz_lo l 3
  have y0 := bz_hi l 0; have y1 := bz_hi l 1; have y2 := bz_hi l 2; have y3 := bz_hi l 3
  have t := leI_take4 hl
  have T := hid t
  clear t hc h
  have l0 : 0 < l.length := by omega
  have l1 : (1 : Int) < (l.length : Int) := by omega
  have l2 : (2 : Int) < (l.length : Int) := by omega
  have l3 : (3 : Int) < (l.length : Int) := by omega
  go_enter Tryd.func98, Tryd.ntmps98
  go_wp2
  go_quiet (fail)
  go_wp2
  go_ret
  refine ⟨ret_int ?_, ((Only.refl _ _).alloc _).drewN _⟩
  rw [T.out]
  simp (disch := omega) only [u32_or8, u32_or16, u32_or24]
  omega
/-- Both begin so. -/
def hstart (seed : Int) (n : Nat) : Int := bits .xor .u32 seed (w32 (n * 3332679571))

set_option maxHeartbeats 1600000 in
theorem utilHash_any (A : Option Addr) (c : Nat) (l : List UInt8) (seed : Int) (w : World) (h : BsAt w A l) (hl : l.length ≤ 2147483647) (hc : l.length ≤ c) :
    Calls Tryd.prog 251 #[.slice A l.length c, .int .u32 seed] w fun e w' => e = .returned (.int .u32 (hashAll (hstart seed l.length) l)) ∧ Only [] w w' := by
  go_enter Tryd.func251, Tryd.ntmps251
  go_wp2
  go_loopw [6, 5] (fun i hh wr => ∃ k : Nat, ∃ x : Int, i = .int .i64 k ∧ k % 4 = 0 ∧ k ≤ l.length ∧ hh = .int .u32 x ∧ 0 ≤ x ∧ x < 4294967296 ∧ hashAll (hstart seed l.length) l = hashAll x (l.drop k) ∧ Only [] w wr) (fun i _ _ => l.length - (intOf i).toNat)
  case atStart =>
    have hb := u32_wf_xor seed (w32 (l.length * 3332679571))
    exact ⟨0, hstart seed l.length, rfl, rfl, Nat.zero_le _, rfl, hb.1, hb.2, rfl, Only.refl _ _⟩
  case round =>
    obtain ⟨k, x, rfl, hk4, hk, rfl, x0, x1, hx, ho⟩ := hrel
    have HX := hid hx
    clear hx
    have hwr := h.keep0 ho
    by_cases h4 : k + 4 ≤ l.length
    · have h4' : (k : Int) < (l.length : Int) - (l.length : Int) % 4 := by omega
      obtain ⟨g, o, rfl, _, _⟩ := h.addr (by omega)
      have HK := hid hk4
      clear hk4
      have hkc : ¬ c = k := by omega
      go_wp2_with fail
      refine wp_region_cls (fun w' => Only [] wr w') (by kernel_rfl) (by kernel_rfl) (Only.refl _ _).drew ?_
      iterate 5
        refine wpQuiet_plain rfl (fun K hK => ?_)
        apply quiet_mk
        · intro w' hC
          go_simp
          rfl
        go_simp
        refine hK _ ?_
        clear hK K
      refine wpQuiet_plain rfl (fun K hK => ?_)
      apply quiet_mk
      · intro w' hC
        go_simp
        exact (leUint32_any g (o + k) (c - k) (l.drop k) w' ((hwr.keep0 hC).drop k) (by simp; omega) _ (by simp)).mono (fun e w'' he => ⟨he.1, hC.new he.2⟩)
      go_simp
      refine hK _ ?_
      clear hK K
      iterate 2
        refine wpQuiet_plain rfl (fun K hK => ?_)
        apply quiet_mk
        · intro w' hC
          go_simp
          rfl
        go_simp
        refine hK _ ?_
        clear hK K
      refine wpQuiet_nil ?_
      intro w5 ho5
      go_wp2
      have hb2 := u32_wf_xor (hmul x (leI ((l.drop k).take 4))) (hmul x (leI ((l.drop k).take 4)) / 65536)
      exact ⟨⟨k + 4, hstep x (leI ((l.drop k).take 4)), rfl, by have := HK.out; omega, h4, rfl, hb2.1, hb2.2, by rw [HX.out, hashAll_step (by simp; omega), List.drop_drop], ho.new ho5⟩, by simp [intOf]; omega⟩
    · have h4' : ¬ (k : Int) < (l.length : Int) - (l.length : Int) % 4 := by omega
      have he := hashAll_end (h := x) (l := l.drop k) (by simp; omega)
      have HE := hid he
      obtain ⟨m, hm⟩ : ∃ m, m = l.length - k := ⟨_, rfl⟩
      have hm3 : m ≤ 3 := by omega
      clear he hk4 h4
      have hm0 : m = 0 ∨ m = 1 ∨ m = 2 ∨ m = 3 := by omega
      rcases hm0 with rfl | rfl | rfl | rfl
      · have q3 : ((l.length : Int) - (k : Int) == 3) = false := beq_eq_false_iff_ne.2 (by omega)
        have q2 : ((l.length : Int) - (k : Int) == 2) = false := beq_eq_false_iff_ne.2 (by omega)
        have q1 : ((l.length : Int) - (k : Int) == 1) = false := beq_eq_false_iff_ne.2 (by omega)
        have q0 : ((l.length : Int) - (k : Int) == 0) = true := beq_iff_eq.2 (by omega)
        have hd : l.drop k = [] := List.drop_eq_nil_of_le (by omega)
        have HD := hid hd
        clear hd hm
        go_wp2
        go_ret
        exact ⟨ret_int (by rw [HX.out, HE.out, HD.out]; rfl), ho⟩
      · obtain ⟨g, o, rfl, _, hcc⟩ := hwr.addr (by omega)
        have q3 : ((l.length : Int) - (k : Int) == 3) = false := beq_eq_false_iff_ne.2 (by omega)
        have q2 : ((l.length : Int) - (k : Int) == 2) = false := beq_eq_false_iff_ne.2 (by omega)
        have q1 : ((l.length : Int) - (k : Int) == 1) = true := beq_iff_eq.2 (by omega)
        have c0 := hcc k (by omega)
        have d0 : (k : Int) < (l.length : Int) := by omega
        have x0' := bz_lo l k
        have x0'' := bz_hi l k
        have hd : l.drop k ≠ [] ∧ leI (l.drop k) = bz l k := ⟨by intro e; have := congrArg List.length e; simp at this; omega, by rw [leI_drop (by omega), List.drop_eq_nil_of_le (by omega)]; simp [leI]⟩
        have HD := hid hd
        clear hd hm hcc
        go_wp2
        go_ret
        exact ⟨ret_int (by rw [HX.out, HE.out, if_neg HD.out.1, HD.out.2]; rfl), ho⟩
      · obtain ⟨g, o, rfl, _, hcc⟩ := hwr.addr (by omega)
        have q3 : ((l.length : Int) - (k : Int) == 3) = false := beq_eq_false_iff_ne.2 (by omega)
        have q2 : ((l.length : Int) - (k : Int) == 2) = true := beq_iff_eq.2 (by omega)
        have c0 := hcc k (by omega)
        have d0 : (k : Int) < (l.length : Int) := by omega
        have e0 := bz_lo l k
        have f0 := bz_hi l k
        have c1 := hcc (k + 1) (by omega)
        have d1 : (k : Int) + 1 < (l.length : Int) := by omega
        have e1 := bz_lo l (k + 1)
        have f1 := bz_hi l (k + 1)
        have hd : l.drop k ≠ [] ∧ leI (l.drop k) = bz l k + 256 * bz l (k + 1) := ⟨by intro e; have := congrArg List.length e; simp at this; omega, by rw [leI_drop (by omega), leI_drop (by omega), List.drop_eq_nil_of_le (by omega)]; simp [leI]⟩
        have HD := hid hd
        clear hd hm hcc
        go_wp2
        go_ret
        refine ⟨ret_int (a := htailY ((x + bz l (k + 1) * 256 + bz l k) % 4294967296)) ?_, ho⟩
        rw [HX.out, HE.out, if_neg HD.out.1]
        exact htail_eq _ _ _ (by rw [HD.out.2]; unfold w32; omega)
      · obtain ⟨g, o, rfl, _, hcc⟩ := hwr.addr (by omega)
        have q3 : ((l.length : Int) - (k : Int) == 3) = true := beq_iff_eq.2 (by omega)
        have c0 := hcc k (by omega)
        have d0 : (k : Int) < (l.length : Int) := by omega
        have e0 := bz_lo l k
        have f0 := bz_hi l k
        have c1 := hcc (k + 1) (by omega)
        have d1 : (k : Int) + 1 < (l.length : Int) := by omega
        have e1 := bz_lo l (k + 1)
        have f1 := bz_hi l (k + 1)
        have c2 := hcc (k + 2) (by omega)
        have d2 : (k : Int) + 2 < (l.length : Int) := by omega
        have e2 := bz_lo l (k + 2)
        have f2 := bz_hi l (k + 2)
        have hd : l.drop k ≠ [] ∧ leI (l.drop k) = bz l k + 256 * (bz l (k + 1) + 256 * bz l (k + 2)) := ⟨by intro e; have := congrArg List.length e; simp at this; omega, by rw [leI_drop (by omega), leI_drop (by omega), leI_drop (by omega), List.drop_eq_nil_of_le (by omega)]; simp [leI]⟩
        have HD := hid hd
        clear hd hm hcc
        go_wp2
        go_ret
        refine ⟨ret_int (a := htailY ((x + bz l (k + 2) * 65536 + bz l (k + 1) * 256 + bz l k) % 4294967296)) ?_, ho⟩
        rw [HX.out, HE.out, if_neg HD.out.1]
        exact htail_eq _ _ _ (by rw [HD.out.2]; unfold w32; omega)
end Go.Proofs.YtloflmcgbbbnjaaDoor
namespace Go.Proofs.YtloflmcgbbbnjaaDoor
open Go.RowKit Plain
set_option linter.all false

theorem BsAt.get {w : World} {g o : Nat} {l : List UInt8} (h : BsAt w (some ⟨g, o, none⟩) l) {i : Nat} (hi : i < l.length) : w.cell? ⟨g, o + i, none⟩ = some (.int .u8 (bz l i)) := by
  obtain ⟨g', o', e, hc⟩ := h i hi
  injection e with e
  injection e with e1 e2
  subst e1; subst e2
  exact hc
theorem csAt_all (w : World) (cs : List Value) (t : TypeId) : CsAt (w.alloc (.cells cs.toArray t)) (some ⟨w.heap.size, 0, none⟩) cs := by
  have := CsAt.of_blk (Blk.new w t cs) 0 cs.length
  simpa using this
theorem csAt_all' {w : World} {g : Nat} (hg : w.heap.size = g) (cs : List Value) (t : TypeId) : CsAt (w.alloc (.cells cs.toArray t)) (some ⟨g, 0, none⟩) cs := hg ▸ csAt_all w cs t
theorem CsAt.drew {w : World} {A : Option Addr} {cs : List Value} (h : CsAt w A cs) : CsAt w.drew A cs := h
end Go.Proofs.YtloflmcgbbbnjaaDoor
