/-
  iterators over an array of pairs: their methods.
  iterators over an array of pairs: First, Last, Seek, Next, Prev, Valid, Key, Value.
  memdb: the iterator's fill.
-/
import Derived.Test.YtloflmcgbbbnjaaDoorMemM7
import Derived.Test.YtloflmcgbbbnjaaDoorMemM4
import Derived.Test.YtloflmcgbbbnjaaDoorMemM1
import Derived.Test.YtloflmcgbbbnjaaDoorMemM3
import Derived.Test.YtloflmcgbbbnjaaDoorMemM5
import Derived.Test.YtloflmcgbbbnjaaDoorMemM15
import Derived.Test.YtloflmcgbbbnjaaDoorMemM6
import Derived.WalkMore
import Derived.ScopeJumps
namespace Go.Proofs.YtloflmcgbbbnjaaDoor
open Go.RowKit Plain
set_option linter.all false

def arrV (A : Option Addr) (n c : Nat) : Value := .iface 108 (.slice A n c)
theorem method_aLen (d : Nat) (v : Value) (w : World) : (method (d + 1) 108 v "Len").run Tryd.prog w = .ok (169, v) w := by kernel_rfl
theorem method_aSearch (d : Nat) (v : Value) (w : World) : (method (d + 1) 108 v "Search").run Tryd.prog w = .ok (255, v) w := by kernel_rfl
theorem method_aIndex (d : Nat) (v : Value) (w : World) : (method (d + 1) 108 v "Index").run Tryd.prog w = .ok (254, v) w := by kernel_rfl
theorem aLen (A : Option Addr) (n c : Nat) (w : World) : Calls Tryd.prog 169 #[.slice A n c] w fun e w' => e = .returned (.int .i64 n) ∧ w = w' := by
  go_enter Tryd.func169, Tryd.ntmps169
  go_wp2_with fail
  go_ret
  exact ⟨rfl, rfl⟩
set_option maxHeartbeats 1600000 in
set_option maxRecDepth 100000 in
theorem aIndex (A : Option Addr) (n c k : Nat) (l : List Pr) (r : Pr) (w : World) (hp : Prs w A l) (hn : n = l.length) (hr : l[k]? = some r) :
    Calls Tryd.prog 254 #[.slice A n c, .int .i64 k] w fun e w' => e = .returned (.tuple #[.slice r.ka r.k.length r.kc, .slice r.va r.v.length r.vc]) ∧ Dr w w' := by
  obtain ⟨g, o, rfl, p0, p1⟩ := hp.at_ hr
  have hk : (k : Int) < (n : Int) := by have := (List.getElem?_eq_some_iff.1 hr).1; omega
  have HN := hid hn
  clear hp hn hr
  go_enter Tryd.func254, Tryd.ntmps254
  go_wp2_with fail
  refine AnyT.start (S := fun w' => w'.cell? ⟨g, o + k * 2, none⟩ = some (.slice r.ka r.k.length r.kc) ∧ w'.cell? ⟨g, o + k * 2 + 1, none⟩ = some (.slice r.va r.v.length r.vc)) (T := []) (by kernel_rfl) (⟨p0, p1⟩) (fun hHeld => ?_)
  refine AnyT.take (i := 0) (v := ?_) (by simp only [List.getElem?_toArray, List.getElem?_cons_succ, List.getElem?_cons_zero]; rfl) (by kernel_rfl) (by kernel_rfl) (by kernel_rfl) (by kernel_rfl) (by intro _ _ _ h; exact h) (Or.inl ⟨by rfl, fun w hSw => ?_⟩) hHeld ?_
  rotate_left
  · ((try dsimp only at hSw); go_simp; first | done | with_reducible rfl | rfl)
  try simp only [Act.put, List.setIfInBounds_toArray, List.set_cons_zero, List.set_cons_succ]
  refine AnyT.take (i := 1) (v := ?_) (by simp only [List.getElem?_toArray, List.getElem?_cons_succ, List.getElem?_cons_zero]; rfl) (by kernel_rfl) (by kernel_rfl) (by kernel_rfl) (by kernel_rfl) (by intro _ _ _ h; exact h) (Or.inl ⟨by rfl, fun w hSw => ?_⟩) hHeld ?_
  rotate_left
  · ((try dsimp only at hSw); go_simp; first | done | with_reducible rfl | rfl)
  try simp only [Act.put, List.setIfInBounds_toArray, List.set_cons_zero, List.set_cons_succ]
  refine AnyT.take (i := 2) (v := ?_) (by simp only [List.getElem?_toArray, List.getElem?_cons_succ, List.getElem?_cons_zero]; rfl) (by kernel_rfl) (by kernel_rfl) (by kernel_rfl) (by kernel_rfl) (by intro _ _ _ h; exact h) (Or.inl ⟨by rfl, fun w hSw => ?_⟩) hHeld ?_
  rotate_left
  · ((try dsimp only at hSw); go_simp; first | done | with_reducible rfl | rfl)
  try simp only [Act.put, List.setIfInBounds_toArray, List.set_cons_zero, List.set_cons_succ]
  refine AnyT.take (i := 3) (v := ?_) (by simp only [List.getElem?_toArray, List.getElem?_cons_succ, List.getElem?_cons_zero]; rfl) (by kernel_rfl) (by kernel_rfl) (by kernel_rfl) (by kernel_rfl) (by intro _ _ _ h; exact h) (Or.inl ⟨by rfl, fun w hSw => ?_⟩) hHeld ?_
  rotate_left
  · ((try dsimp only at hSw); go_simp; first | done | with_reducible rfl | rfl)
  try simp only [Act.put, List.setIfInBounds_toArray, List.set_cons_zero, List.set_cons_succ]
  refine AnyT.take (i := 4) (v := ?_) (by simp only [List.getElem?_toArray, List.getElem?_cons_succ, List.getElem?_cons_zero]; rfl) (by kernel_rfl) (by kernel_rfl) (by kernel_rfl) (by kernel_rfl) (by intro _ _ _ h; exact h) (Or.inl ⟨by rfl, fun w hSw => ?_⟩) hHeld ?_
  rotate_left
  · ((try dsimp only at hSw); go_simp; first | done | with_reducible rfl | rfl)
  try simp only [Act.put, List.setIfInBounds_toArray, List.set_cons_zero, List.set_cons_succ]
  refine AnyT.take (i := 5) (v := ?_) (by simp only [List.getElem?_toArray, List.getElem?_cons_succ, List.getElem?_cons_zero]; rfl) (by kernel_rfl) (by kernel_rfl) (by kernel_rfl) (by kernel_rfl) (by intro _ _ _ h; exact h) (Or.inl ⟨by rfl, fun w hSw => ?_⟩) hHeld ?_
  rotate_left
  · ((try dsimp only at hSw); go_simp; first | done | with_reducible rfl | rfl)
  try simp only [Act.put, List.setIfInBounds_toArray, List.set_cons_zero, List.set_cons_succ]
  refine AnyT.take (i := 6) (v := ?_) (by simp only [List.getElem?_toArray, List.getElem?_cons_succ, List.getElem?_cons_zero]; rfl) (by kernel_rfl) (by kernel_rfl) (by kernel_rfl) (by kernel_rfl) (by intro _ _ _ h; exact h) (Or.inl ⟨by rfl, fun w hSw => ?_⟩) hHeld ?_
  rotate_left
  · ((try dsimp only at hSw); go_simp; first | done | with_reducible rfl | rfl)
  try simp only [Act.put, List.setIfInBounds_toArray, List.set_cons_zero, List.set_cons_succ]
  refine AnyT.take (i := 7) (v := ?_) (by simp only [List.getElem?_toArray, List.getElem?_cons_succ, List.getElem?_cons_zero]; rfl) (by kernel_rfl) (by kernel_rfl) (by kernel_rfl) (by kernel_rfl) (by intro _ _ _ h; exact h) (Or.inl ⟨by rfl, fun w hSw => ?_⟩) hHeld ?_
  rotate_left
  · ((try dsimp only at hSw); go_simp; first | done | with_reducible rfl | rfl)
  try simp only [Act.put, List.setIfInBounds_toArray, List.set_cons_zero, List.set_cons_succ]
  refine AnyT.take (i := 8) (v := ?_) (by simp only [List.getElem?_toArray, List.getElem?_cons_succ, List.getElem?_cons_zero]; rfl) (by kernel_rfl) (by kernel_rfl) (by kernel_rfl) (by kernel_rfl) (by intro _ _ _ h; exact h) (Or.inl ⟨by rfl, fun w hSw => ?_⟩) hHeld ?_
  rotate_left
  · ((try dsimp only at hSw); go_simp; first | done | with_reducible rfl | rfl)
  try simp only [Act.put, List.setIfInBounds_toArray, List.set_cons_zero, List.set_cons_succ]
  refine AnyT.take (i := 9) (v := ?_) (by simp only [List.getElem?_toArray, List.getElem?_cons_succ, List.getElem?_cons_zero]; rfl) (by kernel_rfl) (by kernel_rfl) (by kernel_rfl) (by kernel_rfl) (by intro _ _ _ h; exact h) (Or.inl ⟨by rfl, fun w hSw => ?_⟩) hHeld ?_
  rotate_left
  · ((try dsimp only at hSw); go_simp; first | done | with_reducible rfl | rfl)
  try simp only [Act.put, List.setIfInBounds_toArray, List.set_cons_zero, List.set_cons_succ]
  refine AnyT.take (i := 10) (v := ?_) (by simp only [List.getElem?_toArray, List.getElem?_cons_succ, List.getElem?_cons_zero]; rfl) (by kernel_rfl) (by kernel_rfl) (by kernel_rfl) (by kernel_rfl) (by intro _ _ _ h; exact h) (Or.inl ⟨by rfl, fun w hSw => ?_⟩) hHeld ?_
  rotate_left
  · ((try dsimp only at hSw); go_simp; first | done | with_reducible rfl | rfl)
  try simp only [Act.put, List.setIfInBounds_toArray, List.set_cons_zero, List.set_cons_succ]
  refine AnyT.take (i := 11) (v := ?_) (by simp only [List.getElem?_toArray, List.getElem?_cons_succ, List.getElem?_cons_zero]; rfl) (by kernel_rfl) (by kernel_rfl) (by kernel_rfl) (by kernel_rfl) (by intro _ _ _ h; exact h) (Or.inl ⟨by rfl, fun w hSw => ?_⟩) hHeld ?_
  rotate_left
  · ((try dsimp only at hSw); go_simp; first | done | with_reducible rfl | rfl)
  try simp only [Act.put, List.setIfInBounds_toArray, List.set_cons_zero, List.set_cons_succ]
  refine AnyT.done (by kernel_rfl) ?_ _
  go_wp2_with fail
  go_ret2
  exact ⟨rfl, (Dr.refl w).drew⟩
set_option maxHeartbeats 1600000 in
set_option maxRecDepth 100000 in
theorem aSearch (A kA : Option Addr) (n c kn kc : Nat) (l : List Pr) (key : List UInt8) (w : World) (hp : Prs w A l) (hk : BsAt w kA key) (hn : n = l.length) (hkn : kn = key.length) (hl : l.length ≤ 1099511627776) :
    Calls Tryd.prog 255 #[.slice A n c, .slice kA kn kc] w fun e w' => e = .returned (.int .i64 (mAt Pr.k l key)) ∧ Only [] w w' := by
  have HP := hid hp
  have HK := hid hk
  have HN := hid hn
  have HKN := hid hkn
  have hnl : n ≤ 1099511627776 := by omega
  clear hp hk hn hkn hl
  go_enter Tryd.func255, Tryd.ntmps255
  go_wp2_with fail
  go_loopw [9] (fun i wr => ∃ k : Nat, i = .int .i64 k ∧ k ≤ n ∧ Hid (k ≤ mAt Pr.k l key) ∧ Hid (Only [] w wr)) (fun i _ => n - (intOf i).toNat)
  case atStart => exact ⟨0, rfl, Nat.zero_le _, hid (Nat.zero_le _), hid (Only.refl _ _)⟩
  case round =>
    obtain ⟨k, rfl, hk, HA, HO⟩ := hrel
    obtain ⟨w2, rfl⟩ : ∃ w2, w2 = wr := ⟨_, rfl⟩
    by_cases h4 : k < n
    · have h4' : (k : Int) < (n : Int) := by omega
      have hkl : k < l.length := by rw [← HN.out]; exact h4
      have hx : l[k]? = some l[k] := List.getElem?_eq_getElem hkl
      have hmx : l[k] ∈ l := List.getElem_mem hkl
      generalize l[k] = x at hx hmx
      have hp2 := HP.out.keep0 HO.out
      obtain ⟨g, o, rfl, p0, p1⟩ := hp2.at_ hx
      obtain ⟨pb, hpb⟩ : ∃ pb, w2.heap.size = pb := ⟨_, rfl⟩
      have hO6 := (Own.start w2).alloc' hpb 36 x.cells
      have q0 : (w2.alloc (.cells #[.slice x.ka x.k.length x.kc, .slice x.va x.v.length x.vc] 36)).cell? ⟨pb, 0, none⟩ = some (.slice x.ka x.k.length x.kc) := hO6.cell 0 rfl (k := 0) 0 rfl (by simp [Pr.cells])
      have ho6 : Only [] w2 (w2.alloc (.cells #[.slice x.ka x.k.length x.kc, .slice x.va x.v.length x.vc] 36)) := (Only.refl _ _).alloc _
      have HXK := hid ((hp2.ok x hmx).hk.keep0 ho6)
      have HK2 := hid ((HK.out.keep0 HO.out).keep0 ho6)
      have HO2 := hid (HO.out.new ho6)
      have HPB := hid hpb
      have HX := hid hx
      clear hx hmx hp2 hpb hO6 ho6
      by_cases hc : 0 ≤ bcmp x.k key
      · have HC := hid hc
        have t1 : decide (0 ≤ bcmp x.k key) = true := decide_eq_true hc
        go_wp2_with fail
        rw [HPB.out]
        refine (bytesCompare_any _ _ _ _ _ _ x.k key _ HXK.out HK2.out rfl HKN.out).mono ?_
        rintro e w3 ⟨rfl, rfl⟩
        clear q0
        go_wp2_with fail
        go_ret
        refine ⟨?_, HO2.out⟩
        have h1 := (mAt_stop HA.out HX.out (by have := bcmp_ge.1 HC.out; omega)).1
        rw [h1]; rfl
      · have HC := hid hc
        have t1 : decide (0 ≤ bcmp x.k key) = false := decide_eq_false hc
        go_wp2_with fail
        rw [HPB.out]
        refine (bytesCompare_any _ _ _ _ _ _ x.k key _ HXK.out HK2.out rfl HKN.out).mono ?_
        rintro e w3 ⟨rfl, rfl⟩
        clear q0
        go_wp2_with fail
        go_roundw
        case rel => exact ⟨k + 1, by go_num, by omega, hid (mAt_go HA.out HX.out (by have h := HC.out; have h2 := bcmp_spec x.k key; omega)), HO2⟩
        case measure => simp [intOf]; omega
    · have h4' : ¬ (k : Int) < (n : Int) := by omega
      have hkn : k = n := by omega
      have HKE := hid hkn
      clear h4 hkn
      go_wp2_with fail
      go_ret
      refine ⟨?_, HO.out⟩
      have h1 := (mAt_end HA.out (by rw [HKE.out, HN.out]; exact Nat.le_refl _)).1
      rw [h1, HKE.out]; rfl
end Go.Proofs.YtloflmcgbbbnjaaDoor
namespace Go.Proofs.YtloflmcgbbbnjaaDoor
open Go.RowKit Plain
set_option linter.all false

def aKey (l : List Pr) (p : Int) : Value := if wval l.length p = true then (match l[p.toNat]? with | some r => .slice r.ka r.k.length r.kc | none => .slice none 0 0) else .slice none 0 0
def aVal (l : List Pr) (p : Int) : Value := if wval l.length p = true then (match l[p.toNat]? with | some r => .slice r.va r.v.length r.vc | none => .slice none 0 0) else .slice none 0 0
/-- The block of an iterator over an array. -/
def aFr (q : Nat) (arr : Value) (pos apos : Int) (kv vv : Value) : Fr := fw q 197 [.nilIface, .bool false, arr, .int .i64 pos, .nilIface, arr, .int .i64 apos, kv, vv]
structure ACells (q : Nat) (arr : Value) (pos : Int) (w : World) : Prop where
  c1 : w.cell? ⟨q, 1, none⟩ = some (.bool false)
  c2 : w.cell? ⟨q, 2, none⟩ = some arr
  c3 : w.cell? ⟨q, 3, none⟩ = some (.int .i64 pos)
  c4 : w.cell? ⟨q, 4, none⟩ = some .nilIface
  f3 : w.frozen? ⟨q, 3, none⟩ = false
theorem aFr_cells {q : Nat} {arr kv vv : Value} {pos apos : Int} {R : List Fr} {w0 w : World} (h : Own (aFr q arr pos apos kv vv :: R) w0 w) : ACells q arr pos w :=
  ⟨h.cell 0 rfl (k := 1) 1 rfl (by simp [aFr]), h.cell 0 rfl (k := 2) 2 rfl (by simp [aFr]), h.cell 0 rfl (k := 3) 3 rfl (by simp [aFr]), h.cell 0 rfl (k := 4) 4 rfl (by simp [aFr]), h.frozen 0 rfl 3⟩
theorem aFr_pos {q : Nat} {arr kv vv : Value} {pos apos : Int} {R : List Fr} {w0 w : World} (h : Own (aFr q arr pos apos kv vv :: R) w0 w) (p : Int) : Own (aFr q arr p apos kv vv :: R) w0 (w.setCell ⟨q, 3, none⟩ (.int .i64 p)) :=
  h.set (k := 3) 3 rfl (by simp [aFr]) (.int .i64 p)
theorem released (q : Nat) (w : World) (h : w.cell? ⟨q, 1, none⟩ = some (.bool false)) : Calls Tryd.prog 194 #[.pointer (some ⟨q, 0, none⟩)] w fun e w' => e = .returned (.bool false) ∧ w = w' := by
  go_enter Tryd.func194, Tryd.ntmps194
  go_wp2_with fail
  go_ret
  exact ⟨rfl, rfl⟩
def AOut (q : Nat) (arr : Value) (p apos : Int) (kv vv : Value) (b : Bool) (R : List Fr) (w0 : World) (e : Ending) (w' : World) : Prop :=
  e = .returned (.bool b) ∧ Own (aFr q arr p apos kv vv :: R) w0 w'
set_option maxHeartbeats 1600000 in
set_option maxRecDepth 100000 in
theorem aFirst (q : Nat) (A : Option Addr) (n c : Nat) (pos apos : Int) (kv vv : Value) (R : List Fr) (w0 w : World) (hO : Own (aFr q (arrV A n c) pos apos kv vv :: R) w0 w) :
    Calls Tryd.prog 184 #[.pointer (some ⟨q, 0, none⟩)] w (AOut q (arrV A n c) (if n = 0 then -1 else 0) apos kv vv (decide (0 < n)) R w0) := by
  obtain ⟨c1, c2, c3, c4, f3⟩ := aFr_cells hO
  obtain ⟨p', hp'⟩ : ∃ p', (if n = 0 then (-1 : Int) else 0) = p' := ⟨_, rfl⟩
  rw [hp']
  have HP' := hid hp'
  have HO := hid hO
  clear hp'
  have hm := method_aLen
  clear hO
  unfold arrV at c2
  go_enter Tryd.func184, Tryd.ntmps184
  go_wp2_with fail
  refine (released q w c1).mono ?_
  rintro e w1 ⟨rfl, rfl⟩
  go_wp2_with fail
  refine (aLen A n c _).mono ?_
  rintro e w1 ⟨rfl, rfl⟩
  by_cases h0 : n = 0
  · have t0 : ((n : Int) == 0) = true := by rw [h0]; rfl
    have H0 := hid h0
    clear h0
    go_wp2_with fail
    go_ret
    rw [← HP'.out, if_pos H0.out]
    refine ⟨?_, aFr_pos HO.out (-1)⟩
    rw [H0.out]; rfl
  · have t0 : ((n : Int) == 0) = false := by rw [beq_eq_false_iff_ne]; omega
    have H0 := hid h0
    clear h0
    go_wp2_with fail
    go_ret
    rw [← HP'.out, if_neg H0.out]
    refine ⟨?_, aFr_pos HO.out 0⟩
    rw [decide_eq_true (by have := H0.out; omega)]
    rfl
set_option maxHeartbeats 1600000 in
set_option maxRecDepth 100000 in
theorem aLast (q : Nat) (A : Option Addr) (n c : Nat) (pos apos : Int) (kv vv : Value) (R : List Fr) (w0 w : World) (hO : Own (aFr q (arrV A n c) pos apos kv vv :: R) w0 w) (hn : n ≤ 1099511627776) :
    Calls Tryd.prog 186 #[.pointer (some ⟨q, 0, none⟩)] w (AOut q (arrV A n c) (if n = 0 then 0 else (n : Int) - 1) apos kv vv (decide (0 < n)) R w0) := by
  obtain ⟨c1, c2, c3, c4, f3⟩ := aFr_cells hO
  obtain ⟨p', hp'⟩ : ∃ p', (if n = 0 then (0 : Int) else (n : Int) - 1) = p' := ⟨_, rfl⟩
  rw [hp']
  have HP' := hid hp'
  have HO := hid hO
  clear hp'
  have hm := method_aLen
  have i1 : IntKind.i64.wrap ((n : Int) - 1) = (n : Int) - 1 := i64_id (by omega) (by omega)
  clear hO
  unfold arrV at c2
  go_enter Tryd.func186, Tryd.ntmps186
  go_wp2_with fail
  refine (released q w c1).mono ?_
  rintro e w1 ⟨rfl, rfl⟩
  go_wp2_with fail
  refine (aLen A n c _).mono ?_
  rintro e w1 ⟨rfl, rfl⟩
  by_cases h0 : n = 0
  · have t0 : ((n : Int) == 0) = true := by rw [h0]; rfl
    have H0 := hid h0
    clear h0
    go_wp2_with fail
    go_ret
    rw [← HP'.out, if_pos H0.out]
    refine ⟨?_, aFr_pos HO.out 0⟩
    rw [H0.out]; rfl
  · have t0 : ((n : Int) == 0) = false := by rw [beq_eq_false_iff_ne]; omega
    have H0 := hid h0
    clear h0
    go_wp2_with fail
    go_ret
    rw [← HP'.out, if_neg H0.out]
    refine ⟨?_, aFr_pos HO.out ((n : Int) - 1)⟩
    rw [decide_eq_true (by have := H0.out; omega)]
    rfl
set_option maxHeartbeats 1600000 in
set_option maxRecDepth 100000 in
theorem aNext (q : Nat) (A : Option Addr) (n c : Nat) (pos apos : Int) (kv vv : Value) (R : List Fr) (w0 w : World) (hO : Own (aFr q (arrV A n c) pos apos kv vv :: R) w0 w) (hn : n ≤ 1099511627776) (hp : Plc n pos) :
    Calls Tryd.prog 187 #[.pointer (some ⟨q, 0, none⟩)] w (AOut q (arrV A n c) (min (pos + 1) n) apos kv vv (wval n (pos + 1)) R w0) := by
  obtain ⟨c1, c2, c3, c4, f3⟩ := aFr_cells hO
  obtain ⟨p1, p2⟩ := hp
  have hO2 := aFr_pos hO (pos + 1)
  obtain ⟨d1, d2, d3, d4, g3⟩ := aFr_cells hO2
  have HO := hid hO2
  have hm := method_aLen
  have i1 : IntKind.i64.wrap (pos + 1) = pos + 1 := i64_id (by omega) (by omega)
  clear hO hO2
  unfold arrV at c2 d2
  go_enter Tryd.func187, Tryd.ntmps187
  go_wp2_with fail
  refine (released q w c1).mono ?_
  rintro e w1 ⟨rfl, rfl⟩
  go_wp2_with fail
  refine (aLen A n c _).mono ?_
  rintro e w1 ⟨rfl, rfl⟩
  by_cases h0 : (n : Int) ≤ pos + 1
  · have t0 : decide ((n : Int) ≤ pos + 1) = true := decide_eq_true h0
    have H0 := hid h0
    go_wp2_with fail
    go_ret
    have h1 : min (pos + 1) (n : Int) = n := by have := H0.out; omega
    rw [h1]
    refine ⟨?_, ?_⟩
    · rw [wval_not.2 (.inr H0.out)]; rfl
    · have := aFr_pos HO.out (n : Int)
      simpa using this
  · have t0 : decide ((n : Int) ≤ pos + 1) = false := decide_eq_false h0
    have H0 := hid h0
    go_wp2_with fail
    go_ret
    have h1 : min (pos + 1) (n : Int) = pos + 1 := by have := H0.out; omega
    rw [h1]
    refine ⟨?_, HO.out⟩
    rw [wval_iff.2 ⟨by omega, by have := H0.out; omega⟩]; rfl
set_option maxHeartbeats 1600000 in
set_option maxRecDepth 100000 in
theorem aPrev (q : Nat) (A : Option Addr) (n c : Nat) (pos apos : Int) (kv vv : Value) (R : List Fr) (w0 w : World) (hO : Own (aFr q (arrV A n c) pos apos kv vv :: R) w0 w) (hn : n ≤ 1099511627776) (hp : Plc n pos) :
    Calls Tryd.prog 188 #[.pointer (some ⟨q, 0, none⟩)] w (AOut q (arrV A n c) (max (pos - 1) (-1)) apos kv vv (decide (0 ≤ pos - 1)) R w0) := by
  obtain ⟨c1, c2, c3, c4, f3⟩ := aFr_cells hO
  obtain ⟨p1, p2⟩ := hp
  have hO2 := aFr_pos hO (pos - 1)
  obtain ⟨d1, d2, d3, d4, g3⟩ := aFr_cells hO2
  have HO := hid hO2
  have i1 : IntKind.i64.wrap (pos - 1) = pos - 1 := i64_id (by omega) (by omega)
  clear hO hO2
  go_enter Tryd.func188, Tryd.ntmps188
  go_wp2_with fail
  refine (released q w c1).mono ?_
  rintro e w1 ⟨rfl, rfl⟩
  by_cases h0 : pos - 1 < 0
  · have t0 : decide (pos - 1 < 0) = true := decide_eq_true h0
    have H0 := hid h0
    go_wp2_with fail
    go_ret
    have h1 : max (pos - 1) (-1) = -1 := by have := H0.out; omega
    rw [h1]
    refine ⟨?_, ?_⟩
    · rw [decide_eq_false (by have := H0.out; omega)]; rfl
    · have := aFr_pos HO.out (-1)
      simpa using this
  · have t0 : decide (pos - 1 < 0) = false := decide_eq_false h0
    have H0 := hid h0
    go_wp2_with fail
    go_ret
    have h1 : max (pos - 1) (-1) = pos - 1 := by have := H0.out; omega
    rw [h1]
    refine ⟨?_, HO.out⟩
    rw [decide_eq_true (by have := H0.out; omega)]; rfl
end Go.Proofs.YtloflmcgbbbnjaaDoor
namespace Go.Proofs.YtloflmcgbbbnjaaDoor
open Go.RowKit Plain
set_option linter.all false

/-- The block of a database's iterator. -/
def iFr (q g : Nat) (sv : Value) (node : Nat) (fwd : Bool) (kv vv : Value) : Fr := fw q 234 [.nilIface, .bool false, .pointer (some ⟨g, 0, none⟩), sv, .int .i64 (node : Int), .bool fwd, kv, vv, .nilIface]
structure ICells (q g : Nat) (sv : Value) (node : Nat) (fwd : Bool) (kv vv : Value) (w : World) : Prop where
  i1 : w.cell? ⟨q, 1, none⟩ = some (.bool false)
  i2 : w.cell? ⟨q, 2, none⟩ = some (.pointer (some ⟨g, 0, none⟩))
  i3 : w.cell? ⟨q, 3, none⟩ = some sv
  i4 : w.cell? ⟨q, 4, none⟩ = some (.int .i64 (node : Int))
  i5 : w.cell? ⟨q, 5, none⟩ = some (.bool fwd)
  i6 : w.cell? ⟨q, 6, none⟩ = some kv
  i7 : w.cell? ⟨q, 7, none⟩ = some vv
  i8 : w.cell? ⟨q, 8, none⟩ = some .nilIface
  fz : ∀ k, w.frozen? ⟨q, k, none⟩ = false
section
variable {q g node : Nat} {sv kv vv : Value} {fwd : Bool} {R : List Fr} {w0 w : World}
theorem iFr_cells (h : Own (iFr q g sv node fwd kv vv :: R) w0 w) : ICells q g sv node fwd kv vv w :=
  ⟨h.cell 0 rfl (k := 1) 1 rfl (by simp [iFr]), h.cell 0 rfl (k := 2) 2 rfl (by simp [iFr]), h.cell 0 rfl (k := 3) 3 rfl (by simp [iFr]), h.cell 0 rfl (k := 4) 4 rfl (by simp [iFr]), h.cell 0 rfl (k := 5) 5 rfl (by simp [iFr]), h.cell 0 rfl (k := 6) 6 rfl (by simp [iFr]), h.cell 0 rfl (k := 7) 7 rfl (by simp [iFr]), h.cell 0 rfl (k := 8) 8 rfl (by simp [iFr]), fun k => h.frozen 0 rfl k⟩
theorem iFr_node (h : Own (iFr q g sv node fwd kv vv :: R) w0 w) (n : Nat) : Own (iFr q g sv n fwd kv vv :: R) w0 (w.setCell ⟨q, 4, none⟩ (.int .i64 (n : Int))) := h.set (k := 4) 4 rfl (by simp [iFr]) _
theorem iFr_fwd (h : Own (iFr q g sv node fwd kv vv :: R) w0 w) (b : Bool) : Own (iFr q g sv node b kv vv :: R) w0 (w.setCell ⟨q, 5, none⟩ (.bool b)) := h.set (k := 5) 5 rfl (by simp [iFr]) _
theorem iFr_key (h : Own (iFr q g sv node fwd kv vv :: R) w0 w) (v : Value) : Own (iFr q g sv node fwd v vv :: R) w0 (w.setCell ⟨q, 6, none⟩ v) := h.set (k := 6) 6 rfl (by simp [iFr]) _
theorem iFr_val (h : Own (iFr q g sv node fwd kv vv :: R) w0 w) (v : Value) : Own (iFr q g sv node fwd kv v :: R) w0 (w.setCell ⟨q, 7, none⟩ v) := h.set (k := 7) 7 rfl (by simp [iFr]) _
end
def pAd (A : Option Addr) (c o : Nat) : Option Addr := if c = o then A else Option.map (fun x => x.add o) A
/-- What an iterator shows: an entry's key, its value. -/
def kSl (A : Option Addr) (c : Nat) (en : En) : Value := .slice (pAd A c en.nd.ko) en.nd.kl (c - en.nd.ko)
def vSl (A : Option Addr) (c : Nat) (en : En) : Value := .slice (pAd A c (en.nd.ko + en.nd.kl)) en.nd.vl (c - (en.nd.ko + en.nd.kl))
/-- Behind fill. -/
def FillOut (q g : Nat) (A : Option Addr) (c1 : Nat) (sv : Value) (fwd : Bool) (es : List En) (i hi : Nat) (R : List Fr) (w0 : World) (e : Ending) (w' : World) : Prop :=
  (i < hi ∧ e = .returned (.bool true) ∧ ∃ (en : En), es[i]? = some en ∧ Own (iFr q g sv en.nd.p fwd (kSl A c1 en) (vSl A c1 en) :: R) w0 w') ∨
  (hi ≤ i ∧ e = .returned (.bool false) ∧ Own (iFr q g sv 0 fwd (.slice none 0 0) (.slice none 0 0) :: R) w0 w')
set_option maxHeartbeats 1600000 in
set_option maxRecDepth 100000 in
theorem fill_none (q g : Nat) (A : Option Addr) (c1 : Nat) (sv : Value) (fwd b1 b2 : Bool) (kv0 vv0 : Value) (es : List En) (i hi : Nat) (R : List Fr) (w0 w : World) (hO : Own (iFr q g sv 0 fwd kv0 vv0 :: R) w0 w) (hle : hi ≤ i) :
    Calls Tryd.prog 236 #[.pointer (some ⟨q, 0, none⟩), .bool b1, .bool b2] w (FillOut q g A c1 sv fwd es i hi R w0) := by
  obtain ⟨i1, i2, i3, i4, i5, i6, i7, i8, fz⟩ := iFr_cells hO
  have HO := hid (iFr_val (iFr_key hO (.slice none 0 0)) (.slice none 0 0))
  have HL := hid hle
  clear hO hle i1 i2 i3 i5 i8
  go_enter Tryd.func236, Tryd.ntmps236
  go_wp2_with fail
  go_step3
  go_wp2_with fail
  go_step3
  go_wp2_with fail
  try rw [Exit.noGoto_ret]
  go_ret
  exact .inr ⟨HL.out, rfl, HO.out⟩
set_option maxHeartbeats 3200000 in
set_option maxRecDepth 100000 in
theorem fill_n (q g : Nat) (A : Option Addr) (n1 c1 b n2 c2 mh : Nat) (fwd b1 b2 : Bool) (kv0 vv0 : Value) (kv : List UInt8) (nd : List Nat) (es : List En) (en : En) (i hi : Nat) (R : List Fr) (w0 w : World) (ok : DbOk kv nd mh es) (hD : St R w0 fun w => DbR w g A n1 c1 b n2 c2 mh kv nd) (hcap : c1 ≤ maxLen)
    (he : es[i]? = some en) (hO : Own (iFr q g (.pointer none) en.nd.p fwd kv0 vv0 :: R) w0 w) (hlt : i < hi) :
    Calls Tryd.prog 236 #[.pointer (some ⟨q, 0, none⟩), .bool b1, .bool b2] w (FillOut q g A c1 (.pointer none) fwd es i hi R w0) := by
  have hem := List.mem_of_getElem? he
  have hr := hO.st hD (fun y hy => by simp [hy])
  obtain ⟨p1, p2, p3, ke, ve, hF, -, -, hl1, hl2⟩ := hr.en ok hem
  have hb1 : St R w0 fun w => BsAt w (if c1 = en.nd.ko then A else Option.map (fun x => x.add en.nd.ko) A) en.k := hD.imp fun w h => by
    obtain ⟨_, _, _, _, _, _, hb, _⟩ := h.en ok hem
    exact hb
  have hke : ke = en.nd.ko + en.nd.kl := by have := hF.k1; have := hF.g1; omega
  have hb2 : St R w0 fun w => BsAt w (if c1 = ke then A else Option.map (fun x => x.add ke) A) en.v := hD.imp fun w h => by
    obtain ⟨_, _, _, ke', _, hF', _, hb, _⟩ := h.en ok hem
    have : ke' = ke := by have := hF'.k1; have := hF'.g1; omega
    rw [this] at hb
    exact hb
  obtain ⟨s1, s2, s3, t1, t2, a0, a1, a2, a3, l0, l1, l2, l3, g1, g2, g3, g4, g5, k1, k2, p0, e1, e2, e3, b1', b2'⟩ := hF
  have q2 := hr.q2
  have q3 := hr.q3
  obtain ⟨i1, i2, i3, i4, i5, i6, i7, i8, fz⟩ := iFr_cells hO
  have hnd2 := (ok.at_ hem).2.2.1
  rw [← e2] at hnd2
  have HND2 := hid hnd2
  have HE := hid he
  have HB := hid (And.intro hb1 hb2)
  have HL := hid (And.intro hl1 hl2)
  have HLT := hid hlt
  have HD := hid hD
  have HC := hid hcap
  have HX := hid (And.intro b1' b2')
  have HO := hid hO
  obtain ⟨p, hp⟩ : ∃ p, en.nd.p = p := ⟨_, rfl⟩
  rw [hp] at HO i4 s1 s2 s3 a0 l0 p0
  have HP := hid hp
  have n0 : ((p : Int) == 0) = false := by rw [beq_eq_false_iff_ne]; omega
  have n0' : ¬ (p : Int) = 0 := by omega
  have n0'' : ¬ p = 0 := by omega
  have HQ : Hid (∀ v, v = .slice (pAd A c1 en.nd.ko) en.nd.kl (c1 - en.nd.ko) → v = kSl A c1 en) := hid fun v h => h
  have HQ2 : Hid (∀ v, v = .slice (pAd A c1 ke) en.nd.vl (c1 - ke) → v = vSl A c1 en) := hid fun v h => by rw [h, hke]; rfl
  clear hnd2 ok hD he hO hr hlt hcap hem hl1 hl2 hb1 hb2 e1 e2 e3 hke b1' b2' a3 l3 s3 i1 i5 i8 hp
  generalize en.nd.ko = ko at *
  generalize en.nd.kl = kl at *
  generalize en.nd.vl = vl at *
  generalize en.nd.h = hh at *
  go_enter Tryd.func236, Tryd.ntmps236
  go_wp2_with fail
  go_step3
  go_wp2_with fail
  refine AnyT.start (S := fun w' => w'.cell? ⟨q, 2, none⟩ = some (.pointer (some ⟨g, 0, none⟩)) ∧ w'.cell? ⟨q, 4, none⟩ = some (.int .i64 (p : Int)) ∧ w'.cell? ⟨g, 3, none⟩ = some (.slice (some ⟨b, 0, none⟩) n2 c2) ∧ w'.cell? ⟨b, p, none⟩ = some (.int .i64 (ko : Int))) (T := []) (by kernel_rfl) (⟨i2, i4, q3, a0⟩) (fun hHeld => ?_)
  refine AnyT.take (i := 0) (v := ?_) (by simp only [List.getElem?_toArray, List.getElem?_cons_succ, List.getElem?_cons_zero]; rfl) (by kernel_rfl) (by kernel_rfl) (by kernel_rfl) (by kernel_rfl) (by intro _ _ _ h; exact h) (Or.inl ⟨by rfl, fun w hSw => ?_⟩) hHeld ?_
  rotate_left
  · ((try dsimp only at hSw); go_simp; first | done | with_reducible rfl | rfl)
  try simp only [Act.put, List.setIfInBounds_toArray, List.set_cons_zero, List.set_cons_succ]
  refine AnyT.take (i := 1) (v := ?_) (by simp only [List.getElem?_toArray, List.getElem?_cons_succ, List.getElem?_cons_zero]; rfl) (by kernel_rfl) (by kernel_rfl) (by kernel_rfl) (by kernel_rfl) (by intro _ _ _ h; exact h) (Or.inl ⟨by rfl, fun w hSw => ?_⟩) hHeld ?_
  rotate_left
  · ((try dsimp only at hSw); go_simp; first | done | with_reducible rfl | rfl)
  try simp only [Act.put, List.setIfInBounds_toArray, List.set_cons_zero, List.set_cons_succ]
  refine AnyT.take (i := 2) (v := ?_) (by simp only [List.getElem?_toArray, List.getElem?_cons_succ, List.getElem?_cons_zero]; rfl) (by kernel_rfl) (by kernel_rfl) (by kernel_rfl) (by kernel_rfl) (by intro _ _ _ h; exact h) (Or.inl ⟨by rfl, fun w hSw => ?_⟩) hHeld ?_
  rotate_left
  · ((try dsimp only at hSw); go_simp; first | done | with_reducible rfl | rfl)
  try simp only [Act.put, List.setIfInBounds_toArray, List.set_cons_zero, List.set_cons_succ]
  refine AnyT.take (i := 3) (v := ?_) (by simp only [List.getElem?_toArray, List.getElem?_cons_succ, List.getElem?_cons_zero]; rfl) (by kernel_rfl) (by kernel_rfl) (by kernel_rfl) (by kernel_rfl) (by intro _ _ _ h; exact h) (Or.inl ⟨by rfl, fun w hSw => ?_⟩) hHeld ?_
  rotate_left
  · ((try dsimp only at hSw); go_simp; first | done | with_reducible rfl | rfl)
  try simp only [Act.put, List.setIfInBounds_toArray, List.set_cons_zero, List.set_cons_succ]
  refine AnyT.take (i := 4) (v := ?_) (by simp only [List.getElem?_toArray, List.getElem?_cons_succ, List.getElem?_cons_zero]; rfl) (by kernel_rfl) (by kernel_rfl) (by kernel_rfl) (by kernel_rfl) (by intro _ _ _ h; exact h) (Or.inl ⟨by rfl, fun w hSw => ?_⟩) hHeld ?_
  rotate_left
  · ((try dsimp only at hSw); go_simp; first | done | with_reducible rfl | rfl)
  try simp only [Act.put, List.setIfInBounds_toArray, List.set_cons_zero, List.set_cons_succ]
  refine AnyT.take (i := 5) (v := ?_) (by simp only [List.getElem?_toArray, List.getElem?_cons_succ, List.getElem?_cons_zero]; rfl) (by kernel_rfl) (by kernel_rfl) (by kernel_rfl) (by kernel_rfl) (by intro _ _ _ h; exact h) (Or.inl ⟨by rfl, fun w hSw => ?_⟩) hHeld ?_
  rotate_left
  · ((try dsimp only at hSw); go_simp; first | done | with_reducible rfl | rfl)
  try simp only [Act.put, List.setIfInBounds_toArray, List.set_cons_zero, List.set_cons_succ]
  refine AnyT.take (i := 6) (v := ?_) (by simp only [List.getElem?_toArray, List.getElem?_cons_succ, List.getElem?_cons_zero]; rfl) (by kernel_rfl) (by kernel_rfl) (by kernel_rfl) (by kernel_rfl) (by intro _ _ _ h; exact h) (Or.inl ⟨by rfl, fun w hSw => ?_⟩) hHeld ?_
  rotate_left
  · ((try dsimp only at hSw); go_simp; first | done | with_reducible rfl | rfl)
  try simp only [Act.put, List.setIfInBounds_toArray, List.set_cons_zero, List.set_cons_succ]
  refine AnyT.take (i := 7) (v := ?_) (by simp only [List.getElem?_toArray, List.getElem?_cons_succ, List.getElem?_cons_zero]; rfl) (by kernel_rfl) (by kernel_rfl) (by kernel_rfl) (by kernel_rfl) (by intro _ _ _ h; exact h) (Or.inl ⟨by rfl, fun w hSw => ?_⟩) hHeld ?_
  rotate_left
  · ((try dsimp only at hSw); go_simp; first | done | with_reducible rfl | rfl)
  try simp only [Act.put, List.setIfInBounds_toArray, List.set_cons_zero, List.set_cons_succ]
  refine AnyT.take (i := 8) (v := ?_) (by simp only [List.getElem?_toArray, List.getElem?_cons_succ, List.getElem?_cons_zero]; rfl) (by kernel_rfl) (by kernel_rfl) (by kernel_rfl) (by kernel_rfl) (by intro _ _ _ h; exact h) (Or.inl ⟨by rfl, fun w hSw => ?_⟩) hHeld ?_
  rotate_left
  · ((try dsimp only at hSw); go_simp; first | done | with_reducible rfl | rfl)
  try simp only [Act.put, List.setIfInBounds_toArray, List.set_cons_zero, List.set_cons_succ]
  refine AnyT.take (i := 9) (v := ?_) (by simp only [List.getElem?_toArray, List.getElem?_cons_succ, List.getElem?_cons_zero]; rfl) (by kernel_rfl) (by kernel_rfl) (by kernel_rfl) (by kernel_rfl) (by intro _ _ _ h; exact h) (Or.inl ⟨by rfl, fun w hSw => ?_⟩) hHeld ?_
  rotate_left
  · ((try dsimp only at hSw); go_simp; first | done | with_reducible rfl | rfl)
  try simp only [Act.put, List.setIfInBounds_toArray, List.set_cons_zero, List.set_cons_succ]
  refine AnyT.take (i := 10) (v := ?_) (by simp only [List.getElem?_toArray, List.getElem?_cons_succ, List.getElem?_cons_zero]; rfl) (by kernel_rfl) (by kernel_rfl) (by kernel_rfl) (by kernel_rfl) (by intro _ _ _ h; exact h) (Or.inl ⟨by rfl, fun w hSw => ?_⟩) hHeld ?_
  rotate_left
  · ((try dsimp only at hSw); go_simp; first | done | with_reducible rfl | rfl)
  try simp only [Act.put, List.setIfInBounds_toArray, List.set_cons_zero, List.set_cons_succ]
  refine AnyT.take (i := 11) (v := ?_) (by simp only [List.getElem?_toArray, List.getElem?_cons_succ, List.getElem?_cons_zero]; rfl) (by kernel_rfl) (by kernel_rfl) (by kernel_rfl) (by kernel_rfl) (by intro _ _ _ h; exact h) (Or.inl ⟨by rfl, fun w hSw => ?_⟩) hHeld ?_
  rotate_left
  · ((try dsimp only at hSw); go_simp; first | done | with_reducible rfl | rfl)
  try simp only [Act.put, List.setIfInBounds_toArray, List.set_cons_zero, List.set_cons_succ]
  refine AnyT.take (i := 12) (v := ?_) (by simp only [List.getElem?_toArray, List.getElem?_cons_succ, List.getElem?_cons_zero]; rfl) (by kernel_rfl) (by kernel_rfl) (by kernel_rfl) (by kernel_rfl) (by intro _ _ _ h; exact h) (Or.inl ⟨by rfl, fun w hSw => ?_⟩) hHeld ?_
  rotate_left
  · ((try dsimp only at hSw); go_simp; first | done | with_reducible rfl | rfl)
  try simp only [Act.put, List.setIfInBounds_toArray, List.set_cons_zero, List.set_cons_succ]
  refine AnyT.take (i := 13) (v := ?_) (by simp only [List.getElem?_toArray, List.getElem?_cons_succ, List.getElem?_cons_zero]; rfl) (by kernel_rfl) (by kernel_rfl) (by kernel_rfl) (by kernel_rfl) (by intro _ _ _ h; exact h) (Or.inl ⟨by rfl, fun w hSw => ?_⟩) hHeld ?_
  rotate_left
  · ((try dsimp only at hSw); go_simp; first | done | with_reducible rfl | rfl)
  try simp only [Act.put, List.setIfInBounds_toArray, List.set_cons_zero, List.set_cons_succ]
  refine AnyT.done (by kernel_rfl) ?_ _
  clear hHeld
  go_wp2_with fail
  refine AnyT.start (S := fun w' => w'.cell? ⟨q, 2, none⟩ = some (.pointer (some ⟨g, 0, none⟩)) ∧ w'.cell? ⟨q, 4, none⟩ = some (.int .i64 (p : Int)) ∧ w'.cell? ⟨g, 3, none⟩ = some (.slice (some ⟨b, 0, none⟩) n2 c2) ∧ w'.cell? ⟨b, p1, none⟩ = some (.int .i64 (kl : Int))) (T := []) (by kernel_rfl) (⟨i2, i4, q3, a1⟩) (fun hHeld => ?_)
  refine AnyT.take (i := 0) (v := ?_) (by simp only [List.getElem?_toArray, List.getElem?_cons_succ, List.getElem?_cons_zero]; rfl) (by kernel_rfl) (by kernel_rfl) (by kernel_rfl) (by kernel_rfl) (by intro _ _ _ h; exact h) (Or.inl ⟨by rfl, fun w hSw => ?_⟩) hHeld ?_
  rotate_left
  · ((try dsimp only at hSw); go_simp; first | done | with_reducible rfl | rfl)
  try simp only [Act.put, List.setIfInBounds_toArray, List.set_cons_zero, List.set_cons_succ]
  refine AnyT.take (i := 1) (v := ?_) (by simp only [List.getElem?_toArray, List.getElem?_cons_succ, List.getElem?_cons_zero]; rfl) (by kernel_rfl) (by kernel_rfl) (by kernel_rfl) (by kernel_rfl) (by intro _ _ _ h; exact h) (Or.inl ⟨by rfl, fun w hSw => ?_⟩) hHeld ?_
  rotate_left
  · ((try dsimp only at hSw); go_simp; first | done | with_reducible rfl | rfl)
  try simp only [Act.put, List.setIfInBounds_toArray, List.set_cons_zero, List.set_cons_succ]
  refine AnyT.take (i := 2) (v := ?_) (by simp only [List.getElem?_toArray, List.getElem?_cons_succ, List.getElem?_cons_zero]; rfl) (by kernel_rfl) (by kernel_rfl) (by kernel_rfl) (by kernel_rfl) (by intro _ _ _ h; exact h) (Or.inl ⟨by rfl, fun w hSw => ?_⟩) hHeld ?_
  rotate_left
  · ((try dsimp only at hSw); go_simp; first | done | with_reducible rfl | rfl)
  try simp only [Act.put, List.setIfInBounds_toArray, List.set_cons_zero, List.set_cons_succ]
  refine AnyT.take (i := 3) (v := ?_) (by simp only [List.getElem?_toArray, List.getElem?_cons_succ, List.getElem?_cons_zero]; rfl) (by kernel_rfl) (by kernel_rfl) (by kernel_rfl) (by kernel_rfl) (by intro _ _ _ h; exact h) (Or.inl ⟨by rfl, fun w hSw => ?_⟩) hHeld ?_
  rotate_left
  · ((try dsimp only at hSw); go_simp; first | done | with_reducible rfl | rfl)
  try simp only [Act.put, List.setIfInBounds_toArray, List.set_cons_zero, List.set_cons_succ]
  refine AnyT.take (i := 4) (v := ?_) (by simp only [List.getElem?_toArray, List.getElem?_cons_succ, List.getElem?_cons_zero]; rfl) (by kernel_rfl) (by kernel_rfl) (by kernel_rfl) (by kernel_rfl) (by intro _ _ _ h; exact h) (Or.inl ⟨by rfl, fun w hSw => ?_⟩) hHeld ?_
  rotate_left
  · ((try dsimp only at hSw); go_simp; first | done | with_reducible rfl | rfl)
  try simp only [Act.put, List.setIfInBounds_toArray, List.set_cons_zero, List.set_cons_succ]
  refine AnyT.take (i := 5) (v := ?_) (by simp only [List.getElem?_toArray, List.getElem?_cons_succ, List.getElem?_cons_zero]; rfl) (by kernel_rfl) (by kernel_rfl) (by kernel_rfl) (by kernel_rfl) (by intro _ _ _ h; exact h) (Or.inl ⟨by rfl, fun w hSw => ?_⟩) hHeld ?_
  rotate_left
  · ((try dsimp only at hSw); go_simp; first | done | with_reducible rfl | rfl)
  try simp only [Act.put, List.setIfInBounds_toArray, List.set_cons_zero, List.set_cons_succ]
  refine AnyT.take (i := 6) (v := ?_) (by simp only [List.getElem?_toArray, List.getElem?_cons_succ, List.getElem?_cons_zero]; rfl) (by kernel_rfl) (by kernel_rfl) (by kernel_rfl) (by kernel_rfl) (by intro _ _ _ h; exact h) (Or.inl ⟨by rfl, fun w hSw => ?_⟩) hHeld ?_
  rotate_left
  · ((try dsimp only at hSw); go_simp; first | done | with_reducible rfl | rfl)
  try simp only [Act.put, List.setIfInBounds_toArray, List.set_cons_zero, List.set_cons_succ]
  refine AnyT.take (i := 7) (v := ?_) (by simp only [List.getElem?_toArray, List.getElem?_cons_succ, List.getElem?_cons_zero]; rfl) (by kernel_rfl) (by kernel_rfl) (by kernel_rfl) (by kernel_rfl) (by intro _ _ _ h; exact h) (Or.inl ⟨by rfl, fun w hSw => ?_⟩) hHeld ?_
  rotate_left
  · ((try dsimp only at hSw); go_simp; first | done | with_reducible rfl | rfl)
  try simp only [Act.put, List.setIfInBounds_toArray, List.set_cons_zero, List.set_cons_succ]
  refine AnyT.take (i := 8) (v := ?_) (by simp only [List.getElem?_toArray, List.getElem?_cons_succ, List.getElem?_cons_zero]; rfl) (by kernel_rfl) (by kernel_rfl) (by kernel_rfl) (by kernel_rfl) (by intro _ _ _ h; exact h) (Or.inl ⟨by rfl, fun w hSw => ?_⟩) hHeld ?_
  rotate_left
  · ((try dsimp only at hSw); go_simp; first | done | with_reducible rfl | rfl)
  try simp only [Act.put, List.setIfInBounds_toArray, List.set_cons_zero, List.set_cons_succ]
  refine AnyT.take (i := 9) (v := ?_) (by simp only [List.getElem?_toArray, List.getElem?_cons_succ, List.getElem?_cons_zero]; rfl) (by kernel_rfl) (by kernel_rfl) (by kernel_rfl) (by kernel_rfl) (by intro _ _ _ h; exact h) (Or.inl ⟨by rfl, fun w hSw => ?_⟩) hHeld ?_
  rotate_left
  · ((try dsimp only at hSw); go_simp; first | done | with_reducible rfl | rfl)
  try simp only [Act.put, List.setIfInBounds_toArray, List.set_cons_zero, List.set_cons_succ]
  refine AnyT.take (i := 10) (v := ?_) (by simp only [List.getElem?_toArray, List.getElem?_cons_succ, List.getElem?_cons_zero]; rfl) (by kernel_rfl) (by kernel_rfl) (by kernel_rfl) (by kernel_rfl) (by intro _ _ _ h; exact h) (Or.inl ⟨by rfl, fun w hSw => ?_⟩) hHeld ?_
  rotate_left
  · ((try dsimp only at hSw); go_simp; first | done | with_reducible rfl | rfl)
  try simp only [Act.put, List.setIfInBounds_toArray, List.set_cons_zero, List.set_cons_succ]
  refine AnyT.take (i := 11) (v := ?_) (by simp only [List.getElem?_toArray, List.getElem?_cons_succ, List.getElem?_cons_zero]; rfl) (by kernel_rfl) (by kernel_rfl) (by kernel_rfl) (by kernel_rfl) (by intro _ _ _ h; exact h) (Or.inl ⟨by rfl, fun w hSw => ?_⟩) hHeld ?_
  rotate_left
  · ((try dsimp only at hSw); go_simp; first | done | with_reducible rfl | rfl)
  try simp only [Act.put, List.setIfInBounds_toArray, List.set_cons_zero, List.set_cons_succ]
  refine AnyT.take (i := 12) (v := ?_) (by simp only [List.getElem?_toArray, List.getElem?_cons_succ, List.getElem?_cons_zero]; rfl) (by kernel_rfl) (by kernel_rfl) (by kernel_rfl) (by kernel_rfl) (by intro _ _ _ h; exact h) (Or.inl ⟨by rfl, fun w hSw => ?_⟩) hHeld ?_
  rotate_left
  · ((try dsimp only at hSw); go_simp; first | done | with_reducible rfl | rfl)
  try simp only [Act.put, List.setIfInBounds_toArray, List.set_cons_zero, List.set_cons_succ]
  refine AnyT.take (i := 13) (v := ?_) (by simp only [List.getElem?_toArray, List.getElem?_cons_succ, List.getElem?_cons_zero]; rfl) (by kernel_rfl) (by kernel_rfl) (by kernel_rfl) (by kernel_rfl) (by intro _ _ _ h; exact h) (Or.inl ⟨by rfl, fun w hSw => ?_⟩) hHeld ?_
  rotate_left
  · ((try dsimp only at hSw); go_simp; first | done | with_reducible rfl | rfl)
  try simp only [Act.put, List.setIfInBounds_toArray, List.set_cons_zero, List.set_cons_succ]
  refine AnyT.take (i := 14) (v := ?_) (by simp only [List.getElem?_toArray, List.getElem?_cons_succ, List.getElem?_cons_zero]; rfl) (by kernel_rfl) (by kernel_rfl) (by kernel_rfl) (by kernel_rfl) (by intro _ _ _ h; exact h) (Or.inl ⟨by rfl, fun w hSw => ?_⟩) hHeld ?_
  rotate_left
  · ((try dsimp only at hSw); go_simp; first | done | with_reducible rfl | rfl)
  try simp only [Act.put, List.setIfInBounds_toArray, List.set_cons_zero, List.set_cons_succ]
  refine AnyT.take (i := 15) (v := ?_) (by simp only [List.getElem?_toArray, List.getElem?_cons_succ, List.getElem?_cons_zero]; rfl) (by kernel_rfl) (by kernel_rfl) (by kernel_rfl) (by kernel_rfl) (by intro _ _ _ h; exact h) (Or.inl ⟨by rfl, fun w hSw => ?_⟩) hHeld ?_
  rotate_left
  · ((try dsimp only at hSw); go_simp; first | done | with_reducible rfl | rfl)
  try simp only [Act.put, List.setIfInBounds_toArray, List.set_cons_zero, List.set_cons_succ]
  refine AnyT.take (i := 16) (v := ?_) (by simp only [List.getElem?_toArray, List.getElem?_cons_succ, List.getElem?_cons_zero]; rfl) (by kernel_rfl) (by kernel_rfl) (by kernel_rfl) (by kernel_rfl) (by intro _ _ _ h; exact h) (Or.inl ⟨by rfl, fun w hSw => ?_⟩) hHeld ?_
  rotate_left
  · ((try dsimp only at hSw); go_simp; first | done | with_reducible rfl | rfl)
  try simp only [Act.put, List.setIfInBounds_toArray, List.set_cons_zero, List.set_cons_succ]
  refine AnyT.done (by kernel_rfl) ?_ _
  clear hHeld
  have HO1 := hid HO.out.drew.drew
  have q2 := keepc ((Only.refl [] w).drew.drew) q2
  have q3 := keepc ((Only.refl [] w).drew.drew) q3
  have a2 := keepc ((Only.refl [] w).drew.drew) a2
  obtain ⟨i1, i2, i3, i4, i5, i6, i7, i8, fz⟩ := iFr_cells HO1.out
  generalize w.drew.drew = W at *
  clear i1 i5 i8 a0 a1 HO
  go_upto_region 4 with fail
  go_cut [] (fun wx => ∃ A3, Hid (A3 = pAd A c1 ko) ∧ Hid (Rd R w0 A3 en.k) ∧ Hid (Own (iFr q g (.pointer none) p fwd (.slice A3 kl (c1 - ko)) vv0 :: R) w0 wx))
  case first =>
    by_cases hck : c1 = ko
    · have hb := HB.out.1
      rw [if_pos hck] at hb
      subst hck
      have HB1 := hid hb
      have HO2 := hid (iFr_key HO1.out (.slice A kl (c1 - c1)))
      clear hb HB
      rw [Nat.sub_self] at HO2
      go_wp2_with fail
      go_meet
      exact ⟨A, hid (by unfold pAd; rw [if_pos rfl]), HB1, by rw [Nat.sub_self]; exact HO2⟩
    · have hb := HB.out.1
      rw [if_neg hck] at hb
      have HNC := hid hck
      have HB1 := hid hb
      have HO2 := hid (iFr_key HO1.out (.slice (Option.map (fun x => x.add ko) A) kl (c1 - ko)))
      clear hb HB
      go_wp2_with fail
      go_meet
      exact ⟨_, hid (by unfold pAd; rw [if_neg HNC.out]), HB1, HO2⟩
  case rest =>
  clear HO1 i6 i7 fz i2 i3 i4
  obtain ⟨A3, HA3, HB3, HO3⟩ := hcut
  have hr := HO3.out.st HD.out (fun y hy => by simp [hy])
  have q2 := hr.q2
  have q3 := hr.q3
  have a2 := (hr.bn.cell _ _ HND2.out).1
  obtain ⟨i1, i2, i3, i4, i5, i6, i7, i8, fz⟩ := iFr_cells HO3.out
  have HK := hid (And.intro (And.intro g1 g2) (And.intro k1 (And.intro g3 (And.intro g4 k2))))
  clear hr i1 i5 i6 i8 k1
  go_wp2_with fail
  refine AnyT.start (S := fun w' => w'.cell? ⟨q, 2, none⟩ = some (.pointer (some ⟨g, 0, none⟩)) ∧ w'.cell? ⟨q, 4, none⟩ = some (.int .i64 (p : Int)) ∧ w'.cell? ⟨g, 2, none⟩ = some (.slice A n1 c1) ∧ w'.cell? ⟨g, 3, none⟩ = some (.slice (some ⟨b, 0, none⟩) n2 c2) ∧ w'.cell? ⟨b, p2, none⟩ = some (.int .i64 (vl : Int))) (T := [28]) (by kernel_rfl) (⟨i2, i4, q2, q3, a2⟩) (fun hHeld => ?_)
  refine AnyT.take (i := 0) (v := ?_) (by simp only [List.getElem?_toArray, List.getElem?_cons_succ, List.getElem?_cons_zero]; rfl) (by kernel_rfl) (by kernel_rfl) (by kernel_rfl) (by kernel_rfl) (by intro _ _ _ h; exact h) (Or.inl ⟨by rfl, fun w hSw => ?_⟩) hHeld ?_
  rotate_left
  · ((try dsimp only at hSw); go_simp; first | done | with_reducible rfl | rfl)
  try simp only [Act.put, List.setIfInBounds_toArray, List.set_cons_zero, List.set_cons_succ]
  refine AnyT.take (i := 1) (v := ?_) (by simp only [List.getElem?_toArray, List.getElem?_cons_succ, List.getElem?_cons_zero]; rfl) (by kernel_rfl) (by kernel_rfl) (by kernel_rfl) (by kernel_rfl) (by intro _ _ _ h; exact h) (Or.inl ⟨by rfl, fun w hSw => ?_⟩) hHeld ?_
  rotate_left
  · ((try dsimp only at hSw); go_simp; first | done | with_reducible rfl | rfl)
  try simp only [Act.put, List.setIfInBounds_toArray, List.set_cons_zero, List.set_cons_succ]
  refine AnyT.take (i := 2) (v := ?_) (by simp only [List.getElem?_toArray, List.getElem?_cons_succ, List.getElem?_cons_zero]; rfl) (by kernel_rfl) (by kernel_rfl) (by kernel_rfl) (by kernel_rfl) (by intro _ _ _ h; exact h) (Or.inl ⟨by rfl, fun w hSw => ?_⟩) hHeld ?_
  rotate_left
  · ((try dsimp only at hSw); go_simp; first | done | with_reducible rfl | rfl)
  try simp only [Act.put, List.setIfInBounds_toArray, List.set_cons_zero, List.set_cons_succ]
  refine AnyT.take (i := 3) (v := ?_) (by simp only [List.getElem?_toArray, List.getElem?_cons_succ, List.getElem?_cons_zero]; rfl) (by kernel_rfl) (by kernel_rfl) (by kernel_rfl) (by kernel_rfl) (by intro _ _ _ h; exact h) (Or.inl ⟨by rfl, fun w hSw => ?_⟩) hHeld ?_
  rotate_left
  · ((try dsimp only at hSw); go_simp; first | done | with_reducible rfl | rfl)
  try simp only [Act.put, List.setIfInBounds_toArray, List.set_cons_zero, List.set_cons_succ]
  refine AnyT.take (i := 4) (v := ?_) (by simp only [List.getElem?_toArray, List.getElem?_cons_succ, List.getElem?_cons_zero]; rfl) (by kernel_rfl) (by kernel_rfl) (by kernel_rfl) (by kernel_rfl) (by intro _ _ _ h; exact h) (Or.inl ⟨by rfl, fun w hSw => ?_⟩) hHeld ?_
  rotate_left
  · ((try dsimp only at hSw); go_simp; first | done | with_reducible rfl | rfl)
  try simp only [Act.put, List.setIfInBounds_toArray, List.set_cons_zero, List.set_cons_succ]
  refine AnyT.take (i := 5) (v := ?_) (by simp only [List.getElem?_toArray, List.getElem?_cons_succ, List.getElem?_cons_zero]; rfl) (by kernel_rfl) (by kernel_rfl) (by kernel_rfl) (by kernel_rfl) (by intro _ _ _ h; exact h) (Or.inl ⟨by rfl, fun w hSw => ?_⟩) hHeld ?_
  rotate_left
  · ((try dsimp only at hSw); go_simp; first | done | with_reducible rfl | rfl)
  try simp only [Act.put, List.setIfInBounds_toArray, List.set_cons_zero, List.set_cons_succ]
  refine AnyT.take (i := 6) (v := ?_) (by simp only [List.getElem?_toArray, List.getElem?_cons_succ, List.getElem?_cons_zero]; rfl) (by kernel_rfl) (by kernel_rfl) (by kernel_rfl) (by kernel_rfl) (by intro _ _ _ h; exact h) (Or.inl ⟨by rfl, fun w hSw => ?_⟩) hHeld ?_
  rotate_left
  · ((try dsimp only at hSw); go_simp; first | done | with_reducible rfl | rfl)
  try simp only [Act.put, List.setIfInBounds_toArray, List.set_cons_zero, List.set_cons_succ]
  refine AnyT.take (i := 7) (v := ?_) (by simp only [List.getElem?_toArray, List.getElem?_cons_succ, List.getElem?_cons_zero]; rfl) (by kernel_rfl) (by kernel_rfl) (by kernel_rfl) (by kernel_rfl) (by intro _ _ _ h; exact h) (Or.inl ⟨by rfl, fun w hSw => ?_⟩) hHeld ?_
  rotate_left
  · ((try dsimp only at hSw); go_simp; first | done | with_reducible rfl | rfl)
  try simp only [Act.put, List.setIfInBounds_toArray, List.set_cons_zero, List.set_cons_succ]
  refine AnyT.take (i := 8) (v := ?_) (by simp only [List.getElem?_toArray, List.getElem?_cons_succ, List.getElem?_cons_zero]; rfl) (by kernel_rfl) (by kernel_rfl) (by kernel_rfl) (by kernel_rfl) (by intro _ _ _ h; exact h) (Or.inl ⟨by rfl, fun w hSw => ?_⟩) hHeld ?_
  rotate_left
  · ((try dsimp only at hSw); go_simp; first | done | with_reducible rfl | rfl)
  try simp only [Act.put, List.setIfInBounds_toArray, List.set_cons_zero, List.set_cons_succ]
  refine AnyT.take (i := 9) (v := ?_) (by simp only [List.getElem?_toArray, List.getElem?_cons_succ, List.getElem?_cons_zero]; rfl) (by kernel_rfl) (by kernel_rfl) (by kernel_rfl) (by kernel_rfl) (by intro _ _ _ h; exact h) (Or.inl ⟨by rfl, fun w hSw => ?_⟩) hHeld ?_
  rotate_left
  · ((try dsimp only at hSw); go_simp; first | done | with_reducible rfl | rfl)
  try simp only [Act.put, List.setIfInBounds_toArray, List.set_cons_zero, List.set_cons_succ]
  refine AnyT.take (i := 10) (v := ?_) (by simp only [List.getElem?_toArray, List.getElem?_cons_succ, List.getElem?_cons_zero]; rfl) (by kernel_rfl) (by kernel_rfl) (by kernel_rfl) (by kernel_rfl) (by intro _ _ _ h; exact h) (Or.inl ⟨by rfl, fun w hSw => ?_⟩) hHeld ?_
  rotate_left
  · ((try dsimp only at hSw); go_simp; first | done | with_reducible rfl | rfl)
  try simp only [Act.put, List.setIfInBounds_toArray, List.set_cons_zero, List.set_cons_succ]
  refine AnyT.take (i := 11) (v := ?_) (by simp only [List.getElem?_toArray, List.getElem?_cons_succ, List.getElem?_cons_zero]; rfl) (by kernel_rfl) (by kernel_rfl) (by kernel_rfl) (by kernel_rfl) (by intro _ _ _ h; exact h) (Or.inl ⟨by rfl, fun w hSw => ?_⟩) hHeld ?_
  rotate_left
  · ((try dsimp only at hSw); go_simp; first | done | with_reducible rfl | rfl)
  try simp only [Act.put, List.setIfInBounds_toArray, List.set_cons_zero, List.set_cons_succ]
  refine AnyT.take (i := 12) (v := ?_) (by simp only [List.getElem?_toArray, List.getElem?_cons_succ, List.getElem?_cons_zero]; rfl) (by kernel_rfl) (by kernel_rfl) (by kernel_rfl) (by kernel_rfl) (by intro _ _ _ h; exact h) (Or.inl ⟨by rfl, fun w hSw => ?_⟩) hHeld ?_
  rotate_left
  · ((try dsimp only at hSw); go_simp; first | done | with_reducible rfl | rfl)
  try simp only [Act.put, List.setIfInBounds_toArray, List.set_cons_zero, List.set_cons_succ]
  refine AnyT.take (i := 13) (v := ?_) (by simp only [List.getElem?_toArray, List.getElem?_cons_succ, List.getElem?_cons_zero]; rfl) (by kernel_rfl) (by kernel_rfl) (by kernel_rfl) (by kernel_rfl) (by intro _ _ _ h; exact h) (Or.inl ⟨by rfl, fun w hSw => ?_⟩) hHeld ?_
  rotate_left
  · ((try dsimp only at hSw); go_simp; first | done | with_reducible rfl | rfl)
  try simp only [Act.put, List.setIfInBounds_toArray, List.set_cons_zero, List.set_cons_succ]
  refine AnyT.take (i := 14) (v := ?_) (by simp only [List.getElem?_toArray, List.getElem?_cons_succ, List.getElem?_cons_zero]; rfl) (by kernel_rfl) (by kernel_rfl) (by kernel_rfl) (by kernel_rfl) (by intro _ _ _ h; exact h) (Or.inl ⟨by rfl, fun w hSw => ?_⟩) hHeld ?_
  rotate_left
  · ((try dsimp only at hSw); go_simp; first | done | with_reducible rfl | rfl)
  try simp only [Act.put, List.setIfInBounds_toArray, List.set_cons_zero, List.set_cons_succ]
  refine AnyT.take (i := 15) (v := ?_) (by simp only [List.getElem?_toArray, List.getElem?_cons_succ, List.getElem?_cons_zero]; rfl) (by kernel_rfl) (by kernel_rfl) (by kernel_rfl) (by kernel_rfl) (by intro _ _ _ h; exact h) (Or.inl ⟨by rfl, fun w hSw => ?_⟩) hHeld ?_
  rotate_left
  · ((try dsimp only at hSw); go_simp; first | done | with_reducible rfl | rfl)
  try simp only [Act.put, List.setIfInBounds_toArray, List.set_cons_zero, List.set_cons_succ]
  refine AnyT.take (i := 16) (v := ?_) (by simp only [List.getElem?_toArray, List.getElem?_cons_succ, List.getElem?_cons_zero]; rfl) (by kernel_rfl) (by kernel_rfl) (by kernel_rfl) (by kernel_rfl) (by intro _ _ _ h; exact h) (Or.inl ⟨by rfl, fun w hSw => ?_⟩) hHeld ?_
  rotate_left
  · ((try dsimp only at hSw); go_simp; first | done | with_reducible rfl | rfl)
  try simp only [Act.put, List.setIfInBounds_toArray, List.set_cons_zero, List.set_cons_succ]
  refine AnyT.take (i := 17) (v := ?_) (by simp only [List.getElem?_toArray, List.getElem?_cons_succ, List.getElem?_cons_zero]; rfl) (by kernel_rfl) (by kernel_rfl) (by kernel_rfl) (by kernel_rfl) (by intro _ _ _ h; exact h) (Or.inl ⟨by rfl, fun w hSw => ?_⟩) hHeld ?_
  rotate_left
  · ((try dsimp only at hSw); go_simp; first | done | with_reducible rfl | rfl)
  try simp only [Act.put, List.setIfInBounds_toArray, List.set_cons_zero, List.set_cons_succ]
  refine AnyT.take (i := 18) (v := ?_) (by simp only [List.getElem?_toArray, List.getElem?_cons_succ, List.getElem?_cons_zero]; rfl) (by kernel_rfl) (by kernel_rfl) (by kernel_rfl) (by kernel_rfl) (by intro _ _ _ h; exact h) (Or.inl ⟨by rfl, fun w hSw => ?_⟩) hHeld ?_
  rotate_left
  · ((try dsimp only at hSw); go_simp; first | done | with_reducible rfl | rfl)
  try simp only [Act.put, List.setIfInBounds_toArray, List.set_cons_zero, List.set_cons_succ]
  refine AnyT.take (i := 19) (v := ?_) (by simp only [List.getElem?_toArray, List.getElem?_cons_succ, List.getElem?_cons_zero]; rfl) (by kernel_rfl) (by kernel_rfl) (by kernel_rfl) (by kernel_rfl) (by intro _ _ _ h; exact h) (Or.inl ⟨by rfl, fun w hSw => ?_⟩) hHeld ?_
  rotate_left
  · ((try dsimp only at hSw); go_simp; first | done | with_reducible rfl | rfl)
  try simp only [Act.put, List.setIfInBounds_toArray, List.set_cons_zero, List.set_cons_succ]
  refine AnyT.take (i := 20) (v := ?_) (by simp only [List.getElem?_toArray, List.getElem?_cons_succ, List.getElem?_cons_zero]; rfl) (by kernel_rfl) (by kernel_rfl) (by kernel_rfl) (by kernel_rfl) (by intro _ _ _ h; exact h) (Or.inl ⟨by rfl, fun w hSw => ?_⟩) hHeld ?_
  rotate_left
  · ((try dsimp only at hSw); go_simp; first | done | with_reducible rfl | rfl)
  try simp only [Act.put, List.setIfInBounds_toArray, List.set_cons_zero, List.set_cons_succ]
  refine AnyT.take (i := 21) (v := ?_) (by simp only [List.getElem?_toArray, List.getElem?_cons_succ, List.getElem?_cons_zero]; rfl) (by kernel_rfl) (by kernel_rfl) (by kernel_rfl) (by kernel_rfl) (by intro _ _ _ h; exact h) (Or.inl ⟨by rfl, fun w hSw => ?_⟩) hHeld ?_
  rotate_left
  · ((try dsimp only at hSw); go_simp; first | done | with_reducible rfl | rfl)
  try simp only [Act.put, List.setIfInBounds_toArray, List.set_cons_zero, List.set_cons_succ]
  refine AnyT.take (i := 22) (v := ?_) (by simp only [List.getElem?_toArray, List.getElem?_cons_succ, List.getElem?_cons_zero]; rfl) (by kernel_rfl) (by kernel_rfl) (by kernel_rfl) (by kernel_rfl) (by intro _ _ _ h; exact h) (Or.inl ⟨by rfl, fun w hSw => ?_⟩) hHeld ?_
  rotate_left
  · ((try dsimp only at hSw); go_simp; first | done | with_reducible rfl | rfl)
  try simp only [Act.put, List.setIfInBounds_toArray, List.set_cons_zero, List.set_cons_succ]
  refine AnyT.take (i := 23) (v := ?_) (by simp only [List.getElem?_toArray, List.getElem?_cons_succ, List.getElem?_cons_zero]; rfl) (by kernel_rfl) (by kernel_rfl) (by kernel_rfl) (by kernel_rfl) (by intro _ _ _ h; exact h) (Or.inl ⟨by rfl, fun w hSw => ?_⟩) hHeld ?_
  rotate_left
  · ((try dsimp only at hSw); go_simp; first | done | with_reducible rfl | rfl)
  try simp only [Act.put, List.setIfInBounds_toArray, List.set_cons_zero, List.set_cons_succ]
  refine AnyT.take (i := 24) (v := ?_) (by simp only [List.getElem?_toArray, List.getElem?_cons_succ, List.getElem?_cons_zero]; rfl) (by kernel_rfl) (by kernel_rfl) (by kernel_rfl) (by kernel_rfl) (by intro _ _ _ h; exact h) (Or.inl ⟨by rfl, fun w hSw => ?_⟩) hHeld ?_
  rotate_left
  · ((try dsimp only at hSw); go_simp; first | done | with_reducible rfl | rfl)
  try simp only [Act.put, List.setIfInBounds_toArray, List.set_cons_zero, List.set_cons_succ]
  refine AnyT.take (i := 25) (v := ?_) (by simp only [List.getElem?_toArray, List.getElem?_cons_succ, List.getElem?_cons_zero]; rfl) (by kernel_rfl) (by kernel_rfl) (by kernel_rfl) (by kernel_rfl) (by intro _ _ _ h; exact h) (Or.inl ⟨by rfl, fun w hSw => ?_⟩) hHeld ?_
  rotate_left
  · ((try dsimp only at hSw); go_simp; first | done | with_reducible rfl | rfl)
  try simp only [Act.put, List.setIfInBounds_toArray, List.set_cons_zero, List.set_cons_succ]
  have HB5 : Hid (Rd R w0 (if c1 = ke then A else Option.map (fun x => x.add ke) A) en.v) := hid HB.out.2
  have HA4 : Hid (pAd A c1 ke = (if c1 = ke then A else Option.map (fun x => x.add ke) A)) := hid rfl
  clear HB HB5
  generalize (if c1 = ke then A else Option.map (fun x => x.add ke) A) = A4 at HA4 ⊢
  refine AnyT.ready (rs := [26]) (by kernel_rfl) (by simp) ?_
  refine AllT.cons (by simp only [List.getElem?_toArray, List.getElem?_cons_succ, List.getElem?_cons_zero]; rfl) (fun K hK => ?_) AllT.nil
  go_simp
  refine hK.out _ _ ?_ (fun hHeld => ?_)
  · exact hHeld
  clear hK
  try simp only [Act.put, List.setIfInBounds_toArray, List.set_cons_zero, List.set_cons_succ]
  refine AnyT.take (i := 27) (v := ?_) (by simp only [List.getElem?_toArray, List.getElem?_cons_succ, List.getElem?_cons_zero]; rfl) (by kernel_rfl) (by kernel_rfl) (by kernel_rfl) (by kernel_rfl) (by intro _ _ _ h; exact h) (Or.inl ⟨by rfl, fun w hSw => ?_⟩) hHeld ?_
  rotate_left
  · ((try dsimp only at hSw); go_simp; first | done | with_reducible rfl | rfl)
  try simp only [Act.put, List.setIfInBounds_toArray, List.set_cons_zero, List.set_cons_succ]
  refine AnyT.ready (rs := [28]) (by kernel_rfl) (by simp) ?_
  refine AllT.late (by simp only [List.getElem?_toArray, List.getElem?_cons_succ, List.getElem?_cons_zero]; rfl) (by kernel_rfl) (fun K hK => ?_)
  go_simp
  refine hK.out _ _ ?_
  clear hK
  try simp only [Act.put, List.setIfInBounds_toArray, List.set_cons_zero, List.set_cons_succ]
  refine AnyT.done (by kernel_rfl) ?_ _
  clear hHeld
  have HO5 := hid (iFr_val HO3.out.drew (.slice A4 vl (c1 - ke)))
  go_wp2_with fail
  try rw [Exit.noGoto_ret]
  go_ret
  have h6 := HO5.out
  have e1 : iFr q g (.pointer none) p fwd (.slice A3 kl (c1 - ko)) (.slice A4 vl (c1 - ke)) = iFr q g (.pointer none) en.nd.p fwd (kSl A c1 en) (vSl A c1 en) := by
    rw [HQ2.out (.slice A4 vl (c1 - ke)) (by rw [HA4.out]), HQ.out (.slice A3 kl (c1 - ko)) (by rw [HA3.out]), HP.out]
  rw [e1] at h6
  exact .inl ⟨HLT.out, rfl, en, HE.out, h6⟩
end Go.Proofs.YtloflmcgbbbnjaaDoor
