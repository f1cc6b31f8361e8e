/-
  impl.copied; laws.below, laws.pairs, laws.tabled; spec.Ordered.
-/
import Derived.Test.YtloflmcgbbbnjaaDoorPairs
import Derived.Test.YtloflmcgbbbnjaaDoorInfo
import Derived.Test.YtloflmcgbbbnjaaDoorCompare
import Derived.Test.YtloflmcgbbbnjaaDoorOwnStep
import Derived.Test.YtloflmcgbbbnjaaDoorChoose
import Derived.Test.YtloflmcgbbbnjaaDoorPlainBlock
namespace Go.Proofs.YtloflmcgbbbnjaaDoor
open Go.RowKit Plain
set_option linter.all false

theorem Tryd.info_pair : (Tryd.prog.info? 38).map (fun i => (i.zero, i.size, i.bytes)) = some (some (.agg #[.slice none 0 0, .slice none 0 0]), 2, 48) := by kernel_rfl
theorem csAt_new (w : World) (cs : List Value) (t : TypeId) : CsAt (w.alloc (.cells cs.toArray t)) (some ⟨w.heap.size, 0, none⟩) cs := by
  have := CsAt.of_blk (Blk.new w t cs) 0 cs.length
  simpa using this
theorem csAt_new' {w : World} {g : Nat} (hg : w.heap.size = g) (cs : List Value) (t : TypeId) : CsAt (w.alloc (.cells cs.toArray t)) (some ⟨g, 0, none⟩) cs := hg ▸ csAt_new w cs t

def kvs (l : List Pr) : List KV := l.map fun r => (r.k, r.v)
theorem kvs_length (l : List Pr) : (kvs l).length = l.length := by simp [kvs]
theorem key_kvs {l : List Pr} {j : Nat} {r : Pr} (h : l[j]? = some r) : key (kvs l) j = r.k := by simp [key, kvs, List.getD_eq_getElem?_getD, h]
theorem val_kvs {l : List Pr} {j : Nat} {r : Pr} (h : l[j]? = some r) : val (kvs l) j = r.v := by simp [val, kvs, List.getD_eq_getElem?_getD, h]
theorem kvw_kvs (l : List Pr) : kvw (kvs l) = wgt l := by simp [kvw, kvs, wgt, Function.comp_def]

set_option maxHeartbeats 800000 in
theorem copied_own (A : Option Addr) (n c : Nat) (l : List UInt8) (R : List Fr) (w0 w : World) (h : BsAt w A l) (hO : Own R w0 w) (hn : n = l.length) (hl : l.length ≤ 140737488355328) :
    Calls Tryd.prog 35 #[.slice A n c] w (RetH R w0 l) := by
  subst hn
  go_enter Tryd.func35, Tryd.ntmps35
  go_wp2_with (at_builtin; refine own_append rfl (.tmp 3) (.tmp 4) 25 rfl 5 (.int .u8 0) 1 1 Tryd.underlying25 Tryd.info_u8 rfl (by decide) (some ⟨w.heap.size, 0, none⟩) 0 0 [] [fw w.heap.size 5 []] rfl ⟨by simp, .inr ⟨_, [], rfl, rfl, by omega, by simp [maxLen], by simp, by simp⟩⟩ (R := R) (hO.alloc 5 []) A l.length c (bc l) rfl (by simp [bc_length]) (h.alloc _).cs (bc_one l) (by simp [maxLen]; omega) (by omega) ?_; intro A2 c2 F2 w2 hr2 hO2 _)
  go_ret
  rw [Nat.zero_add] at hr2
  exact ⟨A2, c2, F2, _, hid rfl, by simp, hid (by simpa using hr2), hid hO2⟩

set_option maxHeartbeats 800000 in
theorem below_any (x : Int) (n : Nat) (w : World) (hn : 0 < n) (hn2 : n ≤ 4611686018427387904) (hx : -9223372036854775808 ≤ x ∧ x ≤ 9223372036854775807) :
    Calls Tryd.prog 12 #[.int .i64 x, .int .i64 n] w fun e w' => e = .returned (.int .i64 (x % (n : Int))) ∧ w = w' := by
  have hem := emod_tmod x n (by omega)
  have htr := tmod_range x n (by omega)
  have w5 : ¬ (n : Int) = 0 := by omega
  obtain ⟨r, hr⟩ : ∃ r, x.tmod (n : Int) = r := ⟨_, rfl⟩
  rw [hr] at hem htr
  have w2 : IntKind.i64.wrap r = r := i64_id (by omega) (by omega)
  have HE := hid hem
  clear hem
  by_cases h3 : r < 0
  · have e3 : decide (r < 0) = true := decide_eq_true h3
    have w6 : IntKind.i64.wrap (r + (n : Int)) = r + (n : Int) := i64_id (by omega) (by omega)
    go_enter Tryd.func12, Tryd.ntmps12
    go_wp2
    go_ret
    exact ⟨ret_int (by rw [HE.out, if_pos h3]), rfl⟩
  · have e3 : decide (r < 0) = false := decide_eq_false h3
    go_enter Tryd.func12, Tryd.ntmps12
    go_wp2
    go_ret
    exact ⟨ret_int (by rw [HE.out, if_neg (by omega)]), rfl⟩

/-- A result that is a row of pairs. -/
def RetP (R : List Fr) (w0 : World) (l : List Pr) (e : Ending) (w' : World) : Prop :=
  ∃ A' c' F', e = .returned (.slice A' l.length c') ∧ Hid (Row 38 2 A' l.length c' (l.flatMap Pr.cells) F') ∧ Hid (Own (F' ++ R) w0 w')
set_option maxHeartbeats 1600000 in
theorem pairs_own (A : Option Addr) (c : Nat) (l : List Pr) (R : List Fr) (w0 w : World) (hp : St R w0 fun w => Prs w A l) (hO : Own R w0 w) (hl : l.length ≤ 1099511627776) :
    Calls Tryd.prog 15 #[.slice A l.length c] w (RetP R w0 l) := by
  go_enter Tryd.func15, Tryd.ntmps15
  go_wp2
  go_loopw [3, 8] (fun v i wr => ∃ (k n : Nat) (A' : Option Addr) (c' : Nat) (F' : List Fr), i = .int .i64 k ∧ k ≤ l.length ∧ v = .slice A' n c' ∧ n = k ∧ Row 38 2 A' n c' ((l.take k).flatMap Pr.cells) F' ∧ Own (F' ++ R) w0 wr) (fun _ i _ => l.length - (intOf i).toNat)
  case atStart => exact ⟨0, 0, none, 0, [], rfl, Nat.zero_le _, rfl, rfl, Row.nil _ _, hO⟩
  case round =>
    obtain ⟨k, n, A', c', F', rfl, hk, rfl, hn, hr, hO1⟩ := hrel
    have HN := hid hn
    have HR := hid hr
    have HO := hid hO1
    have hnk : n ≤ 1099511627776 := by omega
    clear hn hr hO1 hO
    by_cases h4 : k < l.length
    · have h4' : (k : Int) < (l.length : Int) := by omega
      have hx : l[k]? = some l[k] := List.getElem?_eq_getElem h4
      have htk : (l.take (k + 1)).flatMap Pr.cells = (l.take k).flatMap Pr.cells ++ l[k].cells := by rw [List.take_succ_eq_append_getElem h4, List.flatMap_append]; simp
      have hps := HO.out.stR hp
      generalize l[k] = r at hx htk
      have HT := hid htk
      obtain ⟨g, o, rfl, p0, p1⟩ := hps.at_ hx
      clear htk hps hx
      go_wp2_with (at_builtin; refine own_append rfl (.tmp 12) (.tmp 14) 28 rfl 38 (.agg #[.slice none 0 0, .slice none 0 0]) 2 48 Tryd.underlying28 Tryd.info_pair rfl (by decide) A' n c' _ F' rfl HR.out (R := R) ((HO.out.skip _).skip _) (some ⟨wr.heap.size + 1, 0, none⟩) 1 1 r.cells rfl rfl (csAt_new' (by simp) r.cells _) (by simp [Pr.cells, Value.oneCell']) (by simp [maxLen]; omega) (by omega) ?_; intro A2 c2 F2 w2 hr2 hO2 _; have HR2 := hid hr2; have HO2 := hid hO2; clear hr2 hO2)
      exact ⟨⟨k + 1, n + 1, A2, c2, F2, rfl, by omega, rfl, by rw [HN.out], by rw [HT.out]; exact HR2.out, HO2.out⟩, by simp [intOf]; omega⟩
    · have h4' : ¬ (k : Int) < (l.length : Int) := by omega
      have hkl : k = l.length := by omega
      have HK := hid hkl
      clear hkl
      go_wp2
      go_ret
      have hr := HR.out
      rw [HK.out, List.take_length] at hr
      have hn2 : n = l.length := by rw [HN.out, HK.out]
      subst hn2
      exact ⟨A', c', F', rfl, hid hr, HO⟩

def ordB (l : List KV) : Bool := (List.range (l.length - 1)).all fun i => decide (cmpI (key l i) (key l (i + 1)) < 0)
theorem ordB_iff {l : List KV} : ordB l = true ↔ ∀ i, i + 1 < l.length → cmpI (key l i) (key l (i + 1)) < 0 := by
  simp only [ordB, List.all_eq_true, List.mem_range, decide_eq_true_eq]
  exact ⟨fun h i hi => h i (by omega), fun h i hi => h i (by omega)⟩
set_option maxHeartbeats 1600000 in
theorem ordered_any (A : Option Addr) (c : Nat) (l : List Pr) (w : World) (hp : Prs w A l) (hl : l.length ≤ 1099511627776) (hk : ∀ r ∈ l, r.k.length ≤ 140737488351232) :
    Calls Tryd.prog 17 #[.slice A l.length c] w fun e w' => e = .returned (.bool (ordB (kvs l))) ∧ Dr w w' := by
  go_enter Tryd.func17, Tryd.ntmps17
  go_wp2
  go_loopw [3] (fun i wr => ∃ k : Nat, i = .int .i64 ((k : Int) + 1) ∧ k ≤ l.length ∧ (∀ j, j < k → j + 1 < l.length → cmpI (key (kvs l) j) (key (kvs l) (j + 1)) < 0) ∧ Dr w wr) (fun i _ => l.length + 1 - (intOf i).toNat)
  case atStart => exact ⟨0, rfl, Nat.zero_le _, fun j hj => by omega, Dr.refl _⟩
  case round =>
    obtain ⟨k, rfl, hk1, hall, ⟨nd, rfl⟩⟩ := hrel
    have HA := hid hall
    clear hall
    by_cases h4 : k + 1 < l.length
    · have h4' : (k : Int) + 1 < (l.length : Int) := by omega
      have hx : l[k]? = some l[k] := List.getElem?_eq_getElem (by omega)
      have hy : l[k + 1]? = some l[k + 1] := List.getElem?_eq_getElem h4
      have kx := key_kvs hx
      have ky := key_kvs hy
      generalize l[k] = r at hx kx
      generalize l[k + 1] = q at hy ky
      obtain ⟨g, o, rfl, p0, p1⟩ := hp.at_ hx
      obtain ⟨g', o', e9, q0, q1⟩ := hp.at_ hy
      injection e9 with e9
      injection e9 with e9a e9b
      subst e9a; subst e9b
      have hbr := (hp.ok r (List.mem_of_getElem? hx)).hk
      have hbq := (hp.ok q (List.mem_of_getElem? hy)).hk
      have lr := hk r (List.mem_of_getElem? hx)
      have lq := hk q (List.mem_of_getElem? hy)
      have t1 : ((k : Int) + 1).toNat = k + 1 := by omega
      have t2 : IntKind.i64.wrap ((k : Int) + 1 - 1) = (k : Int) := by rw [i64_id (by omega) (by omega)]; omega
      have t3 : IntKind.i64.wrap ((k : Int) + 1 + 1) = (k : Int) + 1 + 1 := i64_id (by omega) (by omega)
      have t4 : (k : Int) < (l.length : Int) := by omega
      have t6 : IntKind.i64.wrap (k : Int) = (k : Int) := i64_id (by omega) (by omega)
      have t5 : 0 ≤ (k : Int) + 1 := by omega
      have KX := hid kx
      have KY := hid ky
      have hkk : (k : Int) + 1 - 1 = k := by omega
      clear kx ky hx hy p1 q1
      cases hc : decide (0 ≤ cmpI r.k q.k) with
      | true =>
        have HC := hid hc
        go_wp2
        go_quiet ((go_at_call 41; exact Dr.quiet_add (compare_any r.ka q.ka r.kc q.kc r.k q.k _ (hbr.drewN _) (hbq.drewN _) lr lq)))
        go_wp2
        go_ret
        refine ⟨ret_bool ?_, ((Dr.refl w).step nd).step nq⟩
        symm
        rw [Bool.eq_false_iff]
        intro hb
        have := ordB_iff.1 hb k (by rw [kvs_length]; exact h4)
        rw [KX.out, KY.out] at this
        have := HC.out
        simp at this
        omega
      | false =>
        have HC := hid hc
        go_wp2
        go_quiet ((go_at_call 41; exact Dr.quiet_add (compare_any r.ka q.ka r.kc q.kc r.k q.k _ (hbr.drewN _) (hbq.drewN _) lr lq)))
        go_wp2
        refine ⟨⟨k + 1, by simp, by omega, fun j hj hj2 => ?_, ⟨_, rfl⟩⟩, by simp [intOf]; omega⟩
        rcases Nat.lt_or_ge j k with h | h
        · exact HA.out j h hj2
        · obtain rfl : j = k := by omega
          rw [KX.out, KY.out]
          have := HC.out
          simp at this
          omega
    · have h4' : ¬ (k : Int) + 1 < (l.length : Int) := by omega
      go_wp2
      go_ret
      refine ⟨ret_bool ?_, ⟨_, rfl⟩⟩
      symm
      rw [ordB_iff]
      intro i hi
      rw [kvs_length] at hi
      exact HA.out i (by omega) hi
end Go.Proofs.YtloflmcgbbbnjaaDoor
