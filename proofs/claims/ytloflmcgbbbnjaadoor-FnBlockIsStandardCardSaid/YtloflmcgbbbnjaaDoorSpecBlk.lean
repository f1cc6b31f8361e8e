/-
  spec.Block: what it returns.
-/
import Derived.Test.YtloflmcgbbbnjaaDoorSpecV
import Derived.Test.YtloflmcgbbbnjaaDoorChoose
import Derived.Test.YtloflmcgbbbnjaaDoorLawsP
import Derived.Test.YtloflmcgbbbnjaaDoorShared
import Derived.Test.YtloflmcgbbbnjaaDoorOwnStep
namespace Go.Proofs.YtloflmcgbbbnjaaDoor
open Go.RowKit Plain
set_option linter.all false

def bselN (rs : Nat) (ns : List Int) (i : Nat) (prev k : List UInt8) (c : Nat) : Nat :=
  if i % rs = 0 then 0 else if (pick ns 4 c).1 = 1 then (pick ns (shared prev k + 1) (pick ns 4 c).2).1 else shared prev k
def bselC (rs : Nat) (ns : List Int) (i : Nat) (prev k : List UInt8) (c : Nat) : Nat :=
  if i % rs = 0 then c else if (pick ns 4 c).1 = 1 then (pick ns (shared prev k + 1) (pick ns 4 c).2).2 else (pick ns 4 c).2
def bselT (rs i : Nat) (b tail : List UInt8) : List UInt8 := if i % rs = 0 then tail ++ leB b.length 4 else tail
def bselM (rs i many : Nat) : Nat := if i % rs = 0 then many + 1 else many
theorem bstep_eq (rs : Nat) (ns : List Int) (i : Nat) (prev k v : List UInt8) (s : BS) : bstep rs ns i prev k v s = ⟨bselC rs ns i prev k s.c, s.b ++ ent (bselN rs ns i prev k s.c) k v, bselT rs i s.b s.tail, bselM rs i s.many⟩ := by
  unfold bstep bselC bselN bselT bselM
  split
  · rfl
  · split <;> rfl
theorem bselN_le (rs : Nat) (ns : List Int) (i : Nat) (prev k : List UInt8) (c : Nat) : bselN rs ns i prev k c ≤ k.length := by
  have h := shared_le prev k
  unfold bselN
  split
  · omega
  · split
    · have := pick_lt (ns := ns) (n := shared prev k + 1) (a := (pick ns 4 c).2) (by omega); omega
    · omega

set_option maxHeartbeats 3200000 in
set_option maxRecDepth 100000 in
theorem specBlock (A nA : Option Addr) (c nc rs : Nat) (l : List Pr) (ns : List Int) (R : List Fr) (w0 w : World) (hp : St R w0 fun w => Prs w A l) (hns : St R w0 fun w => CsAt w nA (ci64 ns)) (hO : Own R w0 w)
    (hrs : 0 < rs) (hrs2 : rs ≤ 1073741824) (hl : l.length ≤ 1073741824) (hw : wgt l ≤ 1073741824) (hnl : ns.length ≤ 140737488355328) :
    Calls Tryd.prog 14 #[.slice A l.length c, .int .i64 rs, .slice nA ns.length nc] w (RetBs R w0 (blockB rs ns (kvs l) 0)) := by
  have hwk : kvw (kvs l) < 34359738368 := by rw [kvw_kvs]; omega
  have hcl := ci64_length ns
  have HCL := hid hcl
  clear hcl
  go_enter Tryd.func14, Tryd.ntmps14
  go_wp2
  have hO1 := (hO.alloc 79 [.slice nA ns.length nc, .int .i64 0])
  obtain ⟨cb, hcb⟩ : ∃ cb, w.heap.size = cb := ⟨_, rfl⟩
  rw [hcb] at hO1 ⊢
  clear hcb
  go_loopw [8, 9, 10, 19] (fun v8 v9 v10 v19 wr => ∃ (j : Nat) (A8 A9 : Option Addr) (c8 c9 : Nat) (F8 F9 : List Fr), v19 = .int .i64 j ∧ j ≤ l.length ∧ v8 = .slice A8 (bst rs ns (kvs l) 0 j).b.length c8 ∧ v9 = .slice A9 (bst rs ns (kvs l) 0 j).tail.length c9 ∧ v10 = .int .i64 (bst rs ns (kvs l) 0 j).many ∧
    Row 5 1 A8 (bst rs ns (kvs l) 0 j).b.length c8 (bc (bst rs ns (kvs l) 0 j).b) F8 ∧ Row 5 1 A9 (bst rs ns (kvs l) 0 j).tail.length c9 (bc (bst rs ns (kvs l) 0 j).tail) F9 ∧
    Own (fw cb 79 [.slice nA ns.length nc, .int .i64 (bst rs ns (kvs l) 0 j).c] :: (F8 ++ (F9 ++ R))) w0 wr) (fun _ _ _ v19 _ => l.length - (intOf v19).toNat)
  case atStart => exact ⟨0, none, none, 0, 0, [], [], rfl, Nat.zero_le _, rfl, rfl, rfl, Row.nil _ _, Row.nil _ _, hO1⟩
  case round =>
    obtain ⟨j, A8, A9, c8, c9, F8, F9, rfl, hj, rfl, rfl, rfl, h8, h9, hO2⟩ := hrel
    obtain ⟨hb1, hb2, hb3, _, hb5⟩ := bst_le (rs := rs) (ns := ns) (l := kvs l) (c0 := 0) hwk j (by rw [kvs_length]; exact hj)
    have hb4 := kvw_take (kvs l) j
    rw [kvw_kvs] at hb4
    by_cases h4 : j < l.length
    · have h4' : (j : Int) < (l.length : Int) := by omega
      have hr : l[j]? = some l[j] := List.getElem?_eq_getElem h4
      have hmem : l[j] ∈ l := List.getElem_mem h4
      have hstep : bst rs ns (kvs l) 0 (j + 1) = bstep rs ns j (key (kvs l) (j - 1)) (key (kvs l) j) (val (kvs l) j) (bst rs ns (kvs l) 0 j) := rfl
      rw [key_kvs hr, val_kvs hr, bstep_eq] at hstep
      generalize l[j] = r at hr hmem hstep
      obtain ⟨s, hs⟩ : ∃ s, bst rs ns (kvs l) 0 j = s := ⟨_, rfl⟩
      obtain ⟨prev, hprev⟩ : ∃ q, key (kvs l) (j - 1) = q := ⟨_, rfl⟩
      rw [hs] at h8 h9 hO2 hstep hb1 hb2 hb3 hb5 ⊢
      rw [hprev] at hstep
      have hwm := wgt_mem hmem
      have hps := hO2.st hp (by intro x hx; simp [hx])
      have hok := hps.ok r hmem
      have hpv : j % rs ≠ 0 → ∃ q, l[j - 1]? = some q ∧ q.k = prev := fun h => by
        have hj0 : 0 < j := by
          rcases Nat.eq_zero_or_pos j with h0 | h0
          · subst h0; simp at h
          · exact h0
        have h1 : l[j - 1]? = some l[j - 1] := List.getElem?_eq_getElem (by omega)
        exact ⟨_, h1, by rw [← key_kvs h1, hprev]⟩
      have HS := hid hs
      have HB3 := hid hb3
      have htl : s.tail.length ≤ 4294967296 := by omega
      clear hb3
      have HST := hid hstep
      have HPV := hid hpv
      have H8 := hid h8
      have H9 := hid h9
      obtain ⟨g, o, rfl, p0, p1⟩ := hps.at_ hr
      have hO3 := hO2.alloc 38 [.slice r.ka r.k.length r.kc, .slice r.va r.v.length r.vc]
      have HO3 := hid hO3
      clear hs hstep hpv h8 h9 hprev hO2 hO3 hps
      have mx : (if (1 : Int) < (rs : Int) then (rs : Int) else 1) = (rs : Int) := by split <;> omega
      have rs0 : ¬ (rs : Int) = 0 := by omega
      go_upto_if 28 with fail
      obtain ⟨pb, hpb⟩ : ∃ pb, wr.heap.size = pb := ⟨_, rfl⟩
      have hO4 := HO3.out
      rw [hpb] at hO4 ⊢
      generalize wr.alloc (Obj.cells #[Value.slice r.ka r.k.length r.kc, Value.slice r.va r.v.length r.vc] 38) = W at hO4 ⊢
      have HO := hid (show Own (fw pb 38 [.slice r.ka r.k.length r.kc, .slice r.va r.v.length r.vc] :: fw cb 79 [.slice nA ns.length nc, .int .i64 s.c] :: (F8 ++ (F9 ++ R))) w0 W from hO4)
      clear hO4 hpb HO3 mx p0 p1
      go_cut [9, 10, 13] (fun s9 s10 s13 wx => ∃ A9' c9' F9', s9 = .slice A9' (bselT rs j s.b s.tail).length c9' ∧ s10 = .int .i64 (bselM rs j s.many) ∧ s13 = .int .i64 (bselN rs ns j prev r.k s.c) ∧
        Row 5 1 A9' (bselT rs j s.b s.tail).length c9' (bc (bselT rs j s.b s.tail)) F9' ∧
        Own (fw pb 38 [.slice r.ka r.k.length r.kc, .slice r.va r.v.length r.vc] :: fw cb 79 [.slice nA ns.length nc, .int .i64 (bselC rs ns j prev r.k s.c)] :: (F8 ++ (F9' ++ R))) w0 wx)
      case first =>
        by_cases hm : j % rs = 0
        · have r1 : (((j : Nat) : Int) % (rs : Int) == 0) = true := by
            rw [show (j : Int) % (rs : Int) = ((j % rs : Nat) : Int) by omega, hm]; rfl
          have HM := hid hm
          clear hm
          have e1 : IntKind.u64.wrap (s.b.length : Int) = (s.b.length : Int) := by simp [IntKind.wrap, IntKind.bits, IntKind.signed]; omega
          have e2 : IntKind.i64.wrap ((s.many : Int) + 1) = (s.many : Int) + 1 := i64_id (by omega) (by omega)
          go_wp2_with (go_at_call 37; refine (little_own A9 c9 4 (s.b.length : Int) s.tail F9 (fw pb 38 [.slice r.ka r.k.length r.kc, .slice r.va r.v.length r.vc] :: fw cb 79 [.slice nA ns.length nc, .int .i64 s.c] :: (F8 ++ R)) w0 _ H9.out (HO.out.perm (perm_of fun _ _ z => by simp only [List.count_append, List.count_cons, List.cons_append]; omega)) (by omega) (by omega) (by omega) (by omega)).mono ?_; rintro e w1 ⟨A2, c2, F2, rfl, hr2, hO2⟩; have HR2 := hid hr2; have HO2 := hid hO2; clear hr2 hO2)
          go_meet
          have q1 : bselT rs j s.b s.tail = s.tail ++ leB s.b.length 4 := if_pos HM.out
          have q2 : bselM rs j s.many = s.many + 1 := if_pos HM.out
          have q3 : bselN rs ns j prev r.k s.c = 0 := if_pos HM.out
          have q4 : bselC rs ns j prev r.k s.c = s.c := if_pos HM.out
          rw [q1, q2, q3, q4]
          exact ⟨A2, c2, F2, by rw [List.length_append], rfl, rfl, HR2.out, HO2.out.perm (perm_of fun _ _ z => by simp only [List.count_append, List.count_cons, List.cons_append]; omega)⟩
        · have hm' : ¬ ((j % rs : Nat) : Int) = 0 := by omega
          have r1 : (((j : Nat) : Int) % (rs : Int) == 0) = false := by
            rw [show (j : Int) % (rs : Int) = ((j % rs : Nat) : Int) by omega]; simpa using hm'
          have HM := hid hm
          obtain ⟨q, hq, hqk⟩ := HPV.out hm
          subst hqk
          have hj0 : 0 < j := by
            rcases Nat.eq_zero_or_pos j with h0 | h0
            · subst h0; simp at hm
            · exact h0
          have hpsW := HO.out.st hp (by intro x hx; simp [hx])
          obtain ⟨g', o', e9, q0, q1⟩ := hpsW.at_ hq
          injection e9 with e9
          injection e9 with e9a e9b
          subst e9a; subst e9b
          have hqok := hpsW.ok q (List.mem_of_getElem? hq)
          have hrok := hpsW.ok r hmem
          have hqw := wgt_mem (List.mem_of_getElem? hq)
          have p0 : W.cell? ⟨pb, 0, none⟩ = some (.slice r.ka r.k.length r.kc) := HO.out.cell 0 rfl 0 rfl (by simp)
          have t1 : ((j : Int) - 1).toNat = j - 1 := by omega
          have t2 : IntKind.i64.wrap ((j : Int) - 1) = (j : Int) - 1 := i64_id (by omega) (by omega)
          have t3 : 0 ≤ (j : Int) - 1 := by omega
          have t4 : (j : Int) - 1 < (l.length : Int) := by omega
          have HQ := hid hq
          have hbk : BsAt W q.ka q.k := hqok.hk
          have hbr : BsAt W r.ka r.k := hrok.hk
          clear hm hm' hq hpsW hqok hrok
          go_wp2
          go_quiet ((go_at_call 38; exact Dr.quiet (shared_any q.ka r.ka q.kc r.kc q.k r.k _ (hbk.drewN _) (hbr.drewN _) (by omega))))
          have HO2 := hid (HO.out.drewN nq)
          generalize W.drewN nq = W2 at HO2 ⊢
          have hsh := shared_le q.k r.k
          go_wp2_with fail
          refine (of_n cb 4 s.c nc 4 _ nA ns (fw pb 38 [.slice r.ka r.k.length r.kc, .slice r.va r.v.length r.vc] :: (F8 ++ (F9 ++ R))) w0 W2 rfl rfl HO2.out.swap01 (hns.mono (by intro x hx; simp [hx])) (by omega) (by omega) hnl).mono ?_
          rintro e w3 ⟨rfl, hO3⟩
          have HO3 := hid hO3
          clear hO3
          have hpa := pick_at ns 4 s.c
          by_cases hp1 : (pick ns 4 s.c).1 = 1
          · have r4 : (((pick ns 4 s.c).1 : Int) == 1) = true := by rw [hp1]; rfl
            have HP1 := hid hp1
            clear hp1
            have e5 : IntKind.i64.wrap ((shared q.k r.k : Int) + 1) = (shared q.k r.k : Int) + 1 := i64_id (by omega) (by omega)
            go_wp2_with fail
            refine (of_n cb (shared q.k r.k + 1) (pick ns 4 s.c).2 nc _ _ nA ns (fw pb 38 [.slice r.ka r.k.length r.kc, .slice r.va r.v.length r.vc] :: (F8 ++ (F9 ++ R))) w0 w3 (by omega) rfl HO3.out (hns.mono (by intro x hx; simp [hx])) (by omega) (by omega) hnl).mono ?_
            rintro e w4 ⟨rfl, hO4⟩
            have HO4 := hid hO4
            clear hO4
            go_wp2_with fail
            go_meet
            have q1 : bselT rs j s.b s.tail = s.tail := if_neg HM.out
            have q2 : bselM rs j s.many = s.many := if_neg HM.out
            have q3 : bselN rs ns j q.k r.k s.c = (pick ns (shared q.k r.k + 1) (pick ns 4 s.c).2).1 := by unfold bselN; rw [if_neg HM.out, if_pos HP1.out]
            have q4 : bselC rs ns j q.k r.k s.c = (pick ns (shared q.k r.k + 1) (pick ns 4 s.c).2).2 := by unfold bselC; rw [if_neg HM.out, if_pos HP1.out]
            rw [q1, q2, q3, q4]
            exact ⟨A9, c9, F9, rfl, rfl, rfl, H9.out, HO4.out.swap01⟩
          · have r4 : (((pick ns 4 s.c).1 : Int) == 1) = false := by rw [beq_eq_false_iff_ne]; omega
            have HP1 := hid hp1
            clear hp1
            go_wp2_with fail
            go_meet
            have q1 : bselT rs j s.b s.tail = s.tail := if_neg HM.out
            have q2 : bselM rs j s.many = s.many := if_neg HM.out
            have q3 : bselN rs ns j q.k r.k s.c = shared q.k r.k := by unfold bselN; rw [if_neg HM.out, if_neg HP1.out]
            have q4 : bselC rs ns j q.k r.k s.c = (pick ns 4 s.c).2 := by unfold bselC; rw [if_neg HM.out, if_neg HP1.out]
            rw [q1, q2, q3, q4]
            exact ⟨A9, c9, F9, rfl, rfl, rfl, H9.out, HO3.out.swap01⟩
      case rest =>
        obtain ⟨A9', c9', F9', rfl, rfl, rfl, h9, hO5⟩ := hcut
        have hbn := bselN_le rs ns j prev r.k s.c
        have hcc : bselC rs ns j prev r.k s.c = (bst rs ns (kvs l) 0 (j + 1)).c := by rw [HST.out]
        have hcb : s.b ++ ent (bselN rs ns j prev r.k s.c) r.k r.v = (bst rs ns (kvs l) 0 (j + 1)).b := by rw [HST.out]
        have hct : bselT rs j s.b s.tail = (bst rs ns (kvs l) 0 (j + 1)).tail := by rw [HST.out]
        have hcm : bselM rs j s.many = (bst rs ns (kvs l) 0 (j + 1)).many := by rw [HST.out]
        rw [hct] at h9 ⊢
        rw [hcm]
        rw [hcc] at hO5
        have HCB := hid hcb
        obtain ⟨n, hn⟩ : ∃ n, bselN rs ns j prev r.k s.c = n := ⟨_, rfl⟩
        rw [hn] at hbn HCB ⊢
        have H9' := hid h9
        have HO5 := hid hO5
        clear h9 hO5 hcc hcb hct hcm hn
        have e1 : IntKind.u64.wrap (n : Int) = (n : Int) := by simp [IntKind.wrap, IntKind.bits, IntKind.signed]; omega
        have e2 : IntKind.u64.wrap ((r.k.length : Int) - (n : Int)) = (r.k.length : Int) - (n : Int) := by simp [IntKind.wrap, IntKind.bits, IntKind.signed]; omega
        have e3 : IntKind.u64.wrap (r.v.length : Int) = (r.v.length : Int) := by simp [IntKind.wrap, IntKind.bits, IntKind.signed]; omega
        have e4 : IntKind.i64.wrap ((r.k.length : Int) - (n : Int)) = (r.k.length : Int) - (n : Int) := i64_id (by omega) (by omega)
        have lu1 := uv_len5 (x := n) (by omega)
        have lu2 := uv_len5 (x := r.k.length - n) (by omega)
        have lu3 := uv_len5 (x := r.v.length) (by omega)
        have p0 : wc.cell? ⟨pb, 0, none⟩ = some (.slice r.ka r.k.length r.kc) := HO5.out.cell 0 rfl 0 rfl (by simp)
        have p1 : wc.cell? ⟨pb, 1, none⟩ = some (.slice r.va r.v.length r.vc) := HO5.out.cell 0 rfl 1 rfl (by simp)
        have HSB := hid (show s.b.length = s.b.length from rfl)
        go_upto_region 14 with fail
        go_cut [8] (fun s8 wx => ∃ A8' c8' F8' n8, s8 = .slice A8' n8 c8' ∧ Hid (n8 = (s.b ++ uv n ++ uv (r.k.length - n) ++ uv r.v.length).length) ∧ Hid (Row 5 1 A8' n8 c8' (bc (s.b ++ uv n ++ uv (r.k.length - n) ++ uv r.v.length)) F8') ∧ Own (F8' ++ (fw pb 38 [.slice r.ka r.k.length r.kc, .slice r.va r.v.length r.vc] :: fw cb 79 [.slice nA ns.length nc, .int .i64 (bst rs ns (kvs l) 0 (j + 1)).c] :: (F9' ++ R))) w0 wx)
        case first =>
          go_region_held3 (fun w' : World => w'.cell? ⟨pb, 0, none⟩ = some (.slice r.ka r.k.length r.kc) ∧ w'.cell? ⟨pb, 1, none⟩ = some (.slice r.va r.v.length r.vc)) (exact ⟨p0, p1⟩) (first
            | (go_at_call_of 40 (Value.slice A8 s.b.length c8); refine (varint_h A8 c8 s.b.length n _ s.b F8 (fw pb 38 [.slice r.ka r.k.length r.kc, .slice r.va r.v.length r.vc] :: fw cb 79 [.slice nA ns.length nc, .int .i64 (bst rs ns (kvs l) 0 (j + 1)).c] :: (F9' ++ R)) w0 _ HSB rfl H8 (HO5.out.drew.perm (perm_of fun _ _ z => by simp only [List.count_append, List.count_cons, List.cons_append]; omega)) (by omega) (by omega)).mono ?_; rintro e w1 ⟨A1, c1, F1, n1, hn1, rfl, hr1, hO1⟩; have p0 : w1.cell? ⟨pb, 0, none⟩ = some (.slice r.ka r.k.length r.kc) := hO1.out.right.cell 0 rfl 0 rfl (by simp); have p1 : w1.cell? ⟨pb, 1, none⟩ = some (.slice r.va r.v.length r.vc) := hO1.out.right.cell 0 rfl 1 rfl (by simp))
            | (go_at_call_of 40 (Value.slice A1 n1 c1); refine (varint_h A1 c1 n1 (r.k.length - n) _ (s.b ++ uv n) F1 (fw pb 38 [.slice r.ka r.k.length r.kc, .slice r.va r.v.length r.vc] :: fw cb 79 [.slice nA ns.length nc, .int .i64 (bst rs ns (kvs l) 0 (j + 1)).c] :: (F9' ++ R)) w0 _ hn1 (by omega) hr1 hO1.out (by omega) (by rw [hn1.out, List.length_append]; omega)).mono ?_; rintro e w2 ⟨A2, c2, F2, n2, hn2, rfl, hr2, hO2⟩; have p0 : w2.cell? ⟨pb, 0, none⟩ = some (.slice r.ka r.k.length r.kc) := hO2.out.right.cell 0 rfl 0 rfl (by simp); have p1 : w2.cell? ⟨pb, 1, none⟩ = some (.slice r.va r.v.length r.vc) := hO2.out.right.cell 0 rfl 1 rfl (by simp))
            | (go_at_call_of 40 (Value.slice A2 n2 c2); refine (varint_h A2 c2 n2 r.v.length _ (s.b ++ uv n ++ uv (r.k.length - n)) F2 (fw pb 38 [.slice r.ka r.k.length r.kc, .slice r.va r.v.length r.vc] :: fw cb 79 [.slice nA ns.length nc, .int .i64 (bst rs ns (kvs l) 0 (j + 1)).c] :: (F9' ++ R)) w0 _ hn2 rfl hr2 hO2.out (by omega) (by rw [hn2.out, List.length_append, List.length_append]; omega)).mono ?_; rintro e w3 ⟨A3, c3, F3, n3, hn3, rfl, hr3, hO3⟩; have p0 : w3.cell? ⟨pb, 0, none⟩ = some (.slice r.ka r.k.length r.kc) := hO3.out.right.cell 0 rfl 0 rfl (by simp); have p1 : w3.cell? ⟨pb, 1, none⟩ = some (.slice r.va r.v.length r.vc) := hO3.out.right.cell 0 rfl 1 rfl (by simp)))
          all_goals
            go_wp2_with fail
            go_meet
            exact ⟨A3, c3, F3, n3, rfl, hn3, hr3, hO3.out⟩
        case rest =>
          obtain ⟨A6, c6, F6, n6, rfl, hn6, h6, hO6⟩ := hcut
          clear p0 p1 HO5 HSB
          have p0 : wc.cell? ⟨pb, 0, none⟩ = some (.slice r.ka r.k.length r.kc) := hO6.right.cell 0 rfl 0 rfl (by simp)
          have p1 : wc.cell? ⟨pb, 1, none⟩ = some (.slice r.va r.v.length r.vc) := hO6.right.cell 0 rfl 1 rfl (by simp)
          have hn6b : n6 ≤ 70368744177664 := by rw [hn6.out, List.length_append, List.length_append, List.length_append]; omega
          have HO6 := hid hO6
          clear hO6
          by_cases hkn : r.kc = n
          · have hbk : ∀ w', Own (fw pb 38 [.slice r.ka r.k.length r.kc, .slice r.va r.v.length r.vc] :: fw cb 79 [.slice nA ns.length nc, .int .i64 (bst rs ns (kvs l) 0 (j + 1)).c] :: (F9' ++ R)) w0 w' → BsAt w' (r.ka) (r.k.drop n) := fun w' h => by
              have hps := h.st hp (by intro x hx; simp [hx])
              rw [List.drop_eq_nil_of_le (by rw [← hkn]; exact (hps.ok r hmem).hkc)]; exact BsAt.nil _ _
            have hbv : ∀ w', Own (fw pb 38 [.slice r.ka r.k.length r.kc, .slice r.va r.v.length r.vc] :: fw cb 79 [.slice nA ns.length nc, .int .i64 (bst rs ns (kvs l) 0 (j + 1)).c] :: (F9' ++ R)) w0 w' → BsAt w' r.va r.v := fun w' h => by
              have hps := h.st hp (by intro x hx; simp [hx])
              exact (hps.ok r hmem).hv
            have HBK := hid hbk
            have HBV := hid hbv
            clear hbk hbv
            subst hkn
            go_wp2_with fail
            go_region_held3 (fun w' : World => w'.cell? ⟨pb, 0, none⟩ = some (.slice r.ka r.k.length r.kc) ∧ w'.cell? ⟨pb, 1, none⟩ = some (.slice r.va r.v.length r.vc)) (exact ⟨p0, p1⟩) (first
              | (refine own_step_append rfl (.tmp 68) (.tmp 72) 25 rfl 5 (.int .u8 0) 1 1 Tryd.underlying25 Tryd.info_u8 rfl (by decide) A6 n6 c6 _ F6 rfl h6.out (R := fw pb 38 [.slice r.ka r.k.length r.kc, .slice r.va r.v.length r.vc] :: fw cb 79 [.slice nA ns.length nc, .int .i64 (bst rs ns (kvs l) 0 (j + 1)).c] :: (F9' ++ R)) HO6.out.drew (r.ka) (r.k.length - r.kc) _ (bc (r.k.drop r.kc)) rfl (by rw [bc_length, List.length_drop, Nat.mul_one]) (HBK.out _ HO6.out.drew.right).cs (bc_one _) (by simp [maxLen]; omega) (by omega) ?_; intro A7 c7 F7 w7 hr7 hO7 _; have p0 : w7.cell? ⟨pb, 0, none⟩ = some (.slice r.ka r.k.length r.kc) := hO7.right.cell 0 rfl 0 rfl (by simp); have p1 : w7.cell? ⟨pb, 1, none⟩ = some (.slice r.va r.v.length r.vc) := hO7.right.cell 0 rfl 1 rfl (by simp); have HR7 := hid hr7; have HO7 := hid hO7; clear hr7 hO7)
              | (refine own_step_append rfl (.tmp 73) (.tmp 75) 25 rfl 5 (.int .u8 0) 1 1 Tryd.underlying25 Tryd.info_u8 rfl (by decide) A7 (n6 + (r.k.length - r.kc)) c7 _ F7 rfl HR7.out (R := fw pb 38 [.slice r.ka r.k.length r.kc, .slice r.va r.v.length r.vc] :: fw cb 79 [.slice nA ns.length nc, .int .i64 (bst rs ns (kvs l) 0 (j + 1)).c] :: (F9' ++ R)) HO7.out r.va r.v.length r.vc (bc r.v) rfl (by rw [bc_length, Nat.mul_one]) (HBV.out _ HO7.out.right).cs (bc_one _) (by simp [maxLen]; omega) (by omega) ?_; intro A8' c8' F8' w8 hr8 hO8 _; have p0 : w8.cell? ⟨pb, 0, none⟩ = some (.slice r.ka r.k.length r.kc) := hO8.right.cell 0 rfl 0 rfl (by simp); have p1 : w8.cell? ⟨pb, 1, none⟩ = some (.slice r.va r.v.length r.vc) := hO8.right.cell 0 rfl 1 rfl (by simp); have HR8 := hid hr8; have HO8 := hid hO8; clear hr8 hO8))
            go_wp2_with fail
            have q1 : (bst rs ns (kvs l) 0 (j + 1)).b.length = n6 + (r.k.length - r.kc) + r.v.length := by
              rw [← HCB.out, hn6.out]
              simp only [ent, List.length_append, List.length_drop]
              omega
            have q2 : (bst rs ns (kvs l) 0 (j + 1)).b = s.b ++ uv r.kc ++ uv (r.k.length - r.kc) ++ uv r.v.length ++ r.k.drop r.kc ++ r.v := by
              rw [← HCB.out]; simp [ent]
            refine ⟨⟨j + 1, A8', A9', c8', c9', F8', F9', rfl, by omega, by rw [q1], rfl, rfl, ?_, H9'.out, ?_⟩, by simp [intOf]; omega⟩
            · rw [q1, q2, bc_append, bc_append]
              exact HR8.out
            · exact (HO8.out.perm (L' := fw pb 38 [.slice r.ka r.k.length r.kc, .slice r.va r.v.length r.vc] :: (fw cb 79 [.slice nA ns.length nc, .int .i64 (bst rs ns (kvs l) 0 (j + 1)).c] :: (F8' ++ (F9' ++ R)))) (perm_of fun _ _ z => by simp only [List.count_append, List.count_cons, List.cons_append]; omega)).drop
          · have hbk : ∀ w', Own (fw pb 38 [.slice r.ka r.k.length r.kc, .slice r.va r.v.length r.vc] :: fw cb 79 [.slice nA ns.length nc, .int .i64 (bst rs ns (kvs l) 0 (j + 1)).c] :: (F9' ++ R)) w0 w' → BsAt w' (Option.map (fun x => x.add n) r.ka) (r.k.drop n) := fun w' h => by
              have hps := h.st hp (by intro x hx; simp [hx])
              exact Rd.cutM (R := []) (w0 := w') (Rd.old (hps.ok r hmem).hk _) n w' (Only.refl _ _) (by simp)
            have hbv : ∀ w', Own (fw pb 38 [.slice r.ka r.k.length r.kc, .slice r.va r.v.length r.vc] :: fw cb 79 [.slice nA ns.length nc, .int .i64 (bst rs ns (kvs l) 0 (j + 1)).c] :: (F9' ++ R)) w0 w' → BsAt w' r.va r.v := fun w' h => by
              have hps := h.st hp (by intro x hx; simp [hx])
              exact (hps.ok r hmem).hv
            have HBK := hid hbk
            have HBV := hid hbv
            clear hbk hbv
            go_wp2_with fail
            go_region_held3 (fun w' : World => w'.cell? ⟨pb, 0, none⟩ = some (.slice r.ka r.k.length r.kc) ∧ w'.cell? ⟨pb, 1, none⟩ = some (.slice r.va r.v.length r.vc)) (exact ⟨p0, p1⟩) (first
              | (refine own_step_append rfl (.tmp 68) (.tmp 72) 25 rfl 5 (.int .u8 0) 1 1 Tryd.underlying25 Tryd.info_u8 rfl (by decide) A6 n6 c6 _ F6 rfl h6.out (R := fw pb 38 [.slice r.ka r.k.length r.kc, .slice r.va r.v.length r.vc] :: fw cb 79 [.slice nA ns.length nc, .int .i64 (bst rs ns (kvs l) 0 (j + 1)).c] :: (F9' ++ R)) HO6.out.drew (Option.map (fun x => x.add n) r.ka) (r.k.length - n) _ (bc (r.k.drop n)) rfl (by rw [bc_length, List.length_drop, Nat.mul_one]) (HBK.out _ HO6.out.drew.right).cs (bc_one _) (by simp [maxLen]; omega) (by omega) ?_; intro A7 c7 F7 w7 hr7 hO7 _; have p0 : w7.cell? ⟨pb, 0, none⟩ = some (.slice r.ka r.k.length r.kc) := hO7.right.cell 0 rfl 0 rfl (by simp); have p1 : w7.cell? ⟨pb, 1, none⟩ = some (.slice r.va r.v.length r.vc) := hO7.right.cell 0 rfl 1 rfl (by simp); have HR7 := hid hr7; have HO7 := hid hO7; clear hr7 hO7)
              | (refine own_step_append rfl (.tmp 73) (.tmp 75) 25 rfl 5 (.int .u8 0) 1 1 Tryd.underlying25 Tryd.info_u8 rfl (by decide) A7 (n6 + (r.k.length - n)) c7 _ F7 rfl HR7.out (R := fw pb 38 [.slice r.ka r.k.length r.kc, .slice r.va r.v.length r.vc] :: fw cb 79 [.slice nA ns.length nc, .int .i64 (bst rs ns (kvs l) 0 (j + 1)).c] :: (F9' ++ R)) HO7.out r.va r.v.length r.vc (bc r.v) rfl (by rw [bc_length, Nat.mul_one]) (HBV.out _ HO7.out.right).cs (bc_one _) (by simp [maxLen]; omega) (by omega) ?_; intro A8' c8' F8' w8 hr8 hO8 _; have p0 : w8.cell? ⟨pb, 0, none⟩ = some (.slice r.ka r.k.length r.kc) := hO8.right.cell 0 rfl 0 rfl (by simp); have p1 : w8.cell? ⟨pb, 1, none⟩ = some (.slice r.va r.v.length r.vc) := hO8.right.cell 0 rfl 1 rfl (by simp); have HR8 := hid hr8; have HO8 := hid hO8; clear hr8 hO8))
            go_wp2_with fail
            have q1 : (bst rs ns (kvs l) 0 (j + 1)).b.length = n6 + (r.k.length - n) + r.v.length := by
              rw [← HCB.out, hn6.out]
              simp only [ent, List.length_append, List.length_drop]
              omega
            have q2 : (bst rs ns (kvs l) 0 (j + 1)).b = s.b ++ uv n ++ uv (r.k.length - n) ++ uv r.v.length ++ r.k.drop n ++ r.v := by
              rw [← HCB.out]; simp [ent]
            refine ⟨⟨j + 1, A8', A9', c8', c9', F8', F9', rfl, by omega, by rw [q1], rfl, rfl, ?_, H9'.out, ?_⟩, by simp [intOf]; omega⟩
            · rw [q1, q2, bc_append, bc_append]
              exact HR8.out
            · exact (HO8.out.perm (L' := fw pb 38 [.slice r.ka r.k.length r.kc, .slice r.va r.v.length r.vc] :: (fw cb 79 [.slice nA ns.length nc, .int .i64 (bst rs ns (kvs l) 0 (j + 1)).c] :: (F8' ++ (F9' ++ R)))) (perm_of fun _ _ z => by simp only [List.count_append, List.count_cons, List.cons_append]; omega)).drop
    · have h4' : ¬ (j : Int) < (l.length : Int) := by omega
      have hjl : j = l.length := by omega
      have hj2 : (kvs l).length = j := by rw [kvs_length]; omega
      have hbl : blockB rs ns (kvs l) 0 = if (bst rs ns (kvs l) 0 j).many = 0 then (bst rs ns (kvs l) 0 j).b ++ ((bst rs ns (kvs l) 0 j).tail ++ leB 0 4) ++ leB 1 4 else (bst rs ns (kvs l) 0 j).b ++ (bst rs ns (kvs l) 0 j).tail ++ leB (bst rs ns (kvs l) 0 j).many 4 := by
        unfold blockB; rw [hj2]
      obtain ⟨s, hs⟩ : ∃ s, bst rs ns (kvs l) 0 j = s := ⟨_, rfl⟩
      rw [hs] at h8 h9 hO2 hb1 hb2 hb3 hb5 hbl ⊢
      have HBL := hid hbl
      have H8 := hid h8
      have H9 := hid h9
      have HB3 := hid hb3
      have htl : s.tail.length ≤ 4294967296 := by omega
      have HO := hid (hO2.drop.perm (L' := F9 ++ (F8 ++ R)) (perm_of fun _ _ z => by simp only [List.count_append, List.count_cons, List.cons_append]; omega))
      clear hs hbl h8 h9 hb3 hO2 hj2 hjl
      by_cases hm : s.many = 0
      · have r1 : (((s.many : Nat) : Int) == 0) = true := by rw [hm]; rfl
        have HM := hid hm
        clear hm
        go_wp2_with fail
        refine (little_h A9 c9 s.tail.length 4 0 s.tail F9 (F8 ++ R) w0 wr (hid rfl) H9 HO.out (by omega) (by omega) (by omega) (by omega)).mono ?_
        rintro e w1 ⟨A1, c1, F1, n1, hn1, rfl, hr1, hO1⟩
        have hbs := hr1.out.bsO hO1.out
        have hn1b : n1 ≤ 4294967300 := by rw [hn1.out, List.length_append, leB_length]; omega
        have e1 : IntKind.u64.wrap 1 = 1 := rfl
        go_wp2_with (at_builtin; refine own_append rfl (.tmp 82) (.tmp 83) 25 rfl 5 (.int .u8 0) 1 1 Tryd.underlying25 Tryd.info_u8 rfl (by decide) A8 s.b.length c8 _ F8 rfl H8.out (R := F1 ++ R) (hO1.out.perm (perm_of fun _ _ z => by simp only [List.count_append, List.count_cons, List.cons_append]; omega)) A1 n1 c1 (bc (s.tail ++ leB 0 4)) rfl (by rw [bc_length, hn1.out, Nat.mul_one]) hbs.cs (bc_one _) (by simp [maxLen]; omega) (by omega) ?_; intro A2 c2 F2 w2 hr2 hO2 _; have HR2 := hid hr2; have HO2 := hid hO2; clear hr2 hO2 hbs)
        have hr3 : Hid (Row 5 1 A2 (s.b.length + n1) c2 (bc (s.b ++ (s.tail ++ leB 0 4))) F2) := hid (by rw [bc_append]; exact HR2.out)
        refine (little_h A2 c2 (s.b.length + n1) 4 1 (s.b ++ (s.tail ++ leB 0 4)) F2 R w0 w2 (hid (by rw [List.length_append, hn1.out])) hr3 ((HO2.out.perm (L' := F1 ++ (F2 ++ R)) (perm_of fun _ _ z => by simp only [List.count_append, List.count_cons, List.cons_append]; omega)).right) (by omega) (by omega) (by omega) (by omega)).mono ?_
        rintro e w3 ⟨A3, c3, F3, n3, hn3, rfl, hr4, hO3⟩
        go_wp2
        go_ret
        exact .mk (by rw [HBL.out, if_pos HM.out]; exact hn3.out) (by rw [HBL.out, if_pos HM.out]) hr4.out hO3.out
      · have r1 : (((s.many : Nat) : Int) == 0) = false := by simpa using hm
        have HM := hid hm
        clear hm
        have e1 : IntKind.u64.wrap (s.many : Int) = (s.many : Int) := by simp [IntKind.wrap, IntKind.bits, IntKind.signed]; omega
        have hbs := H9.out.bsO HO.out
        go_wp2_with (at_builtin; refine own_append rfl (.tmp 82) (.tmp 83) 25 rfl 5 (.int .u8 0) 1 1 Tryd.underlying25 Tryd.info_u8 rfl (by decide) A8 s.b.length c8 _ F8 rfl H8.out (R := F9 ++ R) (HO.out.perm (perm_of fun _ _ z => by simp only [List.count_append, List.count_cons, List.cons_append]; omega)) A9 s.tail.length c9 (bc s.tail) rfl (by rw [bc_length, Nat.mul_one]) hbs.cs (bc_one _) (by simp [maxLen]; omega) (by omega) ?_; intro A2 c2 F2 w2 hr2 hO2 _; have HR2 := hid hr2; have HO2 := hid hO2; clear hr2 hO2 hbs)
        have hr3 : Hid (Row 5 1 A2 (s.b.length + s.tail.length) c2 (bc (s.b ++ s.tail)) F2) := hid (by rw [bc_append]; exact HR2.out)
        refine (little_h A2 c2 (s.b.length + s.tail.length) 4 (s.many : Int) (s.b ++ s.tail) F2 R w0 w2 (hid (by rw [List.length_append])) hr3 ((HO2.out.perm (L' := F9 ++ (F2 ++ R)) (perm_of fun _ _ z => by simp only [List.count_append, List.count_cons, List.cons_append]; omega)).right) (by omega) (by omega) (by omega) (by omega)).mono ?_
        rintro e w3 ⟨A3, c3, F3, n3, hn3, rfl, hr4, hO3⟩
        go_wp2
        go_ret
        exact .mk (by rw [HBL.out, if_neg HM.out]; exact hn3.out) (by rw [HBL.out, if_neg HM.out]) hr4.out hO3.out
end Go.Proofs.YtloflmcgbbbnjaaDoor
