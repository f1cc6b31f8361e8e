/-
  A batch that is read: decodeBatch, decode, Load.
-/
import Derived.Test.YtloflmcgbbbnjaaUvarint
import Derived.Test.YtloflmcgbbbnjaaOwn
import Derived.Test.YtloflmcgbbbnjaaOwnStep
import Derived.Test.YtloflmcgbbbnjaaPair2
import Derived.Test.YtloflmcgbbbnjaaInfo
import Derived.StillTailTactics
namespace Go.Proofs.Ytloflmcgbbbnjaa
open Go.RowKit Plain
set_option linter.all false

theorem Try.info_ix : (Try.prog.info? 71).map (fun i => (i.zero, i.size, i.bytes)) = some (some (.agg #[.int .u64 0, .int .i64 0, .int .i64 0, .int .i64 0, .int .i64 0]), 5, 40) := by kernel_rfl
/-- Where a record lies. -/
structure Ix where
  kt : Nat
  kp : Nat
  kl : Nat
  vp : Nat
  vl : Nat
def Ix.cells (x : Ix) : List Value := [.int .u64 x.kt, .int .i64 x.kp, .int .i64 x.kl, .int .i64 x.vp, .int .i64 x.vl]
theorem Ix.cells_length (x : Ix) : x.cells.length = 5 := rfl
def rDel (k : List UInt8) : List UInt8 := 0 :: (uv k.length ++ k)
def rPut (k v : List UInt8) : List UInt8 := 1 :: (uv k.length ++ k ++ (uv v.length ++ v))
def rOf (r : P2) : List UInt8 := if r.del then rDel r.k else rPut r.k r.v
def dmp (l : List P2) : List UInt8 := l.flatMap rOf
theorem dmp_cons (x : P2) (l : List P2) : dmp (x :: l) = rOf x ++ dmp l := rfl
theorem dmp_append (a b : List P2) : dmp (a ++ b) = dmp a ++ dmp b := List.flatMap_append
def ixOf (o : Nat) (r : P2) : Ix :=
  if r.del then ⟨0, o + 1 + (uv r.k.length).length, r.k.length, 0, 0⟩ else ⟨1, o + 1 + (uv r.k.length).length, r.k.length, o + 1 + (uv r.k.length).length + r.k.length + (uv r.v.length).length, r.v.length⟩
def ixs : Nat → List P2 → List Ix
  | _, [] => []
  | o, r :: l => ixOf o r :: ixs (o + (rOf r).length) l
theorem ixs_snoc (r : P2) : ∀ (o : Nat) (l : List P2), ixs o (l ++ [r]) = ixs o l ++ [ixOf (o + (dmp l).length) r]
  | o, [] => by simp [ixs, dmp]
  | o, x :: l => by rw [List.cons_append, ixs, ixs_snoc r, ixs, List.cons_append, dmp_cons, List.length_append, Nat.add_assoc]
theorem ixs_length : ∀ (o : Nat) (l : List P2), (ixs o l).length = l.length
  | _, [] => rfl
  | o, r :: l => by rw [ixs, List.length_cons, ixs_length, List.length_cons]
theorem ixs_get : ∀ (o : Nat) (l : List P2) (i : Nat) (r : P2), l[i]? = some r → (ixs o l)[i]? = some (ixOf (o + (dmp (l.take i)).length) r)
  | o, [], i, r, h => by simp at h
  | o, x :: l, 0, r, h => by simp at h; subst h; simp [ixs, dmp]
  | o, x :: l, i + 1, r, h => by
    rw [ixs, List.getElem?_cons_succ, ixs_get _ l i r (by simpa using h), List.take_succ_cons, dmp_cons, List.length_append, Nat.add_assoc]
theorem dmp_drop {l : List P2} {k : Nat} (h : k < l.length) : dmp (l.drop k) = rOf l[k] ++ dmp (l.drop (k + 1)) := by rw [List.drop_eq_getElem_cons h]; rfl
theorem dmp_split (l : List P2) (k : Nat) : dmp l = dmp (l.take k) ++ dmp (l.drop k) := by rw [← dmp_append, List.take_append_drop]
theorem dmp_take {l : List P2} {k : Nat} (h : k < l.length) : (dmp (l.take (k + 1))).length = (dmp (l.take k)).length + (rOf l[k]).length := by
  rw [List.take_succ_eq_append_getElem h, dmp, List.flatMap_append, List.length_append]; simp [dmp]

/-- The batch that is being read, with the variable that holds where it lies. -/
abbrev decF (p b dn dc n ic : Nat) (dA iA : Option Addr) (il : Int) : List Fr := [fw p 51 [.pointer (some ⟨b, 0, none⟩)], fw b 54 [.slice dA dn dc, .slice iA n ic, .int .i64 il]]
theorem dec_hdr {p b dn dc n ic : Nat} {dA iA : Option Addr} {il : Int} {R : List Fr} {w0 w : World} (hO : Own (decF p b dn dc n ic dA iA il ++ R) w0 w) :
    w.cell? ⟨p, 0, none⟩ = some (.pointer (some ⟨b, 0, none⟩)) ∧ w.cell? ⟨b, 0, none⟩ = some (.slice dA dn dc) ∧ w.cell? ⟨b, 1, none⟩ = some (.slice iA n ic) ∧ w.cell? ⟨b, 2, none⟩ = some (.int .i64 il) ∧
      (∀ j, w.frozen? ⟨b, j, none⟩ = false) ∧ b < w.heap.size ∧ p < w.heap.size ∧ ¬ p = b ∧ ¬ b = p :=
  have hd : p ≠ b := by
    rcases (List.pairwise_cons.1 hO.dj).1 (fw b 54 [.slice dA dn dc, .slice iA n ic, .int .i64 il]) (by simp) with h | h
    · exact h
    · cases h.1
  ⟨hO.cell 0 rfl 0 rfl (by simp), hO.cell 1 rfl 0 rfl (by simp), hO.cell 1 rfl 1 rfl (by simp), hO.cell 1 rfl 2 rfl (by simp), fun j => hO.frozen 1 rfl j, (hO.at_ 1 rfl).lt, (hO.at_ 0 rfl).lt, hd, Ne.symm hd⟩
theorem ix_hdr {g : Nat} {a0 a1 a2 a3 a4 : Value} {R : List Fr} {w0 w : World} (hO : Own (fw g 71 [a0, a1, a2, a3, a4] :: R) w0 w) :
    w.cell? ⟨g, 0, none⟩ = some a0 ∧ w.cell? ⟨g, 1, none⟩ = some a1 ∧ w.cell? ⟨g, 2, none⟩ = some a2 ∧ w.cell? ⟨g, 3, none⟩ = some a3 ∧ w.cell? ⟨g, 4, none⟩ = some a4 ∧ g < w.heap.size :=
  ⟨hO.cell 0 rfl 0 rfl (by simp), hO.cell 0 rfl 1 rfl (by simp), hO.cell 0 rfl 2 rfl (by simp), hO.cell 0 rfl 3 rfl (by simp), hO.cell 0 rfl 4 rfl (by simp), hO.head.lt⟩
def Dec1Out (p b dn dc n : Nat) (dA : Option Addr) (xs : List Ix) (R : List Fr) (w0 : World) (e : Ending) (w' : World) : Prop :=
  e = .returned .nilIface ∧ ∃ iA ic il Fi, Row 71 5 iA n ic (xs.flatMap Ix.cells) Fi ∧ Own (decF p b dn dc n ic dA iA il ++ (Fi ++ R)) w0 w'
set_option maxHeartbeats 3200000 in
set_option maxRecDepth 100000 in
theorem dec1_any (p b dn dc n ic : Nat) (dA iA : Option Addr) (i il : Int) (x : Ix) (xs : List Ix) (Fi R : List Fr) (w0 w : World) (hR : Row 71 5 iA n ic (xs.flatMap Ix.cells) Fi) (hO : Own (decF p b dn dc n ic dA iA il ++ (Fi ++ R)) w0 w) (hn : n ≤ 1073741824) :
    Calls Try.prog 27 #[.int .i64 i, .agg #[.int .u64 x.kt, .int .i64 x.kp, .int .i64 x.kl, .int .i64 x.vp, .int .i64 x.vl], .pointer (some ⟨p, 0, none⟩)] w
      (Dec1Out p b dn dc (n + 1) dA (xs ++ [x]) R w0) := by
  have HR := hid hR
  obtain ⟨kt, kp, kl, vp, vl⟩ := x
  have hO1 := hO.alloc 71 [.int .u64 kt, .int .i64 kp, .int .i64 kl, .int .i64 vp, .int .i64 vl]
  have HO := hid hO1
  obtain ⟨q0, q1, q2, q3, q4, q5, q6, q7, q8⟩ := dec_hdr hO1.drop
  have HQ := hid (show True from trivial)
  clear hO hO1 hR
  simp only
  go_enter Try.func27, Try.ntmps27
  go_wp2_with fail
  obtain ⟨y0, y1, y2, y3, y4, yl⟩ := ix_hdr HO.out
  obtain ⟨g, hg⟩ : ∃ g, w.heap.size = g := ⟨_, rfl⟩
  rw [hg] at HO y0 y1 y2 y3 y4 yl ⊢
  clear hg
  generalize w.alloc _ = W at HO q0 q1 q2 q3 q4 q5 q6 q7 q8 y0 y1 y2 y3 y4 yl ⊢
  go_upto_region 1 with fail
  go_cut [] (fun wx => ∃ rA' rc' Fq', Row 71 5 rA' (n + 1) rc' (xs.flatMap Ix.cells ++ [.int .u64 kt, .int .i64 kp, .int .i64 kl, .int .i64 vp, .int .i64 vl]) Fq' ∧ Own (fw g 71 [.int .u64 kt, .int .i64 kp, .int .i64 kl, .int .i64 vp, .int .i64 vl] :: (decF p b dn dc (n + 1) rc' dA rA' il ++ (Fq' ++ R))) w0 wx)
  case first =>
    refine wp_region_held_drew (S := fun w' => w'.cell? ⟨p, 0, none⟩ = some (.pointer (some ⟨b, 0, none⟩)) ∧ w'.cell? ⟨g, 0, none⟩ = some (.int .u64 kt) ∧ w'.cell? ⟨g, 1, none⟩ = some (.int .i64 kp) ∧ w'.cell? ⟨g, 2, none⟩ = some (.int .i64 kl) ∧ w'.cell? ⟨g, 3, none⟩ = some (.int .i64 vp) ∧ w'.cell? ⟨g, 4, none⟩ = some (.int .i64 vl)) (by kernel_rfl) (⟨q0, y0, y1, y2, y3, y4⟩) (fun hHeld => ?_)
    refine wpAnyH_take (i := 0) (v := ?_) (by simp only [List.getElem?_toArray, List.getElem?_cons_succ, List.getElem?_cons_zero]; rfl) (by kernel_rfl) (by kernel_rfl) (by kernel_rfl) (by intro _ _ _ h; exact h) (Or.inl ⟨by rfl, fun w hSw => ?_⟩) hHeld ?_
    rotate_left
    · ((try dsimp only at hSw); go_simp; first | done | with_reducible rfl | rfl)
    try simp only [Act.put, List.setIfInBounds_toArray, List.set_cons_zero, List.set_cons_succ]
    refine wpAnyH_take (i := 1) (v := ?_) (by simp only [List.getElem?_toArray, List.getElem?_cons_succ, List.getElem?_cons_zero]; rfl) (by kernel_rfl) (by kernel_rfl) (by kernel_rfl) (by intro _ _ _ h; exact h) (Or.inl ⟨by rfl, fun w hSw => ?_⟩) hHeld ?_
    rotate_left
    · ((try dsimp only at hSw); go_simp; first | done | with_reducible rfl | rfl)
    try simp only [Act.put, List.setIfInBounds_toArray, List.set_cons_zero, List.set_cons_succ]
    refine wpAnyH_take (i := 2) (v := ?_) (by simp only [List.getElem?_toArray, List.getElem?_cons_succ, List.getElem?_cons_zero]; rfl) (by kernel_rfl) (by kernel_rfl) (by kernel_rfl) (by intro _ _ _ h; exact h) (Or.inl ⟨by rfl, fun w hSw => ?_⟩) hHeld ?_
    rotate_left
    · ((try dsimp only at hSw); go_simp; first | done | with_reducible rfl | rfl)
    try simp only [Act.put, List.setIfInBounds_toArray, List.set_cons_zero, List.set_cons_succ]
    refine wpAnyH_take (i := 3) (v := ?_) (by simp only [List.getElem?_toArray, List.getElem?_cons_succ, List.getElem?_cons_zero]; rfl) (by kernel_rfl) (by kernel_rfl) (by kernel_rfl) (by intro _ _ _ h; exact h) (Or.inl ⟨by rfl, fun w hSw => ?_⟩) hHeld ?_
    rotate_left
    · ((try dsimp only at hSw); go_simp; first | done | with_reducible rfl | rfl)
    try simp only [Act.put, List.setIfInBounds_toArray, List.set_cons_zero, List.set_cons_succ]
    refine wpAnyH_take (i := 5) (v := ?_) (by simp only [List.getElem?_toArray, List.getElem?_cons_succ, List.getElem?_cons_zero]; rfl) (by kernel_rfl) (by kernel_rfl) (by kernel_rfl) (by intro _ _ _ h; exact h) (Or.inl ⟨by rfl, fun w hSw => ?_⟩) hHeld ?_
    rotate_left
    · ((try dsimp only at hSw); go_simp; first | done | with_reducible rfl | rfl)
    try simp only [Act.put, List.setIfInBounds_toArray, List.set_cons_zero, List.set_cons_succ]
    refine wpAnyH_ready (rs := [4, 6]) (by kernel_rfl) (by simp) ?_
    refine AllReadyH.cons (by simp only [List.getElem?_toArray, List.getElem?_cons_succ, List.getElem?_cons_zero]; rfl) (fun K hK => ?_) (AllReadyH.cons (by simp only [List.getElem?_toArray, List.getElem?_cons_succ, List.getElem?_cons_zero]; rfl) (fun K hK => ?_) AllReadyH.nil)
    go_simp
    refine hK.out _ _ ?_ (fun hHeld => ?_)
    · (refine ⟨?_, ?_, ?_, ?_, ?_, ?_⟩ <;> go_simp)
    clear hK
    try simp only [Act.put, List.setIfInBounds_toArray, List.set_cons_zero, List.set_cons_succ]
    refine wpAnyH_ready (rs := [6]) (by kernel_rfl) (by simp) ?_
    refine AllReadyH.cons (by simp only [List.getElem?_toArray, List.getElem?_cons_succ, List.getElem?_cons_zero]; rfl) (fun K hK => ?_) AllReadyH.nil
    go_simp
    refine hK.out _ _ ?_ (fun hHeld => ?_)
    · (refine ⟨?_, ?_, ?_, ?_, ?_, ?_⟩ <;> go_simp)
    clear hK
    try simp only [Act.put, List.setIfInBounds_toArray, List.set_cons_zero, List.set_cons_succ]
    rotate_left
    go_simp
    refine hK.out _ _ ?_ (fun hHeld => ?_)
    · (refine ⟨?_, ?_, ?_, ?_, ?_, ?_⟩ <;> go_simp)
    clear hK
    try simp only [Act.put, List.setIfInBounds_toArray, List.set_cons_zero, List.set_cons_succ]
    refine wpAnyH_ready (rs := [4]) (by kernel_rfl) (by simp) ?_
    refine AllReadyH.cons (by simp only [List.getElem?_toArray, List.getElem?_cons_succ, List.getElem?_cons_zero]; rfl) (fun K hK => ?_) AllReadyH.nil
    go_simp
    refine hK.out _ _ ?_ (fun hHeld => ?_)
    · (refine ⟨?_, ?_, ?_, ?_, ?_, ?_⟩ <;> go_simp)
    clear hK
    try simp only [Act.put, List.setIfInBounds_toArray, List.set_cons_zero, List.set_cons_succ]
    all_goals
      refine wpAnyH_ready (rs := [7]) (by kernel_rfl) (by simp) ?_
      refine AllReadyH.cons (by simp only [List.getElem?_toArray, List.getElem?_cons_succ, List.getElem?_cons_zero]; rfl) (fun K hK => ?_) AllReadyH.nil
      refine own_step_append rfl (.tmp 10) (.tmp 12) 52 rfl 71 (.agg #[.int .u64 0, .int .i64 0, .int .i64 0, .int .i64 0, .int .i64 0]) 5 40 Try.underlying52 Try.info_ix rfl (by decide) iA n ic (xs.flatMap Ix.cells) Fi rfl HR.out (R := fw g 71 [.int .u64 kt, .int .i64 kp, .int .i64 kl, .int .i64 vp, .int .i64 vl] :: (decF p b dn dc n ic dA iA il ++ R)) ((HO.out.skip _).drew.perm (perm_of fun _ _ z => by simp only [List.count_append, List.count_cons, List.cons_append, List.count_nil, List.nil_append, List.append_nil]; omega)) (some ⟨W.heap.size, 0, none⟩) 1 1 [.int .u64 kt, .int .i64 kp, .int .i64 kl, .int .i64 vp, .int .i64 vl] rfl rfl ((csAt_all W [.int .u64 kt, .int .i64 kp, .int .i64 kl, .int .i64 vp, .int .i64 vl] _).drew) (by simp [Value.oneCell']) (by simp [maxLen]; omega) (by omega) ?_
      intro rA' rc' Fq' w2 hQ2 hO2 _
      clear q0 q1 q2 q3 q4 q5 q6 q7 q8
      have hO3 := hO2.right
      obtain ⟨q0, q1, q2, q3, q4, q5, q6, q7, q8⟩ := dec_hdr hO3.drop
      clear y0 y1 y2 y3 y4 yl
      obtain ⟨y0, y1, y2, y3, y4, yl⟩ := ix_hdr hO3
      have yd : ¬ g = b := (by rcases (List.pairwise_cons.1 hO3.dj).1 (fw b 54 [.slice dA dn dc, .slice iA n ic, .int .i64 il]) (by simp) with h | h; exact h; cases h.1)
      have HO2 := hid hO2
      have HQ2 := hid hQ2
      clear hO2 hQ2 hO3
      refine hK.out _ _ ?_ (fun hHeld => ?_)
      · exact ⟨q0, y0, y1, y2, y3, y4⟩
      clear hK
      try simp only [Act.put, List.setIfInBounds_toArray, List.set_cons_zero, List.set_cons_succ]
      refine wpAnyH_take (i := 8) (v := ?_) (by simp only [List.getElem?_toArray, List.getElem?_cons_succ, List.getElem?_cons_zero]; rfl) (by kernel_rfl) (by kernel_rfl) (by kernel_rfl) (by intro _ _ _ h; exact h) (Or.inl ⟨by rfl, fun w hSw => ?_⟩) hHeld ?_
      rotate_left
      · ((try dsimp only at hSw); go_simp; first | done | with_reducible rfl | rfl)
      try simp only [Act.put, List.setIfInBounds_toArray, List.set_cons_zero, List.set_cons_succ]
      refine wpAnyH_take (i := 9) (v := ?_) (by simp only [List.getElem?_toArray, List.getElem?_cons_succ, List.getElem?_cons_zero]; rfl) (by kernel_rfl) (by kernel_rfl) (by kernel_rfl) (by intro _ _ _ h; exact h) (Or.inl ⟨by rfl, fun w hSw => ?_⟩) hHeld ?_
      rotate_left
      · ((try dsimp only at hSw); go_simp; first | done | with_reducible rfl | rfl)
      try simp only [Act.put, List.setIfInBounds_toArray, List.set_cons_zero, List.set_cons_succ]
      refine wpAnyH_ready (rs := [10]) (by kernel_rfl) (by simp) ?_
      refine AllReadyH.cons (by simp only [List.getElem?_toArray, List.getElem?_cons_succ, List.getElem?_cons_zero]; rfl) (fun K hK => ?_) AllReadyH.nil
      go_simp
      refine hK.out _ _ ?_ (fun hHeld => ?_)
      · (refine ⟨?_, ?_, ?_, ?_, ?_, ?_⟩ <;> go_simp)
      clear hK
      try simp only [Act.put, List.setIfInBounds_toArray, List.set_cons_zero, List.set_cons_succ]
      refine wpAnyH_done (by kernel_rfl) ?_ _
      go_wp2_with fail
      go_meet
      refine ⟨rA', rc', Fq', HQ2.out, ?_⟩
      have h8 := (HO2.out.perm (L' := fw b 54 [.slice dA dn dc, .slice iA n ic, .int .i64 il] :: fw p 51 [.pointer (some ⟨b, 0, none⟩)] :: fw g 71 [.int .u64 kt, .int .i64 kp, .int .i64 kl, .int .i64 vp, .int .i64 vl] :: (Fq' ++ R)) (perm_of fun _ _ z => by simp only [List.count_append, List.count_cons, List.cons_append, List.count_nil, List.nil_append, List.append_nil]; omega)).set (k := 1) 1 rfl (by simp) (.slice rA' (n + 1) rc')
      exact Own.perm (L := fw b 54 [.slice dA dn dc, .slice rA' (n + 1) rc', .int .i64 il] :: fw p 51 [.pointer (some ⟨b, 0, none⟩)] :: fw g 71 [.int .u64 kt, .int .i64 kp, .int .i64 kl, .int .i64 vp, .int .i64 vl] :: (Fq' ++ R)) h8 (perm_of fun _ _ z => by simp only [List.count_append, List.count_cons, List.cons_append, List.count_nil, List.nil_append, List.append_nil]; omega)
  case rest =>
    obtain ⟨rA', rc', Fq', hQ2, hO2⟩ := hcut
    clear q0 q1 q2 q3 q4 q5 q6 q7 q8 y0 y1 y2 y3 y4 yl HO HR
    obtain ⟨q0, q1, q2, q3, q4, q5, q6, q7, q8⟩ := dec_hdr hO2.drop
    obtain ⟨y0, y1, y2, y3, y4, yl⟩ := ix_hdr hO2
    have HO := hid hO2
    have HR := hid hQ2
    clear hO2 hQ2
    go_wp2_with fail
    go_still_tail 13, (by kernel_rfl)
    go_wp2_with fail
    go_ret
    refine ⟨rfl, rA', rc', wrap64 (il + wrap64 (wrap64 ((kl : Int) + (vl : Int)) + 8)), Fq', by rw [List.flatMap_append]; simpa [Ix.cells] using HR.out, ?_⟩
    have h8 : Own (fw b 54 [.slice dA dn dc, .slice rA' (n + 1) rc', .int .i64 (wrap64 (il + wrap64 (wrap64 ((kl : Int) + (vl : Int)) + 8)))] :: fw p 51 [.pointer (some ⟨b, 0, none⟩)] :: (Fq' ++ R)) w0 (wc.setCell ⟨b, 2, none⟩ (.int .i64 (wrap64 (il + wrap64 (wrap64 ((kl : Int) + (vl : Int)) + 8))))) := (HO.out.drop.perm (L' := fw b 54 [.slice dA dn dc, .slice rA' (n + 1) rc', .int .i64 (il)] :: fw p 51 [.pointer (some ⟨b, 0, none⟩)] :: (Fq' ++ R)) (perm_of fun _ _ z => by simp only [List.count_append, List.count_cons, List.cons_append, List.count_nil, List.nil_append, List.append_nil]; omega)).set (k := 2) 2 rfl (by simp) (.int .i64 (wrap64 (il + wrap64 (wrap64 ((kl : Int) + (vl : Int)) + 8))))
    exact h8.drew.perm (L := fw b 54 [.slice dA dn dc, .slice rA' (n + 1) rc', .int .i64 (wrap64 (il + wrap64 (wrap64 ((kl : Int) + (vl : Int)) + 8)))] :: fw p 51 [.pointer (some ⟨b, 0, none⟩)] :: (Fq' ++ R)) (L' := fw p 51 [.pointer (some ⟨b, 0, none⟩)] :: fw b 54 [.slice dA dn dc, .slice rA' (n + 1) rc', .int .i64 (wrap64 (il + wrap64 (wrap64 ((kl : Int) + (vl : Int)) + 8)))] :: (Fq' ++ R)) (perm_of fun _ _ z => by simp only [List.count_append, List.count_cons, List.cons_append, List.count_nil, List.nil_append, List.append_nil]; omega)

theorem dec1_n (p b dn dc n ic : Nat) (dA iA : Option Addr) (i il : Int) (x : Ix) (xs : List Ix) (Fi R : List Fr) (w0 w : World) (hR : Row 71 5 iA n ic (xs.flatMap Ix.cells) Fi) (hO : Own (decF p b dn dc n ic dA iA il ++ (Fi ++ R)) w0 w) (hn : n ≤ 1073741824)
    (y0 y1 y2 y3 y4 : Int) (h0 : y0 = x.kt) (h1 : y1 = x.kp) (h2 : y2 = x.kl) (h3 : y3 = x.vp) (h4 : y4 = x.vl) :
    Calls Try.prog 27 #[.int .i64 i, .agg #[.int .u64 y0, .int .i64 y1, .int .i64 y2, .int .i64 y3, .int .i64 y4], .pointer (some ⟨p, 0, none⟩)] w
      (Dec1Out p b dn dc (n + 1) dA (xs ++ [x]) R w0) := by
  subst h0; subst h1; subst h2; subst h3; subst h4
  exact dec1_any p b dn dc n ic dA iA i il x xs Fi R w0 w hR hO hn
theorem rOf_bytes {l : List P2} {k : Nat} (h : k < l.length) : ∃ rest, (dmp l).drop (dmp (l.take k)).length = rOf l[k] ++ rest :=
  ⟨dmp (l.drop (k + 1)), by rw [dmp_split l k, List.drop_left' rfl, dmp_drop h]⟩
theorem at_drop (D : List UInt8) (o i : Nat) : at_ (D.drop o) i = at_ D (o + i) := by simp [at_]
theorem dmp_le_take {l : List P2} (k : Nat) : (dmp (l.take k)).length ≤ (dmp l).length := by rw [dmp_split l k, List.length_append]; omega
def okR (l : List P2) : Prop := ∀ r ∈ l, r.k.length ≤ 2147483648 ∧ r.v.length ≤ 2147483648
set_option maxHeartbeats 6400000 in
set_option maxRecDepth 100000 in
theorem decodeBatch_any (p b dc ic : Nat) (dA iA : Option Addr) (il : Int) (l : List P2) (Fi R : List Fr) (w0 w : World) (hR : Row 71 5 iA 0 ic [] Fi) (hO : Own (decF p b (dmp l).length dc 0 ic dA iA il ++ (Fi ++ R)) w0 w)
    (hD : Rd R w0 dA (dmp l)) (hdc : (dmp l).length ≤ dc) (hdl : (dmp l).length ≤ 1099511627776) (hl : l.length ≤ 1073741824) (hok : okR l) :
    Calls Try.prog 26 #[.slice dA (dmp l).length dc, .func (.func 27) #[] #[.pointer (some ⟨p, 0, none⟩)]] w
      (Dec1Out p b (dmp l).length dc l.length dA (ixs 0 l) R w0) := by
  have HR := hid hR
  have HO := hid hO
  have HD := hid hD
  have HOK := hid hok
  obtain ⟨D, hDD⟩ : ∃ D, dmp l = D := ⟨_, rfl⟩
  rw [hDD] at HO HD hdc hdl ⊢
  have HDD := hid hDD
  clear hR hO hD hok hDD
  go_enter Try.func26, Try.ntmps26
  go_wp2_with fail
  obtain ⟨g, hg⟩ : ∃ g, w.heap.size = g := ⟨_, rfl⟩
  have hO1 := HO.out.alloc 71 [.int .u64 0, .int .i64 0, .int .i64 0, .int .i64 0, .int .i64 0]
  rw [hg] at hO1 ⊢
  have HO1 := hid hO1
  clear hO1 hg
  go_loopw [6, 7] (fun i o wr => ∃ (k : Nat) (a0 a1 a2 a3 a4 : Value) (iA : Option Addr) (ic : Nat) (il : Int) (Fi : List Fr), i = .int .i64 k ∧ o = .int .i64 ((dmp (l.take k)).length : Int) ∧ k ≤ l.length ∧ Hid (Row 71 5 iA k ic ((ixs 0 (l.take k)).flatMap Ix.cells) Fi) ∧
    Hid (Own (fw g 71 [a0, a1, a2, a3, a4] :: (decF p b D.length dc k ic dA iA il ++ (Fi ++ R))) w0 wr)) (fun i _ _ => l.length - (intOf i).toNat)
  case atStart => exact ⟨0, _, _, _, _, _, iA, ic, il, Fi, rfl, by simp [dmp], Nat.zero_le _, hid (by simpa [ixs] using HR.out), HO1⟩
  case round =>
    obtain ⟨k, a0, a1, a2, a3, a4, iA, ic, il, Fi, rfl, rfl, hk, hR, hO⟩ := hrel
    by_cases h4 : k < l.length
    · have hr : l[k]? = some l[k] := List.getElem?_eq_getElem h4
      obtain ⟨rest, hrest⟩ := rOf_bytes h4
      have hnext := dmp_take h4
      have hix : ixs 0 (l.take (k + 1)) = ixs 0 (l.take k) ++ [ixOf (0 + (dmp (l.take k)).length) l[k]] := by rw [List.take_succ_eq_append_getElem h4, ixs_snoc]
      have hrok := HOK.out _ (List.getElem_mem h4)
      generalize l[k] = r at hr hrest hnext hix hrok
      have hle2 := dmp_le_take (l := l) (k + 1)
      rw [HDD.out] at hle2 hrest
      obtain ⟨o, ho⟩ : ∃ o, (dmp (l.take k)).length = o := ⟨_, rfl⟩
      rw [ho] at hrest hnext hix ⊢
      rw [hnext] at hle2
      rw [Nat.zero_add] at hix
      have hbs : BsAt wr dA D := hO.out.st HD.out (fun x hx => by simp [hx])
      have hul := uv_pos r.k.length
      have hul5 := uv_len5 (x := r.k.length) (by omega)
      cases hdel : r.del with
      | true =>
        have hrf : rOf r = 0 :: (uv r.k.length ++ r.k) := by rw [rOf, hdel]; rfl
        have hixo : ixOf o r = ⟨0, o + 1 + (uv r.k.length).length, r.k.length, 0, 0⟩ := by rw [ixOf, hdel]; rfl
        have HIXO := hid hixo
        have hrl : (rOf r).length = 1 + ((uv r.k.length).length + r.k.length) := by rw [hrf, List.length_cons, List.length_append]; omega
        rw [hrl] at hle2 hnext
        rw [hrf] at hrest
        obtain ⟨dg, do', rfl, _, _⟩ := hbs.addr (by omega)
        have hc0 := hbs.get (i := o) (by omega)
        have hz0 : bz D o = 0 := by
          have : at_ D o = 0 := by
            have h0 := at_drop D o 0
            rw [hrest] at h0
            rw [Nat.add_zero] at h0
            rw [← h0]; rfl
          rw [bz, this]; rfl
        rw [hz0] at hc0
        have hd1 : D.drop (o + 1) = uv r.k.length ++ (r.k ++ rest) := by
          rw [← List.drop_drop, hrest]
          simp
        have hb1 := hbs.drop (o + 1)
        have h4' : (o : Int) < (D.length : Int) := by omega
        have hcap : ¬ dc = o + 1 := by omega
        obtain ⟨y0, y1, y2, y3, y4, yl⟩ := ix_hdr hO.out
        have yf := fun j => hO.out.frozen 0 rfl j
        have ys := hO.out.drop
        have HIX := hid hix
        have HNX := hid hnext
        have HO2 := hid hO.out
        have HB := hid hb1
        have HD1 := hid hd1
        have HOO := hid ho
        clear hix hnext hO hb1 hd1 ho hbs hz0 hrest hrl hrf hixo hdel ys
        go_wp2_with fail
        have hO3 : Own (fw g 71 [.int .u64 0, a1, a2, a3, a4] :: (decF p b D.length dc k ic (some ⟨dg, do', none⟩) iA il ++ (Fi ++ R))) w0 (wr.setCell ⟨g, 0, none⟩ (.int .u64 0)) := HO2.out.set (k := 0) 0 rfl (by simp) (.int .u64 0)
        have hb2 := hO3.st (HD.out.drop (o + 1)) (fun x hx => by simp [hx])
        generalize wr.setCell ⟨g, 0, none⟩ (.int .u64 0) = W at hO3 hb2 ⊢
        refine (uvarint_any dg (do' + (o + 1)) (dc - (o + 1)) (D.length - (o + 1)) r.k.length (D.drop (o + 1)) (r.k ++ rest) W hb2 HD1.out (by omega) (by rw [List.length_drop]) (by rw [List.length_drop]; omega)).mono ?_
        rintro e w' ⟨rfl, rfl⟩
        clear y0 y1 y2 y3 y4 yl yf hb2 hc0
        obtain ⟨y0, y1, y2, y3, y4, yl⟩ := ix_hdr hO3
        have yf := fun j => hO3.frozen 0 rfl j
        have HO3 := hid hO3
        obtain ⟨ul, hull⟩ : ∃ ul, (uv r.k.length).length = ul := ⟨_, rfl⟩
        obtain ⟨kl, hkll⟩ : ∃ kl, r.k.length = kl := ⟨_, rfl⟩
        have HUL := hid hull
        have HKL := hid hkll
        rw [hkll] at hull hrok hle2
        rw [hkll, hull]
        rw [hkll, hull] at hul hul5
        rw [hull] at hle2
        have t1 : decide ((ul : Int) ≤ 0) = false := decide_eq_false (by omega)
        have t2 : decide ((D.length : Int) < (o : Int) + 1 + (ul : Int) + (kl : Int)) = false := decide_eq_false (by omega)
        have e1 : IntKind.i64.wrap (kl : Int) = kl := i64_id (by omega) (by omega)
        clear hO3 hull hkll hcap HO2 HB
        go_wp2_with fail
        have hO4 : Own (fw g 71 [.int .u64 0, .int .i64 ((o : Int) + 1 + (ul : Int)), .int .i64 (kl : Int), .int .i64 0, .int .i64 0] :: (decF p b D.length dc k ic (some ⟨dg, do', none⟩) iA il ++ (Fi ++ R))) w0 ((((W.setCell ⟨g, 1, none⟩ (.int .i64 ((o : Int) + 1 + (ul : Int)))).setCell ⟨g, 2, none⟩ (.int .i64 (kl : Int))).setCell ⟨g, 3, none⟩ (.int .i64 0)).setCell ⟨g, 4, none⟩ (.int .i64 0)) := (((HO3.out.set (k := 1) 1 rfl (by simp) (.int .i64 ((o : Int) + 1 + (ul : Int)))).set (k := 2) 2 rfl (by simp) (.int .i64 (kl : Int))).set (k := 3) 3 rfl (by simp) (.int .i64 0)).set (k := 4) 4 rfl (by simp) (.int .i64 0)
        have hx : ixOf o r = ⟨0, o + 1 + ul, kl, 0, 0⟩ := by rw [← HUL.out, ← HKL.out]; exact HIXO.out
        refine (dec1_n p b D.length dc k ic (some ⟨dg, do', none⟩) iA k il (ixOf o r) (ixs 0 (l.take k)) Fi (fw g 71 [.int .u64 0, .int .i64 ((o : Int) + 1 + (ul : Int)), .int .i64 (kl : Int), .int .i64 0, .int .i64 0] :: R) w0 _ hR.out (hO4.perm (L' := decF p b D.length dc k ic (some ⟨dg, do', none⟩) iA il ++ (Fi ++ (fw g 71 [.int .u64 0, .int .i64 ((o : Int) + 1 + (ul : Int)), .int .i64 (kl : Int), .int .i64 0, .int .i64 0] :: R))) (perm_of fun _ _ z => by simp only [List.count_append, List.count_cons, List.cons_append, List.count_nil, List.nil_append, List.append_nil]; omega)) (by omega) 0 _ _ 0 0 (by rw [hx]; rfl) (by rw [hx]; rfl) (by rw [hx]) (by rw [hx]; rfl) (by rw [hx]; rfl)).mono ?_
        rintro e w4 ⟨rfl, iA4, ic4, il4, Fi4, hR4, hO5⟩
        have HR4 := hid hR4
        have HO5 := hid hO5
        have HN := hid (show ((o : Int) + 1 + (ul : Int) + (kl : Int)) = ((dmp (l.take (k + 1))).length : Int) by rw [HNX.out, HUL.out, HKL.out]; omega)
        clear hR4 hO5 hO4 hx
        go_wp2_with fail
        refine ⟨⟨k + 1, .int .u64 0, .int .i64 ((o : Int) + 1 + (ul : Int)), .int .i64 (kl : Int), .int .i64 0, .int .i64 0, iA4, ic4, il4, Fi4, rfl, by rw [← HN.out], h4, ?_, ?_⟩, by simp [intOf]; omega⟩
        · rw [HIX.out]; exact hid HR4.out
        · exact hid (HO5.out.perm (perm_of fun _ _ z => by simp only [List.count_append, List.count_cons, List.cons_append, List.count_nil, List.nil_append, List.append_nil]; omega))
      | false =>
        have hrf : rOf r = 1 :: (uv r.k.length ++ r.k ++ (uv r.v.length ++ r.v)) := by rw [rOf, hdel]; rfl
        have hixo : ixOf o r = ⟨1, o + 1 + (uv r.k.length).length, r.k.length, o + 1 + (uv r.k.length).length + r.k.length + (uv r.v.length).length, r.v.length⟩ := by rw [ixOf, hdel]; rfl
        have HIXO := hid hixo
        have hrl : (rOf r).length = 1 + ((uv r.k.length).length + r.k.length) + ((uv r.v.length).length + r.v.length) := by rw [hrf, List.length_cons]; simp only [List.length_append]; omega
        rw [hrl] at hle2 hnext
        rw [hrf] at hrest
        obtain ⟨dg, do', rfl, _, _⟩ := hbs.addr (by omega)
        have hc0 := hbs.get (i := o) (by omega)
        have hz0 : bz D o = 1 := by
          have : at_ D o = 1 := by
            have h0 := at_drop D o 0
            rw [hrest] at h0
            rw [Nat.add_zero] at h0
            rw [← h0]; rfl
          rw [bz, this]; rfl
        rw [hz0] at hc0
        have hd1 : D.drop (o + 1) = uv r.k.length ++ (r.k ++ (uv r.v.length ++ (r.v ++ rest))) := by
          rw [← List.drop_drop, hrest]
          simp
        have hd2 : D.drop (o + 1 + (uv r.k.length).length + r.k.length) = uv r.v.length ++ (r.v ++ rest) := by
          rw [← List.drop_drop, ← List.drop_drop, hd1, List.drop_left' rfl, List.drop_left' rfl]
        have hvl := uv_pos r.v.length
        have hvl5 := uv_len5 (x := r.v.length) (by omega)
        have hb1 := hbs.drop (o + 1)
        have h4' : (o : Int) < (D.length : Int) := by omega
        have hcap : ¬ dc = o + 1 := by omega
        obtain ⟨y0, y1, y2, y3, y4, yl⟩ := ix_hdr hO.out
        have yf := fun j => hO.out.frozen 0 rfl j
        have ys := hO.out.drop
        have HIX := hid hix
        have HNX := hid hnext
        have HO2 := hid hO.out
        have HB := hid hb1
        have HD1 := hid hd1
        have HD2 := hid hd2
        have HOO := hid ho
        clear hix hnext hO hb1 hd1 hd2 ho hbs hz0 hrest hrl hrf hixo hdel ys
        go_wp2_with fail
        have hO3 : Own (fw g 71 [.int .u64 1, a1, a2, a3, a4] :: (decF p b D.length dc k ic (some ⟨dg, do', none⟩) iA il ++ (Fi ++ R))) w0 (wr.setCell ⟨g, 0, none⟩ (.int .u64 1)) := HO2.out.set (k := 0) 0 rfl (by simp) (.int .u64 1)
        have hb2 := hO3.st (HD.out.drop (o + 1)) (fun x hx => by simp [hx])
        generalize wr.setCell ⟨g, 0, none⟩ (.int .u64 1) = W at hO3 hb2 ⊢
        refine (uvarint_any dg (do' + (o + 1)) (dc - (o + 1)) (D.length - (o + 1)) r.k.length (D.drop (o + 1)) (r.k ++ (uv r.v.length ++ (r.v ++ rest))) W hb2 HD1.out (by omega) (by rw [List.length_drop]) (by rw [List.length_drop]; omega)).mono ?_
        rintro e w' ⟨rfl, rfl⟩
        clear y0 y1 y2 y3 y4 yl yf hb2 hc0
        obtain ⟨y0, y1, y2, y3, y4, yl⟩ := ix_hdr hO3
        have yf := fun j => hO3.frozen 0 rfl j
        have HO3 := hid hO3
        obtain ⟨ul, hull⟩ : ∃ ul, (uv r.k.length).length = ul := ⟨_, rfl⟩
        obtain ⟨kl, hkll⟩ : ∃ kl, r.k.length = kl := ⟨_, rfl⟩
        have HUL := hid hull
        have HKL := hid hkll
        obtain ⟨wl, hwll⟩ : ∃ wl, (uv r.v.length).length = wl := ⟨_, rfl⟩
        obtain ⟨vl, hvll⟩ : ∃ vl, r.v.length = vl := ⟨_, rfl⟩
        have HWL := hid hwll
        have HVL := hid hvll
        rw [hkll, hvll] at hrok
        rw [hkll] at hull
        rw [hvll] at hwll
        rw [hkll, hull]
        rw [hkll, hull] at hul hul5
        rw [hvll, hwll] at hvl hvl5
        rw [hkll, hull, hvll, hwll] at hle2
        have t1 : decide ((ul : Int) ≤ 0) = false := decide_eq_false (by omega)
        have t2 : decide ((D.length : Int) < (o : Int) + 1 + (ul : Int) + (kl : Int)) = false := decide_eq_false (by omega)
        have e1 : IntKind.i64.wrap (kl : Int) = kl := i64_id (by omega) (by omega)
        have hcap2 : ¬ dc = o + 1 + ul + kl := by omega
        have r1 : (o : Int) + 1 + (ul : Int) + (kl : Int) ≤ (D.length : Int) := by omega
        clear hO3 hull hkll hwll hvll hcap HO2 HB
        go_wp2_with fail
        have hO3b : Own (fw g 71 [.int .u64 1, .int .i64 ((o : Int) + 1 + (ul : Int)), .int .i64 (kl : Int), a3, a4] :: (decF p b D.length dc k ic (some ⟨dg, do', none⟩) iA il ++ (Fi ++ R))) w0 ((W.setCell ⟨g, 1, none⟩ (.int .i64 ((o : Int) + 1 + (ul : Int)))).setCell ⟨g, 2, none⟩ (.int .i64 (kl : Int))) := (HO3.out.set (k := 1) 1 rfl (by simp) (.int .i64 ((o : Int) + 1 + (ul : Int)))).set (k := 2) 2 rfl (by simp) (.int .i64 (kl : Int))
        have hb2 := hO3b.st (HD.out.drop (o + 1 + ul + kl)) (fun x hx => by simp [hx])
        have hd2 := HD2.out
        rw [HUL.out, HKL.out] at hd2
        generalize (W.setCell ⟨g, 1, none⟩ (.int .i64 ((o : Int) + 1 + (ul : Int)))).setCell ⟨g, 2, none⟩ (.int .i64 (kl : Int)) = W2 at hO3b hb2 ⊢
        refine (uvarint_any dg (do' + (o + 1 + ul + kl)) (dc - (o + 1 + ul + kl)) (D.length - (o + 1 + ul + kl)) r.v.length (D.drop (o + 1 + ul + kl)) (r.v ++ rest) W2 hb2 hd2 (by have := HVL.out; omega) (by rw [List.length_drop]) (by rw [List.length_drop]; omega)).mono ?_
        rintro e w' ⟨rfl, rfl⟩
        clear y0 y1 y2 y3 y4 yl yf hb2 hd2
        obtain ⟨y0, y1, y2, y3, y4, yl⟩ := ix_hdr hO3b
        have yf := fun j => hO3b.frozen 0 rfl j
        have HO3 := hid hO3b
        rw [HWL.out, HVL.out]
        have t1 : decide ((wl : Int) ≤ 0) = false := decide_eq_false (by omega)
        have t2 : decide ((D.length : Int) < (o : Int) + 1 + (ul : Int) + (kl : Int) + (wl : Int) + (vl : Int)) = false := decide_eq_false (by omega)
        have e1 : IntKind.i64.wrap (vl : Int) = vl := i64_id (by omega) (by omega)
        clear hO3b
        go_wp2_with fail
        have hO4 : Own (fw g 71 [.int .u64 1, .int .i64 ((o : Int) + 1 + (ul : Int)), .int .i64 (kl : Int), .int .i64 ((o : Int) + 1 + (ul : Int) + (kl : Int) + (wl : Int)), .int .i64 (vl : Int)] :: (decF p b D.length dc k ic (some ⟨dg, do', none⟩) iA il ++ (Fi ++ R))) w0 ((W2.setCell ⟨g, 3, none⟩ (.int .i64 ((o : Int) + 1 + (ul : Int) + (kl : Int) + (wl : Int)))).setCell ⟨g, 4, none⟩ (.int .i64 (vl : Int))) := (HO3.out.set (k := 3) 3 rfl (by simp) (.int .i64 ((o : Int) + 1 + (ul : Int) + (kl : Int) + (wl : Int)))).set (k := 4) 4 rfl (by simp) (.int .i64 (vl : Int))
        have hx : ixOf o r = ⟨1, o + 1 + ul, kl, o + 1 + ul + kl + wl, vl⟩ := by rw [← HUL.out, ← HKL.out, ← HWL.out, ← HVL.out]; exact HIXO.out
        refine (dec1_n p b D.length dc k ic (some ⟨dg, do', none⟩) iA k il (ixOf o r) (ixs 0 (l.take k)) Fi (fw g 71 [.int .u64 1, .int .i64 ((o : Int) + 1 + (ul : Int)), .int .i64 (kl : Int), .int .i64 ((o : Int) + 1 + (ul : Int) + (kl : Int) + (wl : Int)), .int .i64 (vl : Int)] :: R) w0 _ hR.out (hO4.perm (L' := decF p b D.length dc k ic (some ⟨dg, do', none⟩) iA il ++ (Fi ++ (fw g 71 [.int .u64 1, .int .i64 ((o : Int) + 1 + (ul : Int)), .int .i64 (kl : Int), .int .i64 ((o : Int) + 1 + (ul : Int) + (kl : Int) + (wl : Int)), .int .i64 (vl : Int)] :: R))) (perm_of fun _ _ z => by simp only [List.count_append, List.count_cons, List.cons_append, List.count_nil, List.nil_append, List.append_nil]; omega)) (by omega) 1 _ _ _ _ (by rw [hx]; rfl) (by rw [hx]; rfl) (by rw [hx]) (by rw [hx]; rfl) (by rw [hx])).mono ?_
        rintro e w4 ⟨rfl, iA4, ic4, il4, Fi4, hR4, hO5⟩
        have HR4 := hid hR4
        have HO5 := hid hO5
        have HN := hid (show ((o : Int) + 1 + (ul : Int) + (kl : Int) + (wl : Int) + (vl : Int)) = ((dmp (l.take (k + 1))).length : Int) by rw [HNX.out, HUL.out, HKL.out, HWL.out, HVL.out]; omega)
        clear hR4 hO5 hO4 hx
        go_wp2_with fail
        refine ⟨⟨k + 1, _, _, _, _, _, iA4, ic4, il4, Fi4, rfl, by rw [← HN.out], h4, ?_, hid (HO5.out.perm (L' := fw g 71 [.int .u64 1, .int .i64 ((o : Int) + 1 + (ul : Int)), .int .i64 (kl : Int), .int .i64 ((o : Int) + 1 + (ul : Int) + (kl : Int) + (wl : Int)), .int .i64 (vl : Int)] :: (decF p b D.length dc (k + 1) ic4 (some ⟨dg, do', none⟩) iA4 il4 ++ (Fi4 ++ R))) (perm_of fun _ _ z => by simp only [List.count_append, List.count_cons, List.cons_append, List.count_nil, List.nil_append, List.append_nil]; omega))⟩, by simp [intOf]; omega⟩
        rw [HIX.out]; exact hid HR4.out
    · have hk2 : k = l.length := by omega
      subst hk2
      have hlast : (dmp (l.take l.length)).length = D.length := by rw [List.take_length, HDD.out]
      have HLA := hid hlast
      obtain ⟨oL, hoL⟩ : ∃ oL, (dmp (l.take l.length)).length = oL := ⟨_, rfl⟩
      rw [hoL] at hlast ⊢
      have h4' : ¬ (oL : Int) < (D.length : Int) := by omega
      rw [List.take_length] at hR
      clear HLA hoL hlast h4
      go_wp2_with fail
      go_ret
      exact ⟨rfl, iA, ic, il, Fi, hR.out, hO.out.drop⟩
end Go.Proofs.Ytloflmcgbbbnjaa
