/-
  table.Writer: finishBlock.
  table.Writer: Append.
  table.Writer: Append.
-/
import Derived.Test.YtloflmcgbbbnjaaDoorTabM8
namespace Go.Proofs.YtloflmcgbbbnjaaDoor
open Go.RowKit Plain
set_option linter.all false

/-- The block's bytes, when it is finished. -/
def tBlk (s : TS) : List UInt8 := s.data ++ le4s (finR s.nE s.rst ++ [(finR s.nE s.rst).length])
def tFin (s : TS) : TS := { s with out := s.out ++ (tBlk s ++ trail (tBlk s)), pO := s.off, pL := (tBlk s).length, off := s.off + (tBlk s).length + 5, nE := 0, data := [], rst := [] }
theorem BW.of {b o rs nE pc rc sg so : Nat} {pA rA : Option Addr} {data prev : List UInt8} {rst : List Nat} {Fb Fp Fq : List Fr} (hB : BufF b (o + 1) data Fb) (hP : Row 5 1 pA prev.length pc (bc prev) Fp) (hQ : Row 181 1 rA rst.length rc (c32 rst) Fq) :
    BW b o rs nE data prev rst sg so (fp b o [.int .i64 rs] :: fp b (o + 67) [.int .i64 nE, .slice pA prev.length pc, .slice rA rst.length rc, .slice (some ⟨sg, so, none⟩) 30 30] :: (Fb ++ (Fp ++ Fq))) := ⟨pA, pc, rA, rc, Fb, Fp, Fq, hB, hP, hQ, rfl⟩
/-- The cells of the writer but for those of the block at hand and of the bytes written. -/
theorem tw_hdr2 {wp g : Nat} {v1 c f co bs pO pL off nA csl : Value} {s20 s30 : List Value} {L M : List Fr} {w0 w : World}
    (hO : Own (L ++ (fp wp 0 [.iface 91 (.pointer (some ⟨g, 0, none⟩))] :: fp wp 219 [off] :: (fp wp 1 [v1] :: fp wp 2 [c, f, co, bs] :: fp wp 217 [pO, pL] :: fp wp 220 [nA] :: fp wp 221 s20 :: fp wp 241 s30 :: fp wp 271 [csl] :: M))) w0 w) :
    w.cell? ⟨wp, 1, none⟩ = some v1 ∧ w.cell? ⟨wp, 4, none⟩ = some co ∧ w.cell? ⟨wp, 5, none⟩ = some bs ∧ w.cell? ⟨wp, 217, none⟩ = some pO ∧ w.cell? ⟨wp, 218, none⟩ = some pL ∧ w.cell? ⟨wp, 219, none⟩ = some off ∧ w.cell? ⟨wp, 220, none⟩ = some nA ∧ (∀ k, w.frozen? ⟨wp, k, none⟩ = false) ∧ wp < w.heap.size :=
  ⟨hO.right.cell 2 rfl 0 rfl (by simp), hO.right.cell 3 rfl 2 rfl (by simp), hO.right.cell 3 rfl 3 rfl (by simp), hO.right.cell 4 rfl 0 rfl (by simp), hO.right.cell 4 rfl 1 rfl (by simp), hO.right.cell 1 rfl 0 rfl (by simp), hO.right.cell 5 rfl 0 rfl (by simp), fun k => hO.right.frozen 0 rfl k, hO.right.head.lt⟩
set_option maxHeartbeats 6400000 in
set_option maxRecDepth 100000 in
theorem finishBlk (wp bs rs g nb B Q : Nat) (on : Bool) (errv : Value) (s : TS) (F R : List Fr) (w0 w : World) (h : WS wp bs rs g on nb B Q errv s F) (hO : Own (F ++ R) w0 w)
    (hd : s.data.length ≤ 1073741824) (hr : s.rst.length ≤ 1073741824) (hrx : ∀ x ∈ s.rst, x < 4294967296) (ho : s.out.length ≤ 1073741824) (hof : s.off ≤ 1073741824) (hB : B ≤ 26000000) (hQ : Q ≤ 1000000) (hoq : (s.off + (tBlk s).length + 5) / 2048 ≤ Q) :
    Calls Tryd.prog 90 #[.pointer (some ⟨wp, 0, none⟩)] w fun e w' => e = .returned .nilIface ∧ ∃ F', WS wp bs rs g on nb B Q errv (tFin s) F' ∧ Own (F' ++ R) w0 w' := by
  obtain ⟨fv, cA, pA, rA, cc, pc, rc, cl, scr20, scr30, Fb, Fp, Fq, F2, F3, G, Fc, hfv, hB1, hP, hQ1, h2, h3, hG, hs20, hs30, hC, rfl⟩ := h
  have HO := hid hO
  have HP := hid hP
  have HC := hid hC
  have H2 := hid h2
  have H3 := hid h3
  have HG := hid hG
  have HB1 := hid hB1
  have HQ1 := hid hQ1
  have HX := hid hrx
  have HFV := hid hfv
  clear hO hP hC h2 h3 hG hB1 hQ1 hrx hfv
  go_enter Tryd.func90, Tryd.ntmps90
  go_wp2_with fail
  refine (bw_finish wp 6 rs s.nE wp 241 s.data s.prev s.rst _ (fp wp 0 [.iface 91 (.pointer (some ⟨g, 0, none⟩))] :: fp wp 219 [.int .u64 s.off] :: (G ++ (fp wp 1 [errv] :: fp wp 2 [.iface 112 (.agg #[]), fv, .int .u64 1, .int .i64 bs] :: fp wp 217 [.int .u64 s.pO, .int .u64 s.pL] :: fp wp 220 [.int .i64 s.nAll] :: fp wp 221 scr20 :: fp wp 241 scr30 :: fp wp 271 [.slice cA cl.length cc] :: (F2 ++ (F3 ++ (Fc ++ R)))))) w0 _ (BW.of HB1.out HP.out HQ1.out) (HO.out.perm (perm_of fun _ _ z => by simp only [List.count_append, List.count_cons, List.cons_append, List.count_nil, List.nil_append, List.append_nil]; omega)) hd hr HX.out).mono ?_
  rintro e w1 ⟨rfl, FD, ⟨pA2, pc2, rA2, rc2, Fb2, Fp2, Fq2, hB2, hP2, hQ2, rfl⟩, hO1⟩
  obtain ⟨blk, hblk⟩ : ∃ blk, s.data ++ le4s (finR s.nE s.rst ++ [(finR s.nE s.rst).length]) = blk := ⟨_, rfl⟩
  have HBLK := hid (show tBlk s = blk from hblk)
  rw [hblk] at hB2
  obtain ⟨r2, hr2⟩ : ∃ r2, finR s.nE s.rst ++ [(finR s.nE s.rst).length] = r2 := ⟨_, rfl⟩
  rw [hr2] at hQ2 hO1
  have hblk0 : blk.length ≤ 8589934592 := by
    rw [← hblk, List.length_append, le4s_length, List.length_append]
    unfold finR
    split <;> simp <;> omega
  have hoq' : (s.off + blk.length + 5) / 2048 ≤ Q := by rw [← HBLK.out]; exact hoq
  have HOQ := hid hoq'
  have hO2 : Own (Fb2 ++ (G ++ (fp wp 0 [.iface 91 (.pointer (some ⟨g, 0, none⟩))] :: fp wp 219 [.int .u64 s.off] :: (fp wp 1 [errv] :: fp wp 2 [.iface 112 (.agg #[]), fv, .int .u64 1, .int .i64 bs] :: fp wp 217 [.int .u64 s.pO, .int .u64 s.pL] :: fp wp 220 [.int .i64 s.nAll] :: fp wp 221 scr20 :: fp wp 241 scr30 :: fp wp 271 [.slice cA cl.length cc] :: (fp wp 6 [.int .i64 rs] :: fp wp (6 + 67) [.int .i64 s.nE, .slice pA2 s.prev.length pc2, .slice rA2 r2.length rc2, .slice (some ⟨wp, 241, none⟩) 30 30] :: (Fp2 ++ (Fq2 ++ (F2 ++ (F3 ++ (Fc ++ R)))))))))) w0 w1 := hO1.perm (perm_of fun _ _ z => by simp only [List.count_append, List.count_cons, List.cons_append, List.count_nil, List.nil_append, List.append_nil]; omega)
  obtain ⟨c1, c4, c5, c217, c218, c219, c220, f0, bl⟩ := tw_hdr2 (L := Fb2 ++ G) (hO2.perm (L' := (Fb2 ++ G) ++ (fp wp 0 [.iface 91 (.pointer (some ⟨g, 0, none⟩))] :: fp wp 219 [.int .u64 s.off] :: (fp wp 1 [errv] :: fp wp 2 [.iface 112 (.agg #[]), fv, .int .u64 1, .int .i64 bs] :: fp wp 217 [.int .u64 s.pO, .int .u64 s.pL] :: fp wp 220 [.int .i64 s.nAll] :: fp wp 221 scr20 :: fp wp 241 scr30 :: fp wp 271 [.slice cA cl.length cc] :: (fp wp 6 [.int .i64 rs] :: fp wp (6 + 67) [.int .i64 s.nE, .slice pA2 s.prev.length pc2, .slice rA2 r2.length rc2, .slice (some ⟨wp, 241, none⟩) 30 30] :: (Fp2 ++ (Fq2 ++ (F2 ++ (F3 ++ (Fc ++ R))))))))) (perm_of fun _ _ z => by simp only [List.count_append, List.count_cons, List.cons_append, List.count_nil, List.nil_append, List.append_nil]; omega))
  have HO2 := hid hO2
  have HB2 := hid hB2
  have HP2 := hid hP2
  have HQ2 := hid hQ2
  clear hO1 hO2 hB2 hP2 hQ2 hblk hr2 HO HB1 HQ1 HP hoq hoq'
  go_upto_region 2 with fail
  go_cut [3, 4] (fun s3 s4 wx => s4 = .nilIface ∧ ∃ (q : Nat) (FB' G' : List Fr), s3 = .pointer (some ⟨q, 0, none⟩) ∧ BufF wp 7 (blk ++ trail blk) FB' ∧ OB g (s.out ++ (blk ++ trail blk)) G' ∧ Own (fw q 157 [.int .u64 s.off, .int .u64 blk.length] :: (FB' ++ (G' ++ (fp wp 0 [.iface 91 (.pointer (some ⟨g, 0, none⟩))] :: fp wp 219 [.int .u64 ((s.off + blk.length + 5 : Nat) : Int)] :: (fp wp 1 [errv] :: fp wp 2 [.iface 112 (.agg #[]), fv, .int .u64 1, .int .i64 bs] :: fp wp 217 [.int .u64 s.pO, .int .u64 s.pL] :: fp wp 220 [.int .i64 s.nAll] :: fp wp 221 scr20 :: fp wp 241 scr30 :: fp wp 271 [.slice cA cl.length cc] :: (fp wp 6 [.int .i64 rs] :: fp wp (6 + 67) [.int .i64 s.nE, .slice pA2 s.prev.length pc2, .slice rA2 r2.length rc2, .slice (some ⟨wp, 241, none⟩) 30 30] :: (Fp2 ++ (Fq2 ++ (F2 ++ (F3 ++ (Fc ++ R))))))))))) w0 wx)
  case first =>
    refine AnyT.start (S := fun w' => w'.cell? ⟨wp, 4, none⟩ = some (.int .u64 1)) (T := []) (by kernel_rfl) (c4) (fun hHeld => ?_)
    refine AnyT.take (i := 0) (v := ?_) (by simp only [List.getElem?_toArray, List.getElem?_cons_succ, List.getElem?_cons_zero]; rfl) (by kernel_rfl) (by kernel_rfl) (by kernel_rfl) (by kernel_rfl) (by intro _ _ _ h; exact h) (Or.inl ⟨by rfl, fun w hSw => ?_⟩) hHeld ?_
    rotate_left
    · ((try dsimp only at hSw); go_simp; first | done | with_reducible rfl | rfl)
    try simp only [Act.put, List.setIfInBounds_toArray, List.set_cons_zero, List.set_cons_succ]
    refine AnyT.take (i := 1) (v := ?_) (by simp only [List.getElem?_toArray, List.getElem?_cons_succ, List.getElem?_cons_zero]; rfl) (by kernel_rfl) (by kernel_rfl) (by kernel_rfl) (by kernel_rfl) (by intro _ _ _ h; exact h) (Or.inl ⟨by rfl, fun w hSw => ?_⟩) hHeld ?_
    rotate_left
    · ((try dsimp only at hSw); go_simp; first | done | with_reducible rfl | rfl)
    try simp only [Act.put, List.setIfInBounds_toArray, List.set_cons_zero, List.set_cons_succ]
    refine AnyT.take (i := 2) (v := ?_) (by simp only [List.getElem?_toArray, List.getElem?_cons_succ, List.getElem?_cons_zero]; rfl) (by kernel_rfl) (by kernel_rfl) (by kernel_rfl) (by kernel_rfl) (by intro _ _ _ h; exact h) (Or.inl ⟨by rfl, fun w hSw => ?_⟩) hHeld ?_
    rotate_left
    · ((try dsimp only at hSw); go_simp; first | done | with_reducible rfl | rfl)
    try simp only [Act.put, List.setIfInBounds_toArray, List.set_cons_zero, List.set_cons_succ]
    refine AnyT.take (i := 3) (v := ?_) (by simp only [List.getElem?_toArray, List.getElem?_cons_succ, List.getElem?_cons_zero]; rfl) (by kernel_rfl) (by kernel_rfl) (by kernel_rfl) (by kernel_rfl) (by intro _ _ _ h; exact h) (Or.inl ⟨by rfl, fun w hSw => ?_⟩) hHeld ?_
    rotate_left
    · ((try dsimp only at hSw); go_simp; first | done | with_reducible rfl | rfl)
    try simp only [Act.put, List.setIfInBounds_toArray, List.set_cons_zero, List.set_cons_succ]
    refine AnyT.take (i := 4) (v := ?_) (by simp only [List.getElem?_toArray, List.getElem?_cons_succ, List.getElem?_cons_zero]; rfl) (by kernel_rfl) (by kernel_rfl) (by kernel_rfl) (by kernel_rfl) (by intro _ _ _ h; exact h) (Or.inl ⟨by rfl, fun w hSw => ?_⟩) hHeld ?_
    rotate_left
    · ((try dsimp only at hSw); go_simp; first | done | with_reducible rfl | rfl)
    try simp only [Act.put, List.setIfInBounds_toArray, List.set_cons_zero, List.set_cons_succ]
    refine AnyT.take (i := 5) (v := ?_) (by simp only [List.getElem?_toArray, List.getElem?_cons_succ, List.getElem?_cons_zero]; rfl) (by kernel_rfl) (by kernel_rfl) (by kernel_rfl) (by kernel_rfl) (by intro _ _ _ h; exact h) (Or.inl ⟨by rfl, fun w hSw => ?_⟩) hHeld ?_
    rotate_left
    · ((try dsimp only at hSw); go_simp; first | done | with_reducible rfl | rfl)
    try simp only [Act.put, List.setIfInBounds_toArray, List.set_cons_zero, List.set_cons_succ]
    refine AnyT.take (i := 6) (v := ?_) (by simp only [List.getElem?_toArray, List.getElem?_cons_succ, List.getElem?_cons_zero]; rfl) (by kernel_rfl) (by kernel_rfl) (by kernel_rfl) (by kernel_rfl) (by intro _ _ _ h; exact h) (Or.inl ⟨by rfl, fun w hSw => ?_⟩) hHeld ?_
    rotate_left
    · ((try dsimp only at hSw); go_simp; first | done | with_reducible rfl | rfl)
    try simp only [Act.put, List.setIfInBounds_toArray, List.set_cons_zero, List.set_cons_succ]
    refine AnyT.take (i := 7) (v := ?_) (by simp only [List.getElem?_toArray, List.getElem?_cons_succ, List.getElem?_cons_zero]; rfl) (by kernel_rfl) (by kernel_rfl) (by kernel_rfl) (by kernel_rfl) (by intro _ _ _ h; exact h) (Or.inl ⟨by rfl, fun w hSw => ?_⟩) hHeld ?_
    rotate_left
    · ((try dsimp only at hSw); go_simp; first | done | with_reducible rfl | rfl)
    try simp only [Act.put, List.setIfInBounds_toArray, List.set_cons_zero, List.set_cons_succ]
    refine AnyT.take (i := 8) (v := ?_) (by simp only [List.getElem?_toArray, List.getElem?_cons_succ, List.getElem?_cons_zero]; rfl) (by kernel_rfl) (by kernel_rfl) (by kernel_rfl) (by kernel_rfl) (by intro _ _ _ h; exact h) (Or.inl ⟨by rfl, fun w hSw => ?_⟩) hHeld ?_
    rotate_left
    · ((try dsimp only at hSw); go_simp; first | done | with_reducible rfl | rfl)
    try simp only [Act.put, List.setIfInBounds_toArray, List.set_cons_zero, List.set_cons_succ]
    refine AnyT.ready (rs := [9, 13]) (by kernel_rfl) (by simp) ?_
    refine AllT.cons (by simp only [List.getElem?_toArray, List.getElem?_cons_succ, List.getElem?_cons_zero]; rfl) (fun K hK => ?_) (AllT.cons (by simp only [List.getElem?_toArray, List.getElem?_cons_succ, List.getElem?_cons_zero]; rfl) (fun K hK => ?_) AllT.nil)
    · go_simp
      refine (writeBlock_any wp 7 wp s.off g blk s.out Fb2 G (fp wp 1 [errv] :: fp wp 2 [.iface 112 (.agg #[]), fv, .int .u64 1, .int .i64 bs] :: fp wp 217 [.int .u64 s.pO, .int .u64 s.pL] :: fp wp 220 [.int .i64 s.nAll] :: fp wp 221 scr20 :: fp wp 241 scr30 :: fp wp 271 [.slice cA cl.length cc] :: (fp wp 6 [.int .i64 rs] :: fp wp (6 + 67) [.int .i64 s.nE, .slice pA2 s.prev.length pc2, .slice rA2 r2.length rc2, .slice (some ⟨wp, 241, none⟩) 30 30] :: (Fp2 ++ (Fq2 ++ (F2 ++ (F3 ++ (Fc ++ R))))))) w0 _ HB2.out HG.out HO2.out.drew (by omega) (by omega) (by omega)).mono ?_
      rintro e w3 ⟨rfl, FB', G', hB', hG', hO3⟩
      clear c1 c4 c5 c217 c218 c219 c220 f0 bl
      obtain ⟨c1, c4, c5, c217, c218, c219, c220, f0, bl⟩ := tw_hdr2 (L := FB' ++ G') (hO3.perm (L' := (FB' ++ G') ++ (fp wp 0 [.iface 91 (.pointer (some ⟨g, 0, none⟩))] :: fp wp 219 [.int .u64 ((s.off + blk.length + 5 : Nat) : Int)] :: (fp wp 1 [errv] :: fp wp 2 [.iface 112 (.agg #[]), fv, .int .u64 1, .int .i64 bs] :: fp wp 217 [.int .u64 s.pO, .int .u64 s.pL] :: fp wp 220 [.int .i64 s.nAll] :: fp wp 221 scr20 :: fp wp 241 scr30 :: fp wp 271 [.slice cA cl.length cc] :: (fp wp 6 [.int .i64 rs] :: fp wp (6 + 67) [.int .i64 s.nE, .slice pA2 s.prev.length pc2, .slice rA2 r2.length rc2, .slice (some ⟨wp, 241, none⟩) 30 30] :: (Fp2 ++ (Fq2 ++ (F2 ++ (F3 ++ (Fc ++ R))))))))) (perm_of fun _ _ z => by simp only [List.count_append, List.count_cons, List.cons_append, List.count_nil, List.nil_append, List.append_nil]; omega))
      have HO3 := hid hO3
      have HB' := hid hB'
      have HG' := hid hG'
      clear hO3 hB' hG'
      try go_wp2_with fail
      refine hK.out _ _ ?_ (fun hHeld => ?_)
      · exact c4
      clear hK
      try simp only [Act.put, List.setIfInBounds_toArray, List.set_cons_zero, List.set_cons_succ]
      refine AnyT.take (i := 10) (v := ?_) (by simp only [List.getElem?_toArray, List.getElem?_cons_succ, List.getElem?_cons_zero]; rfl) (by kernel_rfl) (by kernel_rfl) (by kernel_rfl) (by kernel_rfl) (by intro _ _ _ h; exact h) (Or.inl ⟨by rfl, fun w hSw => ?_⟩) hHeld ?_
      rotate_left
      · ((try dsimp only at hSw); go_simp; first | done | with_reducible rfl | rfl)
      try simp only [Act.put, List.setIfInBounds_toArray, List.set_cons_zero, List.set_cons_succ]
      refine AnyT.take (i := 11) (v := ?_) (by simp only [List.getElem?_toArray, List.getElem?_cons_succ, List.getElem?_cons_zero]; rfl) (by kernel_rfl) (by kernel_rfl) (by kernel_rfl) (by kernel_rfl) (by intro _ _ _ h; exact h) (Or.inl ⟨by rfl, fun w hSw => ?_⟩) hHeld ?_
      rotate_left
      · ((try dsimp only at hSw); go_simp; first | done | with_reducible rfl | rfl)
      try simp only [Act.put, List.setIfInBounds_toArray, List.set_cons_zero, List.set_cons_succ]
      refine AnyT.take (i := 12) (v := ?_) (by simp only [List.getElem?_toArray, List.getElem?_cons_succ, List.getElem?_cons_zero]; rfl) (by kernel_rfl) (by kernel_rfl) (by kernel_rfl) (by kernel_rfl) (by intro _ _ _ h; exact h) (Or.inl ⟨by rfl, fun w hSw => ?_⟩) hHeld ?_
      rotate_left
      · ((try dsimp only at hSw); go_simp; first | done | with_reducible rfl | rfl)
      try simp only [Act.put, List.setIfInBounds_toArray, List.set_cons_zero, List.set_cons_succ]
      refine AnyT.ready (rs := [13]) (by kernel_rfl) (by simp) ?_
      refine AllT.cons (by simp only [List.getElem?_toArray, List.getElem?_cons_succ, List.getElem?_cons_zero]; rfl) (fun K hK => ?_) AllT.nil
      go_simp
      obtain ⟨q, hq⟩ : ∃ q, w3.heap.size = q := ⟨_, rfl⟩
      try rw [hq]
      have hO4 := HO3.out.alloc' hq 157 [.int .u64 0, .int .u64 0]
      clear c1 c4 c5 c217 c218 c219 c220 f0 bl hq HO3
      obtain ⟨c1, c4, c5, c217, c218, c219, c220, f0, bl⟩ := tw_hdr2 (L := FB' ++ G') (hO4.drop.perm (L' := (FB' ++ G') ++ (fp wp 0 [.iface 91 (.pointer (some ⟨g, 0, none⟩))] :: fp wp 219 [.int .u64 ((s.off + blk.length + 5 : Nat) : Int)] :: (fp wp 1 [errv] :: fp wp 2 [.iface 112 (.agg #[]), fv, .int .u64 1, .int .i64 bs] :: fp wp 217 [.int .u64 s.pO, .int .u64 s.pL] :: fp wp 220 [.int .i64 s.nAll] :: fp wp 221 scr20 :: fp wp 241 scr30 :: fp wp 271 [.slice cA cl.length cc] :: (fp wp 6 [.int .i64 rs] :: fp wp (6 + 67) [.int .i64 s.nE, .slice pA2 s.prev.length pc2, .slice rA2 r2.length rc2, .slice (some ⟨wp, 241, none⟩) 30 30] :: (Fp2 ++ (Fq2 ++ (F2 ++ (F3 ++ (Fc ++ R))))))))) (perm_of fun _ _ z => by simp only [List.count_append, List.count_cons, List.cons_append, List.count_nil, List.nil_append, List.append_nil]; omega))
      have q0 := hO4.cell 0 rfl 0 rfl (by simp)
      have q1 := hO4.cell 0 rfl 1 rfl (by simp)
      have qf := fun k => hO4.frozen 0 rfl k
      have HO4 := hid hO4
      clear hO4
      refine hK.out _ _ ?_ (fun hHeld => ?_)
      · go_simp
      clear hK
      try simp only [Act.put, List.setIfInBounds_toArray, List.set_cons_zero, List.set_cons_succ]
      refine AnyT.ready (rs := [14]) (by kernel_rfl) (by simp) ?_
      refine AllT.cons (by simp only [List.getElem?_toArray, List.getElem?_cons_succ, List.getElem?_cons_zero]; rfl) (fun K hK => ?_) AllT.nil
      go_simp
      have hO5 : Own (fw q 157 [.int .u64 s.off, .int .u64 blk.length] :: (FB' ++ (G' ++ (fp wp 0 [.iface 91 (.pointer (some ⟨g, 0, none⟩))] :: fp wp 219 [.int .u64 ((s.off + blk.length + 5 : Nat) : Int)] :: (fp wp 1 [errv] :: fp wp 2 [.iface 112 (.agg #[]), fv, .int .u64 1, .int .i64 bs] :: fp wp 217 [.int .u64 s.pO, .int .u64 s.pL] :: fp wp 220 [.int .i64 s.nAll] :: fp wp 221 scr20 :: fp wp 241 scr30 :: fp wp 271 [.slice cA cl.length cc] :: (fp wp 6 [.int .i64 rs] :: fp wp (6 + 67) [.int .i64 s.nE, .slice pA2 s.prev.length pc2, .slice rA2 r2.length rc2, .slice (some ⟨wp, 241, none⟩) 30 30] :: (Fp2 ++ (Fq2 ++ (F2 ++ (F3 ++ (Fc ++ R))))))))))) w0 _ := (HO4.out.set (k := 0) 0 rfl (by simp) (.int .u64 s.off)).set (k := 1) 1 rfl (by simp) (.int .u64 blk.length)
      clear c1 c4 c5 c217 c218 c219 c220 f0 bl
      obtain ⟨c1, c4, c5, c217, c218, c219, c220, f0, bl⟩ := tw_hdr2 (L := FB' ++ G') (hO5.drop.perm (L' := (FB' ++ G') ++ (fp wp 0 [.iface 91 (.pointer (some ⟨g, 0, none⟩))] :: fp wp 219 [.int .u64 ((s.off + blk.length + 5 : Nat) : Int)] :: (fp wp 1 [errv] :: fp wp 2 [.iface 112 (.agg #[]), fv, .int .u64 1, .int .i64 bs] :: fp wp 217 [.int .u64 s.pO, .int .u64 s.pL] :: fp wp 220 [.int .i64 s.nAll] :: fp wp 221 scr20 :: fp wp 241 scr30 :: fp wp 271 [.slice cA cl.length cc] :: (fp wp 6 [.int .i64 rs] :: fp wp (6 + 67) [.int .i64 s.nE, .slice pA2 s.prev.length pc2, .slice rA2 r2.length rc2, .slice (some ⟨wp, 241, none⟩) 30 30] :: (Fp2 ++ (Fq2 ++ (F2 ++ (F3 ++ (Fc ++ R))))))))) (perm_of fun _ _ z => by simp only [List.count_append, List.count_cons, List.cons_append, List.count_nil, List.nil_append, List.append_nil]; omega))
      have HO5 := hid hO5
      clear hO5
      refine hK.out _ _ ?_ (fun hHeld => ?_)
      · exact c4
      clear hK
      try simp only [Act.put, List.setIfInBounds_toArray, List.set_cons_zero, List.set_cons_succ]
      refine AnyT.take (i := 15) (v := ?_) (by simp only [List.getElem?_toArray, List.getElem?_cons_succ, List.getElem?_cons_zero]; rfl) (by kernel_rfl) (by kernel_rfl) (by kernel_rfl) (by kernel_rfl) (by intro _ _ _ h; exact h) (Or.inl ⟨by rfl, fun w hSw => ?_⟩) hHeld ?_
      rotate_left
      · ((try dsimp only at hSw); go_simp; first | done | with_reducible rfl | rfl)
      try simp only [Act.put, List.setIfInBounds_toArray, List.set_cons_zero, List.set_cons_succ]
      refine AnyT.done (by kernel_rfl) ?_ _
      go_wp2_with fail
      go_meet
      first
        | exact ⟨rfl, q, FB', G', rfl, HB'.out, HG'.out, HO5.out⟩
        | exact ⟨rfl, q, FB', G', rfl, HB'.out, HG'.out, HO5.out.drew⟩
    · go_simp
      obtain ⟨q, hq⟩ : ∃ q, w1.heap.size = q := ⟨_, rfl⟩
      try rw [hq]
      have hO4 := HO2.out.alloc' hq 157 [.int .u64 0, .int .u64 0]
      clear c1 c4 c5 c217 c218 c219 c220 f0 bl hq HO2
      obtain ⟨c1, c4, c5, c217, c218, c219, c220, f0, bl⟩ := tw_hdr2 (L := Fb2 ++ G) (hO4.drop.perm (L' := (Fb2 ++ G) ++ (fp wp 0 [.iface 91 (.pointer (some ⟨g, 0, none⟩))] :: fp wp 219 [.int .u64 s.off] :: (fp wp 1 [errv] :: fp wp 2 [.iface 112 (.agg #[]), fv, .int .u64 1, .int .i64 bs] :: fp wp 217 [.int .u64 s.pO, .int .u64 s.pL] :: fp wp 220 [.int .i64 s.nAll] :: fp wp 221 scr20 :: fp wp 241 scr30 :: fp wp 271 [.slice cA cl.length cc] :: (fp wp 6 [.int .i64 rs] :: fp wp (6 + 67) [.int .i64 s.nE, .slice pA2 s.prev.length pc2, .slice rA2 r2.length rc2, .slice (some ⟨wp, 241, none⟩) 30 30] :: (Fp2 ++ (Fq2 ++ (F2 ++ (F3 ++ (Fc ++ R))))))))) (perm_of fun _ _ z => by simp only [List.count_append, List.count_cons, List.cons_append, List.count_nil, List.nil_append, List.append_nil]; omega))
      have HO4 := hid (hO4.drew.perm (L' := Fb2 ++ (G ++ (fp wp 0 [.iface 91 (.pointer (some ⟨g, 0, none⟩))] :: fp wp 219 [.int .u64 s.off] :: (fw q 157 [.int .u64 0, .int .u64 0] :: fp wp 1 [errv] :: fp wp 2 [.iface 112 (.agg #[]), fv, .int .u64 1, .int .i64 bs] :: fp wp 217 [.int .u64 s.pO, .int .u64 s.pL] :: fp wp 220 [.int .i64 s.nAll] :: fp wp 221 scr20 :: fp wp 241 scr30 :: fp wp 271 [.slice cA cl.length cc] :: (fp wp 6 [.int .i64 rs] :: fp wp (6 + 67) [.int .i64 s.nE, .slice pA2 s.prev.length pc2, .slice rA2 r2.length rc2, .slice (some ⟨wp, 241, none⟩) 30 30] :: (Fp2 ++ (Fq2 ++ (F2 ++ (F3 ++ (Fc ++ R)))))))))) (perm_of fun _ _ z => by simp only [List.count_append, List.count_cons, List.cons_append, List.count_nil, List.nil_append, List.append_nil]; omega))
      clear hO4
      refine hK.out _ _ ?_ (fun hHeld => ?_)
      · exact c4
      clear hK
      try simp only [Act.put, List.setIfInBounds_toArray, List.set_cons_zero, List.set_cons_succ]
      refine AnyT.ready (rs := [9]) (by kernel_rfl) (by simp) ?_
      refine AllT.cons (by simp only [List.getElem?_toArray, List.getElem?_cons_succ, List.getElem?_cons_zero]; rfl) (fun K hK => ?_) AllT.nil
      go_simp
      refine (writeBlock_any wp 7 wp s.off g blk s.out Fb2 G (fw q 157 [.int .u64 0, .int .u64 0] :: fp wp 1 [errv] :: fp wp 2 [.iface 112 (.agg #[]), fv, .int .u64 1, .int .i64 bs] :: fp wp 217 [.int .u64 s.pO, .int .u64 s.pL] :: fp wp 220 [.int .i64 s.nAll] :: fp wp 221 scr20 :: fp wp 241 scr30 :: fp wp 271 [.slice cA cl.length cc] :: (fp wp 6 [.int .i64 rs] :: fp wp (6 + 67) [.int .i64 s.nE, .slice pA2 s.prev.length pc2, .slice rA2 r2.length rc2, .slice (some ⟨wp, 241, none⟩) 30 30] :: (Fp2 ++ (Fq2 ++ (F2 ++ (F3 ++ (Fc ++ R))))))) w0 _ HB2.out HG.out HO4.out (by omega) (by omega) (by omega)).mono ?_
      rintro e w3 ⟨rfl, FB', G', hB', hG', hO3⟩
      clear c1 c4 c5 c217 c218 c219 c220 f0 bl HO4
      have hO4 : Own (fw q 157 [.int .u64 0, .int .u64 0] :: (FB' ++ (G' ++ (fp wp 0 [.iface 91 (.pointer (some ⟨g, 0, none⟩))] :: fp wp 219 [.int .u64 ((s.off + blk.length + 5 : Nat) : Int)] :: (fp wp 1 [errv] :: fp wp 2 [.iface 112 (.agg #[]), fv, .int .u64 1, .int .i64 bs] :: fp wp 217 [.int .u64 s.pO, .int .u64 s.pL] :: fp wp 220 [.int .i64 s.nAll] :: fp wp 221 scr20 :: fp wp 241 scr30 :: fp wp 271 [.slice cA cl.length cc] :: (fp wp 6 [.int .i64 rs] :: fp wp (6 + 67) [.int .i64 s.nE, .slice pA2 s.prev.length pc2, .slice rA2 r2.length rc2, .slice (some ⟨wp, 241, none⟩) 30 30] :: (Fp2 ++ (Fq2 ++ (F2 ++ (F3 ++ (Fc ++ R))))))))))) w0 w3 := hO3.perm (perm_of fun _ _ z => by simp only [List.count_append, List.count_cons, List.cons_append, List.count_nil, List.nil_append, List.append_nil]; omega)
      obtain ⟨c1, c4, c5, c217, c218, c219, c220, f0, bl⟩ := tw_hdr2 (L := FB' ++ G') (hO4.drop.perm (L' := (FB' ++ G') ++ (fp wp 0 [.iface 91 (.pointer (some ⟨g, 0, none⟩))] :: fp wp 219 [.int .u64 ((s.off + blk.length + 5 : Nat) : Int)] :: (fp wp 1 [errv] :: fp wp 2 [.iface 112 (.agg #[]), fv, .int .u64 1, .int .i64 bs] :: fp wp 217 [.int .u64 s.pO, .int .u64 s.pL] :: fp wp 220 [.int .i64 s.nAll] :: fp wp 221 scr20 :: fp wp 241 scr30 :: fp wp 271 [.slice cA cl.length cc] :: (fp wp 6 [.int .i64 rs] :: fp wp (6 + 67) [.int .i64 s.nE, .slice pA2 s.prev.length pc2, .slice rA2 r2.length rc2, .slice (some ⟨wp, 241, none⟩) 30 30] :: (Fp2 ++ (Fq2 ++ (F2 ++ (F3 ++ (Fc ++ R))))))))) (perm_of fun _ _ z => by simp only [List.count_append, List.count_cons, List.cons_append, List.count_nil, List.nil_append, List.append_nil]; omega))
      have q0 := hO4.cell 0 rfl 0 rfl (by simp)
      have q1 := hO4.cell 0 rfl 1 rfl (by simp)
      have qf := fun k => hO4.frozen 0 rfl k
      have HO4 := hid hO4
      have HB' := hid hB'
      have HG' := hid hG'
      clear hO3 hO4 hB' hG'
      try go_wp2_with fail
      refine hK.out _ _ ?_ (fun hHeld => ?_)
      · exact c4
      clear hK
      try simp only [Act.put, List.setIfInBounds_toArray, List.set_cons_zero, List.set_cons_succ]
      refine AnyT.take (i := 10) (v := ?_) (by simp only [List.getElem?_toArray, List.getElem?_cons_succ, List.getElem?_cons_zero]; rfl) (by kernel_rfl) (by kernel_rfl) (by kernel_rfl) (by kernel_rfl) (by intro _ _ _ h; exact h) (Or.inl ⟨by rfl, fun w hSw => ?_⟩) hHeld ?_
      rotate_left
      · ((try dsimp only at hSw); go_simp; first | done | with_reducible rfl | rfl)
      try simp only [Act.put, List.setIfInBounds_toArray, List.set_cons_zero, List.set_cons_succ]
      refine AnyT.take (i := 11) (v := ?_) (by simp only [List.getElem?_toArray, List.getElem?_cons_succ, List.getElem?_cons_zero]; rfl) (by kernel_rfl) (by kernel_rfl) (by kernel_rfl) (by kernel_rfl) (by intro _ _ _ h; exact h) (Or.inl ⟨by rfl, fun w hSw => ?_⟩) hHeld ?_
      rotate_left
      · ((try dsimp only at hSw); go_simp; first | done | with_reducible rfl | rfl)
      try simp only [Act.put, List.setIfInBounds_toArray, List.set_cons_zero, List.set_cons_succ]
      refine AnyT.take (i := 12) (v := ?_) (by simp only [List.getElem?_toArray, List.getElem?_cons_succ, List.getElem?_cons_zero]; rfl) (by kernel_rfl) (by kernel_rfl) (by kernel_rfl) (by kernel_rfl) (by intro _ _ _ h; exact h) (Or.inl ⟨by rfl, fun w hSw => ?_⟩) hHeld ?_
      rotate_left
      · ((try dsimp only at hSw); go_simp; first | done | with_reducible rfl | rfl)
      try simp only [Act.put, List.setIfInBounds_toArray, List.set_cons_zero, List.set_cons_succ]
      refine AnyT.ready (rs := [14]) (by kernel_rfl) (by simp) ?_
      refine AllT.cons (by simp only [List.getElem?_toArray, List.getElem?_cons_succ, List.getElem?_cons_zero]; rfl) (fun K hK => ?_) AllT.nil
      go_simp
      have hO5 : Own (fw q 157 [.int .u64 s.off, .int .u64 blk.length] :: (FB' ++ (G' ++ (fp wp 0 [.iface 91 (.pointer (some ⟨g, 0, none⟩))] :: fp wp 219 [.int .u64 ((s.off + blk.length + 5 : Nat) : Int)] :: (fp wp 1 [errv] :: fp wp 2 [.iface 112 (.agg #[]), fv, .int .u64 1, .int .i64 bs] :: fp wp 217 [.int .u64 s.pO, .int .u64 s.pL] :: fp wp 220 [.int .i64 s.nAll] :: fp wp 221 scr20 :: fp wp 241 scr30 :: fp wp 271 [.slice cA cl.length cc] :: (fp wp 6 [.int .i64 rs] :: fp wp (6 + 67) [.int .i64 s.nE, .slice pA2 s.prev.length pc2, .slice rA2 r2.length rc2, .slice (some ⟨wp, 241, none⟩) 30 30] :: (Fp2 ++ (Fq2 ++ (F2 ++ (F3 ++ (Fc ++ R))))))))))) w0 _ := (HO4.out.set (k := 0) 0 rfl (by simp) (.int .u64 s.off)).set (k := 1) 1 rfl (by simp) (.int .u64 blk.length)
      clear c1 c4 c5 c217 c218 c219 c220 f0 bl
      obtain ⟨c1, c4, c5, c217, c218, c219, c220, f0, bl⟩ := tw_hdr2 (L := FB' ++ G') (hO5.drop.perm (L' := (FB' ++ G') ++ (fp wp 0 [.iface 91 (.pointer (some ⟨g, 0, none⟩))] :: fp wp 219 [.int .u64 ((s.off + blk.length + 5 : Nat) : Int)] :: (fp wp 1 [errv] :: fp wp 2 [.iface 112 (.agg #[]), fv, .int .u64 1, .int .i64 bs] :: fp wp 217 [.int .u64 s.pO, .int .u64 s.pL] :: fp wp 220 [.int .i64 s.nAll] :: fp wp 221 scr20 :: fp wp 241 scr30 :: fp wp 271 [.slice cA cl.length cc] :: (fp wp 6 [.int .i64 rs] :: fp wp (6 + 67) [.int .i64 s.nE, .slice pA2 s.prev.length pc2, .slice rA2 r2.length rc2, .slice (some ⟨wp, 241, none⟩) 30 30] :: (Fp2 ++ (Fq2 ++ (F2 ++ (F3 ++ (Fc ++ R))))))))) (perm_of fun _ _ z => by simp only [List.count_append, List.count_cons, List.cons_append, List.count_nil, List.nil_append, List.append_nil]; omega))
      have HO5 := hid hO5
      clear hO5
      refine hK.out _ _ ?_ (fun hHeld => ?_)
      · exact c4
      clear hK
      try simp only [Act.put, List.setIfInBounds_toArray, List.set_cons_zero, List.set_cons_succ]
      refine AnyT.take (i := 15) (v := ?_) (by simp only [List.getElem?_toArray, List.getElem?_cons_succ, List.getElem?_cons_zero]; rfl) (by kernel_rfl) (by kernel_rfl) (by kernel_rfl) (by kernel_rfl) (by intro _ _ _ h; exact h) (Or.inl ⟨by rfl, fun w hSw => ?_⟩) hHeld ?_
      rotate_left
      · ((try dsimp only at hSw); go_simp; first | done | with_reducible rfl | rfl)
      try simp only [Act.put, List.setIfInBounds_toArray, List.set_cons_zero, List.set_cons_succ]
      refine AnyT.done (by kernel_rfl) ?_ _
      go_wp2_with fail
      go_meet
      first
        | exact ⟨rfl, q, FB', G', rfl, HB'.out, HG'.out, HO5.out⟩
        | exact ⟨rfl, q, FB', G', rfl, HB'.out, HG'.out, HO5.out.drew⟩
  case rest =>
    obtain ⟨rfl, q, FB', G', rfl, hB', hG', hO⟩ := hcut
    clear c1 c4 c5 c217 c218 c219 c220 f0 bl
    obtain ⟨c1, c4, c5, c217, c218, c219, c220, f0, bl⟩ := tw_hdr2 (L := FB' ++ G') (hO.drop.perm (L' := (FB' ++ G') ++ (fp wp 0 [.iface 91 (.pointer (some ⟨g, 0, none⟩))] :: fp wp 219 [.int .u64 ((s.off + blk.length + 5 : Nat) : Int)] :: (fp wp 1 [errv] :: fp wp 2 [.iface 112 (.agg #[]), fv, .int .u64 1, .int .i64 bs] :: fp wp 217 [.int .u64 s.pO, .int .u64 s.pL] :: fp wp 220 [.int .i64 s.nAll] :: fp wp 221 scr20 :: fp wp 241 scr30 :: fp wp 271 [.slice cA cl.length cc] :: (fp wp 6 [.int .i64 rs] :: fp wp (6 + 67) [.int .i64 s.nE, .slice pA2 s.prev.length pc2, .slice rA2 r2.length rc2, .slice (some ⟨wp, 241, none⟩) 30 30] :: (Fp2 ++ (Fq2 ++ (F2 ++ (F3 ++ (Fc ++ R))))))))) (perm_of fun _ _ z => by simp only [List.count_append, List.count_cons, List.cons_append, List.count_nil, List.nil_append, List.append_nil]; omega))
    have q0 := hO.cell 0 rfl 0 rfl (by simp)
    have q1 := hO.cell 0 rfl 1 rfl (by simp)
    have h1 : Own (fp wp 217 [.int .u64 s.pO, .int .u64 s.pL] :: fp wp 0 [.iface 91 (.pointer (some ⟨g, 0, none⟩))] :: fp wp 219 [.int .u64 ((s.off + blk.length + 5 : Nat) : Int)] :: fp wp 1 [errv] :: fp wp 2 [.iface 112 (.agg #[]), fv, .int .u64 1, .int .i64 bs] :: fp wp 220 [.int .i64 s.nAll] :: fp wp 221 scr20 :: fp wp 241 scr30 :: fp wp 271 [.slice cA cl.length cc] :: fp wp 6 [.int .i64 rs] :: fp wp (6 + 67) [.int .i64 s.nE, .slice pA2 s.prev.length pc2, .slice rA2 r2.length rc2, .slice (some ⟨wp, 241, none⟩) 30 30] :: (Fp2 ++ (Fq2 ++ (FB' ++ (G' ++ (F2 ++ (F3 ++ (Fc ++ R)))))))) w0 wc := hO.drop.perm (perm_of fun _ _ z => by simp only [List.count_append, List.count_cons, List.cons_append, List.count_nil, List.nil_append, List.append_nil]; omega)
    have h2 : Own (fp wp 217 [.int .u64 s.off, .int .u64 blk.length] :: fp wp 0 [.iface 91 (.pointer (some ⟨g, 0, none⟩))] :: fp wp 219 [.int .u64 ((s.off + blk.length + 5 : Nat) : Int)] :: fp wp 1 [errv] :: fp wp 2 [.iface 112 (.agg #[]), fv, .int .u64 1, .int .i64 bs] :: fp wp 220 [.int .i64 s.nAll] :: fp wp 221 scr20 :: fp wp 241 scr30 :: fp wp 271 [.slice cA cl.length cc] :: fp wp 6 [.int .i64 rs] :: fp wp (6 + 67) [.int .i64 s.nE, .slice pA2 s.prev.length pc2, .slice rA2 r2.length rc2, .slice (some ⟨wp, 241, none⟩) 30 30] :: (Fp2 ++ (Fq2 ++ (FB' ++ (G' ++ (F2 ++ (F3 ++ (Fc ++ R)))))))) w0 ((wc.setCell ⟨wp, 217, none⟩ (.int .u64 s.off)).setCell ⟨wp, 218, none⟩ (.int .u64 blk.length)) := (h1.set (k := 217) 0 rfl (by simp) (.int .u64 s.off)).set (k := 218) 1 rfl (by simp) (.int .u64 blk.length)
    have HO2 := hid (h2.perm (L' := (fp wp 6 [.int .i64 rs] :: fp wp (6 + 67) [.int .i64 s.nE, .slice pA2 s.prev.length pc2, .slice rA2 r2.length rc2, .slice (some ⟨wp, 241, none⟩) 30 30] :: (FB' ++ (Fp2 ++ Fq2))) ++ (fp wp 0 [.iface 91 (.pointer (some ⟨g, 0, none⟩))] :: fp wp 219 [.int .u64 ((s.off + blk.length + 5 : Nat) : Int)] :: (fp wp 1 [errv] :: fp wp 2 [.iface 112 (.agg #[]), fv, .int .u64 1, .int .i64 bs] :: fp wp 217 [.int .u64 s.off, .int .u64 blk.length] :: fp wp 220 [.int .i64 s.nAll] :: fp wp 221 scr20 :: fp wp 241 scr30 :: fp wp 271 [.slice cA cl.length cc] :: (G' ++ (F2 ++ (F3 ++ (Fc ++ R))))))) (perm_of fun _ _ z => by simp only [List.count_append, List.count_cons, List.cons_append, List.count_nil, List.nil_append, List.append_nil]; omega))
    have HB' := hid hB'
    have HG' := hid hG'
    clear hB' hG' hO h1 h2
    go_wp2_with fail
    refine (bw_reset wp 6 rs s.nE wp 241 (blk ++ trail blk) s.prev r2 _ (fp wp 0 [.iface 91 (.pointer (some ⟨g, 0, none⟩))] :: fp wp 219 [.int .u64 ((s.off + blk.length + 5 : Nat) : Int)] :: (fp wp 1 [errv] :: fp wp 2 [.iface 112 (.agg #[]), fv, .int .u64 1, .int .i64 bs] :: fp wp 217 [.int .u64 s.off, .int .u64 blk.length] :: fp wp 220 [.int .i64 s.nAll] :: fp wp 221 scr20 :: fp wp 241 scr30 :: fp wp 271 [.slice cA cl.length cc] :: (G' ++ (F2 ++ (F3 ++ (Fc ++ R)))))) w0 _ (BW.of HB'.out HP2.out HQ2.out) HO2.out (by rw [List.length_append, trail_length]; omega)).mono ?_
    rintro e w4 ⟨rfl, FX, ⟨pA3, pc3, rA3, rc3, Fb3, Fp3, Fq3, hB3, hP3, hQ3, rfl⟩, hO3⟩
    have hO4 : Own (F3 ++ (fp wp 0 [.iface 91 (.pointer (some ⟨g, 0, none⟩))] :: fp wp 219 [.int .u64 ((s.off + blk.length + 5 : Nat) : Int)] :: (fp wp 1 [errv] :: fp wp 2 [.iface 112 (.agg #[]), fv, .int .u64 1, .int .i64 bs] :: fp wp 217 [.int .u64 s.off, .int .u64 blk.length] :: fp wp 220 [.int .i64 s.nAll] :: fp wp 221 scr20 :: fp wp 241 scr30 :: fp wp 271 [.slice cA cl.length cc] :: (fp wp 6 [.int .i64 rs] :: fp wp (6 + 67) [.int .i64 0, .slice pA3 s.prev.length pc3, .slice rA3 0 rc3, .slice (some ⟨wp, 241, none⟩) 30 30] :: (Fb3 ++ (Fp3 ++ (Fq3 ++ (G' ++ (F2 ++ (Fc ++ R)))))))))) w0 w4 :=
      Own.perm (L := (fp wp 6 [.int .i64 rs] :: fp wp (6 + 67) [.int .i64 0, .slice pA3 s.prev.length pc3, .slice rA3 0 rc3, .slice (some ⟨wp, 241, none⟩) 30 30] :: (Fb3 ++ (Fp3 ++ Fq3))) ++ (fp wp 0 [.iface 91 (.pointer (some ⟨g, 0, none⟩))] :: fp wp 219 [.int .u64 ((s.off + blk.length + 5 : Nat) : Int)] :: (fp wp 1 [errv] :: fp wp 2 [.iface 112 (.agg #[]), fv, .int .u64 1, .int .i64 bs] :: fp wp 217 [.int .u64 s.off, .int .u64 blk.length] :: fp wp 220 [.int .i64 s.nAll] :: fp wp 221 scr20 :: fp wp 241 scr30 :: fp wp 271 [.slice cA cl.length cc] :: (G' ++ (F2 ++ (F3 ++ (Fc ++ R))))))) hO3 (perm_of fun _ _ z => by simp only [List.count_append, List.count_cons, List.cons_append, List.count_nil, List.nil_append, List.append_nil]; omega)
    clear c1 c4 c5 c217 c218 c219 c220 f0 bl q0 q1
    obtain ⟨c1, c4, c5, c217, c218, c219, c220, f0, bl⟩ := tw_hdr2 (L := F3) hO4
    have HO4 := hid hO4
    have HB3 := hid hB3
    have HP3 := hid hP3
    have HQ3 := hid hQ3
    clear hO3 hO4 hB3 hP3 hQ3 HO2
    go_wp2_with fail
    refine AnyT.start (S := fun w' => w'.cell? ⟨wp, 219, none⟩ = some (.int .u64 ((s.off + blk.length + 5 : Nat) : Int))) (T := []) (by kernel_rfl) (c219) (fun hHeld => ?_)
    refine AnyT.take (i := 0) (v := ?_) (by simp only [List.getElem?_toArray, List.getElem?_cons_succ, List.getElem?_cons_zero]; rfl) (by kernel_rfl) (by kernel_rfl) (by kernel_rfl) (by kernel_rfl) (by intro _ _ _ h; exact h) (Or.inl ⟨by rfl, fun w hSw => ?_⟩) hHeld ?_
    rotate_left
    · ((try dsimp only at hSw); go_simp; first | done | with_reducible rfl | rfl)
    try simp only [Act.put, List.setIfInBounds_toArray, List.set_cons_zero, List.set_cons_succ]
    refine AnyT.take (i := 1) (v := ?_) (by simp only [List.getElem?_toArray, List.getElem?_cons_succ, List.getElem?_cons_zero]; rfl) (by kernel_rfl) (by kernel_rfl) (by kernel_rfl) (by kernel_rfl) (by intro _ _ _ h; exact h) (Or.inl ⟨by rfl, fun w hSw => ?_⟩) hHeld ?_
    rotate_left
    · ((try dsimp only at hSw); go_simp; first | done | with_reducible rfl | rfl)
    try simp only [Act.put, List.setIfInBounds_toArray, List.set_cons_zero, List.set_cons_succ]
    refine AnyT.take (i := 2) (v := ?_) (by simp only [List.getElem?_toArray, List.getElem?_cons_succ, List.getElem?_cons_zero]; rfl) (by kernel_rfl) (by kernel_rfl) (by kernel_rfl) (by kernel_rfl) (by intro _ _ _ h; exact h) (Or.inl ⟨by rfl, fun w hSw => ?_⟩) hHeld ?_
    rotate_left
    · ((try dsimp only at hSw); go_simp; first | done | with_reducible rfl | rfl)
    try simp only [Act.put, List.setIfInBounds_toArray, List.set_cons_zero, List.set_cons_succ]
    refine AnyT.take (i := 3) (v := ?_) (by simp only [List.getElem?_toArray, List.getElem?_cons_succ, List.getElem?_cons_zero]; rfl) (by kernel_rfl) (by kernel_rfl) (by kernel_rfl) (by kernel_rfl) (by intro _ _ _ h; exact h) (Or.inl ⟨by rfl, fun w hSw => ?_⟩) hHeld ?_
    rotate_left
    · ((try dsimp only at hSw); go_simp; first | done | with_reducible rfl | rfl)
    try simp only [Act.put, List.setIfInBounds_toArray, List.set_cons_zero, List.set_cons_succ]
    refine AnyT.take (i := 4) (v := ?_) (by simp only [List.getElem?_toArray, List.getElem?_cons_succ, List.getElem?_cons_zero]; rfl) (by kernel_rfl) (by kernel_rfl) (by kernel_rfl) (by kernel_rfl) (by intro _ _ _ h; exact h) (Or.inl ⟨by rfl, fun w hSw => ?_⟩) hHeld ?_
    rotate_left
    · ((try dsimp only at hSw); go_simp; first | done | with_reducible rfl | rfl)
    try simp only [Act.put, List.setIfInBounds_toArray, List.set_cons_zero, List.set_cons_succ]
    refine AnyT.take (i := 5) (v := ?_) (by simp only [List.getElem?_toArray, List.getElem?_cons_succ, List.getElem?_cons_zero]; rfl) (by kernel_rfl) (by kernel_rfl) (by kernel_rfl) (by kernel_rfl) (by intro _ _ _ h; exact h) (Or.inl ⟨by rfl, fun w hSw => ?_⟩) hHeld ?_
    rotate_left
    · ((try dsimp only at hSw); go_simp; first | done | with_reducible rfl | rfl)
    try simp only [Act.put, List.setIfInBounds_toArray, List.set_cons_zero, List.set_cons_succ]
    refine AnyT.take (i := 6) (v := ?_) (by simp only [List.getElem?_toArray, List.getElem?_cons_succ, List.getElem?_cons_zero]; rfl) (by kernel_rfl) (by kernel_rfl) (by kernel_rfl) (by kernel_rfl) (by intro _ _ _ h; exact h) (Or.inl ⟨by rfl, fun w hSw => ?_⟩) hHeld ?_
    rotate_left
    · ((try dsimp only at hSw); go_simp; first | done | with_reducible rfl | rfl)
    try simp only [Act.put, List.setIfInBounds_toArray, List.set_cons_zero, List.set_cons_succ]
    refine AnyT.ready (rs := [7]) (by kernel_rfl) (by simp) ?_
    refine AllT.cons (by simp only [List.getElem?_toArray, List.getElem?_cons_succ, List.getElem?_cons_zero]; rfl) (fun K hK => ?_) AllT.nil
    go_simp
    obtain ⟨off2, hoff2⟩ : ∃ off2, s.off + blk.length + 5 = off2 := ⟨_, rfl⟩
    have HOF := hid hoff2
    have hq2 := HOQ.out
    rw [hoff2] at hq2 c219 HO4
    have HE := hid (show (((s.off : Int) + (blk.length : Int) + 5)) = (off2 : Int) by omega)
    try rw [hoff2]
    try rw [HE.out]
    clear hoff2
    refine (fwb_flush wp 148 nb B Q off2 on F3 _ w0 _ H3.out HO4.out.drew hB (by omega) hq2 (by have := HOF.out; omega)).mono ?_
    rintro e w5 ⟨rfl, F3', hF3', hO5⟩
    clear c1 c4 c5 c217 c218 c219 c220 f0 bl
    obtain ⟨c1, c4, c5, c217, c218, c219, c220, f0, bl⟩ := tw_hdr2 (L := F3') hO5
    have HO5 := hid hO5
    have HF3 := hid hF3'
    clear hO5 hF3'
    try go_wp2_with fail
    refine hK.out _ _ ?_ (fun hHeld => ?_)
    · first | exact c219 | (rw [HOF.out]; exact c219)
    clear hK
    try simp only [Act.put, List.setIfInBounds_toArray, List.set_cons_zero, List.set_cons_succ]
    refine AnyT.done (by kernel_rfl) ?_ _
    go_wp2_with fail
    go_ret
    refine ⟨rfl, ?_⟩
    have hts : tFin s = { s with out := s.out ++ (blk ++ trail blk), pO := s.off, pL := blk.length, off := off2, nE := 0, data := [], rst := [] } := by
      unfold tFin; rw [HBLK.out, HOF.out]
    rw [hts]
    refine ⟨_, ⟨fv, cA, pA3, rA3, cc, pc3, rc3, cl, scr20, scr30, Fb3, Fp3, Fq3, F2, F3', G', Fc, HFV.out, HB3.out, HP3.out, HQ3.out, H2.out, HF3.out, HG'.out, hs20, hs30, HC.out, rfl⟩, ?_⟩
    have h5 := HO5.out
    try rw [HOF.out] at h5
    exact Own.perm (L' := (fp wp 0 [.iface 91 (.pointer (some ⟨g, 0, none⟩))] :: fp wp 1 [errv] :: fp wp 2 [.iface 112 (.agg #[]), fv, .int .u64 1, .int .i64 bs] :: fp wp 217 [.int .u64 s.off, .int .u64 blk.length] :: fp wp 219 [.int .u64 (off2 : Int)] :: fp wp 220 [.int .i64 s.nAll] :: fp wp 221 scr20 :: fp wp 241 scr30 :: fp wp 271 [.slice cA cl.length cc] :: fp wp 6 [.int .i64 rs] :: fp wp (6 + 67) [.int .i64 0, .slice pA3 s.prev.length pc3, .slice rA3 0 rc3, .slice (some ⟨wp, 241, none⟩) 30 30] :: (Fb3 ++ (Fp3 ++ (Fq3 ++ (F2 ++ (F3' ++ (G' ++ Fc))))))) ++ R) h5 (perm_of fun _ _ z => by simp only [List.count_append, List.count_cons, List.cons_append, List.count_nil, List.nil_append, List.append_nil]; omega)
end Go.Proofs.YtloflmcgbbbnjaaDoor
namespace Go.Proofs.YtloflmcgbbbnjaaDoor
open Go.RowKit Plain
set_option linter.all false

theorem WS.hdr {wp bs rs g nb B Q : Nat} {on : Bool} {errv : Value} {s : TS} {F R : List Fr} {w0 w : World} (h : WS wp bs rs g on nb B Q errv s F) (hO : Own (F ++ R) w0 w) :
    ∃ pA pc Fp, w.cell? ⟨wp, 1, none⟩ = some errv ∧ w.cell? ⟨wp, 2, none⟩ = some (.iface 112 (.agg #[])) ∧ w.cell? ⟨wp, 4, none⟩ = some (.int .u64 1) ∧ w.cell? ⟨wp, 5, none⟩ = some (.int .i64 bs) ∧ w.cell? ⟨wp, 217, none⟩ = some (.int .u64 s.pO) ∧ w.cell? ⟨wp, 218, none⟩ = some (.int .u64 s.pL) ∧ w.cell? ⟨wp, 219, none⟩ = some (.int .u64 s.off) ∧ w.cell? ⟨wp, 220, none⟩ = some (.int .i64 s.nAll) ∧
      w.cell? ⟨wp, 73, none⟩ = some (.int .i64 s.nE) ∧ w.cell? ⟨wp, 74, none⟩ = some (.slice pA s.prev.length pc) ∧ (∀ k, w.frozen? ⟨wp, k, none⟩ = false) ∧ wp < w.heap.size ∧ Row 5 1 pA s.prev.length pc (bc s.prev) Fp ∧ (∀ x ∈ Fp, x ∈ F) := by
  obtain ⟨fv, cA, pA, rA, cc, pc, rc, cl, scr20, scr30, Fb, Fp, Fq, F2, F3, G, Fc, hfv, hB, hP, hQ, h2, h3, hG, hs20, hs30, hC, rfl⟩ := h
  obtain ⟨c0, c1, c2, c3, c4, c5, c217, c218, c219, c220, c271, c73, c74, f0, bl⟩ := tw_hdr hO
  exact ⟨pA, pc, Fp, c1, c2, c4, c5, c217, c218, c219, c220, c73, c74, f0, bl, hP, fun x hx => by simp [hx]⟩
theorem errNew (x : _) (R : List Fr) (w0 w : World) (hO : Own R w0 w) :
    Calls Tryd.prog 86 #[.string x] w fun e w' => (∃ q, e = .returned (.iface 241 (.pointer (some ⟨q, 0, none⟩)))) ∧ Own R w0 w' := by
  go_enter Tryd.func86, Tryd.ntmps86
  go_wp2_with fail
  go_ret
  exact ⟨⟨_, rfl⟩, hO.skip _⟩
/-- Behind one more pair. -/
def tPut (rs : Nat) (s : TS) (k v : List UInt8) : TS := { s with data := s.data ++ ent (bwN rs s.nE s.prev k) k v, rst := bwR rs s.nE s.data s.rst, prev := k, nE := s.nE + 1 }
def tLen (s : TS) : Nat := s.data.length + 4 * (if s.rst.length = 0 then 1 else s.rst.length) + 4
def tEnd (bs : Nat) (s : TS) : TS := if bs ≤ tLen s then tFin s else s
def tApp (bs rs : Nat) (s : TS) (k v : List UInt8) : TS := { tEnd bs (tPut rs (tFlush s k) k v) with nAll := s.nAll + 1 }
theorem WS.put {wp bs rs g nb B Q : Nat} {on : Bool} {errv : Value} {s : TS} {F : List Fr} (h : WS wp bs rs g on nb B Q errv s F) :
    ∃ FD scr30 L, F.Perm (FD ++ (fp wp 241 scr30 :: L)) ∧ scr30.length = 30 ∧ BW wp 6 rs s.nE s.data s.prev s.rst wp 241 FD ∧
      ∀ nE data prev rst FD' scr', BW wp 6 rs nE data prev rst wp 241 FD' → scr'.length = 30 → ∃ F', WS wp bs rs g on nb B Q errv { s with nE := nE, data := data, prev := prev, rst := rst } F' ∧ (FD' ++ (fp wp 241 scr' :: L)).Perm F' := by
  obtain ⟨fv, cA, pA, rA, cc, pc, rc, cl, scr20, scr30, Fb, Fp, Fq, F2, F3, G, Fc, hfv, hB, hP, hQ, h2, h3, hG, hs20, hs30, hC, rfl⟩ := h
  refine ⟨_, scr30, fp wp 0 [.iface 91 (.pointer (some ⟨g, 0, none⟩))] :: fp wp 1 [errv] :: fp wp 2 [.iface 112 (.agg #[]), fv, .int .u64 1, .int .i64 bs] :: fp wp 217 [.int .u64 s.pO, .int .u64 s.pL] :: fp wp 219 [.int .u64 s.off] :: fp wp 220 [.int .i64 s.nAll] :: fp wp 221 scr20 :: fp wp 271 [.slice cA cl.length cc] :: (F2 ++ (F3 ++ (G ++ Fc))), ?_, hs30, BW.of hB hP hQ, ?_⟩
  · exact (perm_of fun _ _ z => by simp only [List.count_append, List.count_cons, List.cons_append, List.count_nil, List.nil_append, List.append_nil]; omega)
  · rintro nE data prev rst FD' scr' ⟨pA', pc', rA', rc', Fb', Fp', Fq', hB', hP', hQ', rfl⟩ hs'
    refine ⟨_, ⟨fv, cA, pA', rA', cc, pc', rc', cl, scr20, scr', Fb', Fp', Fq', F2, F3, G, Fc, hfv, hB', hP', hQ', h2, h3, hG, hs20, hs', hC, rfl⟩, ?_⟩
    exact (perm_of fun _ _ z => by simp only [List.count_append, List.count_cons, List.cons_append, List.count_nil, List.nil_append, List.append_nil]; omega)
theorem WS.flt {wp bs rs g nb B Q : Nat} {on : Bool} {errv : Value} {s : TS} {F : List Fr} (h : WS wp bs rs g on nb B Q errv s F) :
    ∃ FW L, F.Perm (FW ++ L) ∧ FWB wp 148 on nb B Q FW ∧ ∀ B' Q' FW', FWB wp 148 on nb B' Q' FW' → ∃ F', WS wp bs rs g on nb B' Q' errv s F' ∧ (FW' ++ L).Perm F' := by
  obtain ⟨fv, cA, pA, rA, cc, pc, rc, cl, scr20, scr30, Fb, Fp, Fq, F2, F3, G, Fc, hfv, hB, hP, hQ, h2, h3, hG, hs20, hs30, hC, rfl⟩ := h
  refine ⟨F3, fp wp 0 [.iface 91 (.pointer (some ⟨g, 0, none⟩))] :: fp wp 1 [errv] :: fp wp 2 [.iface 112 (.agg #[]), fv, .int .u64 1, .int .i64 bs] :: fp wp 217 [.int .u64 s.pO, .int .u64 s.pL] :: fp wp 219 [.int .u64 s.off] :: fp wp 220 [.int .i64 s.nAll] :: fp wp 221 scr20 :: fp wp 241 scr30 :: fp wp 271 [.slice cA cl.length cc] :: fp wp 6 [.int .i64 rs] :: fp wp (6 + 67) [.int .i64 s.nE, .slice pA s.prev.length pc, .slice rA s.rst.length rc, .slice (some ⟨wp, 241, none⟩) 30 30] :: (Fb ++ (Fp ++ (Fq ++ (F2 ++ (G ++ Fc))))), ?_, h3, ?_⟩
  · exact (perm_of fun _ _ z => by simp only [List.count_append, List.count_cons, List.cons_append, List.count_nil, List.nil_append, List.append_nil]; omega)
  · intro B' Q' FW' h'
    refine ⟨_, ⟨fv, cA, pA, rA, cc, pc, rc, cl, scr20, scr30, Fb, Fp, Fq, F2, FW', G, Fc, hfv, hB, hP, hQ, h2, h', hG, hs20, hs30, hC, rfl⟩, ?_⟩
    exact (perm_of fun _ _ z => by simp only [List.count_append, List.count_cons, List.cons_append, List.count_nil, List.nil_append, List.append_nil]; omega)
theorem WS.cnt {wp bs rs g nb B Q : Nat} {on : Bool} {errv : Value} {s : TS} {F R : List Fr} {w0 w : World} (h : WS wp bs rs g on nb B Q errv s F) (hO : Own (F ++ R) w0 w) (n : Nat) :
    ∃ F', WS wp bs rs g on nb B Q errv { s with nAll := n } F' ∧ Own (F' ++ R) w0 (w.setCell ⟨wp, 220, none⟩ (.int .i64 n)) := by
  obtain ⟨fv, cA, pA, rA, cc, pc, rc, cl, scr20, scr30, Fb, Fp, Fq, F2, F3, G, Fc, hfv, hB, hP, hQ, h2, h3, hG, hs20, hs30, hC, rfl⟩ := h
  refine ⟨_, ⟨fv, cA, pA, rA, cc, pc, rc, cl, scr20, scr30, Fb, Fp, Fq, F2, F3, G, Fc, hfv, hB, hP, hQ, h2, h3, hG, hs20, hs30, hC, rfl⟩, ?_⟩
  have h1 := (hO.perm (L' := fp wp 220 [.int .i64 s.nAll] :: fp wp 0 [.iface 91 (.pointer (some ⟨g, 0, none⟩))] :: fp wp 1 [errv] :: fp wp 2 [.iface 112 (.agg #[]), fv, .int .u64 1, .int .i64 bs] :: fp wp 217 [.int .u64 s.pO, .int .u64 s.pL] :: fp wp 219 [.int .u64 s.off] :: fp wp 221 scr20 :: fp wp 241 scr30 :: fp wp 271 [.slice cA cl.length cc] :: fp wp 6 [.int .i64 rs] :: fp wp (6 + 67) [.int .i64 s.nE, .slice pA s.prev.length pc, .slice rA s.rst.length rc, .slice (some ⟨wp, 241, none⟩) 30 30] :: (Fb ++ (Fp ++ (Fq ++ (F2 ++ (F3 ++ (G ++ (Fc ++ R)))))))) (perm_of fun _ _ z => by simp only [List.count_append, List.count_cons, List.cons_append, List.count_nil, List.nil_append, List.append_nil]; omega)).set (k := 220) 0 rfl (by simp) (.int .i64 n)
  exact Own.perm (L := fp wp 220 [.int .i64 n] :: fp wp 0 [.iface 91 (.pointer (some ⟨g, 0, none⟩))] :: fp wp 1 [errv] :: fp wp 2 [.iface 112 (.agg #[]), fv, .int .u64 1, .int .i64 bs] :: fp wp 217 [.int .u64 s.pO, .int .u64 s.pL] :: fp wp 219 [.int .u64 s.off] :: fp wp 221 scr20 :: fp wp 241 scr30 :: fp wp 271 [.slice cA cl.length cc] :: fp wp 6 [.int .i64 rs] :: fp wp (6 + 67) [.int .i64 s.nE, .slice pA s.prev.length pc, .slice rA s.rst.length rc, .slice (some ⟨wp, 241, none⟩) 30 30] :: (Fb ++ (Fp ++ (Fq ++ (F2 ++ (F3 ++ (G ++ (Fc ++ R)))))))) h1 (perm_of fun _ _ z => by simp only [List.count_append, List.count_cons, List.cons_append, List.count_nil, List.nil_append, List.append_nil]; omega)
end Go.Proofs.YtloflmcgbbbnjaaDoor
namespace Go.Proofs.YtloflmcgbbbnjaaDoor
open Go.RowKit Plain
set_option linter.all false

/-- The bounds that a writer's numbers keep. -/
structure TB (s : TS) : Prop where
  data : s.data.length ≤ 536870912
  prev : s.prev.length ≤ 1073741824
  idata : s.idata.length ≤ 536870912
  iprev : s.iprev.length ≤ 1073741824
  out : s.out.length ≤ 536870912
  off : s.off ≤ 536870912
  nE : s.nE ≤ 536870912
  nI : s.nI ≤ 536870912
  nAll : s.nAll ≤ 536870912
  rst : s.rst.length ≤ 536870912
  irst : s.irst.length ≤ 536870912
  pO : s.pO ≤ 1073741824
  pL : s.pL ≤ 1073741824
  rx : ∀ x ∈ s.rst, x < 4294967296
theorem bcmpN (a b : List UInt8) : IntKind.i64.wrap (bcmp a b) = bcmp a b := i64_id (by have := bcmp_lo a b; omega) (by have := bcmp_hi a b; omega)
def AppBad (R : List Fr) (w0 : World) (e : Ending) (w' : World) : Prop := (∃ q, e = .returned (.iface 241 (.pointer (some ⟨q, 0, none⟩)))) ∧ Own R w0 w'
set_option maxHeartbeats 3200000 in
set_option maxRecDepth 100000 in
theorem append_bad (wp bs rs g nb B Q kn kc vn vc : Nat) (on : Bool) (s : TS) (key : List UInt8) (kA vA : Option Addr) (F R : List Fr) (w0 w : World) (h : WS wp bs rs g on nb B Q .nilIface s F) (hO : Own (F ++ R) w0 w)
    (hk : Rd R w0 kA key) (hkn : kn = key.length) (h0 : 0 < s.nAll) (hc : 0 ≤ bcmp s.prev key) :
    Calls Tryd.prog 44 #[.pointer (some ⟨wp, 0, none⟩), .slice kA kn kc, .slice vA vn vc] w (AppBad R w0) := by
  subst hkn
  obtain ⟨pA, pc, Fp, c1, c2, c4, c5, c217, c218, c219, c220, c73, c74, f0, bl, hP, hPF⟩ := h.hdr hO
  have t1 : decide ((s.nAll : Int) > 0) = true := decide_eq_true (by omega)
  have hpr : BsAt w pA s.prev := hO.st (hP.rd w0) (fun x hx => List.mem_append_left _ (hPF x hx))
  have hkr : BsAt w kA key := hO.stR hk
  have HO := hid hO
  have H := hid h
  clear hO h hP hk
  have hm := method_cmp
  have t2 : decide (bcmp s.prev key ≥ 0) = true := decide_eq_true hc
  go_enter Tryd.func44, Tryd.ntmps44
  go_wp2_with fail
  refine AnyT.start (S := fun w' => w'.cell? ⟨wp, 220, none⟩ = some (.int .i64 s.nAll) ∧ w'.cell? ⟨wp, 2, none⟩ = some (.iface 112 (.agg #[])) ∧ w'.cell? ⟨wp, 74, none⟩ = some (.slice pA s.prev.length pc)) (T := []) (by kernel_rfl) (⟨c220, c2, c74⟩) (fun hHeld => ?_)
  refine AnyT.take (i := 0) (v := ?_) (by simp only [List.getElem?_toArray, List.getElem?_cons_succ, List.getElem?_cons_zero]; rfl) (by kernel_rfl) (by kernel_rfl) (by kernel_rfl) (by kernel_rfl) (by intro _ _ _ h; exact h) (Or.inl ⟨by rfl, fun w hSw => ?_⟩) hHeld ?_
  rotate_left
  · ((try dsimp only at hSw); go_simp; first | done | with_reducible rfl | rfl)
  try simp only [Act.put, List.setIfInBounds_toArray, List.set_cons_zero, List.set_cons_succ]
  refine AnyT.take (i := 1) (v := ?_) (by simp only [List.getElem?_toArray, List.getElem?_cons_succ, List.getElem?_cons_zero]; rfl) (by kernel_rfl) (by kernel_rfl) (by kernel_rfl) (by kernel_rfl) (by intro _ _ _ h; exact h) (Or.inl ⟨by rfl, fun w hSw => ?_⟩) hHeld ?_
  rotate_left
  · ((try dsimp only at hSw); go_simp; first | done | with_reducible rfl | rfl)
  try simp only [Act.put, List.setIfInBounds_toArray, List.set_cons_zero, List.set_cons_succ]
  refine AnyT.take (i := 2) (v := ?_) (by simp only [List.getElem?_toArray, List.getElem?_cons_succ, List.getElem?_cons_zero]; rfl) (by kernel_rfl) (by kernel_rfl) (by kernel_rfl) (by kernel_rfl) (by intro _ _ _ h; exact h) (Or.inl ⟨by rfl, fun w hSw => ?_⟩) hHeld ?_
  rotate_left
  · ((try dsimp only at hSw); go_simp; first | done | with_reducible rfl | rfl)
  try simp only [Act.put, List.setIfInBounds_toArray, List.set_cons_zero, List.set_cons_succ]
  refine AnyT.take (i := 3) (v := ?_) (by simp only [List.getElem?_toArray, List.getElem?_cons_succ, List.getElem?_cons_zero]; rfl) (by kernel_rfl) (by kernel_rfl) (by kernel_rfl) (by kernel_rfl) (by intro _ _ _ h; exact h) (Or.inl ⟨by rfl, fun w hSw => ?_⟩) hHeld ?_
  rotate_left
  · ((try dsimp only at hSw); go_simp; first | done | with_reducible rfl | rfl)
  try simp only [Act.put, List.setIfInBounds_toArray, List.set_cons_zero, List.set_cons_succ]
  refine AnyT.take (i := 4) (v := ?_) (by simp only [List.getElem?_toArray, List.getElem?_cons_succ, List.getElem?_cons_zero]; rfl) (by kernel_rfl) (by kernel_rfl) (by kernel_rfl) (by kernel_rfl) (by intro _ _ _ h; exact h) (Or.inl ⟨by rfl, fun w hSw => ?_⟩) hHeld ?_
  rotate_left
  · ((try dsimp only at hSw); go_simp; first | done | with_reducible rfl | rfl)
  try simp only [Act.put, List.setIfInBounds_toArray, List.set_cons_zero, List.set_cons_succ]
  refine AnyT.take (i := 5) (v := ?_) (by simp only [List.getElem?_toArray, List.getElem?_cons_succ, List.getElem?_cons_zero]; rfl) (by kernel_rfl) (by kernel_rfl) (by kernel_rfl) (by kernel_rfl) (by intro _ _ _ h; exact h) (Or.inl ⟨by rfl, fun w hSw => ?_⟩) hHeld ?_
  rotate_left
  · ((try dsimp only at hSw); go_simp; first | done | with_reducible rfl | rfl)
  try simp only [Act.put, List.setIfInBounds_toArray, List.set_cons_zero, List.set_cons_succ]
  refine AnyT.take (i := 6) (v := ?_) (by simp only [List.getElem?_toArray, List.getElem?_cons_succ, List.getElem?_cons_zero]; rfl) (by kernel_rfl) (by kernel_rfl) (by kernel_rfl) (by kernel_rfl) (by intro _ _ _ h; exact h) (Or.inl ⟨by rfl, fun w hSw => ?_⟩) hHeld ?_
  rotate_left
  · ((try dsimp only at hSw); go_simp; first | done | with_reducible rfl | rfl)
  try simp only [Act.put, List.setIfInBounds_toArray, List.set_cons_zero, List.set_cons_succ]
  refine AnyT.take (i := 7) (v := ?_) (by simp only [List.getElem?_toArray, List.getElem?_cons_succ, List.getElem?_cons_zero]; rfl) (by kernel_rfl) (by kernel_rfl) (by kernel_rfl) (by kernel_rfl) (by intro _ _ _ h; exact h) (Or.inl ⟨by rfl, fun w hSw => ?_⟩) hHeld ?_
  rotate_left
  · ((try dsimp only at hSw); go_simp; first | done | with_reducible rfl | rfl)
  try simp only [Act.put, List.setIfInBounds_toArray, List.set_cons_zero, List.set_cons_succ]
  refine AnyT.take (i := 8) (v := ?_) (by simp only [List.getElem?_toArray, List.getElem?_cons_succ, List.getElem?_cons_zero]; rfl) (by kernel_rfl) (by kernel_rfl) (by kernel_rfl) (by kernel_rfl) (by intro _ _ _ h; exact h) (Or.inl ⟨by rfl, fun w hSw => ?_⟩) hHeld ?_
  rotate_left
  · ((try dsimp only at hSw); go_simp; first | done | with_reducible rfl | rfl)
  try simp only [Act.put, List.setIfInBounds_toArray, List.set_cons_zero, List.set_cons_succ]
  refine AnyT.take (i := 9) (v := ?_) (by simp only [List.getElem?_toArray, List.getElem?_cons_succ, List.getElem?_cons_zero]; rfl) (by kernel_rfl) (by kernel_rfl) (by kernel_rfl) (by kernel_rfl) (by intro _ _ _ h; exact h) (Or.inl ⟨by rfl, fun w hSw => ?_⟩) hHeld ?_
  rotate_left
  · ((try dsimp only at hSw); go_simp; first | done | with_reducible rfl | rfl)
  try simp only [Act.put, List.setIfInBounds_toArray, List.set_cons_zero, List.set_cons_succ]
  refine AnyT.take (i := 10) (v := ?_) (by simp only [List.getElem?_toArray, List.getElem?_cons_succ, List.getElem?_cons_zero]; rfl) (by kernel_rfl) (by kernel_rfl) (by kernel_rfl) (by kernel_rfl) (by intro _ _ _ h; exact h) (Or.inl ⟨by rfl, fun w hSw => ?_⟩) hHeld ?_
  rotate_left
  · ((try dsimp only at hSw); go_simp; first | done | with_reducible rfl | rfl)
  try simp only [Act.put, List.setIfInBounds_toArray, List.set_cons_zero, List.set_cons_succ]
  refine AnyT.take (i := 11) (v := ?_) (by simp only [List.getElem?_toArray, List.getElem?_cons_succ, List.getElem?_cons_zero]; rfl) (by kernel_rfl) (by kernel_rfl) (by kernel_rfl) (by kernel_rfl) (by intro _ _ _ h; exact h) (Or.inl ⟨by rfl, fun w hSw => ?_⟩) hHeld ?_
  rotate_left
  · ((try dsimp only at hSw); go_simp; first | done | with_reducible rfl | rfl)
  try simp only [Act.put, List.setIfInBounds_toArray, List.set_cons_zero, List.set_cons_succ]
  refine AnyT.take (i := 12) (v := ?_) (by simp only [List.getElem?_toArray, List.getElem?_cons_succ, List.getElem?_cons_zero]; rfl) (by kernel_rfl) (by kernel_rfl) (by kernel_rfl) (by kernel_rfl) (by intro _ _ _ h; exact h) (Or.inl ⟨by rfl, fun w hSw => ?_⟩) hHeld ?_
  rotate_left
  · ((try dsimp only at hSw); go_simp; first | done | with_reducible rfl | rfl)
  try simp only [Act.put, List.setIfInBounds_toArray, List.set_cons_zero, List.set_cons_succ]
  refine AnyT.take (i := 13) (v := ?_) (by simp only [List.getElem?_toArray, List.getElem?_cons_succ, List.getElem?_cons_zero]; rfl) (by kernel_rfl) (by kernel_rfl) (by kernel_rfl) (by kernel_rfl) (by intro _ _ _ h; exact h) (Or.inl ⟨by rfl, fun w hSw => ?_⟩) hHeld ?_
  rotate_left
  · ((try dsimp only at hSw); go_simp; first | done | with_reducible rfl | rfl)
  try simp only [Act.put, List.setIfInBounds_toArray, List.set_cons_zero, List.set_cons_succ]
  refine AnyT.take (i := 14) (v := ?_) (by simp only [List.getElem?_toArray, List.getElem?_cons_succ, List.getElem?_cons_zero]; rfl) (by kernel_rfl) (by kernel_rfl) (by kernel_rfl) (by kernel_rfl) (by intro _ _ _ h; exact h) (Or.inl ⟨by rfl, fun w hSw => ?_⟩) hHeld ?_
  rotate_left
  · ((try dsimp only at hSw); go_simp; first | done | with_reducible rfl | rfl)
  try simp only [Act.put, List.setIfInBounds_toArray, List.set_cons_zero, List.set_cons_succ]
  refine AnyT.take (i := 15) (v := ?_) (by simp only [List.getElem?_toArray, List.getElem?_cons_succ, List.getElem?_cons_zero]; rfl) (by kernel_rfl) (by kernel_rfl) (by kernel_rfl) (by kernel_rfl) (by intro _ _ _ h; exact h) (Or.inl ⟨by rfl, fun w hSw => ?_⟩) hHeld ?_
  rotate_left
  · ((try dsimp only at hSw); go_simp; first | done | with_reducible rfl | rfl)
  try simp only [Act.put, List.setIfInBounds_toArray, List.set_cons_zero, List.set_cons_succ]
  refine AnyT.take (i := 16) (v := ?_) (by simp only [List.getElem?_toArray, List.getElem?_cons_succ, List.getElem?_cons_zero]; rfl) (by kernel_rfl) (by kernel_rfl) (by kernel_rfl) (by kernel_rfl) (by intro _ _ _ h; exact h) (Or.inl ⟨by rfl, fun w hSw => ?_⟩) hHeld ?_
  rotate_left
  · ((try dsimp only at hSw); go_simp; first | done | with_reducible rfl | rfl)
  try simp only [Act.put, List.setIfInBounds_toArray, List.set_cons_zero, List.set_cons_succ]
  refine AnyT.take (i := 17) (v := ?_) (by simp only [List.getElem?_toArray, List.getElem?_cons_succ, List.getElem?_cons_zero]; rfl) (by kernel_rfl) (by kernel_rfl) (by kernel_rfl) (by kernel_rfl) (by intro _ _ _ h; exact h) (Or.inl ⟨by rfl, fun w hSw => ?_⟩) hHeld ?_
  rotate_left
  · ((try dsimp only at hSw); go_simp; first | done | with_reducible rfl | rfl)
  try simp only [Act.put, List.setIfInBounds_toArray, List.set_cons_zero, List.set_cons_succ]
  refine AnyT.ready (rs := [18]) (by kernel_rfl) (by simp) ?_
  refine AllT.cons (by simp only [List.getElem?_toArray, List.getElem?_cons_succ, List.getElem?_cons_zero]; rfl) (fun K hK => ?_) AllT.nil
  go_simp
  refine (cmpCompare_any pA kA s.prev.length key.length pc kc s.prev key _ (hpr.drew) (hkr.drew) rfl rfl).mono ?_
  rintro e w1 ⟨rfl, ho1⟩
  have HO1 := hid (HO.out.drew.only0 ho1)
  have n74 := (ho1.cell (p := ⟨wp, 74, none⟩) bl (by simp)).trans c74
  clear c1 c2 c4 c5 c217 c218 c219 c220 c73 c74 f0 bl
  obtain ⟨pA', pc', Fp', c1, c2, c4, c5, c217, c218, c219, c220, c73, c74', f0, bl, hP', hPF'⟩ := H.out.hdr HO1.out
  try go_wp2_with fail
  refine hK.out _ _ ?_ (fun hHeld => ?_)
  · exact ⟨c220, c2, n74⟩
  clear hK
  try simp only [Act.put, List.setIfInBounds_toArray, List.set_cons_zero, List.set_cons_succ]
  refine AnyT.take (i := 19) (v := ?_) (by simp only [List.getElem?_toArray, List.getElem?_cons_succ, List.getElem?_cons_zero]; rfl) (by kernel_rfl) (by kernel_rfl) (by kernel_rfl) (by kernel_rfl) (by intro _ _ _ h; exact h) (Or.inl ⟨by rfl, fun w hSw => ?_⟩) hHeld ?_
  rotate_left
  · ((try dsimp only at hSw); go_simp; first | done | with_reducible rfl | rfl)
  try simp only [Act.put, List.setIfInBounds_toArray, List.set_cons_zero, List.set_cons_succ]
  refine AnyT.take (i := 20) (v := ?_) (by simp only [List.getElem?_toArray, List.getElem?_cons_succ, List.getElem?_cons_zero]; rfl) (by kernel_rfl) (by kernel_rfl) (by kernel_rfl) (by kernel_rfl) (by intro _ _ _ h; exact h) (Or.inl ⟨by rfl, fun w hSw => ?_⟩) hHeld ?_
  rotate_left
  · ((try dsimp only at hSw); go_simp; first | done | with_reducible rfl | rfl)
  try simp only [Act.put, List.setIfInBounds_toArray, List.set_cons_zero, List.set_cons_succ]
  refine AnyT.done (by kernel_rfl) ?_ _
  clear n74 c74'
  have HO2 := hid (HO1.out.perm (L' := F ++ R) (List.Perm.refl _))
  have hcut1 : ∃ L, Own (fp wp 1 [.nilIface] :: (L ++ R)) w0 w1 := by
    obtain ⟨fv, cA, pA, rA, cc, pc, rc, cl, scr20, scr30, Fb, Fp, Fq, F2, F3, G, Fc, hfv, hB, hP, hQ, h2, h3, hG, hs20, hs30, hC, rfl⟩ := H.out
    exact ⟨fp wp 0 [.iface 91 (.pointer (some ⟨g, 0, none⟩))] :: fp wp 2 [.iface 112 (.agg #[]), fv, .int .u64 1, .int .i64 bs] :: fp wp 217 [.int .u64 s.pO, .int .u64 s.pL] :: fp wp 219 [.int .u64 s.off] :: fp wp 220 [.int .i64 s.nAll] :: fp wp 221 scr20 :: fp wp 241 scr30 :: fp wp 271 [.slice cA cl.length cc] :: fp wp 6 [.int .i64 rs] :: fp wp (6 + 67) [.int .i64 s.nE, .slice pA s.prev.length pc, .slice rA s.rst.length rc, .slice (some ⟨wp, 241, none⟩) 30 30] :: (Fb ++ (Fp ++ (Fq ++ (F2 ++ (F3 ++ (G ++ Fc)))))), HO1.out.perm (perm_of fun _ _ z => by simp only [List.count_append, List.count_cons, List.cons_append, List.count_nil, List.nil_append, List.append_nil]; omega)⟩
  obtain ⟨L, hL⟩ := hcut1
  have HL := hid hL
  clear hL
  go_wp2_with (first
    | (go_at_call 86; refine (errNew _ _ w0 _ HL.out).mono ?_; rintro e w2 ⟨⟨q, rfl⟩, hO2⟩; clear c1 c2 c4 c5 c217 c218 c219 c220 c73 f0 bl; have c1 := hO2.cell 0 rfl (k := 1) 0 rfl (by simp); have f0 := fun k => hO2.frozen 0 rfl k; have bl := hO2.head.lt; have HL2 := hid hO2; clear hO2))
  go_ret
  exact ⟨⟨q, rfl⟩, (HL2.out.set (k := 1) 0 rfl (by simp) _).drop.right⟩
end Go.Proofs.YtloflmcgbbbnjaaDoor
