/-
  table.Writer: its state; flushPendingBH.
-/
import Derived.Test.YtloflmcgbbbnjaaDoorTabM5
import Derived.Test.YtloflmcgbbbnjaaDoorTabM7
namespace Go.Proofs.YtloflmcgbbbnjaaDoor
open Go.RowKit Plain
set_option linter.all false

/-- The writer of tables at wp. -/
def WS (wp bs rs g : Nat) (on : Bool) (nb B Q : Nat) (errv : Value) (s : TS) (F : List Fr) : Prop :=
  ∃ (fv : Value) (cA pA rA : Option Addr) (cc pc rc : Nat) (cl : List UInt8) (scr20 scr30 : List Value) (Fb Fp Fq F2 F3 G Fc : List Fr),
    fv = (if on = true then .iface 240 (.int .i64 nb) else .nilIface) ∧
    BufF wp 7 s.data Fb ∧ Row 5 1 pA s.prev.length pc (bc s.prev) Fp ∧ Row 181 1 rA s.rst.length rc (c32 s.rst) Fq ∧
    BW wp 77 1 s.nI s.idata s.iprev s.irst wp 241 F2 ∧ FWB wp 148 on nb B Q F3 ∧ OB g s.out G ∧ scr20.length = 20 ∧ scr30.length = 30 ∧ Row 5 1 cA cl.length cc (bc cl) Fc ∧
    F = fp wp 0 [.iface 91 (.pointer (some ⟨g, 0, none⟩))] :: fp wp 1 [errv] :: fp wp 2 [.iface 112 (.agg #[]), fv, .int .u64 1, .int .i64 bs] :: fp wp 217 [.int .u64 s.pO, .int .u64 s.pL] :: fp wp 219 [.int .u64 s.off] :: fp wp 220 [.int .i64 s.nAll] :: fp wp 221 scr20 :: fp wp 241 scr30 :: fp wp 271 [.slice cA cl.length cc] :: fp wp 6 [.int .i64 rs] :: fp wp (6 + 67) [.int .i64 s.nE, .slice pA s.prev.length pc, .slice rA s.rst.length rc, .slice (some ⟨wp, 241, none⟩) 30 30] :: (Fb ++ (Fp ++ (Fq ++ (F2 ++ (F3 ++ (G ++ Fc))))))
theorem tw_hdr {wp : Nat} {v0 v1 c f co bs pO pL off nA csl rs d0 d1 d2 d3 : Value} {s20 s30 : List Value} {L : List Fr} {w0 w : World}
    (hO : Own (fp wp 0 [v0] :: fp wp 1 [v1] :: fp wp 2 [c, f, co, bs] :: fp wp 217 [pO, pL] :: fp wp 219 [off] :: fp wp 220 [nA] :: fp wp 221 s20 :: fp wp 241 s30 :: fp wp 271 [csl] :: fp wp 6 [rs] :: fp wp (6 + 67) [d0, d1, d2, d3] :: L) w0 w) :
    w.cell? ⟨wp, 0, none⟩ = some v0 ∧ w.cell? ⟨wp, 1, none⟩ = some v1 ∧ w.cell? ⟨wp, 2, none⟩ = some c ∧ w.cell? ⟨wp, 3, none⟩ = some f ∧ w.cell? ⟨wp, 4, none⟩ = some co ∧ w.cell? ⟨wp, 5, none⟩ = some bs ∧
    w.cell? ⟨wp, 217, none⟩ = some pO ∧ w.cell? ⟨wp, 218, none⟩ = some pL ∧ w.cell? ⟨wp, 219, none⟩ = some off ∧ w.cell? ⟨wp, 220, none⟩ = some nA ∧ w.cell? ⟨wp, 271, none⟩ = some csl ∧
    w.cell? ⟨wp, 73, none⟩ = some d0 ∧ w.cell? ⟨wp, 74, none⟩ = some d1 ∧ (∀ k, w.frozen? ⟨wp, k, none⟩ = false) ∧ wp < w.heap.size :=
  ⟨hO.cell 0 rfl 0 rfl (by simp), hO.cell 1 rfl 0 rfl (by simp), hO.cell 2 rfl 0 rfl (by simp), hO.cell 2 rfl 1 rfl (by simp), hO.cell 2 rfl 2 rfl (by simp), hO.cell 2 rfl 3 rfl (by simp),
   hO.cell 3 rfl 0 rfl (by simp), hO.cell 3 rfl 1 rfl (by simp), hO.cell 4 rfl 0 rfl (by simp), hO.cell 5 rfl 0 rfl (by simp), hO.cell 8 rfl 0 rfl (by simp),
   hO.cell 10 rfl 0 rfl (by simp), hO.cell 10 rfl 1 rfl (by simp), fun k => hO.frozen 0 rfl k, hO.head.lt⟩
theorem SepOut.val {x : Option (List UInt8)} {A : Option Addr} {c : Nat} {Fc R : List Fr} {w0 : World} {v : Value} {w' : World} (h : SepOut x A c Fc R w0 (.returned v) w') (hx : ∀ l, x = some l → l ≠ []) :
    ∃ A4 n4 c4, v = .slice A4 n4 c4 ∧ ((x = none ∧ A4 = none ∧ Own (Fc ++ R) w0 w') ∨ ∃ l F' a, x = some l ∧ n4 = l.length ∧ A4 = some a ∧ Row 5 1 A4 n4 c4 (bc l) F' ∧ Own (F' ++ R) w0 w') := by
  cases x with
  | none => obtain ⟨h1, h2⟩ := h; injection h1 with h1; exact ⟨none, 0, 0, h1, .inl ⟨rfl, rfl, h2⟩⟩
  | some l =>
    obtain ⟨A', c', F', h1, h2, h3, h4⟩ := h
    injection h1 with h1
    refine ⟨A', l.length, c', h1, .inr ⟨l, F', ?_⟩⟩
    cases A' with
    | none => exact absurd (h3 rfl) (hx l rfl)
    | some a => exact ⟨a, rfl, rfl, rfl, h2, h4⟩
theorem SepOut.own {x : Option (List UInt8)} {A : Option Addr} {c : Nat} {Fc R : List Fr} {w0 : World} {e : Ending} {w' : World} (h : SepOut x A c Fc R w0 e w') : (∃ v, e = .returned v) ∧ ∃ F', Own (F' ++ R) w0 w' := by
  cases x with
  | none => exact ⟨⟨_, h.1⟩, _, h.2⟩
  | some l => obtain ⟨A', c', F', h1, _, _, h2⟩ := h; exact ⟨⟨_, h1⟩, _, h2⟩
set_option maxHeartbeats 6400000 in
set_option maxRecDepth 100000 in
theorem flushBH (wp bs rs g nb B Q kc kn : Nat) (on : Bool) (errv : Value) (s : TS) (key : List UInt8) (kA : Option Addr) (F R : List Fr) (w0 w : World) (h : WS wp bs rs g on nb B Q errv s F) (hO : Own (F ++ R) w0 w)
    (hk : Rd R w0 kA key) (hkn : kn = key.length) (hkl : key.length ≤ 2147483647) (hkc : key.length ≤ kc) (hp : s.prev.length ≤ 2147483647) (hi : s.idata.length ≤ 1073741824) (hnI : s.nI ≤ 1073741824) (hir : s.irst.length ≤ 1073741824) (hpO : s.pO < 18446744073709551616) (hpL : s.pL < 18446744073709551616) (hip : s.iprev.length ≤ 2147483647) :
    Calls Tryd.prog 87 #[.pointer (some ⟨wp, 0, none⟩), .slice kA kn kc] w fun e w' => e = .returned (.tuple #[]) ∧ ∃ F', WS wp bs rs g on nb B Q errv (tFlush s key) F' ∧ Own (F' ++ R) w0 w' := by
  obtain ⟨fv, cA, pA, rA, cc, pc, rc, cl, scr20, scr30, Fb, Fp, Fq, F2, F3, G, Fc, hfv, hB, hP, hQ, h2, h3, hG, hs20, hs30, hC, rfl⟩ := h
  obtain ⟨c0, c1, c2, c3, c4, c5, c217, c218, c219, c220, c271, c73, c74, f0, bl⟩ := tw_hdr hO
  have HO := hid hO
  have HP := hid hP
  have HC := hid hC
  have HK := hid hk
  have H2 := hid h2
  by_cases h0 : s.pL = 0
  · have t1 : ((s.pL : Int) == 0) = true := by rw [h0]; rfl
    have H0 := hid h0
    have HR := hid (show WS wp bs rs g on nb B Q errv s _ from ⟨fv, cA, pA, rA, cc, pc, rc, cl, scr20, scr30, Fb, Fp, Fq, F2, F3, G, Fc, hfv, hB, hP, hQ, h2, h3, hG, hs20, hs30, hC, rfl⟩)
    clear hO hB hP hQ h2 h3 hG hC h0 hk
    go_enter Tryd.func87, Tryd.ntmps87
    go_wp2_with fail
    refine bodyPost_ret (results_none rfl _ _ _) rfl ?_
    exact ⟨rfl, _, by unfold tFlush; rw [if_pos H0.out]; exact HR.out, HO.out⟩
  · have t1 : ((s.pL : Int) == 0) = false := by rw [beq_eq_false_iff_ne]; omega
    have H0 := hid h0
    have HR := hid (show _ ∧ _ ∧ _ ∧ _ ∧ _ from ⟨hfv, hB, hQ, h3, hG⟩)
    have hcut := hC.cut0
    have HC0 := hid hcut
    clear hO hB hP hQ h2 h3 hG hC h0 hk hfv hcut
    have hm1 := method_sep
    have hm2 := method_succ
    subst hkn
    go_enter Tryd.func87, Tryd.ntmps87
    go_upto_if 14 with fail
    go_cut [4] (fun s4 wx => SepOut (if key = [] then succ s.prev 0 else sep s.prev key) cA cc Fc (fp wp 0 [.iface 91 (.pointer (some ⟨g, 0, none⟩))] :: fp wp 1 [errv] :: fp wp 2 [.iface 112 (.agg #[]), fv, .int .u64 1, .int .i64 bs] :: fp wp 217 [.int .u64 s.pO, .int .u64 s.pL] :: fp wp 219 [.int .u64 s.off] :: fp wp 220 [.int .i64 s.nAll] :: fp wp 221 scr20 :: fp wp 241 scr30 :: fp wp 271 [.slice cA cl.length cc] :: fp wp 6 [.int .i64 rs] :: fp wp (6 + 67) [.int .i64 s.nE, .slice pA s.prev.length pc, .slice rA s.rst.length rc, .slice (some ⟨wp, 241, none⟩) 30 30] :: (Fb ++ (Fp ++ (Fq ++ (F2 ++ (F3 ++ (G ++ R))))))) w0 (.returned s4) wx)
    case first =>
      have hPrd := hid (fun M => ((HP.out.rd w0).right M).left)
      have HOP := hid (HO.out.perm (L' := Fc ++ (fp wp 0 [.iface 91 (.pointer (some ⟨g, 0, none⟩))] :: fp wp 1 [errv] :: fp wp 2 [.iface 112 (.agg #[]), fv, .int .u64 1, .int .i64 bs] :: fp wp 217 [.int .u64 s.pO, .int .u64 s.pL] :: fp wp 219 [.int .u64 s.off] :: fp wp 220 [.int .i64 s.nAll] :: fp wp 221 scr20 :: fp wp 241 scr30 :: fp wp 271 [.slice cA cl.length cc] :: fp wp 6 [.int .i64 rs] :: fp wp (6 + 67) [.int .i64 s.nE, .slice pA s.prev.length pc, .slice rA s.rst.length rc, .slice (some ⟨wp, 241, none⟩) 30 30] :: (Fb ++ (Fp ++ (Fq ++ (F2 ++ (F3 ++ (G ++ R)))))))) (perm_of fun _ _ z => by simp only [List.count_append, List.count_cons, List.cons_append, List.count_nil, List.nil_append, List.append_nil]; omega))
      by_cases hk0 : key = []
      · have t2 : ((key.length : Int) == 0) = true := by rw [hk0]; rfl
        have HK0 := hid hk0
        clear hk0 HO
        go_wp2_with fail
        refine AnyT.start (S := fun w' => w'.cell? ⟨wp, 2, none⟩ = some (.iface 112 (.agg #[])) ∧ w'.cell? ⟨wp, 271, none⟩ = some (.slice cA cl.length cc) ∧ w'.cell? ⟨wp, 74, none⟩ = some (.slice pA s.prev.length pc)) (T := []) (by kernel_rfl) (⟨c2, c271, c74⟩) (fun hHeld => ?_)
        refine AnyT.take (i := 0) (v := ?_) (by simp only [List.getElem?_toArray, List.getElem?_cons_succ, List.getElem?_cons_zero]; rfl) (by kernel_rfl) (by kernel_rfl) (by kernel_rfl) (by kernel_rfl) (by intro _ _ _ h; exact h) (Or.inl ⟨by rfl, fun w hSw => ?_⟩) hHeld ?_
        rotate_left
        · ((try dsimp only at hSw); go_simp; first | done | with_reducible rfl | rfl)
        try simp only [Act.put, List.setIfInBounds_toArray, List.set_cons_zero, List.set_cons_succ]
        refine AnyT.take (i := 1) (v := ?_) (by simp only [List.getElem?_toArray, List.getElem?_cons_succ, List.getElem?_cons_zero]; rfl) (by kernel_rfl) (by kernel_rfl) (by kernel_rfl) (by kernel_rfl) (by intro _ _ _ h; exact h) (Or.inl ⟨by rfl, fun w hSw => ?_⟩) hHeld ?_
        rotate_left
        · ((try dsimp only at hSw); go_simp; first | done | with_reducible rfl | rfl)
        try simp only [Act.put, List.setIfInBounds_toArray, List.set_cons_zero, List.set_cons_succ]
        refine AnyT.take (i := 2) (v := ?_) (by simp only [List.getElem?_toArray, List.getElem?_cons_succ, List.getElem?_cons_zero]; rfl) (by kernel_rfl) (by kernel_rfl) (by kernel_rfl) (by kernel_rfl) (by intro _ _ _ h; exact h) (Or.inl ⟨by rfl, fun w hSw => ?_⟩) hHeld ?_
        rotate_left
        · ((try dsimp only at hSw); go_simp; first | done | with_reducible rfl | rfl)
        try simp only [Act.put, List.setIfInBounds_toArray, List.set_cons_zero, List.set_cons_succ]
        refine AnyT.take (i := 3) (v := ?_) (by simp only [List.getElem?_toArray, List.getElem?_cons_succ, List.getElem?_cons_zero]; rfl) (by kernel_rfl) (by kernel_rfl) (by kernel_rfl) (by kernel_rfl) (by intro _ _ _ h; exact h) (Or.inl ⟨by rfl, fun w hSw => ?_⟩) hHeld ?_
        rotate_left
        · ((try dsimp only at hSw); go_simp; first | done | with_reducible rfl | rfl)
        try simp only [Act.put, List.setIfInBounds_toArray, List.set_cons_zero, List.set_cons_succ]
        refine AnyT.take (i := 4) (v := ?_) (by simp only [List.getElem?_toArray, List.getElem?_cons_succ, List.getElem?_cons_zero]; rfl) (by kernel_rfl) (by kernel_rfl) (by kernel_rfl) (by kernel_rfl) (by intro _ _ _ h; exact h) (Or.inl ⟨by rfl, fun w hSw => ?_⟩) hHeld ?_
        rotate_left
        · ((try dsimp only at hSw); go_simp; first | done | with_reducible rfl | rfl)
        try simp only [Act.put, List.setIfInBounds_toArray, List.set_cons_zero, List.set_cons_succ]
        refine AnyT.take (i := 5) (v := ?_) (by simp only [List.getElem?_toArray, List.getElem?_cons_succ, List.getElem?_cons_zero]; rfl) (by kernel_rfl) (by kernel_rfl) (by kernel_rfl) (by kernel_rfl) (by intro _ _ _ h; exact h) (Or.inl ⟨by rfl, fun w hSw => ?_⟩) hHeld ?_
        rotate_left
        · ((try dsimp only at hSw); go_simp; first | done | with_reducible rfl | rfl)
        try simp only [Act.put, List.setIfInBounds_toArray, List.set_cons_zero, List.set_cons_succ]
        refine AnyT.take (i := 6) (v := ?_) (by simp only [List.getElem?_toArray, List.getElem?_cons_succ, List.getElem?_cons_zero]; rfl) (by kernel_rfl) (by kernel_rfl) (by kernel_rfl) (by kernel_rfl) (by intro _ _ _ h; exact h) (Or.inl ⟨by rfl, fun w hSw => ?_⟩) hHeld ?_
        rotate_left
        · ((try dsimp only at hSw); go_simp; first | done | with_reducible rfl | rfl)
        try simp only [Act.put, List.setIfInBounds_toArray, List.set_cons_zero, List.set_cons_succ]
        refine AnyT.take (i := 7) (v := ?_) (by simp only [List.getElem?_toArray, List.getElem?_cons_succ, List.getElem?_cons_zero]; rfl) (by kernel_rfl) (by kernel_rfl) (by kernel_rfl) (by kernel_rfl) (by intro _ _ _ h; exact h) (Or.inl ⟨by rfl, fun w hSw => ?_⟩) hHeld ?_
        rotate_left
        · ((try dsimp only at hSw); go_simp; first | done | with_reducible rfl | rfl)
        try simp only [Act.put, List.setIfInBounds_toArray, List.set_cons_zero, List.set_cons_succ]
        refine AnyT.take (i := 8) (v := ?_) (by simp only [List.getElem?_toArray, List.getElem?_cons_succ, List.getElem?_cons_zero]; rfl) (by kernel_rfl) (by kernel_rfl) (by kernel_rfl) (by kernel_rfl) (by intro _ _ _ h; exact h) (Or.inl ⟨by rfl, fun w hSw => ?_⟩) hHeld ?_
        rotate_left
        · ((try dsimp only at hSw); go_simp; first | done | with_reducible rfl | rfl)
        try simp only [Act.put, List.setIfInBounds_toArray, List.set_cons_zero, List.set_cons_succ]
        refine AnyT.take (i := 9) (v := ?_) (by simp only [List.getElem?_toArray, List.getElem?_cons_succ, List.getElem?_cons_zero]; rfl) (by kernel_rfl) (by kernel_rfl) (by kernel_rfl) (by kernel_rfl) (by intro _ _ _ h; exact h) (Or.inl ⟨by rfl, fun w hSw => ?_⟩) hHeld ?_
        rotate_left
        · ((try dsimp only at hSw); go_simp; first | done | with_reducible rfl | rfl)
        try simp only [Act.put, List.setIfInBounds_toArray, List.set_cons_zero, List.set_cons_succ]
        refine AnyT.take (i := 10) (v := ?_) (by simp only [List.getElem?_toArray, List.getElem?_cons_succ, List.getElem?_cons_zero]; rfl) (by kernel_rfl) (by kernel_rfl) (by kernel_rfl) (by kernel_rfl) (by intro _ _ _ h; exact h) (Or.inl ⟨by rfl, fun w hSw => ?_⟩) hHeld ?_
        rotate_left
        · ((try dsimp only at hSw); go_simp; first | done | with_reducible rfl | rfl)
        try simp only [Act.put, List.setIfInBounds_toArray, List.set_cons_zero, List.set_cons_succ]
        refine AnyT.take (i := 11) (v := ?_) (by simp only [List.getElem?_toArray, List.getElem?_cons_succ, List.getElem?_cons_zero]; rfl) (by kernel_rfl) (by kernel_rfl) (by kernel_rfl) (by kernel_rfl) (by intro _ _ _ h; exact h) (Or.inl ⟨by rfl, fun w hSw => ?_⟩) hHeld ?_
        rotate_left
        · ((try dsimp only at hSw); go_simp; first | done | with_reducible rfl | rfl)
        try simp only [Act.put, List.setIfInBounds_toArray, List.set_cons_zero, List.set_cons_succ]
        refine AnyT.take (i := 12) (v := ?_) (by simp only [List.getElem?_toArray, List.getElem?_cons_succ, List.getElem?_cons_zero]; rfl) (by kernel_rfl) (by kernel_rfl) (by kernel_rfl) (by kernel_rfl) (by intro _ _ _ h; exact h) (Or.inl ⟨by rfl, fun w hSw => ?_⟩) hHeld ?_
        rotate_left
        · ((try dsimp only at hSw); go_simp; first | done | with_reducible rfl | rfl)
        try simp only [Act.put, List.setIfInBounds_toArray, List.set_cons_zero, List.set_cons_succ]
        refine AnyT.take (i := 13) (v := ?_) (by simp only [List.getElem?_toArray, List.getElem?_cons_succ, List.getElem?_cons_zero]; rfl) (by kernel_rfl) (by kernel_rfl) (by kernel_rfl) (by kernel_rfl) (by intro _ _ _ h; exact h) (Or.inl ⟨by rfl, fun w hSw => ?_⟩) hHeld ?_
        rotate_left
        · ((try dsimp only at hSw); go_simp; first | done | with_reducible rfl | rfl)
        try simp only [Act.put, List.setIfInBounds_toArray, List.set_cons_zero, List.set_cons_succ]
        refine AnyT.take (i := 14) (v := ?_) (by simp only [List.getElem?_toArray, List.getElem?_cons_succ, List.getElem?_cons_zero]; rfl) (by kernel_rfl) (by kernel_rfl) (by kernel_rfl) (by kernel_rfl) (by intro _ _ _ h; exact h) (Or.inl ⟨by rfl, fun w hSw => ?_⟩) hHeld ?_
        rotate_left
        · ((try dsimp only at hSw); go_simp; first | done | with_reducible rfl | rfl)
        try simp only [Act.put, List.setIfInBounds_toArray, List.set_cons_zero, List.set_cons_succ]
        refine AnyT.take (i := 15) (v := ?_) (by simp only [List.getElem?_toArray, List.getElem?_cons_succ, List.getElem?_cons_zero]; rfl) (by kernel_rfl) (by kernel_rfl) (by kernel_rfl) (by kernel_rfl) (by intro _ _ _ h; exact h) (Or.inl ⟨by rfl, fun w hSw => ?_⟩) hHeld ?_
        rotate_left
        · ((try dsimp only at hSw); go_simp; first | done | with_reducible rfl | rfl)
        try simp only [Act.put, List.setIfInBounds_toArray, List.set_cons_zero, List.set_cons_succ]
        refine AnyT.ready (rs := [16]) (by kernel_rfl) (by simp) ?_
        refine AllT.cons (by simp only [List.getElem?_toArray, List.getElem?_cons_succ, List.getElem?_cons_zero]; rfl) (fun K hK => ?_) AllT.nil
        go_simp
        refine (succ_own s.prev.length cc pc cA pA s.prev Fc (fp wp 0 [.iface 91 (.pointer (some ⟨g, 0, none⟩))] :: fp wp 1 [errv] :: fp wp 2 [.iface 112 (.agg #[]), fv, .int .u64 1, .int .i64 bs] :: fp wp 217 [.int .u64 s.pO, .int .u64 s.pL] :: fp wp 219 [.int .u64 s.off] :: fp wp 220 [.int .i64 s.nAll] :: fp wp 221 scr20 :: fp wp 241 scr30 :: fp wp 271 [.slice cA cl.length cc] :: fp wp 6 [.int .i64 rs] :: fp wp (6 + 67) [.int .i64 s.nE, .slice pA s.prev.length pc, .slice rA s.rst.length rc, .slice (some ⟨wp, 241, none⟩) 30 30] :: (Fb ++ (Fp ++ (Fq ++ (F2 ++ (F3 ++ (G ++ R))))))) w0 _ HC0.out HOP.out.drew (HOP.out.drew.st (HP.out.rd w0) (fun x hx => by simp [hx])) rfl hp HP.out.le).mono ?_
        intro e w1 hret
        obtain ⟨⟨v, rfl⟩, F', hO1⟩ := hret.own
        have HRET := hid hret
        clear c0 c1 c2 c3 c4 c5 c217 c218 c219 c220 c271 c73 c74 f0 bl hret
        obtain ⟨c0, c1, c2, c3, c4, c5, c217, c218, c219, c220, c271, c73, c74, f0, bl⟩ := tw_hdr hO1.right
        clear hO1
        try go_wp2_with fail
        refine hK.out _ _ ?_ (fun hHeld => ?_)
        · exact ⟨c2, c271, c74⟩
        clear hK
        try simp only [Act.put, List.setIfInBounds_toArray, List.set_cons_zero, List.set_cons_succ]
        refine AnyT.take (i := 17) (v := ?_) (by simp only [List.getElem?_toArray, List.getElem?_cons_succ, List.getElem?_cons_zero]; rfl) (by kernel_rfl) (by kernel_rfl) (by kernel_rfl) (by kernel_rfl) (by intro _ _ _ h; exact h) (Or.inl ⟨by rfl, fun w hSw => ?_⟩) hHeld ?_
        rotate_left
        · ((try dsimp only at hSw); go_simp; first | done | with_reducible rfl | rfl)
        try simp only [Act.put, List.setIfInBounds_toArray, List.set_cons_zero, List.set_cons_succ]
        refine AnyT.done (by kernel_rfl) ?_ _
        go_wp2_with fail
        go_meet
        rw [if_pos HK0.out]
        exact HRET.out
      · have t2 : ((key.length : Int) == 0) = false := by rw [beq_eq_false_iff_ne]; have := List.length_pos_iff.2 hk0; omega
        have HK0 := hid hk0
        clear hk0 HO
        go_wp2_with fail
        refine AnyT.start (S := fun w' => w'.cell? ⟨wp, 2, none⟩ = some (.iface 112 (.agg #[])) ∧ w'.cell? ⟨wp, 271, none⟩ = some (.slice cA cl.length cc) ∧ w'.cell? ⟨wp, 74, none⟩ = some (.slice pA s.prev.length pc)) (T := []) (by kernel_rfl) (⟨c2, c271, c74⟩) (fun hHeld => ?_)
        refine AnyT.take (i := 0) (v := ?_) (by simp only [List.getElem?_toArray, List.getElem?_cons_succ, List.getElem?_cons_zero]; rfl) (by kernel_rfl) (by kernel_rfl) (by kernel_rfl) (by kernel_rfl) (by intro _ _ _ h; exact h) (Or.inl ⟨by rfl, fun w hSw => ?_⟩) hHeld ?_
        rotate_left
        · ((try dsimp only at hSw); go_simp; first | done | with_reducible rfl | rfl)
        try simp only [Act.put, List.setIfInBounds_toArray, List.set_cons_zero, List.set_cons_succ]
        refine AnyT.take (i := 1) (v := ?_) (by simp only [List.getElem?_toArray, List.getElem?_cons_succ, List.getElem?_cons_zero]; rfl) (by kernel_rfl) (by kernel_rfl) (by kernel_rfl) (by kernel_rfl) (by intro _ _ _ h; exact h) (Or.inl ⟨by rfl, fun w hSw => ?_⟩) hHeld ?_
        rotate_left
        · ((try dsimp only at hSw); go_simp; first | done | with_reducible rfl | rfl)
        try simp only [Act.put, List.setIfInBounds_toArray, List.set_cons_zero, List.set_cons_succ]
        refine AnyT.take (i := 2) (v := ?_) (by simp only [List.getElem?_toArray, List.getElem?_cons_succ, List.getElem?_cons_zero]; rfl) (by kernel_rfl) (by kernel_rfl) (by kernel_rfl) (by kernel_rfl) (by intro _ _ _ h; exact h) (Or.inl ⟨by rfl, fun w hSw => ?_⟩) hHeld ?_
        rotate_left
        · ((try dsimp only at hSw); go_simp; first | done | with_reducible rfl | rfl)
        try simp only [Act.put, List.setIfInBounds_toArray, List.set_cons_zero, List.set_cons_succ]
        refine AnyT.take (i := 3) (v := ?_) (by simp only [List.getElem?_toArray, List.getElem?_cons_succ, List.getElem?_cons_zero]; rfl) (by kernel_rfl) (by kernel_rfl) (by kernel_rfl) (by kernel_rfl) (by intro _ _ _ h; exact h) (Or.inl ⟨by rfl, fun w hSw => ?_⟩) hHeld ?_
        rotate_left
        · ((try dsimp only at hSw); go_simp; first | done | with_reducible rfl | rfl)
        try simp only [Act.put, List.setIfInBounds_toArray, List.set_cons_zero, List.set_cons_succ]
        refine AnyT.take (i := 4) (v := ?_) (by simp only [List.getElem?_toArray, List.getElem?_cons_succ, List.getElem?_cons_zero]; rfl) (by kernel_rfl) (by kernel_rfl) (by kernel_rfl) (by kernel_rfl) (by intro _ _ _ h; exact h) (Or.inl ⟨by rfl, fun w hSw => ?_⟩) hHeld ?_
        rotate_left
        · ((try dsimp only at hSw); go_simp; first | done | with_reducible rfl | rfl)
        try simp only [Act.put, List.setIfInBounds_toArray, List.set_cons_zero, List.set_cons_succ]
        refine AnyT.take (i := 5) (v := ?_) (by simp only [List.getElem?_toArray, List.getElem?_cons_succ, List.getElem?_cons_zero]; rfl) (by kernel_rfl) (by kernel_rfl) (by kernel_rfl) (by kernel_rfl) (by intro _ _ _ h; exact h) (Or.inl ⟨by rfl, fun w hSw => ?_⟩) hHeld ?_
        rotate_left
        · ((try dsimp only at hSw); go_simp; first | done | with_reducible rfl | rfl)
        try simp only [Act.put, List.setIfInBounds_toArray, List.set_cons_zero, List.set_cons_succ]
        refine AnyT.take (i := 6) (v := ?_) (by simp only [List.getElem?_toArray, List.getElem?_cons_succ, List.getElem?_cons_zero]; rfl) (by kernel_rfl) (by kernel_rfl) (by kernel_rfl) (by kernel_rfl) (by intro _ _ _ h; exact h) (Or.inl ⟨by rfl, fun w hSw => ?_⟩) hHeld ?_
        rotate_left
        · ((try dsimp only at hSw); go_simp; first | done | with_reducible rfl | rfl)
        try simp only [Act.put, List.setIfInBounds_toArray, List.set_cons_zero, List.set_cons_succ]
        refine AnyT.take (i := 7) (v := ?_) (by simp only [List.getElem?_toArray, List.getElem?_cons_succ, List.getElem?_cons_zero]; rfl) (by kernel_rfl) (by kernel_rfl) (by kernel_rfl) (by kernel_rfl) (by intro _ _ _ h; exact h) (Or.inl ⟨by rfl, fun w hSw => ?_⟩) hHeld ?_
        rotate_left
        · ((try dsimp only at hSw); go_simp; first | done | with_reducible rfl | rfl)
        try simp only [Act.put, List.setIfInBounds_toArray, List.set_cons_zero, List.set_cons_succ]
        refine AnyT.take (i := 8) (v := ?_) (by simp only [List.getElem?_toArray, List.getElem?_cons_succ, List.getElem?_cons_zero]; rfl) (by kernel_rfl) (by kernel_rfl) (by kernel_rfl) (by kernel_rfl) (by intro _ _ _ h; exact h) (Or.inl ⟨by rfl, fun w hSw => ?_⟩) hHeld ?_
        rotate_left
        · ((try dsimp only at hSw); go_simp; first | done | with_reducible rfl | rfl)
        try simp only [Act.put, List.setIfInBounds_toArray, List.set_cons_zero, List.set_cons_succ]
        refine AnyT.take (i := 9) (v := ?_) (by simp only [List.getElem?_toArray, List.getElem?_cons_succ, List.getElem?_cons_zero]; rfl) (by kernel_rfl) (by kernel_rfl) (by kernel_rfl) (by kernel_rfl) (by intro _ _ _ h; exact h) (Or.inl ⟨by rfl, fun w hSw => ?_⟩) hHeld ?_
        rotate_left
        · ((try dsimp only at hSw); go_simp; first | done | with_reducible rfl | rfl)
        try simp only [Act.put, List.setIfInBounds_toArray, List.set_cons_zero, List.set_cons_succ]
        refine AnyT.take (i := 10) (v := ?_) (by simp only [List.getElem?_toArray, List.getElem?_cons_succ, List.getElem?_cons_zero]; rfl) (by kernel_rfl) (by kernel_rfl) (by kernel_rfl) (by kernel_rfl) (by intro _ _ _ h; exact h) (Or.inl ⟨by rfl, fun w hSw => ?_⟩) hHeld ?_
        rotate_left
        · ((try dsimp only at hSw); go_simp; first | done | with_reducible rfl | rfl)
        try simp only [Act.put, List.setIfInBounds_toArray, List.set_cons_zero, List.set_cons_succ]
        refine AnyT.take (i := 11) (v := ?_) (by simp only [List.getElem?_toArray, List.getElem?_cons_succ, List.getElem?_cons_zero]; rfl) (by kernel_rfl) (by kernel_rfl) (by kernel_rfl) (by kernel_rfl) (by intro _ _ _ h; exact h) (Or.inl ⟨by rfl, fun w hSw => ?_⟩) hHeld ?_
        rotate_left
        · ((try dsimp only at hSw); go_simp; first | done | with_reducible rfl | rfl)
        try simp only [Act.put, List.setIfInBounds_toArray, List.set_cons_zero, List.set_cons_succ]
        refine AnyT.take (i := 12) (v := ?_) (by simp only [List.getElem?_toArray, List.getElem?_cons_succ, List.getElem?_cons_zero]; rfl) (by kernel_rfl) (by kernel_rfl) (by kernel_rfl) (by kernel_rfl) (by intro _ _ _ h; exact h) (Or.inl ⟨by rfl, fun w hSw => ?_⟩) hHeld ?_
        rotate_left
        · ((try dsimp only at hSw); go_simp; first | done | with_reducible rfl | rfl)
        try simp only [Act.put, List.setIfInBounds_toArray, List.set_cons_zero, List.set_cons_succ]
        refine AnyT.take (i := 13) (v := ?_) (by simp only [List.getElem?_toArray, List.getElem?_cons_succ, List.getElem?_cons_zero]; rfl) (by kernel_rfl) (by kernel_rfl) (by kernel_rfl) (by kernel_rfl) (by intro _ _ _ h; exact h) (Or.inl ⟨by rfl, fun w hSw => ?_⟩) hHeld ?_
        rotate_left
        · ((try dsimp only at hSw); go_simp; first | done | with_reducible rfl | rfl)
        try simp only [Act.put, List.setIfInBounds_toArray, List.set_cons_zero, List.set_cons_succ]
        refine AnyT.take (i := 14) (v := ?_) (by simp only [List.getElem?_toArray, List.getElem?_cons_succ, List.getElem?_cons_zero]; rfl) (by kernel_rfl) (by kernel_rfl) (by kernel_rfl) (by kernel_rfl) (by intro _ _ _ h; exact h) (Or.inl ⟨by rfl, fun w hSw => ?_⟩) hHeld ?_
        rotate_left
        · ((try dsimp only at hSw); go_simp; first | done | with_reducible rfl | rfl)
        try simp only [Act.put, List.setIfInBounds_toArray, List.set_cons_zero, List.set_cons_succ]
        refine AnyT.take (i := 15) (v := ?_) (by simp only [List.getElem?_toArray, List.getElem?_cons_succ, List.getElem?_cons_zero]; rfl) (by kernel_rfl) (by kernel_rfl) (by kernel_rfl) (by kernel_rfl) (by intro _ _ _ h; exact h) (Or.inl ⟨by rfl, fun w hSw => ?_⟩) hHeld ?_
        rotate_left
        · ((try dsimp only at hSw); go_simp; first | done | with_reducible rfl | rfl)
        try simp only [Act.put, List.setIfInBounds_toArray, List.set_cons_zero, List.set_cons_succ]
        refine AnyT.take (i := 16) (v := ?_) (by simp only [List.getElem?_toArray, List.getElem?_cons_succ, List.getElem?_cons_zero]; rfl) (by kernel_rfl) (by kernel_rfl) (by kernel_rfl) (by kernel_rfl) (by intro _ _ _ h; exact h) (Or.inl ⟨by rfl, fun w hSw => ?_⟩) hHeld ?_
        rotate_left
        · ((try dsimp only at hSw); go_simp; first | done | with_reducible rfl | rfl)
        try simp only [Act.put, List.setIfInBounds_toArray, List.set_cons_zero, List.set_cons_succ]
        refine AnyT.ready (rs := [17]) (by kernel_rfl) (by simp) ?_
        refine AllT.cons (by simp only [List.getElem?_toArray, List.getElem?_cons_succ, List.getElem?_cons_zero]; rfl) (fun K hK => ?_) AllT.nil
        go_simp
        refine (sep_own s.prev.length key.length cc pc kc cA pA kA s.prev key Fc (fp wp 0 [.iface 91 (.pointer (some ⟨g, 0, none⟩))] :: fp wp 1 [errv] :: fp wp 2 [.iface 112 (.agg #[]), fv, .int .u64 1, .int .i64 bs] :: fp wp 217 [.int .u64 s.pO, .int .u64 s.pL] :: fp wp 219 [.int .u64 s.off] :: fp wp 220 [.int .i64 s.nAll] :: fp wp 221 scr20 :: fp wp 241 scr30 :: fp wp 271 [.slice cA cl.length cc] :: fp wp 6 [.int .i64 rs] :: fp wp (6 + 67) [.int .i64 s.nE, .slice pA s.prev.length pc, .slice rA s.rst.length rc, .slice (some ⟨wp, 241, none⟩) 30 30] :: (Fb ++ (Fp ++ (Fq ++ (F2 ++ (F3 ++ (G ++ R))))))) w0 _ HC0.out HOP.out.drew (HOP.out.drew.st (HP.out.rd w0) (fun x hx => by simp [hx])) (HOP.out.drew.st HK.out (fun x hx => by simp [hx])) rfl rfl hp hkl HP.out.le).mono ?_
        intro e w1 hret
        obtain ⟨⟨v, rfl⟩, F', hO1⟩ := hret.own
        have HRET := hid hret
        clear c0 c1 c2 c3 c4 c5 c217 c218 c219 c220 c271 c73 c74 f0 bl hret
        obtain ⟨c0, c1, c2, c3, c4, c5, c217, c218, c219, c220, c271, c73, c74, f0, bl⟩ := tw_hdr hO1.right
        clear hO1
        try go_wp2_with fail
        refine hK.out _ _ ?_ (fun hHeld => ?_)
        · exact ⟨c2, c271, c74⟩
        clear hK
        try simp only [Act.put, List.setIfInBounds_toArray, List.set_cons_zero, List.set_cons_succ]
        refine AnyT.take (i := 18) (v := ?_) (by simp only [List.getElem?_toArray, List.getElem?_cons_succ, List.getElem?_cons_zero]; rfl) (by kernel_rfl) (by kernel_rfl) (by kernel_rfl) (by kernel_rfl) (by intro _ _ _ h; exact h) (Or.inl ⟨by rfl, fun w hSw => ?_⟩) hHeld ?_
        rotate_left
        · ((try dsimp only at hSw); go_simp; first | done | with_reducible rfl | rfl)
        try simp only [Act.put, List.setIfInBounds_toArray, List.set_cons_zero, List.set_cons_succ]
        refine AnyT.done (by kernel_rfl) ?_ _
        go_wp2_with fail
        go_meet
        rw [if_neg HK0.out]
        exact HRET.out
    case rest =>
      have hne : ∀ l, (if key = [] then succ s.prev 0 else sep s.prev key) = some l → l ≠ [] := fun l hl => by
        split at hl
        · exact succ_ne hl
        · exact sep_ne hl
      obtain ⟨A4, n4, q4, rfl, hor⟩ := hcut.val hne
      have HOR := hid hor
      clear hcut hne hor HO c0 c1 c2 c3 c4 c5 c217 c218 c219 c220 c271 c73 c74 f0 bl
      have en := fun W x n c => Lib.run_eql_slice_nil (P := Tryd.prog) W 25 5 x n c 0 0 Tryd.underlying25
      go_upto_if 51 with fail
      go_cut [4] (fun s4 wx => ∃ (KA cA' : Option Addr) (KC cc' : Nat) (cl' : List UInt8) (Fc' : List Fr), s4 = .slice KA (sepKey s.prev key).length KC ∧ (sepKey s.prev key).length ≤ KC ∧ Row 5 1 cA' cl'.length cc' (bc cl') Fc' ∧ Rd (Fp ++ Fc') w0 KA (sepKey s.prev key) ∧ Own (fp wp 0 [.iface 91 (.pointer (some ⟨g, 0, none⟩))] :: fp wp 1 [errv] :: fp wp 2 [.iface 112 (.agg #[]), fv, .int .u64 1, .int .i64 bs] :: fp wp 217 [.int .u64 s.pO, .int .u64 s.pL] :: fp wp 219 [.int .u64 s.off] :: fp wp 220 [.int .i64 s.nAll] :: fp wp 221 scr20 :: fp wp 241 scr30 :: fp wp 271 [.slice cA' cl'.length cc'] :: fp wp 6 [.int .i64 rs] :: fp wp (6 + 67) [.int .i64 s.nE, .slice pA s.prev.length pc, .slice rA s.rst.length rc, .slice (some ⟨wp, 241, none⟩) 30 30] :: (Fb ++ (Fp ++ (Fq ++ (F2 ++ (F3 ++ (G ++ (Fc' ++ R)))))))) w0 wx)
      case first =>
        rcases HOR.out with ⟨hx, rfl, hO1⟩ | ⟨l, F', a, hx, rfl, rfl, hR1, hO1⟩
        · have hsk : sepKey s.prev key = s.prev := by unfold sepKey; rw [hx]; rfl
          obtain ⟨c0, c1, c2, c3, c4, c5, c217, c218, c219, c220, c271, c73, c74, f0, bl⟩ := tw_hdr (hO1.perm (L' := fp wp 0 [.iface 91 (.pointer (some ⟨g, 0, none⟩))] :: fp wp 1 [errv] :: fp wp 2 [.iface 112 (.agg #[]), fv, .int .u64 1, .int .i64 bs] :: fp wp 217 [.int .u64 s.pO, .int .u64 s.pL] :: fp wp 219 [.int .u64 s.off] :: fp wp 220 [.int .i64 s.nAll] :: fp wp 221 scr20 :: fp wp 241 scr30 :: fp wp 271 [.slice cA cl.length cc] :: fp wp 6 [.int .i64 rs] :: fp wp (6 + 67) [.int .i64 s.nE, .slice pA s.prev.length pc, .slice rA s.rst.length rc, .slice (some ⟨wp, 241, none⟩) 30 30] :: (Fc ++ (Fb ++ (Fp ++ (Fq ++ (F2 ++ (F3 ++ (G ++ R)))))))) (perm_of fun _ _ z => by simp only [List.count_append, List.count_cons, List.cons_append, List.count_nil, List.nil_append, List.append_nil]; omega))
          have HO1 := hid hO1
          have HSK := hid hsk
          clear hO1 hx hsk HOR
          go_wp2_with fail
          go_meet
          rw [HSK.out]
          exact ⟨pA, cA, pc, cc, cl, Fc, rfl, HP.out.le, HC.out, (HP.out.rd w0).left Fc, HO1.out.perm (perm_of fun _ _ z => by simp only [List.count_append, List.count_cons, List.cons_append, List.count_nil, List.nil_append, List.append_nil]; omega)⟩
        · have hsk : sepKey s.prev key = l := by unfold sepKey; rw [hx]; rfl
          have hO2 : Own (fp wp 271 [.slice cA cl.length cc] :: fp wp 0 [.iface 91 (.pointer (some ⟨g, 0, none⟩))] :: fp wp 1 [errv] :: fp wp 2 [.iface 112 (.agg #[]), fv, .int .u64 1, .int .i64 bs] :: fp wp 217 [.int .u64 s.pO, .int .u64 s.pL] :: fp wp 219 [.int .u64 s.off] :: fp wp 220 [.int .i64 s.nAll] :: fp wp 221 scr20 :: fp wp 241 scr30 :: fp wp 6 [.int .i64 rs] :: fp wp (6 + 67) [.int .i64 s.nE, .slice pA s.prev.length pc, .slice rA s.rst.length rc, .slice (some ⟨wp, 241, none⟩) 30 30] :: (F' ++ (Fb ++ (Fp ++ (Fq ++ (F2 ++ (F3 ++ (G ++ R)))))))) w0 wc := hO1.perm (perm_of fun _ _ z => by simp only [List.count_append, List.count_cons, List.cons_append, List.count_nil, List.nil_append, List.append_nil]; omega)
          obtain ⟨c0, c1, c2, c3, c4, c5, c217, c218, c219, c220, c271, c73, c74, f0, bl⟩ := tw_hdr (hO1.perm (L' := fp wp 0 [.iface 91 (.pointer (some ⟨g, 0, none⟩))] :: fp wp 1 [errv] :: fp wp 2 [.iface 112 (.agg #[]), fv, .int .u64 1, .int .i64 bs] :: fp wp 217 [.int .u64 s.pO, .int .u64 s.pL] :: fp wp 219 [.int .u64 s.off] :: fp wp 220 [.int .i64 s.nAll] :: fp wp 221 scr20 :: fp wp 241 scr30 :: fp wp 271 [.slice cA cl.length cc] :: fp wp 6 [.int .i64 rs] :: fp wp (6 + 67) [.int .i64 s.nE, .slice pA s.prev.length pc, .slice rA s.rst.length rc, .slice (some ⟨wp, 241, none⟩) 30 30] :: (F' ++ (Fb ++ (Fp ++ (Fq ++ (F2 ++ (F3 ++ (G ++ R)))))))) (perm_of fun _ _ z => by simp only [List.count_append, List.count_cons, List.cons_append, List.count_nil, List.nil_append, List.append_nil]; omega))
          have HO2 := hid hO2
          have HSK := hid hsk
          have HR1 := hid hR1
          clear hO1 hO2 hx hsk HOR hR1
          go_wp2_with fail
          go_meet
          rw [HSK.out]
          have h5 := HO2.out.set (k := 271) 0 rfl (by simp) (.slice (some a) l.length q4)
          exact ⟨some a, some a, q4, q4, l, F', rfl, HR1.out.le, HR1.out, (HR1.out.rd w0).right Fp, Own.perm (L := fp wp 271 [.slice (some a) l.length q4] :: fp wp 0 [.iface 91 (.pointer (some ⟨g, 0, none⟩))] :: fp wp 1 [errv] :: fp wp 2 [.iface 112 (.agg #[]), fv, .int .u64 1, .int .i64 bs] :: fp wp 217 [.int .u64 s.pO, .int .u64 s.pL] :: fp wp 219 [.int .u64 s.off] :: fp wp 220 [.int .i64 s.nAll] :: fp wp 221 scr20 :: fp wp 241 scr30 :: fp wp 6 [.int .i64 rs] :: fp wp (6 + 67) [.int .i64 s.nE, .slice pA s.prev.length pc, .slice rA s.rst.length rc, .slice (some ⟨wp, 241, none⟩) 30 30] :: (F' ++ (Fb ++ (Fp ++ (Fq ++ (F2 ++ (F3 ++ (G ++ R)))))))) h5 (perm_of fun _ _ z => by simp only [List.count_append, List.count_cons, List.cons_append, List.count_nil, List.nil_append, List.append_nil]; omega)⟩
      case rest =>
        obtain ⟨KA, cA', KC, cc', cl', Fc', rfl, hKC, hC', hKr, hO1⟩ := hcut
        obtain ⟨c0, c1, c2, c3, c4, c5, c217, c218, c219, c220, c271, c73, c74, f0, bl⟩ := tw_hdr hO1
        have HO1 := hid (hO1.perm (L' := fp wp 221 scr20 :: fp wp 0 [.iface 91 (.pointer (some ⟨g, 0, none⟩))] :: fp wp 1 [errv] :: fp wp 2 [.iface 112 (.agg #[]), fv, .int .u64 1, .int .i64 bs] :: fp wp 217 [.int .u64 s.pO, .int .u64 s.pL] :: fp wp 219 [.int .u64 s.off] :: fp wp 220 [.int .i64 s.nAll] :: fp wp 241 scr30 :: fp wp 271 [.slice cA' cl'.length cc'] :: fp wp 6 [.int .i64 rs] :: fp wp (6 + 67) [.int .i64 s.nE, .slice pA s.prev.length pc, .slice rA s.rst.length rc, .slice (some ⟨wp, 241, none⟩) 30 30] :: (Fb ++ (Fp ++ (Fq ++ (F2 ++ (F3 ++ (G ++ (Fc' ++ R)))))))) (perm_of fun _ _ z => by simp only [List.count_append, List.count_cons, List.cons_append, List.count_nil, List.nil_append, List.append_nil]; omega))
        have HC' := hid hC'
        have HKr := hid hKr
        have hho := uv_len10 hpO
        have hhl := uv_len10 hpL
        obtain ⟨sk, hsk⟩ : ∃ sk, sepKey s.prev key = sk := ⟨_, rfl⟩
        have hskl := sepKey_le s.prev key
        have HSK := hid hsk
        rw [hsk] at hKC HKr hskl ⊢
        clear hO1 hC' hKr hsk HOR
        go_wp2_with fail
        refine AnyT.start (S := fun w' => w'.cell? ⟨wp, 217, none⟩ = some (.int .u64 s.pO) ∧ w'.cell? ⟨wp, 218, none⟩ = some (.int .u64 s.pL)) (T := []) (by kernel_rfl) (⟨c217, c218⟩) (fun hHeld => ?_)
        refine AnyT.take (i := 0) (v := ?_) (by simp only [List.getElem?_toArray, List.getElem?_cons_succ, List.getElem?_cons_zero]; rfl) (by kernel_rfl) (by kernel_rfl) (by kernel_rfl) (by kernel_rfl) (by intro _ _ _ h; exact h) (Or.inl ⟨by rfl, fun w hSw => ?_⟩) hHeld ?_
        rotate_left
        · ((try dsimp only at hSw); go_simp; first | done | with_reducible rfl | rfl)
        try simp only [Act.put, List.setIfInBounds_toArray, List.set_cons_zero, List.set_cons_succ]
        refine AnyT.take (i := 1) (v := ?_) (by simp only [List.getElem?_toArray, List.getElem?_cons_succ, List.getElem?_cons_zero]; rfl) (by kernel_rfl) (by kernel_rfl) (by kernel_rfl) (by kernel_rfl) (by intro _ _ _ h; exact h) (Or.inl ⟨by rfl, fun w hSw => ?_⟩) hHeld ?_
        rotate_left
        · ((try dsimp only at hSw); go_simp; first | done | with_reducible rfl | rfl)
        try simp only [Act.put, List.setIfInBounds_toArray, List.set_cons_zero, List.set_cons_succ]
        refine AnyT.take (i := 2) (v := ?_) (by simp only [List.getElem?_toArray, List.getElem?_cons_succ, List.getElem?_cons_zero]; rfl) (by kernel_rfl) (by kernel_rfl) (by kernel_rfl) (by kernel_rfl) (by intro _ _ _ h; exact h) (Or.inl ⟨by rfl, fun w hSw => ?_⟩) hHeld ?_
        rotate_left
        · ((try dsimp only at hSw); go_simp; first | done | with_reducible rfl | rfl)
        try simp only [Act.put, List.setIfInBounds_toArray, List.set_cons_zero, List.set_cons_succ]
        refine AnyT.take (i := 3) (v := ?_) (by simp only [List.getElem?_toArray, List.getElem?_cons_succ, List.getElem?_cons_zero]; rfl) (by kernel_rfl) (by kernel_rfl) (by kernel_rfl) (by kernel_rfl) (by intro _ _ _ h; exact h) (Or.inl ⟨by rfl, fun w hSw => ?_⟩) hHeld ?_
        rotate_left
        · ((try dsimp only at hSw); go_simp; first | done | with_reducible rfl | rfl)
        try simp only [Act.put, List.setIfInBounds_toArray, List.set_cons_zero, List.set_cons_succ]
        refine AnyT.take (i := 4) (v := ?_) (by simp only [List.getElem?_toArray, List.getElem?_cons_succ, List.getElem?_cons_zero]; rfl) (by kernel_rfl) (by kernel_rfl) (by kernel_rfl) (by kernel_rfl) (by intro _ _ _ h; exact h) (Or.inl ⟨by rfl, fun w hSw => ?_⟩) hHeld ?_
        rotate_left
        · ((try dsimp only at hSw); go_simp; first | done | with_reducible rfl | rfl)
        try simp only [Act.put, List.setIfInBounds_toArray, List.set_cons_zero, List.set_cons_succ]
        refine AnyT.take (i := 5) (v := ?_) (by simp only [List.getElem?_toArray, List.getElem?_cons_succ, List.getElem?_cons_zero]; rfl) (by kernel_rfl) (by kernel_rfl) (by kernel_rfl) (by kernel_rfl) (by intro _ _ _ h; exact h) (Or.inl ⟨by rfl, fun w hSw => ?_⟩) hHeld ?_
        rotate_left
        · ((try dsimp only at hSw); go_simp; first | done | with_reducible rfl | rfl)
        try simp only [Act.put, List.setIfInBounds_toArray, List.set_cons_zero, List.set_cons_succ]
        refine AnyT.take (i := 6) (v := ?_) (by simp only [List.getElem?_toArray, List.getElem?_cons_succ, List.getElem?_cons_zero]; rfl) (by kernel_rfl) (by kernel_rfl) (by kernel_rfl) (by kernel_rfl) (by intro _ _ _ h; exact h) (Or.inl ⟨by rfl, fun w hSw => ?_⟩) hHeld ?_
        rotate_left
        · ((try dsimp only at hSw); go_simp; first | done | with_reducible rfl | rfl)
        try simp only [Act.put, List.setIfInBounds_toArray, List.set_cons_zero, List.set_cons_succ]
        refine AnyT.take (i := 7) (v := ?_) (by simp only [List.getElem?_toArray, List.getElem?_cons_succ, List.getElem?_cons_zero]; rfl) (by kernel_rfl) (by kernel_rfl) (by kernel_rfl) (by kernel_rfl) (by intro _ _ _ h; exact h) (Or.inl ⟨by rfl, fun w hSw => ?_⟩) hHeld ?_
        rotate_left
        · ((try dsimp only at hSw); go_simp; first | done | with_reducible rfl | rfl)
        try simp only [Act.put, List.setIfInBounds_toArray, List.set_cons_zero, List.set_cons_succ]
        refine AnyT.ready (rs := [8]) (by kernel_rfl) (by simp) ?_
        refine AllT.cons (by simp only [List.getElem?_toArray, List.getElem?_cons_succ, List.getElem?_cons_zero]; rfl) (fun K hK => ?_) AllT.nil
        go_simp
        refine (encHandle (fp wp 221 scr20) 0 221 20 50 s.pO s.pL _ w0 _ rfl HO1.out.drew (by show 0 + 20 ≤ scr20.length; omega) (by omega) (by omega) hpO hpL (by omega)).mono ?_
        rintro e w1 ⟨rfl, hO2⟩
        have hO3 : Own (fp wp 221 (splice scr20 0 (bc (handle s.pO s.pL))) :: fp wp 0 [.iface 91 (.pointer (some ⟨g, 0, none⟩))] :: fp wp 1 [errv] :: fp wp 2 [.iface 112 (.agg #[]), fv, .int .u64 1, .int .i64 bs] :: fp wp 217 [.int .u64 s.pO, .int .u64 s.pL] :: fp wp 219 [.int .u64 s.off] :: fp wp 220 [.int .i64 s.nAll] :: fp wp 241 scr30 :: fp wp 271 [.slice cA' cl'.length cc'] :: fp wp 6 [.int .i64 rs] :: fp wp (6 + 67) [.int .i64 s.nE, .slice pA s.prev.length pc, .slice rA s.rst.length rc, .slice (some ⟨wp, 241, none⟩) 30 30] :: (Fb ++ (Fp ++ (Fq ++ (F2 ++ (F3 ++ (G ++ (Fc' ++ R)))))))) w0 w1 := hO2
        have hlh : (handle s.pO s.pL).length = (uv s.pO).length + (uv s.pL).length := List.length_append
        obtain ⟨hd, hhd⟩ : ∃ hd, handle s.pO s.pL = hd := ⟨_, rfl⟩
        have HHD := hid hhd
        rw [hhd] at hO3 hlh ⊢
        obtain ⟨hn, hhn⟩ : ∃ hn, hd.length = hn := ⟨_, rfl⟩
        rw [hhn] at hlh ⊢
        have HHN := hid hhn
        have hs20' : (splice scr20 0 (bc hd)).length = 20 := by rw [length_splice _ _ _ (by rw [bc_length, hhn]; omega), hs20]
        have hhr : ∀ M, Rd (fp wp 221 (splice scr20 0 (bc hd)) :: M) w0 (some ⟨wp, 221, none⟩) hd := fun M => Rd.fr (x := fp wp 221 (splice scr20 0 (bc hd))) (by simp) (i := 0) rfl (by show 0 + hd.length ≤ (splice scr20 0 (bc hd)).length; omega) (by
          rw [List.drop_zero]
          have := splice_take0 scr20 (bc hd) (by rw [bc_length, hhn]; omega)
          rwa [bc_length] at this)
        obtain ⟨sc2, hsc2⟩ : ∃ sc2, splice scr20 0 (bc hd) = sc2 := ⟨_, rfl⟩
        rw [hsc2] at hO3 hs20' hhr
        obtain ⟨c0, c1, c2, c3, c4, c5, c217, c218, c219, c220, c271, c73, c74, f0, bl⟩ := tw_hdr (hO3.perm (L' := fp wp 0 [.iface 91 (.pointer (some ⟨g, 0, none⟩))] :: fp wp 1 [errv] :: fp wp 2 [.iface 112 (.agg #[]), fv, .int .u64 1, .int .i64 bs] :: fp wp 217 [.int .u64 s.pO, .int .u64 s.pL] :: fp wp 219 [.int .u64 s.off] :: fp wp 220 [.int .i64 s.nAll] :: fp wp 221 sc2 :: fp wp 241 scr30 :: fp wp 271 [.slice cA' cl'.length cc'] :: fp wp 6 [.int .i64 rs] :: fp wp (6 + 67) [.int .i64 s.nE, .slice pA s.prev.length pc, .slice rA s.rst.length rc, .slice (some ⟨wp, 241, none⟩) 30 30] :: (Fb ++ (Fp ++ (Fq ++ (F2 ++ (F3 ++ (G ++ (Fc' ++ R)))))))) (perm_of fun _ _ z => by simp only [List.count_append, List.count_cons, List.cons_append, List.count_nil, List.nil_append, List.append_nil]; omega))
        have HO3 := hid (hO3.perm (L' := F2 ++ (fp wp 241 scr30 :: (fp wp 221 sc2 :: fp wp 0 [.iface 91 (.pointer (some ⟨g, 0, none⟩))] :: fp wp 1 [errv] :: fp wp 2 [.iface 112 (.agg #[]), fv, .int .u64 1, .int .i64 bs] :: fp wp 217 [.int .u64 s.pO, .int .u64 s.pL] :: fp wp 219 [.int .u64 s.off] :: fp wp 220 [.int .i64 s.nAll] :: fp wp 271 [.slice cA' cl'.length cc'] :: fp wp 6 [.int .i64 rs] :: fp wp (6 + 67) [.int .i64 s.nE, .slice pA s.prev.length pc, .slice rA s.rst.length rc, .slice (some ⟨wp, 241, none⟩) 30 30] :: (Fb ++ (Fp ++ (Fq ++ (F3 ++ (G ++ (Fc' ++ R))))))))) (perm_of fun _ _ z => by simp only [List.count_append, List.count_cons, List.cons_append, List.count_nil, List.nil_append, List.append_nil]; omega))
        have HHR := hid hhr
        have hnle : hn ≤ 20 := by omega
        have hn0 : 0 ≤ (hn : Int) := by omega
        clear hO2 hO3 hhr HO1 hhd hsc2 hlh hhn
        try go_wp2_with fail
        refine hK.out _ _ ?_ (fun hHeld => ?_)
        · exact ⟨c217, c218⟩
        clear hK
        try simp only [Act.put, List.setIfInBounds_toArray, List.set_cons_zero, List.set_cons_succ]
        refine AnyT.take (i := 9) (v := ?_) (by simp only [List.getElem?_toArray, List.getElem?_cons_succ, List.getElem?_cons_zero]; rfl) (by kernel_rfl) (by kernel_rfl) (by kernel_rfl) (by kernel_rfl) (by intro _ _ _ h; exact h) (Or.inl ⟨by rfl, fun w hSw => ?_⟩) hHeld ?_
        rotate_left
        · ((try dsimp only at hSw); go_simp; first | done | with_reducible rfl | rfl)
        try simp only [Act.put, List.setIfInBounds_toArray, List.set_cons_zero, List.set_cons_succ]
        refine AnyT.done (by kernel_rfl) ?_ _
        have z1 : (hn : Int) ≤ 50 := by omega
        go_wp2_with fail
        refine AnyT.start (S := fun _ => True) (T := []) (by kernel_rfl) (trivial) (fun hHeld => ?_)
        refine AnyT.take (i := 0) (v := ?_) (by simp only [List.getElem?_toArray, List.getElem?_cons_succ, List.getElem?_cons_zero]; rfl) (by kernel_rfl) (by kernel_rfl) (by kernel_rfl) (by kernel_rfl) (by intro _ _ _ h; exact h) (Or.inl ⟨by rfl, fun w hSw => ?_⟩) hHeld ?_
        rotate_left
        · ((try dsimp only at hSw); go_simp; first | done | with_reducible rfl | rfl)
        try simp only [Act.put, List.setIfInBounds_toArray, List.set_cons_zero, List.set_cons_succ]
        refine AnyT.take (i := 1) (v := ?_) (by simp only [List.getElem?_toArray, List.getElem?_cons_succ, List.getElem?_cons_zero]; rfl) (by kernel_rfl) (by kernel_rfl) (by kernel_rfl) (by kernel_rfl) (by intro _ _ _ h; exact h) (Or.inl ⟨by rfl, fun w hSw => ?_⟩) hHeld ?_
        rotate_left
        · ((try dsimp only at hSw); go_simp; first | done | with_reducible rfl | rfl)
        try simp only [Act.put, List.setIfInBounds_toArray, List.set_cons_zero, List.set_cons_succ]
        refine AnyT.take (i := 2) (v := ?_) (by simp only [List.getElem?_toArray, List.getElem?_cons_succ, List.getElem?_cons_zero]; rfl) (by kernel_rfl) (by kernel_rfl) (by kernel_rfl) (by kernel_rfl) (by intro _ _ _ h; exact h) (Or.inl ⟨by rfl, fun w hSw => ?_⟩) hHeld ?_
        rotate_left
        · ((try dsimp only at hSw); go_simp; first | done | with_reducible rfl | rfl)
        try simp only [Act.put, List.setIfInBounds_toArray, List.set_cons_zero, List.set_cons_succ]
        refine AnyT.take (i := 3) (v := ?_) (by simp only [List.getElem?_toArray, List.getElem?_cons_succ, List.getElem?_cons_zero]; rfl) (by kernel_rfl) (by kernel_rfl) (by kernel_rfl) (by kernel_rfl) (by intro _ _ _ h; exact h) (Or.inl ⟨by rfl, fun w hSw => ?_⟩) hHeld ?_
        rotate_left
        · ((try dsimp only at hSw); go_simp; first | done | with_reducible rfl | rfl)
        try simp only [Act.put, List.setIfInBounds_toArray, List.set_cons_zero, List.set_cons_succ]
        refine AnyT.take (i := 4) (v := ?_) (by simp only [List.getElem?_toArray, List.getElem?_cons_succ, List.getElem?_cons_zero]; rfl) (by kernel_rfl) (by kernel_rfl) (by kernel_rfl) (by kernel_rfl) (by intro _ _ _ h; exact h) (Or.inl ⟨by rfl, fun w hSw => ?_⟩) hHeld ?_
        rotate_left
        · ((try dsimp only at hSw); go_simp; first | done | with_reducible rfl | rfl)
        try simp only [Act.put, List.setIfInBounds_toArray, List.set_cons_zero, List.set_cons_succ]
        refine AnyT.take (i := 5) (v := ?_) (by simp only [List.getElem?_toArray, List.getElem?_cons_succ, List.getElem?_cons_zero]; rfl) (by kernel_rfl) (by kernel_rfl) (by kernel_rfl) (by kernel_rfl) (by intro _ _ _ h; exact h) (Or.inl ⟨by rfl, fun w hSw => ?_⟩) hHeld ?_
        rotate_left
        · ((try dsimp only at hSw); go_simp; first | done | with_reducible rfl | rfl)
        try simp only [Act.put, List.setIfInBounds_toArray, List.set_cons_zero, List.set_cons_succ]
        refine AnyT.take (i := 6) (v := ?_) (by simp only [List.getElem?_toArray, List.getElem?_cons_succ, List.getElem?_cons_zero]; rfl) (by kernel_rfl) (by kernel_rfl) (by kernel_rfl) (by kernel_rfl) (by intro _ _ _ h; exact h) (Or.inl ⟨by rfl, fun w hSw => ?_⟩) hHeld ?_
        rotate_left
        · ((try dsimp only at hSw); go_simp; first | done | with_reducible rfl | rfl)
        try simp only [Act.put, List.setIfInBounds_toArray, List.set_cons_zero, List.set_cons_succ]
        refine AnyT.take (i := 7) (v := ?_) (by simp only [List.getElem?_toArray, List.getElem?_cons_succ, List.getElem?_cons_zero]; rfl) (by kernel_rfl) (by kernel_rfl) (by kernel_rfl) (by kernel_rfl) (by intro _ _ _ h; exact h) (Or.inl ⟨by rfl, fun w hSw => ?_⟩) hHeld ?_
        rotate_left
        · ((try dsimp only at hSw); go_simp; first | done | with_reducible rfl | rfl)
        try simp only [Act.put, List.setIfInBounds_toArray, List.set_cons_zero, List.set_cons_succ]
        refine AnyT.take (i := 8) (v := ?_) (by simp only [List.getElem?_toArray, List.getElem?_cons_succ, List.getElem?_cons_zero]; rfl) (by kernel_rfl) (by kernel_rfl) (by kernel_rfl) (by kernel_rfl) (by intro _ _ _ h; exact h) (Or.inl ⟨by rfl, fun w hSw => ?_⟩) hHeld ?_
        rotate_left
        · ((try dsimp only at hSw); go_simp; first | done | with_reducible rfl | rfl)
        try simp only [Act.put, List.setIfInBounds_toArray, List.set_cons_zero, List.set_cons_succ]
        refine AnyT.ready (rs := [9]) (by kernel_rfl) (by simp) ?_
        refine AllT.cons (by simp only [List.getElem?_toArray, List.getElem?_cons_succ, List.getElem?_cons_zero]; rfl) (fun K hK => ?_) AllT.nil
        go_simp
        have HA := bw_append wp 77 1 s.nI KC 50 wp 241 KA (some ⟨wp, 221, none⟩) s.idata s.iprev sk hd s.irst scr30 F2 (fp wp 221 sc2 :: fp wp 0 [.iface 91 (.pointer (some ⟨g, 0, none⟩))] :: fp wp 1 [errv] :: fp wp 2 [.iface 112 (.agg #[]), fv, .int .u64 1, .int .i64 bs] :: fp wp 217 [.int .u64 s.pO, .int .u64 s.pL] :: fp wp 219 [.int .u64 s.off] :: fp wp 220 [.int .i64 s.nAll] :: fp wp 271 [.slice cA' cl'.length cc'] :: fp wp 6 [.int .i64 rs] :: fp wp (6 + 67) [.int .i64 s.nE, .slice pA s.prev.length pc, .slice rA s.rst.length rc, .slice (some ⟨wp, 241, none⟩) 30 30] :: (Fb ++ (Fp ++ (Fq ++ (F3 ++ (G ++ (Fc' ++ R))))))) w0 _ H2.out HO3.out.drew hs30
          (HKr.out.mono (by intro x hx; simp only [List.mem_append] at hx; simp only [List.mem_cons, List.mem_append]; rcases hx with hx | hx <;> simp [hx])) (HHR.out _) hKC (by omega) (by omega) hi (by omega) (by rw [HHN.out]; omega) hnI hir (by omega)
        rw [HHN.out] at HA
        refine HA.mono ?_
        rintro e w2 ⟨rfl, F2', scr30', hW2, hs30', hO4⟩
        have hO5 : Own (fp wp 0 [.iface 91 (.pointer (some ⟨g, 0, none⟩))] :: fp wp 1 [errv] :: fp wp 2 [.iface 112 (.agg #[]), fv, .int .u64 1, .int .i64 bs] :: fp wp 217 [.int .u64 s.pO, .int .u64 s.pL] :: fp wp 219 [.int .u64 s.off] :: fp wp 220 [.int .i64 s.nAll] :: fp wp 221 sc2 :: fp wp 241 scr30' :: fp wp 271 [.slice cA' cl'.length cc'] :: fp wp 6 [.int .i64 rs] :: fp wp (6 + 67) [.int .i64 s.nE, .slice pA s.prev.length pc, .slice rA s.rst.length rc, .slice (some ⟨wp, 241, none⟩) 30 30] :: (Fb ++ (Fp ++ (Fq ++ (F2' ++ (F3 ++ (G ++ (Fc' ++ R)))))))) w0 w2 := hO4.perm (perm_of fun _ _ z => by simp only [List.count_append, List.count_cons, List.cons_append, List.count_nil, List.nil_append, List.append_nil]; omega)
        clear c0 c1 c2 c3 c4 c5 c217 c218 c219 c220 c271 c73 c74 f0 bl
        obtain ⟨c0, c1, c2, c3, c4, c5, c217, c218, c219, c220, c271, c73, c74, f0, bl⟩ := tw_hdr hO5
        have HO5 := hid (hO5.perm (L' := fp wp (6 + 67) [.int .i64 s.nE, .slice pA s.prev.length pc, .slice rA s.rst.length rc, .slice (some ⟨wp, 241, none⟩) 30 30] :: fp wp 0 [.iface 91 (.pointer (some ⟨g, 0, none⟩))] :: fp wp 1 [errv] :: fp wp 2 [.iface 112 (.agg #[]), fv, .int .u64 1, .int .i64 bs] :: fp wp 217 [.int .u64 s.pO, .int .u64 s.pL] :: fp wp 219 [.int .u64 s.off] :: fp wp 220 [.int .i64 s.nAll] :: fp wp 221 sc2 :: fp wp 241 scr30' :: fp wp 271 [.slice cA' cl'.length cc'] :: fp wp 6 [.int .i64 rs] :: (Fb ++ (Fp ++ (Fq ++ (F2' ++ (F3 ++ (G ++ (Fc' ++ R)))))))) (perm_of fun _ _ z => by simp only [List.count_append, List.count_cons, List.cons_append, List.count_nil, List.nil_append, List.append_nil]; omega))
        have hN : bwN 1 s.nI s.iprev sk = 0 := by unfold bwN; rw [if_pos (Nat.mod_one _)]
        have hRr : bwR 1 s.nI s.idata s.irst = s.irst ++ [s.idata.length] := by unfold bwR; rw [if_pos (Nat.mod_one _)]
        rw [hN, hRr] at hW2
        have HW2 := hid hW2
        clear hO4 hO5 hW2 hN hRr
        try go_wp2_with fail
        refine hK.out _ _ ?_ (fun hHeld => ?_)
        · trivial
        clear hK
        try simp only [Act.put, List.setIfInBounds_toArray, List.set_cons_zero, List.set_cons_succ]
        refine AnyT.done (by kernel_rfl) ?_ _
        go_wp2_with fail
        go_end0
        refine ⟨rfl, ?_⟩
        have h1 := HO5.out.set (k := 74) 1 rfl (by simp) (.slice pA 0 pc)
        have h2 : Own (fp wp 217 [.int .u64 s.pO, .int .u64 s.pL] :: fp wp 0 [.iface 91 (.pointer (some ⟨g, 0, none⟩))] :: fp wp 1 [errv] :: fp wp 2 [.iface 112 (.agg #[]), fv, .int .u64 1, .int .i64 bs] :: fp wp 219 [.int .u64 s.off] :: fp wp 220 [.int .i64 s.nAll] :: fp wp 221 sc2 :: fp wp 241 scr30' :: fp wp 271 [.slice cA' cl'.length cc'] :: fp wp 6 [.int .i64 rs] :: fp wp (6 + 67) [.int .i64 s.nE, .slice pA 0 pc, .slice rA s.rst.length rc, .slice (some ⟨wp, 241, none⟩) 30 30] :: (Fb ++ (Fp ++ (Fq ++ (F2' ++ (F3 ++ (G ++ (Fc' ++ R)))))))) w0 (w2.setCell ⟨wp, 74, none⟩ (.slice pA 0 pc)) :=
          Own.perm (L := fp wp (6 + 67) [.int .i64 s.nE, .slice pA 0 pc, .slice rA s.rst.length rc, .slice (some ⟨wp, 241, none⟩) 30 30] :: fp wp 0 [.iface 91 (.pointer (some ⟨g, 0, none⟩))] :: fp wp 1 [errv] :: fp wp 2 [.iface 112 (.agg #[]), fv, .int .u64 1, .int .i64 bs] :: fp wp 217 [.int .u64 s.pO, .int .u64 s.pL] :: fp wp 219 [.int .u64 s.off] :: fp wp 220 [.int .i64 s.nAll] :: fp wp 221 sc2 :: fp wp 241 scr30' :: fp wp 271 [.slice cA' cl'.length cc'] :: fp wp 6 [.int .i64 rs] :: (Fb ++ (Fp ++ (Fq ++ (F2' ++ (F3 ++ (G ++ (Fc' ++ R)))))))) h1 (perm_of fun _ _ z => by simp only [List.count_append, List.count_cons, List.cons_append, List.count_nil, List.nil_append, List.append_nil]; omega)
        have h3 := (h2.set (k := 217) 0 rfl (by simp) (.int .u64 0)).set (k := 218) 1 rfl (by simp) (.int .u64 0)
        have hts : tFlush s key = { s with nI := s.nI + 1, idata := s.idata ++ ent 0 sk hd, iprev := sk, irst := s.irst ++ [s.idata.length], prev := [], pO := 0, pL := 0 } := by
          unfold tFlush; rw [if_neg H0.out, HSK.out, HHD.out]
        rw [hts]
        obtain ⟨r1, r2, r3, r4, r5⟩ := HR.out
        refine ⟨_, ⟨fv, cA', pA, rA, cc', pc, rc, cl', sc2, scr30', Fb, Fp, Fq, F2', F3, G, Fc', r1, r2, HP.out.cut0, r3, HW2.out, r4, r5, hs20', hs30', HC'.out, rfl⟩, ?_⟩
        exact Own.perm (L := fp wp 217 [.int .u64 0, .int .u64 0] :: fp wp 0 [.iface 91 (.pointer (some ⟨g, 0, none⟩))] :: fp wp 1 [errv] :: fp wp 2 [.iface 112 (.agg #[]), fv, .int .u64 1, .int .i64 bs] :: fp wp 219 [.int .u64 s.off] :: fp wp 220 [.int .i64 s.nAll] :: fp wp 221 sc2 :: fp wp 241 scr30' :: fp wp 271 [.slice cA' cl'.length cc'] :: fp wp 6 [.int .i64 rs] :: fp wp (6 + 67) [.int .i64 s.nE, .slice pA 0 pc, .slice rA s.rst.length rc, .slice (some ⟨wp, 241, none⟩) 30 30] :: (Fb ++ (Fp ++ (Fq ++ (F2' ++ (F3 ++ (G ++ (Fc' ++ R)))))))) (L' := (fp wp 0 [.iface 91 (.pointer (some ⟨g, 0, none⟩))] :: fp wp 1 [errv] :: fp wp 2 [.iface 112 (.agg #[]), fv, .int .u64 1, .int .i64 bs] :: fp wp 217 [.int .u64 0, .int .u64 0] :: fp wp 219 [.int .u64 s.off] :: fp wp 220 [.int .i64 s.nAll] :: fp wp 221 sc2 :: fp wp 241 scr30' :: fp wp 271 [.slice cA' cl'.length cc'] :: fp wp 6 [.int .i64 rs] :: fp wp (6 + 67) [.int .i64 s.nE, .slice pA 0 pc, .slice rA s.rst.length rc, .slice (some ⟨wp, 241, none⟩) 30 30] :: (Fb ++ (Fp ++ (Fq ++ (F2' ++ (F3 ++ (G ++ Fc'))))))) ++ R) h3 (perm_of fun _ _ z => by simp only [List.count_append, List.count_cons, List.cons_append, List.count_nil, List.nil_append, List.append_nil]; omega)
end Go.Proofs.YtloflmcgbbbnjaaDoor
