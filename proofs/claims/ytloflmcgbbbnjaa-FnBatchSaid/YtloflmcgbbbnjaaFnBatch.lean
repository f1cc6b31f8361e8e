/-
  FnBatch, walked.
-/
import Derived.Test.YtloflmcgbbbnjaaReadBatch
import Derived.Test.YtloflmcgbbbnjaaBatchAll
namespace Go.Proofs.Ytloflmcgbbbnjaa
open Go.RowKit Plain
set_option linter.all false

theorem dmp_dump (l : List P2) : dmp l = dump l := rfl
def w2B (l : List P2) : Bool := decide (l.length ≤ 2147483647) && fits2 l
set_option maxHeartbeats 1600000 in
theorem batch_bad (A : Option Addr) (c : Nat) (l : List P2) (w : World) (h : P2s w A l) (hbad : w2B l = false ∨ 1048576 < weight2 l) :
    Calls Try.prog 4 #[.slice A l.length c] w fun e w' => e = .returned (.bool true) ∧ Only [] w w' := by
  have HH := hid h
  clear h
  cases ka : w2B l with
  | false =>
    have KA := hid (show (decide (l.length ≤ 2147483647) && fits2 l) = false from ka)
    clear hbad ka
    go_enter Try.func4, Try.ntmps4
    go_wp2_with (go_at_call 8; refine (fits2_any A c l _ HH.out).mono ?_; rintro e w1 ⟨rfl, ho1⟩; rw [KA.out])
    go_ret
    exact ⟨rfl, ho1⟩
  | true =>
    have hb : 1048576 < weight2 l := by
      rcases hbad with h | h
      · rw [ka] at h; cases h
      · exact h
    have hp : l.length ≤ 2147483647 ∧ fits2 l = true := by simpa [w2B] using ka
    have hwb := weight2_bound (fits2_mem hp.2)
    have hwb2 : weight2 l ≤ 9223372036854775807 := by
      have : l.length * (2 * 2147483647 + 1) ≤ 2147483647 * (2 * 2147483647 + 1) := Nat.mul_le_mul_right _ hp.1
      omega
    have hl := hp.1
    have KA := hid (show (decide (l.length ≤ 2147483647) && fits2 l) = true from ka)
    obtain ⟨W2, hW2⟩ : ∃ W2, weight2 l = W2 := ⟨_, rfl⟩
    have HW2 := hid hW2
    rw [hW2] at hb
    have d1 : decide (1048576 < (W2 : Int)) = true := decide_eq_true (by omega)
    have d1' : decide (1048576 < W2) = true := decide_eq_true (by omega)
    clear hbad ka hp hwb hW2
    go_enter Try.func4, Try.ntmps4
    go_wp2_with (first
      | (go_at_call 8; refine (fits2_any A c l _ HH.out).mono ?_; rintro e w1 ⟨rfl, ho1⟩; rw [KA.out])
      | (go_at_call 9; refine (weight_any A c l _ (HH.out.keep0 ho1) hwb2 hl).mono ?_; rintro e w2 ⟨rfl, ho2⟩; rw [HW2.out]))
    go_ret
    exact ⟨rfl, ho1.new ho2⟩
set_option maxHeartbeats 6400000 in
set_option maxRecDepth 100000 in
theorem batch_good (A : Option Addr) (c : Nat) (l : List P2) (w : World) (h : P2s w A l) (ka : w2B l = true) (hw : weight2 l ≤ 1048576) :
    Calls Try.prog 4 #[.slice A l.length c] w fun e w' => e = .returned (.bool true) ∧ Only [] w w' := by
  have HH := hid h
  have hp : l.length ≤ 2147483647 ∧ fits2 l = true := by simpa [w2B] using ka
  have hl := weight2_len l
  have hdl := dump_le (l := l) (fun r hr => by have := weight2_mem hr; omega)
  have hok : okR l := fun r hr => by have := weight2_mem hr; omega
  have HOK := hid hok
  have KA := hid (show (decide (l.length ≤ 2147483647) && fits2 l) = true from ka)
  obtain ⟨W2, hW2⟩ : ∃ W2, weight2 l = W2 := ⟨_, rfl⟩
  have HW2 := hid hW2
  rw [hW2] at hw hl hdl
  have d1 : decide (1048576 < (W2 : Int)) = false := decide_eq_false (by omega)
  have d1' : decide (1048576 < W2) = false := decide_eq_false (by omega)
  have HS := hid (fun (W : World) (B : Option Addr) (d n : Nat) (D : List UInt8) (hn : n = D.length) (h : BsAt W B D) => (by subst hn; exact run_str (P := Try.prog) 24 9 5 d Try.underlying24 Try.underlying5 Try.underlying9 h : (convert 24 9 (.slice B n d)).run Try.prog W = .ok (.string (bstr D)) W))
  clear h ka hW2 hok hp
  go_enter Try.func4, Try.ntmps4
  go_wp2_with (first
    | (go_at_call 8; refine (fits2_any A c l _ HH.out).mono ?_; rintro e w1 ⟨rfl, ho1⟩; rw [KA.out])
    | (go_at_call 9; refine (weight_any A c l _ (HH.out.keep0 ho1) (by rw [HW2.out]; omega) (by omega)).mono ?_; rintro e w2 ⟨rfl, ho2⟩; rw [HW2.out])
    | (go_at_call 11; refine (batch_n A l.length c l _ rfl ((HH.out.keep0 ho1).keep0 ho2) (by rw [HW2.out]; omega)).mono ?_; rintro e w3 ⟨B, d, rfl, hb3, hd3, ho3⟩)
    | (go_at_call 10; refine (readBatch_any B (dump l).length d l _ hb3 rfl (by rw [dmp_dump]; omega) (by omega) HOK.out).mono ?_; rintro e w4 ⟨ops, A4, c4, rfl, hA, hcs, hbs, ho4⟩; have ho := ((ho1.new ho2).new ho3).new ho4; have HHA := hid hA; have HCS := hid hcs; have HBS := hid hbs; have HO4 := hid ho; clear hA hcs hbs ho))
  go_loopw [38] (fun i wr => ∃ k : Nat, i = .int .i64 k ∧ k ≤ l.length ∧ Only [] w4 wr) (fun i _ => l.length - (intOf i).toNat)
  case atStart => exact ⟨0, rfl, Nat.zero_le _, Only.refl _ _⟩
  case round =>
    obtain ⟨k, rfl, hk, ho⟩ := hrel
    by_cases h4 : k < l.length
    · have h4' : (k : Int) < (l.length : Int) := by omega
      have hr : l[k]? = some l[k] := List.getElem?_eq_getElem h4
      have hk2 : k < ops.length := by rw [HHA.out.1]; exact h4
      have hy : ops[k]? = some ops[k] := List.getElem?_eq_getElem hk2
      have hal := HHA.out.2 k _ _ hy hr
      have hbs := HBS.out _ (List.getElem_mem hk2)
      have hrm := (HH.out.ok _ (List.getElem_mem h4)).keep0 (HO4.out.new ho)
      generalize l[k] = r at hr hal hrm
      generalize ops[k] = y at hy hal hbs
      obtain ⟨og, oo, rfl, hcell⟩ := CsAt.at_row P2.cells 3 P2.cells_length (by omega) (HCS.out.keep0 ho) hy
      have z0 := hcell 0 (by omega)
      have z1 := hcell 1 (by omega)
      have z2 := hcell 2 (by omega)
      simp only [P2.cells, List.getElem?_cons_zero, List.getElem?_cons_succ, Nat.add_zero, ← Nat.add_assoc] at z0 z1 z2
      obtain ⟨lg, lo, rfl, c0, c1, c2⟩ := ((HH.out.keep0 HO4.out).keep0 ho).at_ hr
      obtain ⟨hal1, hal2, hal3⟩ := hal
      obtain ⟨dl, hdl⟩ : ∃ dl, r.del = dl := ⟨_, rfl⟩
      rw [hdl] at hal1 hal3 c0
      rw [hal1] at z0
      rw [hal2] at z1
      obtain ⟨hb1, hb2, _, _⟩ := hbs
      rw [hal2] at hb1
      obtain ⟨g, hg⟩ : ∃ g, wr.heap.size = g := ⟨_, rfl⟩
      have hall := Blk.new' hg 35 [.bool dl, .slice r.ka r.k.length r.kc, .slice r.va r.v.length r.vc]
      have hog : og < wr.heap.size := cell_lt z0
      have HO := hid (ho.alloc (Obj.cells #[.bool dl, .slice r.ka r.k.length r.kc, .slice r.va r.v.length r.vc] 35))
      have hoa := (Only.refl [] wr).alloc (Obj.cells #[.bool dl, .slice r.ka r.k.length r.kc, .slice r.va r.v.length r.vc] 35)
      have z0 := (hoa.cell (p := ⟨og, oo + k * 3, none⟩) hog (by simp)).trans z0
      have z1 := (hoa.cell (p := ⟨og, oo + k * 3 + 1, none⟩) hog (by simp)).trans z1
      have z2 := (hoa.cell (p := ⟨og, oo + k * 3 + 2, none⟩) hog (by simp)).trans z2
      have hb1 := (hb1.keep0 ho).keep0 hoa
      have hb2 := (hb2.keep0 ho).keep0 hoa
      have hr1 := hrm.hk.keep0 hoa
      have hr2 := hrm.hv.keep0 hoa
      have p0 := hall.cell 0
      have p1 := hall.cell 1
      have p2 := hall.cell 2
      simp only [List.getElem?_cons_zero, List.getElem?_cons_succ] at p0 p1 p2
      have f1 := HS.out _ y.ka y.kc r.k.length r.k rfl hb1.drew
      have f2 := HS.out _ r.ka r.kc r.k.length r.k rfl hr1.drew
      have f4 := HS.out _ r.va r.vc r.v.length r.v rfl hr2.drew
      have Z0 := hid z0
      have Z1 := hid z1
      have Z2 := hid z2
      have P0 := hid p0
      have P1 := hid p1
      have P2' := hid p2
      have F1 := hid f1
      have F2 := hid f2
      have F4 := hid f4
      have HB2 := hid hb2
      have HA3 := hid hal3
      clear hal1 hal2 hal3 hall hcell hy hb1 hb2 hr1 hr2 hrm hoa z0 z1 z2 p0 p1 p2 f1 f2 f4 hog ho hr hdl
      cases dl with
      | false =>
        go_wp2_with fail
        try rw [hg]
        clear hg
        have z0 := Z0.out
        have z1 := Z1.out
        have z2 := Z2.out
        have p0 := P0.out
        have p1 := P1.out
        have p2 := P2'.out
        have f1 := F1.out
        have f2 := F2.out
        have f4 := F4.out
        have HB3 := HB2
        clear Z0 Z1 Z2 P0 P1 P2' F1 F2 F4 HB2
        have hv := HA3.out (by simp)
        rw [hv] at HB3 z2
        generalize wr.alloc _ = W at z0 z1 z2 p0 p1 p2 f1 f2 f4 HO HB3 ⊢
        have f3 := HS.out _ y.va y.vc r.v.length r.v rfl HB3.out.drew
        refine AnyT.start (S := fun w' => w'.cell? ⟨og, oo + k * 3, none⟩ = some (.bool false) ∧ w'.cell? ⟨og, oo + k * 3 + 1, none⟩ = some (.slice y.ka r.k.length y.kc) ∧ w'.cell? ⟨og, oo + k * 3 + 2, none⟩ = some (.slice y.va r.v.length y.vc) ∧ w'.cell? ⟨g, 0, none⟩ = some (.bool false) ∧ w'.cell? ⟨g, 1, none⟩ = some (.slice r.ka r.k.length r.kc) ∧ w'.cell? ⟨g, 2, none⟩ = some (.slice r.va r.v.length r.vc) ∧ Sem.run Try.prog (convert 24 9 (Value.slice y.ka r.k.length y.kc)) w' = Result.ok (Value.string (bstr r.k)) w' ∧ Sem.run Try.prog (convert 24 9 (Value.slice r.ka r.k.length r.kc)) w' = Result.ok (Value.string (bstr r.k)) w' ∧ Sem.run Try.prog (convert 24 9 (Value.slice y.va r.v.length y.vc)) w' = Result.ok (Value.string (bstr r.v)) w' ∧ Sem.run Try.prog (convert 24 9 (Value.slice r.va r.v.length r.vc)) w' = Result.ok (Value.string (bstr r.v)) w') (T := []) (by kernel_rfl) (⟨z0, z1, z2, p0, p1, p2, f1, f2, f3, f4⟩) (fun hHeld => ?_)
        refine AnyT.take (i := 0) (v := ?_) (by simp only [List.getElem?_toArray, List.getElem?_cons_succ, List.getElem?_cons_zero]; rfl) (by kernel_rfl) (by kernel_rfl) (by kernel_rfl) (by kernel_rfl) (by intro _ _ _ h; exact h) (Or.inl ⟨by rfl, fun w hSw => ?_⟩) hHeld ?_
        rotate_left
        · ((try dsimp only at hSw); go_simp; first | done | with_reducible rfl | rfl)
        try simp only [Act.put, List.setIfInBounds_toArray, List.set_cons_zero, List.set_cons_succ]
        refine AnyT.take (i := 1) (v := ?_) (by simp only [List.getElem?_toArray, List.getElem?_cons_succ, List.getElem?_cons_zero]; rfl) (by kernel_rfl) (by kernel_rfl) (by kernel_rfl) (by kernel_rfl) (by intro _ _ _ h; exact h) (Or.inl ⟨by rfl, fun w hSw => ?_⟩) hHeld ?_
        rotate_left
        · ((try dsimp only at hSw); go_simp; first | done | with_reducible rfl | rfl)
        try simp only [Act.put, List.setIfInBounds_toArray, List.set_cons_zero, List.set_cons_succ]
        refine AnyT.take (i := 2) (v := ?_) (by simp only [List.getElem?_toArray, List.getElem?_cons_succ, List.getElem?_cons_zero]; rfl) (by kernel_rfl) (by kernel_rfl) (by kernel_rfl) (by kernel_rfl) (by intro _ _ _ h; exact h) (Or.inl ⟨by rfl, fun w hSw => ?_⟩) hHeld ?_
        rotate_left
        · ((try dsimp only at hSw); go_simp; first | done | with_reducible rfl | rfl)
        try simp only [Act.put, List.setIfInBounds_toArray, List.set_cons_zero, List.set_cons_succ]
        refine AnyT.take (i := 3) (v := ?_) (by simp only [List.getElem?_toArray, List.getElem?_cons_succ, List.getElem?_cons_zero]; rfl) (by kernel_rfl) (by kernel_rfl) (by kernel_rfl) (by kernel_rfl) (by intro _ _ _ h; exact h) (Or.inl ⟨by rfl, fun w hSw => ?_⟩) hHeld ?_
        rotate_left
        · ((try dsimp only at hSw); go_simp; first | done | with_reducible rfl | rfl)
        try simp only [Act.put, List.setIfInBounds_toArray, List.set_cons_zero, List.set_cons_succ]
        refine AnyT.take (i := 4) (v := ?_) (by simp only [List.getElem?_toArray, List.getElem?_cons_succ, List.getElem?_cons_zero]; rfl) (by kernel_rfl) (by kernel_rfl) (by kernel_rfl) (by kernel_rfl) (by intro _ _ _ h; exact h) (Or.inl ⟨by rfl, fun w hSw => ?_⟩) hHeld ?_
        rotate_left
        · ((try dsimp only at hSw); go_simp; first | done | with_reducible rfl | rfl)
        try simp only [Act.put, List.setIfInBounds_toArray, List.set_cons_zero, List.set_cons_succ]
        refine AnyT.take (i := 5) (v := ?_) (by simp only [List.getElem?_toArray, List.getElem?_cons_succ, List.getElem?_cons_zero]; rfl) (by kernel_rfl) (by kernel_rfl) (by kernel_rfl) (by kernel_rfl) (by intro _ _ _ h; exact h) (Or.inl ⟨by rfl, fun w hSw => ?_⟩) hHeld ?_
        rotate_left
        · ((try dsimp only at hSw); go_simp; first | done | with_reducible rfl | rfl)
        try simp only [Act.put, List.setIfInBounds_toArray, List.set_cons_zero, List.set_cons_succ]
        refine AnyT.take (i := 6) (v := ?_) (by simp only [List.getElem?_toArray, List.getElem?_cons_succ, List.getElem?_cons_zero]; rfl) (by kernel_rfl) (by kernel_rfl) (by kernel_rfl) (by kernel_rfl) (by intro _ _ _ h; exact h) (Or.inl ⟨by rfl, fun w hSw => ?_⟩) hHeld ?_
        rotate_left
        · ((try dsimp only at hSw); go_simp; first | done | with_reducible rfl | rfl)
        try simp only [Act.put, List.setIfInBounds_toArray, List.set_cons_zero, List.set_cons_succ]
        refine AnyT.take (i := 7) (v := ?_) (by simp only [List.getElem?_toArray, List.getElem?_cons_succ, List.getElem?_cons_zero]; rfl) (by kernel_rfl) (by kernel_rfl) (by kernel_rfl) (by kernel_rfl) (by intro _ _ _ h; exact h) (Or.inl ⟨by rfl, fun w hSw => ?_⟩) hHeld ?_
        rotate_left
        · ((try dsimp only at hSw); go_simp; first | done | with_reducible rfl | rfl)
        try simp only [Act.put, List.setIfInBounds_toArray, List.set_cons_zero, List.set_cons_succ]
        refine AnyT.take (i := 8) (v := ?_) (by simp only [List.getElem?_toArray, List.getElem?_cons_succ, List.getElem?_cons_zero]; rfl) (by kernel_rfl) (by kernel_rfl) (by kernel_rfl) (by kernel_rfl) (by intro _ _ _ h; exact h) (Or.inl ⟨by rfl, fun w hSw => ?_⟩) hHeld ?_
        rotate_left
        · ((try dsimp only at hSw); go_simp; first | done | with_reducible rfl | rfl)
        try simp only [Act.put, List.setIfInBounds_toArray, List.set_cons_zero, List.set_cons_succ]
        refine AnyT.take (i := 9) (v := ?_) (by simp only [List.getElem?_toArray, List.getElem?_cons_succ, List.getElem?_cons_zero]; rfl) (by kernel_rfl) (by kernel_rfl) (by kernel_rfl) (by kernel_rfl) (by intro _ _ _ h; exact h) (Or.inl ⟨by rfl, fun w hSw => ?_⟩) hHeld ?_
        rotate_left
        · ((try dsimp only at hSw); go_simp; first | done | with_reducible rfl | rfl)
        try simp only [Act.put, List.setIfInBounds_toArray, List.set_cons_zero, List.set_cons_succ]
        refine AnyT.take (i := 10) (v := ?_) (by simp only [List.getElem?_toArray, List.getElem?_cons_succ, List.getElem?_cons_zero]; rfl) (by kernel_rfl) (by kernel_rfl) (by kernel_rfl) (by kernel_rfl) (by intro _ _ _ h; exact h) (Or.inl ⟨by rfl, fun w hSw => ?_⟩) hHeld ?_
        rotate_left
        · ((try dsimp only at hSw); go_simp; first | done | with_reducible rfl | rfl)
        try simp only [Act.put, List.setIfInBounds_toArray, List.set_cons_zero, List.set_cons_succ]
        refine AnyT.take (i := 11) (v := ?_) (by simp only [List.getElem?_toArray, List.getElem?_cons_succ, List.getElem?_cons_zero]; rfl) (by kernel_rfl) (by kernel_rfl) (by kernel_rfl) (by kernel_rfl) (by intro _ _ _ h; exact h) (Or.inl ⟨by rfl, fun w hSw => ?_⟩) hHeld ?_
        rotate_left
        · ((try dsimp only at hSw); go_simp; first | done | with_reducible rfl | rfl)
        try simp only [Act.put, List.setIfInBounds_toArray, List.set_cons_zero, List.set_cons_succ]
        refine AnyT.take (i := 12) (v := ?_) (by simp only [List.getElem?_toArray, List.getElem?_cons_succ, List.getElem?_cons_zero]; rfl) (by kernel_rfl) (by kernel_rfl) (by kernel_rfl) (by kernel_rfl) (by intro _ _ _ h; exact h) (Or.inl ⟨by rfl, fun w hSw => ?_⟩) hHeld ?_
        rotate_left
        · ((try dsimp only at hSw); go_simp; first | done | with_reducible rfl | rfl)
        try simp only [Act.put, List.setIfInBounds_toArray, List.set_cons_zero, List.set_cons_succ]
        refine AnyT.take (i := 13) (v := ?_) (by simp only [List.getElem?_toArray, List.getElem?_cons_succ, List.getElem?_cons_zero]; rfl) (by kernel_rfl) (by kernel_rfl) (by kernel_rfl) (by kernel_rfl) (by intro _ _ _ h; exact h) (Or.inl ⟨by rfl, fun w hSw => ?_⟩) hHeld ?_
        rotate_left
        · ((try dsimp only at hSw); go_simp; first | done | with_reducible rfl | rfl)
        try simp only [Act.put, List.setIfInBounds_toArray, List.set_cons_zero, List.set_cons_succ]
        refine AnyT.take (i := 14) (v := ?_) (by simp only [List.getElem?_toArray, List.getElem?_cons_succ, List.getElem?_cons_zero]; rfl) (by kernel_rfl) (by kernel_rfl) (by kernel_rfl) (by kernel_rfl) (by intro _ _ _ h; exact h) (Or.inl ⟨by rfl, fun w hSw => ?_⟩) hHeld ?_
        rotate_left
        · ((try dsimp only at hSw); go_simp; first | done | with_reducible rfl | rfl)
        try simp only [Act.put, List.setIfInBounds_toArray, List.set_cons_zero, List.set_cons_succ]
        refine AnyT.take (i := 15) (v := ?_) (by simp only [List.getElem?_toArray, List.getElem?_cons_succ, List.getElem?_cons_zero]; rfl) (by kernel_rfl) (by kernel_rfl) (by kernel_rfl) (by kernel_rfl) (by intro _ _ _ h; exact h) (Or.inl ⟨by rfl, fun w hSw => ?_⟩) hHeld ?_
        rotate_left
        · ((try dsimp only at hSw); go_simp; first | done | with_reducible rfl | rfl)
        try simp only [Act.put, List.setIfInBounds_toArray, List.set_cons_zero, List.set_cons_succ]
        refine AnyT.take (i := 16) (v := ?_) (by simp only [List.getElem?_toArray, List.getElem?_cons_succ, List.getElem?_cons_zero]; rfl) (by kernel_rfl) (by kernel_rfl) (by kernel_rfl) (by kernel_rfl) (by intro _ _ _ h; exact h) (Or.inl ⟨by rfl, fun w hSw => ?_⟩) hHeld ?_
        rotate_left
        · ((try dsimp only at hSw); go_simp; first | done | with_reducible rfl | rfl)
        try simp only [Act.put, List.setIfInBounds_toArray, List.set_cons_zero, List.set_cons_succ]
        refine AnyT.take (i := 17) (v := ?_) (by simp only [List.getElem?_toArray, List.getElem?_cons_succ, List.getElem?_cons_zero]; rfl) (by kernel_rfl) (by kernel_rfl) (by kernel_rfl) (by kernel_rfl) (by intro _ _ _ h; exact h) (Or.inl ⟨by rfl, fun w hSw => ?_⟩) hHeld ?_
        rotate_left
        · ((try dsimp only at hSw); go_simp; first | done | with_reducible rfl | rfl)
        try simp only [Act.put, List.setIfInBounds_toArray, List.set_cons_zero, List.set_cons_succ]
        refine AnyT.take (i := 18) (v := ?_) (by simp only [List.getElem?_toArray, List.getElem?_cons_succ, List.getElem?_cons_zero]; rfl) (by kernel_rfl) (by kernel_rfl) (by kernel_rfl) (by kernel_rfl) (by intro _ _ _ h; exact h) (Or.inl ⟨by rfl, fun w hSw => ?_⟩) hHeld ?_
        rotate_left
        · ((try dsimp only at hSw); go_simp; first | done | with_reducible rfl | rfl)
        try simp only [Act.put, List.setIfInBounds_toArray, List.set_cons_zero, List.set_cons_succ]
        refine AnyT.take (i := 19) (v := ?_) (by simp only [List.getElem?_toArray, List.getElem?_cons_succ, List.getElem?_cons_zero]; rfl) (by kernel_rfl) (by kernel_rfl) (by kernel_rfl) (by kernel_rfl) (by intro _ _ _ h; exact h) (Or.inl ⟨by rfl, fun w hSw => ?_⟩) hHeld ?_
        rotate_left
        · ((try dsimp only at hSw); go_simp; first | done | with_reducible rfl | rfl)
        try simp only [Act.put, List.setIfInBounds_toArray, List.set_cons_zero, List.set_cons_succ]
        refine AnyT.take (i := 20) (v := ?_) (by simp only [List.getElem?_toArray, List.getElem?_cons_succ, List.getElem?_cons_zero]; rfl) (by kernel_rfl) (by kernel_rfl) (by kernel_rfl) (by kernel_rfl) (by intro _ _ _ h; exact h) (Or.inl ⟨by rfl, fun w hSw => ?_⟩) hHeld ?_
        rotate_left
        · ((try dsimp only at hSw); go_simp; first | done | with_reducible rfl | rfl)
        try simp only [Act.put, List.setIfInBounds_toArray, List.set_cons_zero, List.set_cons_succ]
        refine AnyT.take (i := 21) (v := ?_) (by simp only [List.getElem?_toArray, List.getElem?_cons_succ, List.getElem?_cons_zero]; rfl) (by kernel_rfl) (by kernel_rfl) (by kernel_rfl) (by kernel_rfl) (by intro _ _ _ h; exact h) (Or.inl ⟨by rfl, fun w hSw => ?_⟩) hHeld ?_
        rotate_left
        · ((try dsimp only at hSw); go_simp; first | done | with_reducible rfl | rfl)
        try simp only [Act.put, List.setIfInBounds_toArray, List.set_cons_zero, List.set_cons_succ]
        refine AnyT.take (i := 22) (v := ?_) (by simp only [List.getElem?_toArray, List.getElem?_cons_succ, List.getElem?_cons_zero]; rfl) (by kernel_rfl) (by kernel_rfl) (by kernel_rfl) (by kernel_rfl) (by intro _ _ _ h; exact h) (Or.inl ⟨by rfl, fun w hSw => ?_⟩) hHeld ?_
        rotate_left
        · ((try dsimp only at hSw); go_simp; first | done | with_reducible rfl | rfl)
        try simp only [Act.put, List.setIfInBounds_toArray, List.set_cons_zero, List.set_cons_succ]
        refine AnyT.take (i := 23) (v := ?_) (by simp only [List.getElem?_toArray, List.getElem?_cons_succ, List.getElem?_cons_zero]; rfl) (by kernel_rfl) (by kernel_rfl) (by kernel_rfl) (by kernel_rfl) (by intro _ _ _ h; exact h) (Or.inl ⟨by rfl, fun w hSw => ?_⟩) hHeld ?_
        rotate_left
        · ((try dsimp only at hSw); go_simp; first | done | with_reducible rfl | rfl)
        try simp only [Act.put, List.setIfInBounds_toArray, List.set_cons_zero, List.set_cons_succ]
        refine AnyT.take (i := 24) (v := ?_) (by simp only [List.getElem?_toArray, List.getElem?_cons_succ, List.getElem?_cons_zero]; rfl) (by kernel_rfl) (by kernel_rfl) (by kernel_rfl) (by kernel_rfl) (by intro _ _ _ h; exact h) (Or.inl ⟨by rfl, fun w hSw => ?_⟩) hHeld ?_
        rotate_left
        · ((try dsimp only at hSw); go_simp; first | done | with_reducible rfl | rfl)
        try simp only [Act.put, List.setIfInBounds_toArray, List.set_cons_zero, List.set_cons_succ]
        refine AnyT.take (i := 25) (v := ?_) (by simp only [List.getElem?_toArray, List.getElem?_cons_succ, List.getElem?_cons_zero]; rfl) (by kernel_rfl) (by kernel_rfl) (by kernel_rfl) (by kernel_rfl) (by intro _ _ _ h; exact h) (Or.inl ⟨by rfl, fun w hSw => ?_⟩) hHeld ?_
        rotate_left
        · ((try dsimp only at hSw); go_simp; first | done | with_reducible rfl | rfl)
        try simp only [Act.put, List.setIfInBounds_toArray, List.set_cons_zero, List.set_cons_succ]
        refine AnyT.take (i := 26) (v := ?_) (by simp only [List.getElem?_toArray, List.getElem?_cons_succ, List.getElem?_cons_zero]; rfl) (by kernel_rfl) (by kernel_rfl) (by kernel_rfl) (by kernel_rfl) (by intro _ _ _ h; exact h) (Or.inl ⟨by rfl, fun w hSw => ?_⟩) hHeld ?_
        rotate_left
        · ((try dsimp only at hSw); go_simp; first | done | with_reducible rfl | rfl)
        try simp only [Act.put, List.setIfInBounds_toArray, List.set_cons_zero, List.set_cons_succ]
        refine AnyT.take (i := 27) (v := ?_) (by simp only [List.getElem?_toArray, List.getElem?_cons_succ, List.getElem?_cons_zero]; rfl) (by kernel_rfl) (by kernel_rfl) (by kernel_rfl) (by kernel_rfl) (by intro _ _ _ h; exact h) (Or.inl ⟨by rfl, fun w hSw => ?_⟩) hHeld ?_
        rotate_left
        · ((try dsimp only at hSw); go_simp; first | done | with_reducible rfl | rfl)
        try simp only [Act.put, List.setIfInBounds_toArray, List.set_cons_zero, List.set_cons_succ]
        refine AnyT.take (i := 28) (v := ?_) (by simp only [List.getElem?_toArray, List.getElem?_cons_succ, List.getElem?_cons_zero]; rfl) (by kernel_rfl) (by kernel_rfl) (by kernel_rfl) (by kernel_rfl) (by intro _ _ _ h; exact h) (Or.inl ⟨by rfl, fun w hSw => ?_⟩) hHeld ?_
        rotate_left
        · ((try dsimp only at hSw); go_simp; first | done | with_reducible rfl | rfl)
        try simp only [Act.put, List.setIfInBounds_toArray, List.set_cons_zero, List.set_cons_succ]
        refine AnyT.take (i := 29) (v := ?_) (by simp only [List.getElem?_toArray, List.getElem?_cons_succ, List.getElem?_cons_zero]; rfl) (by kernel_rfl) (by kernel_rfl) (by kernel_rfl) (by kernel_rfl) (by intro _ _ _ h; exact h) (Or.inl ⟨by rfl, fun w hSw => ?_⟩) hHeld ?_
        rotate_left
        · ((try dsimp only at hSw); go_simp; first | done | with_reducible rfl | rfl)
        try simp only [Act.put, List.setIfInBounds_toArray, List.set_cons_zero, List.set_cons_succ]
        refine AnyT.take (i := 30) (v := ?_) (by simp only [List.getElem?_toArray, List.getElem?_cons_succ, List.getElem?_cons_zero]; rfl) (by kernel_rfl) (by kernel_rfl) (by kernel_rfl) (by kernel_rfl) (by intro _ _ _ h; exact h) (Or.inl ⟨by rfl, fun w hSw => ?_⟩) hHeld ?_
        rotate_left
        · ((try dsimp only at hSw); go_simp; first | done | with_reducible rfl | rfl)
        try simp only [Act.put, List.setIfInBounds_toArray, List.set_cons_zero, List.set_cons_succ]
        refine AnyT.take (i := 31) (v := ?_) (by simp only [List.getElem?_toArray, List.getElem?_cons_succ, List.getElem?_cons_zero]; rfl) (by kernel_rfl) (by kernel_rfl) (by kernel_rfl) (by kernel_rfl) (by intro _ _ _ h; exact h) (Or.inl ⟨by rfl, fun w hSw => ?_⟩) hHeld ?_
        rotate_left
        · ((try dsimp only at hSw); go_simp; first | done | with_reducible rfl | rfl)
        try simp only [Act.put, List.setIfInBounds_toArray, List.set_cons_zero, List.set_cons_succ]
        refine AnyT.take (i := 32) (v := ?_) (by simp only [List.getElem?_toArray, List.getElem?_cons_succ, List.getElem?_cons_zero]; rfl) (by kernel_rfl) (by kernel_rfl) (by kernel_rfl) (by kernel_rfl) (by intro _ _ _ h; exact h) (Or.inl ⟨by rfl, fun w hSw => ?_⟩) hHeld ?_
        rotate_left
        · ((try dsimp only at hSw); go_simp; first | done | with_reducible rfl | rfl)
        try simp only [Act.put, List.setIfInBounds_toArray, List.set_cons_zero, List.set_cons_succ]
        refine AnyT.take (i := 33) (v := ?_) (by simp only [List.getElem?_toArray, List.getElem?_cons_succ, List.getElem?_cons_zero]; rfl) (by kernel_rfl) (by kernel_rfl) (by kernel_rfl) (by kernel_rfl) (by intro _ _ _ h; exact h) (Or.inl ⟨by rfl, fun w hSw => ?_⟩) hHeld ?_
        rotate_left
        · ((try dsimp only at hSw); go_simp; first | done | with_reducible rfl | rfl)
        try simp only [Act.put, List.setIfInBounds_toArray, List.set_cons_zero, List.set_cons_succ]
        refine AnyT.take (i := 34) (v := ?_) (by simp only [List.getElem?_toArray, List.getElem?_cons_succ, List.getElem?_cons_zero]; rfl) (by kernel_rfl) (by kernel_rfl) (by kernel_rfl) (by kernel_rfl) (by intro _ _ _ h; exact h) (Or.inl ⟨by rfl, fun w hSw => ?_⟩) hHeld ?_
        rotate_left
        · ((try dsimp only at hSw); go_simp; first | done | with_reducible rfl | rfl)
        try simp only [Act.put, List.setIfInBounds_toArray, List.set_cons_zero, List.set_cons_succ]
        refine AnyT.take (i := 35) (v := ?_) (by simp only [List.getElem?_toArray, List.getElem?_cons_succ, List.getElem?_cons_zero]; rfl) (by kernel_rfl) (by kernel_rfl) (by kernel_rfl) (by kernel_rfl) (by intro _ _ _ h; exact h) (Or.inl ⟨by rfl, fun w hSw => ?_⟩) hHeld ?_
        rotate_left
        · ((try dsimp only at hSw); go_simp; first | done | with_reducible rfl | rfl)
        try simp only [Act.put, List.setIfInBounds_toArray, List.set_cons_zero, List.set_cons_succ]
        refine AnyT.take (i := 36) (v := ?_) (by simp only [List.getElem?_toArray, List.getElem?_cons_succ, List.getElem?_cons_zero]; rfl) (by kernel_rfl) (by kernel_rfl) (by kernel_rfl) (by kernel_rfl) (by intro _ _ _ h; exact h) (Or.inl ⟨by rfl, fun w hSw => ?_⟩) hHeld ?_
        rotate_left
        · ((try dsimp only at hSw); go_simp; first | done | with_reducible rfl | rfl)
        try simp only [Act.put, List.setIfInBounds_toArray, List.set_cons_zero, List.set_cons_succ]
        refine AnyT.done (by kernel_rfl) ?_ _
        go_wp2_with fail
        exact ⟨⟨k + 1, rfl, h4, HO.out.drew⟩, by simp [intOf]; omega⟩
      | true =>
        go_wp2_with fail
        try rw [hg]
        clear hg
        have z0 := Z0.out
        have z1 := Z1.out
        have z2 := Z2.out
        have p0 := P0.out
        have p1 := P1.out
        have p2 := P2'.out
        have f1 := F1.out
        have f2 := F2.out
        have f4 := F4.out
        have HB3 := HB2
        clear Z0 Z1 Z2 P0 P1 P2' F1 F2 F4 HB2
        generalize wr.alloc _ = W at z0 z1 z2 p0 p1 p2 f1 f2 f4 HO HB3 ⊢
        refine AnyT.start (S := fun w' => w'.cell? ⟨og, oo + k * 3, none⟩ = some (.bool true) ∧ w'.cell? ⟨og, oo + k * 3 + 1, none⟩ = some (.slice y.ka r.k.length y.kc) ∧ w'.cell? ⟨g, 0, none⟩ = some (.bool true) ∧ w'.cell? ⟨g, 1, none⟩ = some (.slice r.ka r.k.length r.kc) ∧ w'.cell? ⟨g, 2, none⟩ = some (.slice r.va r.v.length r.vc) ∧ Sem.run Try.prog (convert 24 9 (Value.slice y.ka r.k.length y.kc)) w' = Result.ok (Value.string (bstr r.k)) w' ∧ Sem.run Try.prog (convert 24 9 (Value.slice r.ka r.k.length r.kc)) w' = Result.ok (Value.string (bstr r.k)) w') (T := []) (by kernel_rfl) (⟨z0, z1, p0, p1, p2, f1, f2⟩) (fun hHeld => ?_)
        refine AnyT.take (i := 0) (v := ?_) (by simp only [List.getElem?_toArray, List.getElem?_cons_succ, List.getElem?_cons_zero]; rfl) (by kernel_rfl) (by kernel_rfl) (by kernel_rfl) (by kernel_rfl) (by intro _ _ _ h; exact h) (Or.inl ⟨by rfl, fun w hSw => ?_⟩) hHeld ?_
        rotate_left
        · ((try dsimp only at hSw); go_simp; first | done | with_reducible rfl | rfl)
        try simp only [Act.put, List.setIfInBounds_toArray, List.set_cons_zero, List.set_cons_succ]
        refine AnyT.take (i := 1) (v := ?_) (by simp only [List.getElem?_toArray, List.getElem?_cons_succ, List.getElem?_cons_zero]; rfl) (by kernel_rfl) (by kernel_rfl) (by kernel_rfl) (by kernel_rfl) (by intro _ _ _ h; exact h) (Or.inl ⟨by rfl, fun w hSw => ?_⟩) hHeld ?_
        rotate_left
        · ((try dsimp only at hSw); go_simp; first | done | with_reducible rfl | rfl)
        try simp only [Act.put, List.setIfInBounds_toArray, List.set_cons_zero, List.set_cons_succ]
        refine AnyT.take (i := 2) (v := ?_) (by simp only [List.getElem?_toArray, List.getElem?_cons_succ, List.getElem?_cons_zero]; rfl) (by kernel_rfl) (by kernel_rfl) (by kernel_rfl) (by kernel_rfl) (by intro _ _ _ h; exact h) (Or.inl ⟨by rfl, fun w hSw => ?_⟩) hHeld ?_
        rotate_left
        · ((try dsimp only at hSw); go_simp; first | done | with_reducible rfl | rfl)
        try simp only [Act.put, List.setIfInBounds_toArray, List.set_cons_zero, List.set_cons_succ]
        refine AnyT.take (i := 3) (v := ?_) (by simp only [List.getElem?_toArray, List.getElem?_cons_succ, List.getElem?_cons_zero]; rfl) (by kernel_rfl) (by kernel_rfl) (by kernel_rfl) (by kernel_rfl) (by intro _ _ _ h; exact h) (Or.inl ⟨by rfl, fun w hSw => ?_⟩) hHeld ?_
        rotate_left
        · ((try dsimp only at hSw); go_simp; first | done | with_reducible rfl | rfl)
        try simp only [Act.put, List.setIfInBounds_toArray, List.set_cons_zero, List.set_cons_succ]
        refine AnyT.take (i := 4) (v := ?_) (by simp only [List.getElem?_toArray, List.getElem?_cons_succ, List.getElem?_cons_zero]; rfl) (by kernel_rfl) (by kernel_rfl) (by kernel_rfl) (by kernel_rfl) (by intro _ _ _ h; exact h) (Or.inl ⟨by rfl, fun w hSw => ?_⟩) hHeld ?_
        rotate_left
        · ((try dsimp only at hSw); go_simp; first | done | with_reducible rfl | rfl)
        try simp only [Act.put, List.setIfInBounds_toArray, List.set_cons_zero, List.set_cons_succ]
        refine AnyT.take (i := 5) (v := ?_) (by simp only [List.getElem?_toArray, List.getElem?_cons_succ, List.getElem?_cons_zero]; rfl) (by kernel_rfl) (by kernel_rfl) (by kernel_rfl) (by kernel_rfl) (by intro _ _ _ h; exact h) (Or.inl ⟨by rfl, fun w hSw => ?_⟩) hHeld ?_
        rotate_left
        · ((try dsimp only at hSw); go_simp; first | done | with_reducible rfl | rfl)
        try simp only [Act.put, List.setIfInBounds_toArray, List.set_cons_zero, List.set_cons_succ]
        refine AnyT.take (i := 6) (v := ?_) (by simp only [List.getElem?_toArray, List.getElem?_cons_succ, List.getElem?_cons_zero]; rfl) (by kernel_rfl) (by kernel_rfl) (by kernel_rfl) (by kernel_rfl) (by intro _ _ _ h; exact h) (Or.inl ⟨by rfl, fun w hSw => ?_⟩) hHeld ?_
        rotate_left
        · ((try dsimp only at hSw); go_simp; first | done | with_reducible rfl | rfl)
        try simp only [Act.put, List.setIfInBounds_toArray, List.set_cons_zero, List.set_cons_succ]
        refine AnyT.take (i := 7) (v := ?_) (by simp only [List.getElem?_toArray, List.getElem?_cons_succ, List.getElem?_cons_zero]; rfl) (by kernel_rfl) (by kernel_rfl) (by kernel_rfl) (by kernel_rfl) (by intro _ _ _ h; exact h) (Or.inl ⟨by rfl, fun w hSw => ?_⟩) hHeld ?_
        rotate_left
        · ((try dsimp only at hSw); go_simp; first | done | with_reducible rfl | rfl)
        try simp only [Act.put, List.setIfInBounds_toArray, List.set_cons_zero, List.set_cons_succ]
        refine AnyT.take (i := 8) (v := ?_) (by simp only [List.getElem?_toArray, List.getElem?_cons_succ, List.getElem?_cons_zero]; rfl) (by kernel_rfl) (by kernel_rfl) (by kernel_rfl) (by kernel_rfl) (by intro _ _ _ h; exact h) (Or.inl ⟨by rfl, fun w hSw => ?_⟩) hHeld ?_
        rotate_left
        · ((try dsimp only at hSw); go_simp; first | done | with_reducible rfl | rfl)
        try simp only [Act.put, List.setIfInBounds_toArray, List.set_cons_zero, List.set_cons_succ]
        refine AnyT.take (i := 9) (v := ?_) (by simp only [List.getElem?_toArray, List.getElem?_cons_succ, List.getElem?_cons_zero]; rfl) (by kernel_rfl) (by kernel_rfl) (by kernel_rfl) (by kernel_rfl) (by intro _ _ _ h; exact h) (Or.inl ⟨by rfl, fun w hSw => ?_⟩) hHeld ?_
        rotate_left
        · ((try dsimp only at hSw); go_simp; first | done | with_reducible rfl | rfl)
        try simp only [Act.put, List.setIfInBounds_toArray, List.set_cons_zero, List.set_cons_succ]
        refine AnyT.take (i := 10) (v := ?_) (by simp only [List.getElem?_toArray, List.getElem?_cons_succ, List.getElem?_cons_zero]; rfl) (by kernel_rfl) (by kernel_rfl) (by kernel_rfl) (by kernel_rfl) (by intro _ _ _ h; exact h) (Or.inl ⟨by rfl, fun w hSw => ?_⟩) hHeld ?_
        rotate_left
        · ((try dsimp only at hSw); go_simp; first | done | with_reducible rfl | rfl)
        try simp only [Act.put, List.setIfInBounds_toArray, List.set_cons_zero, List.set_cons_succ]
        refine AnyT.take (i := 11) (v := ?_) (by simp only [List.getElem?_toArray, List.getElem?_cons_succ, List.getElem?_cons_zero]; rfl) (by kernel_rfl) (by kernel_rfl) (by kernel_rfl) (by kernel_rfl) (by intro _ _ _ h; exact h) (Or.inl ⟨by rfl, fun w hSw => ?_⟩) hHeld ?_
        rotate_left
        · ((try dsimp only at hSw); go_simp; first | done | with_reducible rfl | rfl)
        try simp only [Act.put, List.setIfInBounds_toArray, List.set_cons_zero, List.set_cons_succ]
        refine AnyT.take (i := 12) (v := ?_) (by simp only [List.getElem?_toArray, List.getElem?_cons_succ, List.getElem?_cons_zero]; rfl) (by kernel_rfl) (by kernel_rfl) (by kernel_rfl) (by kernel_rfl) (by intro _ _ _ h; exact h) (Or.inl ⟨by rfl, fun w hSw => ?_⟩) hHeld ?_
        rotate_left
        · ((try dsimp only at hSw); go_simp; first | done | with_reducible rfl | rfl)
        try simp only [Act.put, List.setIfInBounds_toArray, List.set_cons_zero, List.set_cons_succ]
        refine AnyT.take (i := 13) (v := ?_) (by simp only [List.getElem?_toArray, List.getElem?_cons_succ, List.getElem?_cons_zero]; rfl) (by kernel_rfl) (by kernel_rfl) (by kernel_rfl) (by kernel_rfl) (by intro _ _ _ h; exact h) (Or.inl ⟨by rfl, fun w hSw => ?_⟩) hHeld ?_
        rotate_left
        · ((try dsimp only at hSw); go_simp; first | done | with_reducible rfl | rfl)
        try simp only [Act.put, List.setIfInBounds_toArray, List.set_cons_zero, List.set_cons_succ]
        refine AnyT.take (i := 14) (v := ?_) (by simp only [List.getElem?_toArray, List.getElem?_cons_succ, List.getElem?_cons_zero]; rfl) (by kernel_rfl) (by kernel_rfl) (by kernel_rfl) (by kernel_rfl) (by intro _ _ _ h; exact h) (Or.inl ⟨by rfl, fun w hSw => ?_⟩) hHeld ?_
        rotate_left
        · ((try dsimp only at hSw); go_simp; first | done | with_reducible rfl | rfl)
        try simp only [Act.put, List.setIfInBounds_toArray, List.set_cons_zero, List.set_cons_succ]
        refine AnyT.take (i := 15) (v := ?_) (by simp only [List.getElem?_toArray, List.getElem?_cons_succ, List.getElem?_cons_zero]; rfl) (by kernel_rfl) (by kernel_rfl) (by kernel_rfl) (by kernel_rfl) (by intro _ _ _ h; exact h) (Or.inl ⟨by rfl, fun w hSw => ?_⟩) hHeld ?_
        rotate_left
        · ((try dsimp only at hSw); go_simp; first | done | with_reducible rfl | rfl)
        try simp only [Act.put, List.setIfInBounds_toArray, List.set_cons_zero, List.set_cons_succ]
        refine AnyT.take (i := 16) (v := ?_) (by simp only [List.getElem?_toArray, List.getElem?_cons_succ, List.getElem?_cons_zero]; rfl) (by kernel_rfl) (by kernel_rfl) (by kernel_rfl) (by kernel_rfl) (by intro _ _ _ h; exact h) (Or.inl ⟨by rfl, fun w hSw => ?_⟩) hHeld ?_
        rotate_left
        · ((try dsimp only at hSw); go_simp; first | done | with_reducible rfl | rfl)
        try simp only [Act.put, List.setIfInBounds_toArray, List.set_cons_zero, List.set_cons_succ]
        refine AnyT.take (i := 17) (v := ?_) (by simp only [List.getElem?_toArray, List.getElem?_cons_succ, List.getElem?_cons_zero]; rfl) (by kernel_rfl) (by kernel_rfl) (by kernel_rfl) (by kernel_rfl) (by intro _ _ _ h; exact h) (Or.inl ⟨by rfl, fun w hSw => ?_⟩) hHeld ?_
        rotate_left
        · ((try dsimp only at hSw); go_simp; first | done | with_reducible rfl | rfl)
        try simp only [Act.put, List.setIfInBounds_toArray, List.set_cons_zero, List.set_cons_succ]
        refine AnyT.take (i := 18) (v := ?_) (by simp only [List.getElem?_toArray, List.getElem?_cons_succ, List.getElem?_cons_zero]; rfl) (by kernel_rfl) (by kernel_rfl) (by kernel_rfl) (by kernel_rfl) (by intro _ _ _ h; exact h) (Or.inl ⟨by rfl, fun w hSw => ?_⟩) hHeld ?_
        rotate_left
        · ((try dsimp only at hSw); go_simp; first | done | with_reducible rfl | rfl)
        try simp only [Act.put, List.setIfInBounds_toArray, List.set_cons_zero, List.set_cons_succ]
        refine AnyT.take (i := 19) (v := ?_) (by simp only [List.getElem?_toArray, List.getElem?_cons_succ, List.getElem?_cons_zero]; rfl) (by kernel_rfl) (by kernel_rfl) (by kernel_rfl) (by kernel_rfl) (by intro _ _ _ h; exact h) (Or.inl ⟨by rfl, fun w hSw => ?_⟩) hHeld ?_
        rotate_left
        · ((try dsimp only at hSw); go_simp; first | done | with_reducible rfl | rfl)
        try simp only [Act.put, List.setIfInBounds_toArray, List.set_cons_zero, List.set_cons_succ]
        refine AnyT.take (i := 20) (v := ?_) (by simp only [List.getElem?_toArray, List.getElem?_cons_succ, List.getElem?_cons_zero]; rfl) (by kernel_rfl) (by kernel_rfl) (by kernel_rfl) (by kernel_rfl) (by intro _ _ _ h; exact h) (Or.inl ⟨by rfl, fun w hSw => ?_⟩) hHeld ?_
        rotate_left
        · ((try dsimp only at hSw); go_simp; first | done | with_reducible rfl | rfl)
        try simp only [Act.put, List.setIfInBounds_toArray, List.set_cons_zero, List.set_cons_succ]
        refine AnyT.take (i := 21) (v := ?_) (by simp only [List.getElem?_toArray, List.getElem?_cons_succ, List.getElem?_cons_zero]; rfl) (by kernel_rfl) (by kernel_rfl) (by kernel_rfl) (by kernel_rfl) (by intro _ _ _ h; exact h) (Or.inl ⟨by rfl, fun w hSw => ?_⟩) hHeld ?_
        rotate_left
        · ((try dsimp only at hSw); go_simp; first | done | with_reducible rfl | rfl)
        try simp only [Act.put, List.setIfInBounds_toArray, List.set_cons_zero, List.set_cons_succ]
        refine AnyT.take (i := 22) (v := ?_) (by simp only [List.getElem?_toArray, List.getElem?_cons_succ, List.getElem?_cons_zero]; rfl) (by kernel_rfl) (by kernel_rfl) (by kernel_rfl) (by kernel_rfl) (by intro _ _ _ h; exact h) (Or.inl ⟨by rfl, fun w hSw => ?_⟩) hHeld ?_
        rotate_left
        · ((try dsimp only at hSw); go_simp; first | done | with_reducible rfl | rfl)
        try simp only [Act.put, List.setIfInBounds_toArray, List.set_cons_zero, List.set_cons_succ]
        refine AnyT.take (i := 23) (v := ?_) (by simp only [List.getElem?_toArray, List.getElem?_cons_succ, List.getElem?_cons_zero]; rfl) (by kernel_rfl) (by kernel_rfl) (by kernel_rfl) (by kernel_rfl) (by intro _ _ _ h; exact h) (Or.inl ⟨by rfl, fun w hSw => ?_⟩) hHeld ?_
        rotate_left
        · ((try dsimp only at hSw); go_simp; first | done | with_reducible rfl | rfl)
        try simp only [Act.put, List.setIfInBounds_toArray, List.set_cons_zero, List.set_cons_succ]
        refine AnyT.take (i := 24) (v := ?_) (by simp only [List.getElem?_toArray, List.getElem?_cons_succ, List.getElem?_cons_zero]; rfl) (by kernel_rfl) (by kernel_rfl) (by kernel_rfl) (by kernel_rfl) (by intro _ _ _ h; exact h) (Or.inl ⟨by rfl, fun w hSw => ?_⟩) hHeld ?_
        rotate_left
        · ((try dsimp only at hSw); go_simp; first | done | with_reducible rfl | rfl)
        try simp only [Act.put, List.setIfInBounds_toArray, List.set_cons_zero, List.set_cons_succ]
        refine AnyT.take (i := 25) (v := undef) (by simp only [List.getElem?_toArray, List.getElem?_cons_succ, List.getElem?_cons_zero]; rfl) (by kernel_rfl) (by kernel_rfl) (by kernel_rfl) (by kernel_rfl) (by intro _ _ _ h; exact h) (Or.inr ⟨by rfl, rfl⟩) hHeld ?_
        try simp only [Act.put, List.setIfInBounds_toArray, List.set_cons_zero, List.set_cons_succ]
        refine AnyT.take (i := 26) (v := undef) (by simp only [List.getElem?_toArray, List.getElem?_cons_succ, List.getElem?_cons_zero]; rfl) (by kernel_rfl) (by kernel_rfl) (by kernel_rfl) (by kernel_rfl) (by intro _ _ _ h; exact h) (Or.inr ⟨by rfl, rfl⟩) hHeld ?_
        try simp only [Act.put, List.setIfInBounds_toArray, List.set_cons_zero, List.set_cons_succ]
        refine AnyT.take (i := 27) (v := undef) (by simp only [List.getElem?_toArray, List.getElem?_cons_succ, List.getElem?_cons_zero]; rfl) (by kernel_rfl) (by kernel_rfl) (by kernel_rfl) (by kernel_rfl) (by intro _ _ _ h; exact h) (Or.inr ⟨by rfl, rfl⟩) hHeld ?_
        try simp only [Act.put, List.setIfInBounds_toArray, List.set_cons_zero, List.set_cons_succ]
        refine AnyT.take (i := 28) (v := undef) (by simp only [List.getElem?_toArray, List.getElem?_cons_succ, List.getElem?_cons_zero]; rfl) (by kernel_rfl) (by kernel_rfl) (by kernel_rfl) (by kernel_rfl) (by intro _ _ _ h; exact h) (Or.inr ⟨by rfl, rfl⟩) hHeld ?_
        try simp only [Act.put, List.setIfInBounds_toArray, List.set_cons_zero, List.set_cons_succ]
        refine AnyT.take (i := 29) (v := undef) (by simp only [List.getElem?_toArray, List.getElem?_cons_succ, List.getElem?_cons_zero]; rfl) (by kernel_rfl) (by kernel_rfl) (by kernel_rfl) (by kernel_rfl) (by intro _ _ _ h; exact h) (Or.inr ⟨by rfl, rfl⟩) hHeld ?_
        try simp only [Act.put, List.setIfInBounds_toArray, List.set_cons_zero, List.set_cons_succ]
        refine AnyT.take (i := 30) (v := undef) (by simp only [List.getElem?_toArray, List.getElem?_cons_succ, List.getElem?_cons_zero]; rfl) (by kernel_rfl) (by kernel_rfl) (by kernel_rfl) (by kernel_rfl) (by intro _ _ _ h; exact h) (Or.inr ⟨by rfl, rfl⟩) hHeld ?_
        try simp only [Act.put, List.setIfInBounds_toArray, List.set_cons_zero, List.set_cons_succ]
        refine AnyT.take (i := 31) (v := undef) (by simp only [List.getElem?_toArray, List.getElem?_cons_succ, List.getElem?_cons_zero]; rfl) (by kernel_rfl) (by kernel_rfl) (by kernel_rfl) (by kernel_rfl) (by intro _ _ _ h; exact h) (Or.inr ⟨by rfl, rfl⟩) hHeld ?_
        try simp only [Act.put, List.setIfInBounds_toArray, List.set_cons_zero, List.set_cons_succ]
        refine AnyT.take (i := 32) (v := undef) (by simp only [List.getElem?_toArray, List.getElem?_cons_succ, List.getElem?_cons_zero]; rfl) (by kernel_rfl) (by kernel_rfl) (by kernel_rfl) (by kernel_rfl) (by intro _ _ _ h; exact h) (Or.inr ⟨by rfl, rfl⟩) hHeld ?_
        try simp only [Act.put, List.setIfInBounds_toArray, List.set_cons_zero, List.set_cons_succ]
        refine AnyT.take (i := 33) (v := undef) (by simp only [List.getElem?_toArray, List.getElem?_cons_succ, List.getElem?_cons_zero]; rfl) (by kernel_rfl) (by kernel_rfl) (by kernel_rfl) (by kernel_rfl) (by intro _ _ _ h; exact h) (Or.inr ⟨by rfl, rfl⟩) hHeld ?_
        try simp only [Act.put, List.setIfInBounds_toArray, List.set_cons_zero, List.set_cons_succ]
        refine AnyT.take (i := 34) (v := undef) (by simp only [List.getElem?_toArray, List.getElem?_cons_succ, List.getElem?_cons_zero]; rfl) (by kernel_rfl) (by kernel_rfl) (by kernel_rfl) (by kernel_rfl) (by intro _ _ _ h; exact h) (Or.inr ⟨by rfl, rfl⟩) hHeld ?_
        try simp only [Act.put, List.setIfInBounds_toArray, List.set_cons_zero, List.set_cons_succ]
        refine AnyT.take (i := 35) (v := ?_) (by simp only [List.getElem?_toArray, List.getElem?_cons_succ, List.getElem?_cons_zero]; rfl) (by kernel_rfl) (by kernel_rfl) (by kernel_rfl) (by kernel_rfl) (by intro _ _ _ h; exact h) (Or.inl ⟨by rfl, fun w hSw => ?_⟩) hHeld ?_
        rotate_left
        · ((try dsimp only at hSw); go_simp; first | done | with_reducible rfl | rfl)
        try simp only [Act.put, List.setIfInBounds_toArray, List.set_cons_zero, List.set_cons_succ]
        refine AnyT.take (i := 36) (v := ?_) (by simp only [List.getElem?_toArray, List.getElem?_cons_succ, List.getElem?_cons_zero]; rfl) (by kernel_rfl) (by kernel_rfl) (by kernel_rfl) (by kernel_rfl) (by intro _ _ _ h; exact h) (Or.inl ⟨by rfl, fun w hSw => ?_⟩) hHeld ?_
        rotate_left
        · ((try dsimp only at hSw); go_simp; first | done | with_reducible rfl | rfl)
        try simp only [Act.put, List.setIfInBounds_toArray, List.set_cons_zero, List.set_cons_succ]
        refine AnyT.done (by kernel_rfl) ?_ _
        go_wp2_with fail
        exact ⟨⟨k + 1, rfl, h4, HO.out.drew⟩, by simp [intOf]; omega⟩
    · have h4' : ¬ (k : Int) < (l.length : Int) := by omega
      have HO := hid (HO4.out.new ho)
      clear ho
      go_wp2_with fail
      go_ret
      exact ⟨rfl, HO.out⟩
theorem batch_walk (A : Option Addr) (c : Nat) (l : List P2) (w : World) (h : P2s w A l) :
    Calls Try.prog 4 #[.slice A l.length c] w fun e w' => e = .returned (.bool true) ∧ Only [] w w' := by
  cases ka : w2B l with
  | false => exact batch_bad A c l w h (.inl ka)
  | true =>
    rcases Nat.lt_or_ge 1048576 (weight2 l) with hw | hw
    · exact batch_bad A c l w h (.inr hw)
    · exact batch_good A c l w h ka hw
end Go.Proofs.Ytloflmcgbbbnjaa
