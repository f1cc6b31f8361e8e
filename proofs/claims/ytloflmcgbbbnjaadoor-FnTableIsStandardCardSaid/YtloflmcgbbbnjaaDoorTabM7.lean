/-
  table.filterWriter: finish.
  spec.Compare and spec.Shared: what they return.
  spec.Shared; the default comparer's Separator and Successor.
  bytes.Compare and the default comparer's Compare: -1, 0, 1 as the reference's comparison is below, at, above 0.
  The default comparer's Separator and Successor, Compare: into a row that is owned.
-/
import Derived.Test.YtloflmcgbbbnjaaDoorTabM6
import Derived.Test.YtloflmcgbbbnjaaDoorTabM2
import Derived.Test.YtloflmcgbbbnjaaDoorTabM3
import Derived.Test.YtloflmcgbbbnjaaDoorTabM1
import Derived.Lib.Bytealg
import Derived.Laws.Externs
import Derived.Lib.BytesEntry
namespace Go.Proofs.YtloflmcgbbbnjaaDoor
open Go.RowKit Plain
set_option linter.all false

def FWEnd (b o : Nat) (on : Bool) (B Q : Nat) (R : List Fr) (w0 : World) (e : Ending) (w' : World) : Prop :=
  e = .returned (.tuple #[]) ∧ ∃ data Fb, BufF b (o + 1) data Fb ∧ (data = [] ↔ on = false) ∧ data.length ≤ B + 4 * (Q + 2) + 1 ∧ Own (Fb ++ R) w0 w'
set_option maxHeartbeats 6400000 in
set_option maxRecDepth 100000 in
theorem fwb_finish (b o n B Q : Nat) (on : Bool) (F R : List Fr) (w0 w : World) (h : FWB b o on n B Q F) (hO : Own (F ++ R) w0 w) (hB : B ≤ 26000000) (hQ : Q ≤ 1000000) :
    Calls Tryd.prog 91 #[.pointer (some ⟨b, o, none⟩)] w (FWEnd b o on B Q R w0) := by
  cases on with
  | false =>
    obtain ⟨Fb, hB, rfl⟩ := (show _ from h : ∃ Fb, BufF b (o + 1) [] Fb ∧ F = fp b o [.nilIface] :: fp b (o + 67) [.int .i64 0, .slice none 0 0] :: Fb)
    obtain ⟨c0, c1, c2, f0, bl⟩ := fw_hdr hO
    have HO := hid hO
    clear hO
    go_enter Tryd.func91, Tryd.ntmps91
    go_wp2_with fail
    refine bodyPost_ret (results_none rfl _ _ _) rfl ?_
    exact ⟨rfl, [], Fb, hB, by simp, by simp, HO.out.drop.drop⟩
  | true =>
    obtain ⟨k, hs, data, offs, h3, h4, h5, h6, h7, h8, h9⟩ := (show _ from h : ∃ k hs data offs, FWs b o n k hs data offs F ∧ k ≤ 30 ∧ n ≤ 20 ∧ (∀ y ∈ hs, 0 ≤ y ∧ y < 4294967296) ∧ (∀ x ∈ offs, x ≤ B) ∧ data.length + 13 * hs.length ≤ B ∧ offs.length ≤ Q)
    obtain ⟨gp, oA, oc, Fb, Fg, Fo, q1, q2, q3, rfl⟩ := id h3
    obtain ⟨c0, c1, c2, f0, bl⟩ := fw_hdr hO
    have HO := hid hO
    have H3 := hid h3
    have H6 := hid h6
    have H7 := hid h7
    obtain ⟨m, hm⟩ : ∃ m, hs.length = m := ⟨_, rfl⟩
    obtain ⟨q, hq⟩ : ∃ q, offs.length = q := ⟨_, rfl⟩
    have HM := hid hm
    have HQ := hid hq
    rw [hm] at c1 h8
    rw [hq] at c2 h9
    clear hO h3 q1 q2 q3 h hm hq h6 h7
    go_enter Tryd.func91, Tryd.ntmps91
    go_upto_if 14 with fail
    go_cut [] (fun wx => ∃ (data' : List UInt8) (offs' : List Nat) (F' : List Fr), FWs b o n k [] data' offs' F' ∧ (∀ x ∈ offs', x ≤ B) ∧ data'.length ≤ B ∧ offs'.length ≤ Q + 1 ∧ Own (F' ++ R) w0 wx)
    case first =>
      by_cases h0 : m = 0
      · have t1 : decide ((m : Int) > 0) = false := decide_eq_false (by omega)
        have hs0 : hs = [] := List.eq_nil_of_length_eq_zero (by rw [HM.out]; exact h0)
        have HS := hid hs0
        clear hs0
        go_wp2_with fail
        go_meet
        exact ⟨data, offs, _, by have := H3.out; rw [HS.out] at this; exact this, H7.out, by omega, by rw [HQ.out]; omega, HS.out ▸ HO.out⟩
      · have t1 : decide ((m : Int) > 0) = true := decide_eq_true (by omega)
        go_wp2_with fail
        refine (fw_generate b o n k hs data offs _ R w0 _ H3.out HO.out (by omega) h4 (by rw [HM.out]; omega) (by omega) (by rw [HQ.out]; omega) H6.out).mono ?_
        rintro e w2 ⟨rfl, data2, F2, hD2, hF2, hO2⟩
        have hle := fwD_le (B := B) hD2 h5 (by rw [HM.out]; exact h8)
        have HF2 := hid hF2
        have HO2 := hid hO2
        clear hF2 hO2
        go_wp2_with fail
        go_meet
        refine ⟨data2, offs ++ [data.length], _, HF2.out, fun x hx => ?_, hle, by rw [List.length_append, List.length_singleton, HQ.out]; omega, HO2.out⟩
        rcases List.mem_append.1 hx with hx | hx
        · exact H7.out x hx
        · simp only [List.mem_singleton] at hx; omega
    case rest =>
      obtain ⟨data', offs', F', h3, h7, h8', h9', hO'⟩ := hcut
      obtain ⟨gp2, oA2, oc2, Fb2, Fg2, Fo2, hB2, hG2, hR2, rfl⟩ := h3
      clear c0 c1 c2 f0 bl HO H3 HM HQ H6 H7 h8 h9
      obtain ⟨c0, c1, c2, f0, bl⟩ := fw_hdr hO'
      have HO := hid (show Own (fp b o [.iface 314 (.pointer (some ⟨gp2, 0, none⟩))] :: fp b (o + 67) [.int .i64 0, .slice oA2 offs'.length oc2] :: (Fb2 ++ (Fg2 ++ Fo2) ++ R)) w0 wc from hO')
      have HB := hid hB2
      have HR := hid hR2
      have H7 := hid h7
      obtain ⟨L, hL⟩ : ∃ L, data'.length = L := ⟨_, rfl⟩
      have HL := hid hL
      obtain ⟨q, hq⟩ : ∃ q, offs'.length = q := ⟨_, rfl⟩
      have HQ := hid hq
      rw [hL] at h8'
      rw [hq] at c2 h9'
      have e5 : IntKind.u32.wrap (L : Int) = (L : Int) := by simp [IntKind.wrap, IntKind.bits, IntKind.signed]; omega
      have e6 : (L : Int) % 4294967296 = (L : Int) := by omega
      clear hO' hB2 hG2 hR2 h7 hL hq
      go_wp2_with fail
      refine AnyT.start (S := fun w' => w'.cell? ⟨b, o + 68, none⟩ = some (.slice oA2 q oc2)) (T := [14]) (by kernel_rfl) (c2) (fun hHeld => ?_)
      refine AnyT.take (i := 0) (v := ?_) (by simp only [List.getElem?_toArray, List.getElem?_cons_succ, List.getElem?_cons_zero]; rfl) (by kernel_rfl) (by kernel_rfl) (by kernel_rfl) (by kernel_rfl) (by intro _ _ _ h; exact h) (Or.inl ⟨by rfl, fun w hSw => ?_⟩) hHeld ?_
      rotate_left
      · ((try dsimp only at hSw); go_simp; first | done | with_reducible rfl | rfl)
      try simp only [Act.put, List.setIfInBounds_toArray, List.set_cons_zero, List.set_cons_succ]
      refine AnyT.take (i := 1) (v := ?_) (by simp only [List.getElem?_toArray, List.getElem?_cons_succ, List.getElem?_cons_zero]; rfl) (by kernel_rfl) (by kernel_rfl) (by kernel_rfl) (by kernel_rfl) (by intro _ _ _ h; exact h) (Or.inl ⟨by rfl, fun w hSw => ?_⟩) hHeld ?_
      rotate_left
      · ((try dsimp only at hSw); go_simp; first | done | with_reducible rfl | rfl)
      try simp only [Act.put, List.setIfInBounds_toArray, List.set_cons_zero, List.set_cons_succ]
      refine AnyT.take (i := 2) (v := ?_) (by simp only [List.getElem?_toArray, List.getElem?_cons_succ, List.getElem?_cons_zero]; rfl) (by kernel_rfl) (by kernel_rfl) (by kernel_rfl) (by kernel_rfl) (by intro _ _ _ h; exact h) (Or.inl ⟨by rfl, fun w hSw => ?_⟩) hHeld ?_
      rotate_left
      · ((try dsimp only at hSw); go_simp; first | done | with_reducible rfl | rfl)
      try simp only [Act.put, List.setIfInBounds_toArray, List.set_cons_zero, List.set_cons_succ]
      refine AnyT.take (i := 3) (v := ?_) (by simp only [List.getElem?_toArray, List.getElem?_cons_succ, List.getElem?_cons_zero]; rfl) (by kernel_rfl) (by kernel_rfl) (by kernel_rfl) (by kernel_rfl) (by intro _ _ _ h; exact h) (Or.inl ⟨by rfl, fun w hSw => ?_⟩) hHeld ?_
      rotate_left
      · ((try dsimp only at hSw); go_simp; first | done | with_reducible rfl | rfl)
      try simp only [Act.put, List.setIfInBounds_toArray, List.set_cons_zero, List.set_cons_succ]
      refine AnyT.take (i := 4) (v := ?_) (by simp only [List.getElem?_toArray, List.getElem?_cons_succ, List.getElem?_cons_zero]; rfl) (by kernel_rfl) (by kernel_rfl) (by kernel_rfl) (by kernel_rfl) (by intro _ _ _ h; exact h) (Or.inl ⟨by rfl, fun w hSw => ?_⟩) hHeld ?_
      rotate_left
      · ((try dsimp only at hSw); go_simp; first | done | with_reducible rfl | rfl)
      try simp only [Act.put, List.setIfInBounds_toArray, List.set_cons_zero, List.set_cons_succ]
      refine AnyT.take (i := 5) (v := ?_) (by simp only [List.getElem?_toArray, List.getElem?_cons_succ, List.getElem?_cons_zero]; rfl) (by kernel_rfl) (by kernel_rfl) (by kernel_rfl) (by kernel_rfl) (by intro _ _ _ h; exact h) (Or.inl ⟨by rfl, fun w hSw => ?_⟩) hHeld ?_
      rotate_left
      · ((try dsimp only at hSw); go_simp; first | done | with_reducible rfl | rfl)
      try simp only [Act.put, List.setIfInBounds_toArray, List.set_cons_zero, List.set_cons_succ]
      refine AnyT.take (i := 6) (v := ?_) (by simp only [List.getElem?_toArray, List.getElem?_cons_succ, List.getElem?_cons_zero]; rfl) (by kernel_rfl) (by kernel_rfl) (by kernel_rfl) (by kernel_rfl) (by intro _ _ _ h; exact h) (Or.inl ⟨by rfl, fun w hSw => ?_⟩) hHeld ?_
      rotate_left
      · ((try dsimp only at hSw); go_simp; first | done | with_reducible rfl | rfl)
      try simp only [Act.put, List.setIfInBounds_toArray, List.set_cons_zero, List.set_cons_succ]
      refine AnyT.take (i := 7) (v := ?_) (by simp only [List.getElem?_toArray, List.getElem?_cons_succ, List.getElem?_cons_zero]; rfl) (by kernel_rfl) (by kernel_rfl) (by kernel_rfl) (by kernel_rfl) (by intro _ _ _ h; exact h) (Or.inl ⟨by rfl, fun w hSw => ?_⟩) hHeld ?_
      rotate_left
      · ((try dsimp only at hSw); go_simp; first | done | with_reducible rfl | rfl)
      try simp only [Act.put, List.setIfInBounds_toArray, List.set_cons_zero, List.set_cons_succ]
      refine AnyT.ready (rs := [8]) (by kernel_rfl) (by simp) ?_
      refine AllT.cons (by simp only [List.getElem?_toArray, List.getElem?_cons_succ, List.getElem?_cons_zero]; rfl) (fun K hK => ?_) AllT.nil
      go_simp
      refine (len_buf b (o + 1) data' Fb2 (fp b o [.iface 314 (.pointer (some ⟨gp2, 0, none⟩))] :: fp b (o + 67) [.int .i64 0, .slice oA2 offs'.length oc2] :: (Fg2 ++ Fo2 ++ R)) w0 _ HB.out (HO.out.drew.perm (perm_of fun _ _ z => by simp only [List.count_append, List.count_cons, List.cons_append, List.count_nil, List.nil_append, List.append_nil]; omega)) (by rw [HL.out]; omega)).mono ?_
      rintro e w1 ⟨rfl, hd1⟩
      rw [HL.out]
      have hO1 := (HO.out.drew).dr hd1
      clear hd1 c0 c1 c2 f0 bl HO
      obtain ⟨c0, c1, c2, f0, bl⟩ := fw_hdr hO1
      rw [HQ.out] at c2
      have HO := hid hO1
      clear hO1
      try go_wp2_with fail
      refine hK.out _ _ ?_ (fun hHeld => ?_)
      · exact c2
      clear hK
      try simp only [Act.put, List.setIfInBounds_toArray, List.set_cons_zero, List.set_cons_succ]
      refine AnyT.take (i := 9) (v := ?_) (by simp only [List.getElem?_toArray, List.getElem?_cons_succ, List.getElem?_cons_zero]; rfl) (by kernel_rfl) (by kernel_rfl) (by kernel_rfl) (by kernel_rfl) (by intro _ _ _ h; exact h) (Or.inl ⟨by rfl, fun w hSw => ?_⟩) hHeld ?_
      rotate_left
      · ((try dsimp only at hSw); go_simp; first | done | with_reducible rfl | rfl)
      try simp only [Act.put, List.setIfInBounds_toArray, List.set_cons_zero, List.set_cons_succ]
      refine AnyT.ready (rs := [10]) (by kernel_rfl) (by simp) ?_
      refine AllT.cons (by simp only [List.getElem?_toArray, List.getElem?_cons_succ, List.getElem?_cons_zero]; rfl) (fun K hK => ?_) AllT.nil
      go_simp
      refine hK.out _ _ ?_ (fun hHeld => ?_)
      · go_simp
      clear hK
      try simp only [Act.put, List.setIfInBounds_toArray, List.set_cons_zero, List.set_cons_succ]
      refine AnyT.ready (rs := [11]) (by kernel_rfl) (by simp) ?_
      refine AllT.cons (by simp only [List.getElem?_toArray, List.getElem?_cons_succ, List.getElem?_cons_zero]; rfl) (fun K hK => ?_) AllT.nil
      refine own_step_append rfl (.tmp 21) (.tmp 27) 137 rfl 181 (.int .u32 0) 1 4 Tryd.underlying137 Tryd.info_u32 rfl (by decide) oA2 q oc2 (c32 offs') Fo2 rfl (by rw [← HQ.out]; exact HR.out) (R := (fp b o [.iface 314 (.pointer (some ⟨gp2, 0, none⟩))] :: fp b (o + 67) [.int .i64 0, .slice oA2 q oc2] :: (Fb2 ++ Fg2 ++ R))) ((HO.out.skip _).perm (by rw [HQ.out]; exact (perm_of fun _ _ z => by simp only [List.count_append, List.count_cons, List.cons_append, List.count_nil, List.nil_append, List.append_nil]; omega))) (some ⟨w1.heap.size, 0, none⟩) 1 1 [.int .u32 (L : Int)] rfl rfl (csAt_one _ _ _) (by simp [Value.oneCell']) (by simp [maxLen]; omega) (by omega) ?_
      intro oA3 oc3 Fo3 w3 hR3 hO3 _
      have hO4 : Own (fp b o [.iface 314 (.pointer (some ⟨gp2, 0, none⟩))] :: fp b (o + 67) [.int .i64 0, .slice oA2 q oc2] :: (Fo3 ++ (Fb2 ++ Fg2 ++ R))) w0 w3 := hO3.perm (perm_of fun _ _ z => by simp only [List.count_append, List.count_cons, List.cons_append, List.count_nil, List.nil_append, List.append_nil]; omega)
      clear c0 c1 c2 f0 bl HO
      obtain ⟨c0, c1, c2, f0, bl⟩ := fw_hdr hO4
      have HO := hid hO4
      have hR4 : Row 181 1 oA3 (q + 1) oc3 (c32 (offs' ++ [L])) Fo3 := by simpa [c32] using hR3
      have HR4 := hid hR4
      clear hR3 hO3 hO4 hR4
      refine hK.out _ _ ?_ (fun hHeld => ?_)
      · exact c2
      clear hK
      try simp only [Act.put, List.setIfInBounds_toArray, List.set_cons_zero, List.set_cons_succ]
      refine AnyT.ready (rs := [12]) (by kernel_rfl) (by simp) ?_
      refine AllT.cons (by simp only [List.getElem?_toArray, List.getElem?_cons_succ, List.getElem?_cons_zero]; rfl) (fun K hK => ?_) AllT.nil
      go_simp
      refine hK.out _ _ ?_ (fun hHeld => ?_)
      · exact c2
      clear hK
      try simp only [Act.put, List.setIfInBounds_toArray, List.set_cons_zero, List.set_cons_succ]
      refine AnyT.take (i := 13) (v := ?_) (by simp only [List.getElem?_toArray, List.getElem?_cons_succ, List.getElem?_cons_zero]; rfl) (by kernel_rfl) (by kernel_rfl) (by kernel_rfl) (by kernel_rfl) (by intro _ _ _ h; exact h) (Or.inl ⟨by rfl, fun w hSw => ?_⟩) hHeld ?_
      rotate_left
      · ((try dsimp only at hSw); go_simp; first | done | with_reducible rfl | rfl)
      try simp only [Act.put, List.setIfInBounds_toArray, List.set_cons_zero, List.set_cons_succ]
      refine AnyT.ready (rs := [14]) (by kernel_rfl) (by simp) ?_
      refine AllT.late (by simp only [List.getElem?_toArray, List.getElem?_cons_succ, List.getElem?_cons_zero]; rfl) (by kernel_rfl) (fun K hK => ?_)
      go_simp
      refine hK.out _ _ ?_
      clear hK
      try simp only [Act.put, List.setIfInBounds_toArray, List.set_cons_zero, List.set_cons_succ]
      refine AnyT.done (by kernel_rfl) ?_ _
      have h1 : Own (fp b (o + 67) [.int .i64 0, .slice oA3 (q + 1) oc3] :: (fp b o [.iface 314 (.pointer (some ⟨gp2, 0, none⟩))] :: (Fo3 ++ (Fb2 ++ Fg2 ++ R)))) w0 _ := HO.out.swap01.set (k := o + 68) 1 rfl (by simp) (.slice oA3 (q + 1) oc3)
      have h2 : Own (fp b o [.iface 314 (.pointer (some ⟨gp2, 0, none⟩))] :: fp b (o + 67) [.int .i64 0, .slice oA3 (q + 1) oc3] :: (Fb2 ++ (Fo3 ++ (Fg2 ++ R)))) w0 _ := h1.perm (perm_of fun _ _ z => by simp only [List.count_append, List.count_cons, List.cons_append, List.count_nil, List.nil_append, List.append_nil]; omega)
      clear h1 c0 c1 c2 f0 bl HO
      generalize World.setCell _ _ _ = W at h2 ⊢
      obtain ⟨c0, c1, c2, f0, bl⟩ := fw_hdr h2
      have HO := hid h2
      clear h2
      obtain ⟨r2, hr2⟩ : ∃ r2, offs' ++ [L] = r2 := ⟨_, rfl⟩
      have hlr : r2.length = q + 1 := by rw [← hr2, List.length_append, HQ.out]; rfl
      have hrx2 : ∀ x ∈ r2, x < 4294967296 := fun x hx => by
        rw [← hr2] at hx
        rcases List.mem_append.1 hx with hx | hx
        · have := H7.out x hx; omega
        · simp only [List.mem_singleton] at hx; omega
      have HRX2 := hid hrx2
      have HLR := hid hlr
      rw [hr2] at HR4
      clear hrx2 hr2 hlr H7 HR
      go_wp2_with fail
      go_loopw [36] (fun i wr => ∃ (j : Nat) (Fb' : List Fr), i = .int .i64 j ∧ j ≤ q + 1 ∧ BufF b (o + 1) (data' ++ le4s (r2.take j)) Fb' ∧ Own (fp b o [.iface 314 (.pointer (some ⟨gp2, 0, none⟩))] :: fp b (o + 67) [.int .i64 0, .slice oA3 (q + 1) oc3] :: (Fb' ++ (Fo3 ++ (Fg2 ++ R)))) w0 wr) (fun i _ => q + 1 - (intOf i).toNat)
      case atStart => exact ⟨0, Fb2, rfl, Nat.zero_le _, by simpa [le4s] using HB.out, HO.out⟩
      case round =>
        clear c0 c1 c2 f0 bl HO HB
        obtain ⟨j, Fb', rfl, hj, hb, ho⟩ := hrel
        have hll : (le4s (r2.take j)).length ≤ 4 * (q + 1) := by rw [le4s_length, List.length_take]; omega
        by_cases h7 : j < q + 1
        · have h7' : (j : Int) < (((q + 1 : Nat)) : Int) := by omega
          have h7'' : (j : Int) < (q : Int) + 1 := by omega
          have hcs : CsAt wr oA3 (c32 r2) := ho.st (HR4.out.st w0) (by intro x hx; simp [hx])
          have h7l : j < r2.length := by rw [HLR.out]; exact h7
          obtain ⟨g, o', rfl, hcell⟩ := hcs j (by rw [c32_length]; exact h7l)
          rw [c32_get h7l] at hcell
          have hxk := HRX2.out _ (List.getElem_mem h7l)
          have htk := le4s_take h7l
          generalize r2[j] = x at hcell hxk htk
          obtain ⟨D, hD⟩ : ∃ D, data' ++ le4s (r2.take j) = D := ⟨_, rfl⟩
          have hD2 : data' ++ le4s (r2.take (j + 1)) = D ++ leB (x : Int) 4 := by rw [htk, ← List.append_assoc, hD]
          have hDl : D.length ≤ 5368709128 := by rw [← hD, List.length_append]; have := HL.out; omega
          rw [hD] at hb
          have HD2 := hid hD2
          have HB1 := hid hb
          have HO1 := hid ho
          clear hb ho htk hcs hD hD2 hll
          go_wp2_with fail
          refine (alloc_any b (o + 1) 4 D Fb' (fp b o [.iface 314 (.pointer (some ⟨gp2, 0, none⟩))] :: fp b (o + 67) [.int .i64 0, .slice (some ⟨g, o', none⟩) (q + 1) oc3] :: (Fo3 ++ (Fg2 ++ R))) w0 _ HB1.out (HO1.out.perm (perm_of fun _ _ z => by simp only [List.count_append, List.count_cons, List.cons_append, List.count_nil, List.nil_append, List.append_nil]; omega)) (by omega) (by omega)).mono ?_
          rintro e w4 ⟨S, J, F3, rfl, hG, hO3⟩
          obtain ⟨g1, g2, g3, g4, g5⟩ := hG
          have HG := hid (show BufG b (o + 1) D (D.length + 4) S J F3 from ⟨g1, g2, g3, g4, g5⟩)
          rw [g5] at hO3
          have HO3 := hid hO3
          clear hO3 g5 g4
          go_wp2_with fail
          refine (put32 S D.length _ 4 _ (x : Int) (fp b (o + 1) [.slice (some ⟨S.g, S.off, none⟩) (D.length + 4) S.cs.length, .int .i64 0] :: (J ++ (fp b o [.iface 314 (.pointer (some ⟨gp2, 0, none⟩))] :: fp b (o + 67) [.int .i64 0, .slice (some ⟨g, o', none⟩) (q + 1) oc3] :: (Fo3 ++ (Fg2 ++ R))))) w0 _ rfl (HO3.out.perm (perm_of fun _ _ z => by simp only [List.count_append, List.count_cons, List.cons_append, List.count_nil, List.nil_append, List.append_nil]; omega)) (by omega) (by omega) (by omega) (by omega)).mono ?_
          rintro e w5 ⟨rfl, hO5⟩
          have hO6 := HG.out.fill (p := leB (x : Int) 4) (R := fp b o [.iface 314 (.pointer (some ⟨gp2, 0, none⟩))] :: fp b (o + 67) [.int .i64 0, .slice (some ⟨g, o', none⟩) (q + 1) oc3] :: (Fo3 ++ (Fg2 ++ R))) (leB_length _ _) (by rw [HG.out.2.2.2.2]; exact hO5)
          have HO6 := hid hO6
          clear hO5 hO6
          go_wp2_with fail
          obtain ⟨F6, h6, h7⟩ := HO6.out
          rw [← HD2.out] at h6
          exact ⟨⟨j + 1, F6, rfl, by omega, h6, h7.perm (perm_of fun _ _ z => by simp only [List.count_append, List.count_cons, List.cons_append, List.count_nil, List.nil_append, List.append_nil]; omega)⟩, by simp [intOf]; omega⟩
        · have h7' : ¬ (j : Int) < (((q + 1 : Nat)) : Int) := by omega
          have h7'' : ¬ (j : Int) < (q : Int) + 1 := by omega
          have hk2 : j = q + 1 := by omega
          subst hk2
          have hk3 : r2.take (q + 1) = r2 := by rw [← HLR.out, List.take_length]
          rw [hk3] at hb hll
          have HB1 := hid hb
          have HO1 := hid ho
          clear hb ho hk3
          obtain ⟨D, hD⟩ : ∃ D, data' ++ le4s r2 = D := ⟨_, rfl⟩
          have hDl : D.length ≤ L + 4 * (q + 1) := by rw [← hD, List.length_append, HL.out]; omega
          rw [hD] at HB1
          go_wp2_with fail
          refine (writeByte_any b (o + 1) 11 D Fb' (fp b o [.iface 314 (.pointer (some ⟨gp2, 0, none⟩))] :: fp b (o + 67) [.int .i64 0, .slice oA3 (q + 1) oc3] :: (Fo3 ++ (Fg2 ++ R))) w0 _ HB1.out (HO1.out.perm (perm_of fun _ _ z => by simp only [List.count_append, List.count_cons, List.cons_append, List.count_nil, List.nil_append, List.append_nil]; omega)) (by omega) 11 rfl).mono ?_
          rintro e w4 ⟨rfl, F6, hB6, hO6⟩
          have HB6 := hid hB6
          have HO6 := hid hO6
          clear hB6 hO6
          go_wp2_with fail
          go_end0
          refine ⟨rfl, _, F6, HB6.out, by simp, ?_, (HO6.out.perm (L' := (fp b o [.iface 314 (.pointer (some ⟨gp2, 0, none⟩))] :: fp b (o + 67) [.int .i64 0, .slice oA3 (q + 1) oc3] :: (Fo3 ++ Fg2)) ++ (F6 ++ R)) (perm_of fun _ _ z => by simp only [List.count_append, List.count_cons, List.cons_append, List.count_nil, List.nil_append, List.append_nil]; omega)).right⟩
          rw [List.length_append, List.length_singleton]; omega
end Go.Proofs.YtloflmcgbbbnjaaDoor
namespace Go.Proofs.YtloflmcgbbbnjaaDoor
open Go.RowKit Plain

set_option maxHeartbeats 400000 in
theorem compare_any (A B : Option Addr) (ca cb : Nat) (a b : List UInt8) (w : World) (ha : BsAt w A a) (hb : BsAt w B b) (la : a.length ≤ 140737488351232) (lb : b.length ≤ 140737488351232) :
    Calls Tryd.prog 41 #[.slice A a.length ca, .slice B b.length cb] w fun e w' => e = .returned (.int .i64 (cmpI a b)) ∧ Dr w w' := by
  go_enter Tryd.func41, Tryd.ntmps41
  go_wp2
  go_loopw [5] (fun i wr => ∃ k : Nat, i = .int .i64 k ∧ k ≤ shared a b ∧ Dr w wr) (fun i _ => a.length - (intOf i).toNat)
  case atStart => exact ⟨0, rfl, Nat.zero_le _, Dr.refl _⟩
  case round =>
    obtain ⟨k, rfl, hk, ⟨n, rfl⟩⟩ := hrel
    have hs := shared_le a b
    by_cases h1 : k < a.length
    · by_cases h2 : k < b.length
      · obtain ⟨g, o, rfl, hc⟩ := ha k h1
        obtain ⟨g', o', rfl, hc'⟩ := hb k h2
        have t1 : decide ((k : Int) < (a.length : Int)) = true := by simp; omega
        have t2 : decide ((k : Int) < (b.length : Int)) = true := by simp; omega
        by_cases e : at_ a k = at_ b k
        · have e1 : bz a k = bz b k := bz_eq.2 e
          have hk' := shared_step hk h1 h2 e
          go_wp2
          repeat (go_quiet (fail); try go_wp2)
          go_roundw
          case rel => exact ⟨k + 1, by go_num, hk', by repeat (first | exact Dr.refl _ | apply Dr.step)⟩
          case measure => simp [intOf]; omega
        · have hk' := shared_stop hk e
          have hv := cmpI_at k hk' h1 h2
          have h8 := bz_lo a k; have h9 := bz_lo b k; have h10 := bz_hi a k; have h11 := bz_hi b k
          have e2 : (bz a k != bz b k) = true := by rw [bne_iff_ne]; exact fun h => e (bz_eq.1 h)
          clear hk' e
          have HV := hid hv
          clear hv
          go_wp2
          repeat (go_quiet (fail); try go_wp2)
          go_ret
          exact ⟨ret_int HV.out.symm, by repeat (first | exact Dr.refl _ | apply Dr.step)⟩
      · have hv := cmpI_end (a := a) (b := b) (by omega)
        have HV := hid hv
        clear hv
        go_wp2
        go_ret
        exact ⟨ret_int HV.out.symm, by repeat (first | exact Dr.refl _ | apply Dr.step)⟩
    · have hv := cmpI_end (a := a) (b := b) (by omega)
      have HV := hid hv
      clear hv
      go_wp2
      go_ret
      exact ⟨ret_int HV.out.symm, by repeat (first | exact Dr.refl _ | apply Dr.step)⟩
theorem compare_n (A B : Option Addr) (n m ca cb : Nat) (a b : List UInt8) (w : World) (ha : BsAt w A a) (hb : BsAt w B b) (la : a.length ≤ 140737488351232) (lb : b.length ≤ 140737488351232) (hn : n = a.length) (hm : m = b.length) :
    Calls Tryd.prog 41 #[.slice A n ca, .slice B m cb] w fun e w' => e = .returned (.int .i64 (cmpI a b)) ∧ Dr w w' := by
  subst hn; subst hm; exact compare_any A B ca cb a b w ha hb la lb

end Go.Proofs.YtloflmcgbbbnjaaDoor
namespace Go.Proofs.YtloflmcgbbbnjaaDoor
open Go.RowKit Plain

/-- What a comparer makes: nil where there is none; else a row of the call's own: dst's, or a new one. -/
def RowOr (w0 w : World) (dst v : Value) : Option (List UInt8) → Prop
  | none => v = .slice none 0 0
  | some l => w.ownsRow 0 5 1 v l.length (bc l) ∧ (v.ownBlock = dst.ownBlock ∨ ∃ g, v.ownBlock = some g ∧ w0.heap.size ≤ g)

theorem bumped_bytes {p : List UInt8} {k : Nat} (hk : k < p.length) (h : bz p k < 255) : (bc (p.take (k + 1))).set k (.int .u8 (bz p k + 1)) = bc (p.take k ++ [up (at_ p k)]) := by
  have h' : (at_ p k).toNat < 255 := by unfold bz at h; omega
  have hu := up_toNat h'
  rw [show bz p k + 1 = ((up (at_ p k)).toNat : Int) by unfold bz; omega, bc_set, take_at hk]
  rw [List.set_append_right _ _ (by rw [List.length_take]; omega)]
  have : k - (p.take k).length = 0 := by rw [List.length_take]; omega
  rw [this]; rfl
theorem bz_take {l : List UInt8} {k n : Nat} (h : k < n) : bz (l.take n) k = bz l k := by simp [bz, at_, h]
/-- The row that a comparer has made: one byte more, at its end raised. -/
theorem RowOr.bump {w0 w1 : World} {dst : Value} {p : List UInt8} {k g cap : Nat} (hk : k < p.length) (h : bz p k < 255) (hown : w1.ownsRow 0 5 1 (.slice (some ⟨g, 0, none⟩) (k + 1) cap) (k + 1) (bc (p.take (k + 1))))
    (hat : (Value.slice (some ⟨g, 0, none⟩) (k + 1) cap).ownBlock = dst.ownBlock ∨ (Value.slice (some ⟨g, 0, none⟩) (k + 1) cap).ownBlock = some w0.heap.size) (n : Nat) (hn : n ≤ w0.heap.size) (w00 : World) (hw : w00.heap.size = n) :
    RowOr w00 (w1.setCell ⟨g, k, none⟩ (.int .u8 (bz p k + 1))) dst (.slice (some ⟨g, 0, none⟩) (k + 1) cap) (some (p.take k ++ [up (at_ p k)])) := by
  have hs := (hown.stored k (.int .u8 (bz p k + 1))).1
  rw [bumped_bytes hk h] at hs
  refine ⟨?_, ?_⟩
  · rw [show (p.take k ++ [up (at_ p k)]).length = k + 1 by simp; omega]; exact hs
  · rcases hat with e | e
    · exact .inl e
    · exact .inr ⟨_, e, by omega⟩

set_option maxHeartbeats 800000 in
theorem cmpSucc_any (v : Value) (B : Option Addr) (cb : Nat) (b : List UInt8) (w : World) (hv : w.ownsRow 0 5 1 v 0 []) (hb : BsAt w B b) (lb : b.length ≤ 2147483647) (hcb : b.length ≤ cb) :
    Calls Tryd.prog 173 #[.agg #[], v, .slice B b.length cb] w fun e w' => ∃ v', e = .returned v' ∧ RowOr w w' v v' (succ b 0) ∧ Only v.ownBlock.toList w w' ∧ (succ b 0 = none → Only [] w w') := by
  go_enter Tryd.func173, Tryd.ntmps173
  go_wp2
  go_loopw [11, 1] (fun i d wr => ∃ k : Nat, i = .int .i64 k ∧ v = d ∧ k ≤ b.length ∧ succ b 0 = succ b k ∧ wr = w.alloc (.cells #[] 112)) (fun i _ _ => b.length - (intOf i).toNat)
  case atStart => exact ⟨0, rfl, rfl, Nat.zero_le _, rfl, rfl⟩
  case round =>
    obtain ⟨k, rfl, rfl, hk, hs, rfl⟩ := hrel
    have HS := hid hs
    clear hs
    by_cases h1 : k < b.length
    · obtain ⟨g, o, rfl, hlt, hcc⟩ := hb.addr (by omega)
      have hc := hcc k h1
      have x0 := bz_lo b k
      have x1 := bz_hi b k
      by_cases h2 : bz b k = 255
      · have t2 : (bz b k != 255) = false := by rw [bne_eq_false_iff_eq]; exact h2
        have hf : fresh b k = fresh b (k + 1) := by rw [fresh, dif_pos h1, if_neg (by unfold bz at h2; omega)]
        have hs' : succ b 0 = succ b (k + 1) := by rw [HS.out, succ, hf]; rfl
        have HS' := hid hs'
        clear h2 hcc hf hs'
        go_wp2
        exact ⟨⟨k + 1, rfl, rfl, by omega, HS'.out, by first | rfl | trivial⟩, by simp [intOf]; omega⟩
      · have t2 : (bz b k != 255) = true := by rw [bne_iff_ne]; exact h2
        have hf : fresh b k = some k := by rw [fresh, dif_pos h1, if_pos (by unfold bz at h2; omega)]
        have HF := hid hf
        have h3 : bz b k < 255 := by omega
        clear h2 hcc hf
        go_wp2_with (at_builtin; refine wp_append rfl _ _ _ rfl 5 (.int .u8 0) 1 1 Tryd.underlying25 Tryd.info_u8 rfl (by decide) v 0 [] rfl (hv.alloc _) _ (k + 1) cb (bc (b.take (k + 1))) rfl (by simp [bc_length]; omega) ((hb.alloc _).take _).cs (bc_one _) (by simp only [maxLen]; omega) (by omega) ?_; intro v1 w1 hown1 hg1 _ hat1; go_must (simp only [Nat.zero_add, List.nil_append] at hown1); go_must (obtain ⟨g1, cap1, rfl, _, hlt1⟩ := own_form hown1 (by omega)); go_must (have c1 := (hown1.cellAt k (by omega)).trans (bc_get (by simp; omega))); go_must (rw [bz_take (by omega)] at c1); have f1 := hown1.frozenAt k; have H1 := hid hown1; have H2 := hid hg1; have H3 := hid hat1; clear hown1 hg1 hat1 t2)
        go_ret
        refine ⟨_, rfl, ?_, ?_, fun h => absurd h (by rw [HS.out, succ, HF.out]; simp)⟩
        · rw [HS.out, succ, HF.out]
          exact RowOr.bump h1 h3 H1.out H3.out w.heap.size (by simp) w rfl
        · refine (Only.grow ((Only.refl _ _).alloc _) H2.out (fun k hk => .inl (by simp [hk]))).setCell ?_ _
          rcases H3.out with e | e
          · exact .inl (by rw [← e]; simp [Value.ownBlock])
          · refine .inr ?_
            simp [Value.ownBlock] at e
            simp; omega
    · have hf : fresh b k = none := by rw [fresh, dif_neg h1]
      have HF := hid hf
      clear hf
      go_wp2
      go_ret
      exact ⟨_, rfl, by rw [HS.out, succ, HF.out]; rfl, (Only.refl _ _).alloc _, fun _ => (Only.refl _ _).alloc _⟩

set_option maxHeartbeats 1600000 in
set_option maxRecDepth 100000 in
theorem cmpSep_any (v : Value) (A B : Option Addr) (ca cb : Nat) (a b : List UInt8) (w : World) (hv : w.ownsRow 0 5 1 v 0 []) (ha : BsAt w A a) (hb : BsAt w B b) (la : a.length ≤ 2147483647) (lb : b.length ≤ 2147483647) (hca : a.length ≤ ca) :
    Calls Tryd.prog 172 #[.agg #[], v, .slice A a.length ca, .slice B b.length cb] w fun e w' => ∃ v', e = .returned v' ∧ RowOr w w' v v' (sep a b) ∧ Only v.ownBlock.toList w w' ∧ (sep a b = none → Only [] w w') := by
  obtain ⟨M, hM⟩ : ∃ M, M = min a.length b.length := ⟨_, rfl⟩
  have hs := shared_le a b
  have key : ∀ d : Value, d = .int .i64 (M : Int) → True := fun _ _ => trivial
  by_cases hab : (b.length : Int) < (a.length : Int)
  all_goals
    go_enter Tryd.func172, Tryd.ntmps172
    clear key
    go_wp2
    go_loopw [9] (fun i wr => ∃ k : Nat, i = .int .i64 k ∧ k ≤ shared a b ∧ Dr (w.alloc (.cells #[] 112)) wr) (fun i _ => a.length - (intOf i).toNat)
    case atStart => exact ⟨0, rfl, Nat.zero_le _, Dr.refl _⟩
    case round =>
      obtain ⟨k, rfl, hk, ⟨n, rfl⟩⟩ := hrel
      by_cases h1 : k < a.length ∧ k < b.length
      · obtain ⟨h1, h2⟩ := h1
        obtain ⟨g, o, rfl, hlt, hcc⟩ := ha.addr (by omega)
        obtain ⟨g', o', rfl, hlt', hcc'⟩ := hb.addr (by omega)
        have hc := hcc k h1
        have hc' := hcc' k h2
        have t1 : decide ((k : Int) < (a.length : Int)) = true := by simp; omega
        have t2 : decide ((k : Int) < (b.length : Int)) = true := by simp; omega
        have t1' : decide (k < a.length) = true := by simp; omega
        have t2' : decide (k < b.length) = true := by simp; omega
        by_cases e : at_ a k = at_ b k
        · have e1 : (bz a k == bz b k) = true := by rw [beq_iff_eq]; exact bz_eq.2 e
          have hk' := shared_step hk h1 h2 e
          clear e hcc hcc'
          go_wp2
          repeat (go_quiet (fail); try go_wp2)
          go_roundw
          case rel => exact ⟨k + 1, by go_num, hk', by repeat (first | exact Dr.refl _ | apply Dr.step)⟩
          case measure => simp [intOf]; omega
        · have e1 : (bz a k == bz b k) = false := by rw [beq_eq_false_iff_ne]; exact fun h => e (bz_eq.1 h)
          have hk' := shared_stop hk e
          have x0 := bz_lo a k
          have x1 := bz_hi a k
          have y0 := bz_lo b k
          have y1 := bz_hi b k
          by_cases h3 : bz a k < 255 ∧ bz a k + 1 < bz b k
          · have hp : sep a b = some (a.take k ++ [up (at_ a k)]) := by
              unfold sep
              rw [← hk', if_pos ⟨h1, h2, by have := h3.1; unfold bz at this; omega, by have := h3.2; unfold bz at this; omega⟩]
            have HP := hid hp
            obtain ⟨h3, h4⟩ := h3
            have h3' : decide (bz a k < 255) = true := by simpa using h3
            clear e hcc hcc' hp hk'
            go_wp2_with fail
            go_quiet (fail)
            go_wp2_with (at_builtin; refine wp_append rfl _ _ _ rfl 5 (.int .u8 0) 1 1 Tryd.underlying25 Tryd.info_u8 rfl (by decide) v 0 [] rfl ((hv.alloc _)) _ (k + 1) ca (bc (a.take (k + 1))) rfl (by simp [bc_length]; omega) ((ha.alloc _).take _).cs (bc_one _) (by simp only [maxLen]; omega) (by omega) ?_; intro v1 w1 hown1 hg1 _ hat1; go_must (simp only [Nat.zero_add, List.nil_append] at hown1); go_must (obtain ⟨g1, cap1, rfl, _, hlt1⟩ := own_form hown1 (by omega)); go_must (have c1 := (hown1.cellAt k (by omega)).trans (bc_get (by simp; omega))); go_must (rw [bz_take (by omega)] at c1); have f1 := hown1.frozenAt k; have H1 := hid hown1; have H2 := hid hg1; have H3 := hid hat1; clear hown1 hg1 hat1)
            go_ret
            refine ⟨_, rfl, ?_, ?_, fun h => absurd h (by rw [HP.out]; simp)⟩
            · rw [HP.out]
              exact RowOr.bump h1 h3 H1.out H3.out w.heap.size (by simp) w rfl
            · refine (Only.grow (((Only.refl _ _).alloc _).drewN _) H2.out (fun k hk => .inl (by simp [hk]))).setCell ?_ _
              rcases H3.out with e | e
              · exact .inl (by rw [← e]; simp [Value.ownBlock])
              · refine .inr ?_
                simp [Value.ownBlock] at e
                simp; omega
          · have hp : sep a b = none := by
              unfold sep
              rw [← hk', if_neg (by rintro ⟨_, _, h5, h6⟩; exact h3 ⟨by unfold bz; omega, by unfold bz; omega⟩)]
            have HP := hid hp
            clear e hcc hcc' hp hk'
            by_cases h5 : bz a k < 255
            · have h5' : decide (bz a k < 255) = true := by simpa using h5
              have h6 : ¬ bz a k + 1 < bz b k := fun h => h3 ⟨h5, h⟩
              clear h3
              go_wp2
              repeat (go_quiet (fail); try go_wp2)
              go_ret
              exact ⟨_, rfl, by rw [HP.out]; rfl, by repeat (first | exact Only.refl _ _ | apply Only.drewN | apply Only.alloc), fun _ => by repeat (first | exact Only.refl _ _ | apply Only.drewN | apply Only.alloc)⟩
            · have h5' : decide (bz a k < 255) = false := by simpa using h5
              clear h3
              go_wp2
              repeat (go_quiet (fail); try go_wp2)
              go_ret
              exact ⟨_, rfl, by rw [HP.out]; rfl, by repeat (first | exact Only.refl _ _ | apply Only.drewN | apply Only.alloc), fun _ => by repeat (first | exact Only.refl _ _ | apply Only.drewN | apply Only.alloc)⟩
      · have hk' : ¬ (shared a b < a.length ∧ shared a b < b.length) := by omega
        have hp : sep a b = none := by
          unfold sep
          rw [if_neg (by rintro ⟨h5, h6, _, _⟩; exact hk' ⟨h5, h6⟩)]
        have HP := hid hp
        first
          | (have t1 : decide ((k : Int) < (b.length : Int)) = false := by simp; omega
             have t2 : decide (k < b.length) = false := by simp; omega
             have t4 : b.length ≤ k := by omega
             clear hp hk' h1
             go_wp2
             repeat (go_quiet (fail); try go_wp2)
             go_ret
             exact ⟨_, rfl, by rw [HP.out]; rfl, by repeat (first | exact Only.refl _ _ | apply Only.drewN | apply Only.alloc), fun _ => by repeat (first | exact Only.refl _ _ | apply Only.drewN | apply Only.alloc)⟩)
          | (have t1 : decide ((k : Int) < (a.length : Int)) = false := by simp; omega
             have t2 : decide (k < a.length) = false := by simp; omega
             have t4 : a.length ≤ k := by omega
             clear hp hk' h1
             go_wp2
             repeat (go_quiet (fail); try go_wp2)
             go_ret
             exact ⟨_, rfl, by rw [HP.out]; rfl, by repeat (first | exact Only.refl _ _ | apply Only.drewN | apply Only.alloc), fun _ => by repeat (first | exact Only.refl _ _ | apply Only.drewN | apply Only.alloc)⟩)

end Go.Proofs.YtloflmcgbbbnjaaDoor
namespace Go.Proofs.YtloflmcgbbbnjaaDoor
open Go.RowKit Plain

/-- As bytes.Compare says it. -/
def bcmp (a b : List UInt8) : Int := Lib.compareBytes a b
theorem bcmp_spec (a b : List UInt8) : (bcmp a b = -1 ∧ cmpI a b < 0) ∨ (bcmp a b = 0 ∧ cmpI a b = 0) ∨ (bcmp a b = 1 ∧ 0 < cmpI a b) := by
  unfold bcmp
  induction a generalizing b with
  | nil =>
    cases b with
    | nil => simp [Lib.compareBytes]
    | cons y b => simp [Lib.compareBytes]
  | cons x a ih =>
    cases b with
    | nil => simp [Lib.compareBytes]
    | cons y b =>
      rw [Lib.compareBytes, cmpI_cons]
      by_cases h1 : x < y
      · have h1' := UInt8.lt_iff_toNat_lt.1 h1
        have : x ≠ y := fun e => by subst e; omega
        rw [if_pos h1, if_neg this]
        exact .inl ⟨rfl, by omega⟩
      · rw [if_neg h1]
        by_cases h2 : y < x
        · have h2' := UInt8.lt_iff_toNat_lt.1 h2
          have : x ≠ y := fun e => by subst e; omega
          rw [if_pos h2, if_neg this]
          exact .inr (.inr ⟨rfl, by omega⟩)
        · rw [if_neg h2]
          have : x = y := by
            rw [UInt8.lt_iff_toNat_lt] at h1 h2
            exact UInt8.toNat_inj.1 (by omega)
          rw [if_pos this]
          exact ih b
theorem bcmp_lt {a b : List UInt8} : bcmp a b < 0 ↔ cmpI a b < 0 := by have := bcmp_spec a b; omega
theorem bcmp_ge {a b : List UInt8} : 0 ≤ bcmp a b ↔ 0 ≤ cmpI a b := by have := bcmp_spec a b; omega
theorem bcmp_gt {a b : List UInt8} : 0 < bcmp a b ↔ 0 < cmpI a b := by have := bcmp_spec a b; omega
theorem bcmp_eq0 {a b : List UInt8} : bcmp a b = 0 ↔ cmpI a b = 0 := by have := bcmp_spec a b; omega
theorem bcmp_lo (a b : List UInt8) : -1 ≤ bcmp a b := by have := bcmp_spec a b; omega
theorem bcmp_hi (a b : List UInt8) : bcmp a b ≤ 1 := by have := bcmp_spec a b; omega

theorem bytesOf_map (l : List UInt8) : Lib.bytesOf (l.map fun b => (b.toNat : Int)) = l := by
  unfold Lib.bytesOf
  rw [List.map_map]
  induction l with
  | nil => rfl
  | cons b l ih => rw [List.map_cons, ih]; simp
theorem run_bytesOf {P : Program} {w : World} {A : Option Addr} {l : List UInt8} (n c : Nat) (hn : n = l.length) (h : BsAt w A l) : (Extern.Bytes.bytesOf (.slice A n c)).run P w = .ok (bstr l) w := by
  subst hn
  have key : ∀ ad : Addr, A = some ad → (∀ j (x : UInt8), l[j]? = some x → w.cell? (ad.add j) = some (.int .u8 x.toNat)) → (Extern.Bytes.bytesOf (.slice A l.length c)).run P w = .ok (bstr l) w := fun ad e hc => by
    subst e
    have := Lib.run_loadBytesX (P := P) (w := w) (l.map fun b => (b.toNat : Int)) ad .empty (fun j x hj => by
      rw [List.getElem?_map] at hj
      cases hl : l[j]? with
      | none => rw [hl] at hj; cases hj
      | some y => rw [hl] at hj; cases hj; exact hc j y hl)
    simp only [Extern.Bytes.bytesOf]
    rw [List.length_map] at this
    rw [this, bytesOf_map]
    simp [bstr]
  rcases Nat.eq_zero_or_pos l.length with h0 | h0
  · obtain rfl : l = [] := List.eq_nil_of_length_eq_zero h0
    cases A with
    | none => simp [Extern.Bytes.bytesOf]; rfl
    | some ad => exact key ad rfl (fun j x hj => by simp at hj)
  · obtain ⟨g, o, e, _, hc⟩ := h.addr h0
    refine key _ e fun j x hj => ?_
    have hjl := (List.getElem?_eq_some_iff.1 hj).1
    rw [add_none, hc j hjl, bz, at_get hjl]
    rw [List.getElem?_eq_getElem hjl] at hj
    injection hj with hj
    rw [hj]
theorem run_compareBs {P : Program} {w : World} {A B : Option Addr} {a b : List UInt8} (n m ca cb : Nat) (hn : n = a.length) (hm : m = b.length) (ha : BsAt w A a) (hb : BsAt w B b) :
    (Extern.BytealgCompare.compare #[.slice A n ca, .slice B m cb]).run P w = .ok (.int .i64 (bcmp a b)) w := by
  change Sem.run P ((Extern.Bytes.bytesOf (.slice A n ca)) >>= fun x => (Extern.Bytes.bytesOf (.slice B m cb)) >>= fun y => pure (goInt (Extern.BytealgCompare.cmp x y))) w = _
  simp only [Sem.run_bind, run_bytesOf n ca hn ha, Result.andThen, run_bytesOf m cb hm hb]
  rw [show Extern.BytealgCompare.cmp (bstr a) (bstr b) = bcmp a b by rw [Lib.cmp_eq, bstr_toList, bstr_toList]; rfl]
  rfl

set_option maxHeartbeats 800000 in
set_option maxRecDepth 100000 in
theorem bytesCompare_any (A B : Option Addr) (n m ca cb : Nat) (a b : List UInt8) (w : World) (ha : BsAt w A a) (hb : BsAt w B b) (hn : n = a.length) (hm : m = b.length) :
    Calls Tryd.prog 174 #[.slice A n ca, .slice B m cb] w fun e w' => e = .returned (.int .i64 (bcmp a b)) ∧ w = w' := by
  subst hn; subst hm
  go_enter Tryd.func174, Tryd.ntmps174
  go_wp2
  rw [run_callFunc_extern Tryd.func175 (by kernel_rfl) (by kernel_rfl) (by kernel_rfl) (e := Extern.BytealgCompare.compare) (by kernel_rfl), run_compareBs a.length b.length ca cb rfl rfl ha hb]
  simp only [Result.andThen]
  rw [Oper.upon_value]
  go_wp2
  go_ret
  exact ⟨rfl, rfl⟩
set_option maxHeartbeats 800000 in
set_option maxRecDepth 100000 in
theorem cmpCompare_any (A B : Option Addr) (n m ca cb : Nat) (a b : List UInt8) (w : World) (ha : BsAt w A a) (hb : BsAt w B b) (hn : n = a.length) (hm : m = b.length) :
    Calls Tryd.prog 170 #[.agg #[], .slice A n ca, .slice B m cb] w fun e w' => e = .returned (.int .i64 (bcmp a b)) ∧ Only [] w w' := by
  subst hn; subst hm
  go_enter Tryd.func170, Tryd.ntmps170
  go_wp2_with (go_at_call 174; refine (bytesCompare_any A B _ _ ca cb a b _ (ha.alloc _) (hb.alloc _) rfl rfl).mono ?_; rintro e w' ⟨rfl, rfl⟩)
  go_ret
  exact ⟨rfl, (Only.refl _ _).alloc _⟩
end Go.Proofs.YtloflmcgbbbnjaaDoor
namespace Go.Proofs.YtloflmcgbbbnjaaDoor
open Go.RowKit Plain
set_option linter.all false

/-- nil: nothing was turned; else the row holds it. -/
def SepOut (x : Option (List UInt8)) (A : Option Addr) (c : Nat) (Fc R : List Fr) (w0 : World) (e : Ending) (w' : World) : Prop :=
  match x with
  | none => e = .returned (.slice none 0 0) ∧ Own (Fc ++ R) w0 w'
  | some l => ∃ A' c' F', e = .returned (.slice A' l.length c') ∧ Row 5 1 A' l.length c' (bc l) F' ∧ (A' = none → l = []) ∧ Own (F' ++ R) w0 w'
theorem SepOut.of {x : Option (List UInt8)} {A : Option Addr} {c : Nat} {Fc R : List Fr} {w0 w w' : World} {v : Value} (hR : Row 5 1 A 0 c [] Fc) (hO : Own (Fc ++ R) w0 w)
    (hr : RowOr w w' (.slice A 0 c) v x) (ho : Only (Value.slice A 0 c).ownBlock.toList w w') (hn : x = none → Only [] w w') : SepOut x A c Fc R w0 (.returned v) w' := by
  cases x with
  | none => exact ⟨by rw [show v = .slice none 0 0 from hr], hO.only0 (hn rfl)⟩
  | some l =>
    obtain ⟨h1, h2⟩ := hr
    obtain ⟨A', c', F', rfl, hR', hin, hg, hd⟩ := Row.of_owns h1
    have hFc : Fc.map (·.g) = (Value.slice A 0 c).ownBlock.toList := by
      rcases hR.2 with ⟨rfl, _, rfl, rfl⟩ | ⟨g, cur, rfl, rfl, _⟩ <;> rfl
    refine ⟨A', c', F', rfl, hR', fun h => ?_, hO.swap (fun y hy => ?_) (by rw [hFc]; exact ho) hin (fun y hy => ?_) hd⟩
    · subst h
      rcases hR'.2 with ⟨_, h, _⟩ | ⟨g, cur, h, _⟩
      · exact List.eq_nil_of_length_eq_zero h
      · exact absurd h (by simp)
    · rcases hR.2 with ⟨rfl, _, rfl, rfl⟩ | ⟨g, cur, rfl, rfl, _⟩
      · simp at hy
      · simp only [List.mem_singleton] at hy; subst hy; simp
    · have hy' : y.g ∈ F'.map (·.g) := List.mem_map.2 ⟨y, hy, rfl⟩
      rw [hg] at hy'
      rcases h2 with h2 | ⟨g, h2, h3⟩
      · exact .inl (by rw [hFc, ← h2]; exact hy')
      · rw [h2] at hy'
        simp only [Option.toList, List.mem_singleton] at hy'
        exact .inr (by rw [hy']; exact h3)
theorem succ_own (n c cb : Nat) (A B : Option Addr) (b : List UInt8) (Fc R : List Fr) (w0 w : World) (hR : Row 5 1 A 0 c [] Fc) (hO : Own (Fc ++ R) w0 w) (hb : BsAt w B b) (hn : n = b.length) (lb : b.length ≤ 2147483647) (hcb : b.length ≤ cb) :
    Calls Tryd.prog 173 #[.agg #[], .slice A 0 c, .slice B n cb] w (SepOut (succ b 0) A c Fc R w0) := by
  subst hn
  refine (cmpSucc_any (.slice A 0 c) B cb b w (hR.owns fun x hx => hO.ins x (List.mem_append_left _ hx)) hb lb hcb).mono ?_
  rintro e w' ⟨v, rfl, hr, ho, hn⟩
  exact SepOut.of hR hO hr ho hn
theorem sep_own (n m c ca cb : Nat) (A A1 B : Option Addr) (a b : List UInt8) (Fc R : List Fr) (w0 w : World) (hR : Row 5 1 A 0 c [] Fc) (hO : Own (Fc ++ R) w0 w) (ha : BsAt w A1 a) (hb : BsAt w B b) (hn : n = a.length) (hm : m = b.length) (la : a.length ≤ 2147483647) (lb : b.length ≤ 2147483647) (hca : a.length ≤ ca) :
    Calls Tryd.prog 172 #[.agg #[], .slice A 0 c, .slice A1 n ca, .slice B m cb] w (SepOut (sep a b) A c Fc R w0) := by
  subst hn; subst hm
  refine (cmpSep_any (.slice A 0 c) A1 B ca cb a b w (hR.owns fun x hx => hO.ins x (List.mem_append_left _ hx)) ha hb la lb hca).mono ?_
  rintro e w' ⟨v, rfl, hr, ho, hn⟩
  exact SepOut.of hR hO hr ho hn
theorem method_cmp (d : Nat) (w : World) : (method (d + 1) 112 (.agg #[]) "Compare").run Tryd.prog w = .ok (170, .agg #[]) w := by kernel_rfl
theorem method_sep (d : Nat) (w : World) : (method (d + 1) 112 (.agg #[]) "Separator").run Tryd.prog w = .ok (172, .agg #[]) w := by kernel_rfl
theorem method_succ (d : Nat) (w : World) : (method (d + 1) 112 (.agg #[]) "Successor").run Tryd.prog w = .ok (173, .agg #[]) w := by kernel_rfl
end Go.Proofs.YtloflmcgbbbnjaaDoor
