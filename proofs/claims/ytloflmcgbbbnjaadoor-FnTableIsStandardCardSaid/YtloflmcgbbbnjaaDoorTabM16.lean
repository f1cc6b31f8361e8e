/-
  spec.part: a block of a table, whose check sum is right.
-/
import Derived.Test.YtloflmcgbbbnjaaDoorTabM15
import Derived.Test.YtloflmcgbbbnjaaDoorTabM5
import Derived.Test.YtloflmcgbbbnjaaDoorTabM13
namespace Go.Proofs.YtloflmcgbbbnjaaDoor
open Go.RowKit Plain
set_option linter.all false

def PartOut (blk : List UInt8) (n c : Nat) (w : World) (e : Ending) (w' : World) : Prop :=
  ∃ A' c', e = .returned (.tuple #[.slice A' blk.length c', .int .i64 n, .bool true]) ∧ blk.length ≤ c' ∧ c' ≤ c ∧ Hid (BsAt w' A' blk) ∧ Hid (Only [] w w')
set_option maxHeartbeats 3200000 in
set_option maxRecDepth 100000 in
theorem part_any (A hA : Option Addr) (c hc : Nat) (b pre blk post hd hr : List UInt8) (w : World) (h : BsAt w A b) (hb : b = pre ++ (blk ++ trail blk) ++ post) (hh : BsAt w hA hd) (hhd : hd = handle pre.length blk.length ++ hr)
    (hbl : b.length ≤ 1099511627776) (hdl : hd.length ≤ 1099511627776) (hbc : b.length ≤ c) (hdc : hd.length ≤ hc) :
    Calls Tryd.prog 48 #[.slice A b.length c, .slice hA hd.length hc] w (PartOut blk (handle pre.length blk.length).length c w) := by
  have hlen : b.length = pre.length + blk.length + 5 + post.length := by rw [hb]; simp only [List.length_append, trail_length]; omega
  have hhl : hd.length = (uv pre.length).length + (uv blk.length).length + hr.length := by rw [hhd]; simp only [handle, List.length_append]
  have hp1 := uv_pos pre.length
  have hp2 := uv_pos blk.length
  have hu1 := uv_len10 (x := pre.length) (by omega)
  have hu2 := uv_len10 (x := blk.length) (by omega)
  obtain ⟨g, o, rfl, _, hcb⟩ := h.addr (by omega)
  obtain ⟨g', o', rfl, _, hch⟩ := hh.addr (by omega)
  obtain ⟨off, hoff⟩ : ∃ off, pre.length = off := ⟨_, rfl⟩
  obtain ⟨sz, hsz⟩ : ∃ sz, blk.length = sz := ⟨_, rfl⟩
  obtain ⟨n1, hn1⟩ : ∃ n1, (uv off).length = n1 := ⟨_, rfl⟩
  obtain ⟨n2, hn2⟩ : ∃ n2, (uv sz).length = n2 := ⟨_, rfl⟩
  obtain ⟨L, hL⟩ : ∃ L, b.length = L := ⟨_, rfl⟩
  obtain ⟨M, hM⟩ : ∃ M, hd.length = M := ⟨_, rfl⟩
  have hD1 : hd = uv off ++ (uv sz ++ hr) := by rw [hhd, hoff, hsz]; simp only [handle, List.append_assoc]
  have hD2 : hd.drop n1 = uv sz ++ hr := by rw [hD1, ← hn1, List.drop_left]
  rw [hoff, hsz, hL] at hlen
  rw [hoff, hsz, hn1, hn2, hM] at hhl
  rw [hoff, hn1] at hp1 hu1
  rw [hsz, hn2] at hp2 hu2
  rw [hL] at hbl hbc ⊢
  rw [hM] at hdl hdc ⊢
  have hn12 : (handle pre.length blk.length).length = n1 + n2 := by rw [hoff, hsz]; simp only [handle, List.length_append, hn1, hn2]
  rw [hn12]
  have HB := hid (show _ ∧ _ ∧ _ from ⟨hb, h, hL⟩)
  have HH := hid (show _ ∧ _ ∧ _ ∧ _ from ⟨hh, hD1, hD2, hM⟩)
  have HN := hid (show _ ∧ _ ∧ _ ∧ _ from ⟨hoff, hsz, hn1, hn2⟩)
  have z1 : ((n1 : Int) == 0) = false := by rw [beq_eq_false_iff_ne]; omega
  have z2 : ((n2 : Int) == 0) = false := by rw [beq_eq_false_iff_ne]; omega
  have z3 : ¬ hc = n1 := by omega
  have z4 : (n1 : Int) ≤ (M : Int) := by omega
  have i1 : off + sz + 5 ≤ L := by omega
  have i2 : n1 + n2 ≤ M := by omega
  obtain ⟨en, hen⟩ : ∃ en, off + sz = en := ⟨_, rfl⟩
  have HEN := hid hen
  have i3 : en + 5 ≤ L := by omega
  have i4 : off ≤ en := by omega
  have ee : IntKind.u64.wrap ((off : Int) + (sz : Int)) = (en : Int) := by rw [← hen]; exact wraps_u64 _ (by omega) (by simp; omega)
  have HLE := hid (show _ ∧ _ from ⟨hlen, hhl⟩)
  clear hen hlen hhl hb h hh hhd hD1 hD2 hcb hch hoff hsz hn1 hn2 hL hM hn12
  go_enter Tryd.func48, Tryd.ntmps48
  go_wp2_with fail
  obtain ⟨hh, hD1, hD2, hM⟩ := HH.out
  obtain ⟨hoff, hsz, hn1, hn2⟩ := HN.out
  refine (unvarint_any _ hc M off hd _ _ hh hD1 (by omega) hM.symm (by omega)).mono ?_
  rintro e w1 ⟨rfl, rfl⟩
  rw [hn1]
  clear hh hD1 hD2 hM hoff hsz hn1 hn2
  go_wp2_with fail
  obtain ⟨hh, hD1, hD2, hM⟩ := HH.out
  obtain ⟨hoff, hsz, hn1, hn2⟩ := HN.out
  have hdl : M - n1 = (hd.drop n1).length := by rw [List.length_drop, hM]
  refine (unvarint_any _ (hc - n1) (M - n1) sz (hd.drop n1) hr _ (hh.drop n1) hD2 (by omega) hdl (by omega)).mono ?_
  rintro e w1 ⟨rfl, rfl⟩
  rw [hn2]
  clear hh hD1 hD2 hM hoff hsz hn1 hn2 hdl z3 z4
  have t1 : decide ((L : Int) < (off : Int)) = false := decide_eq_false (by omega)
  have t2 : decide ((L : Int) - (off : Int) < (sz : Int) + 5) = false := decide_eq_false (by omega)
  have u1 : IntKind.u64.wrap ((sz : Int) + 5) = (sz : Int) + 5 := wraps_u64 _ (by omega) (by simp; omega)
  have u2 : IntKind.u64.wrap ((L : Int) - (off : Int)) = (L : Int) - (off : Int) := wraps_u64 _ (by omega) (by simp; omega)
  have u3 : IntKind.u64.wrap (L : Int) = L := wraps_u64 _ (by omega) (by simp; omega)
  go_wp2_with fail
  obtain ⟨hb, h, hL⟩ := HB.out
  obtain ⟨hoff, hsz, _, _⟩ := HN.out
  have hpre : (pre ++ (blk ++ trail blk) ++ post).drop off = blk ++ (trail blk ++ post) := by
    rw [← hoff, List.append_assoc, List.drop_left, List.append_assoc]
  have hdr : BsAt w (some ⟨g, o + off, none⟩) (blk ++ (trail blk ++ post)) := by
    have := h.drop off
    rwa [hb, hpre] at this
  have hbz : BsAt w (some ⟨g, o + off, none⟩) (blk ++ [0]) := by
    have e1 : (blk ++ (trail blk ++ post)).take (sz + 1) = blk ++ [0] := by rw [← hsz, List.take_length_add_append]; simp [trail]
    rw [← e1]; exact hdr.take _
  have hcs : BsAt w (some ⟨g, o + (en + 1), none⟩) (leB (crcM (blk ++ [0])) 4) := by
    have h1 := hdr.drop (sz + 1)
    have e2 : (blk ++ (trail blk ++ post)).drop (sz + 1) = leB (crcM (blk ++ [0])) 4 ++ post := by
      rw [← hsz, ← List.drop_drop, List.drop_left]; simp [trail]
    rw [e2] at h1
    have h2 := h1.take 4
    rw [List.take_left' (leB_length _ _)] at h2
    rwa [show o + off + (sz + 1) = o + (en + 1) by have := HEN.out; omega] at h2
  have c0 : w.cell? ⟨g, o + en, none⟩ = some (.int .u8 0) := by
    obtain ⟨g5, o5, e5, hc5⟩ := hbz sz (by rw [List.length_append, hsz]; simp)
    injection e5 with e5
    injection e5 with e6 e7
    subst e6; subst e7
    rw [show o + off + sz = o + en by have := HEN.out; omega] at hc5
    rw [hc5]
    have : bz (blk ++ [0]) sz = 0 := by rw [← hsz]; simp [bz, at_]
    rw [this]
  have hcrc := mask_wf (not32 (crcB 4294967295 (blk ++ [0])))
  have hcm : mask (not32 (crcB 4294967295 (blk ++ [0]))) = crcM (blk ++ [0]) := rfl
  rw [hcm] at hcrc
  have hle := leI_leB (crcM (blk ++ [0])) 4 hcrc.1 (by simpa using hcrc.2)
  obtain ⟨cr, hcr⟩ : ∃ cr, crcM (blk ++ [0]) = cr := ⟨_, rfl⟩
  rw [hcr] at hcrc hle hcs
  have hbl1 : (blk ++ [(0 : UInt8)]).length = sz + 1 := by rw [List.length_append, hsz]; rfl
  have HX := hid (show _ ∧ _ ∧ _ ∧ _ ∧ _ from ⟨hbz, hcs, hle, hcr, hbl1⟩)
  have HDR := hid hdr
  have hcr0 := hcrc.1
  have hcr1 := hcrc.2
  clear hb h hL hoff hsz hpre hbz hcs hle hcr hbl1 hdr hcrc hcm HH
  have y1 : (off : Int) ≤ (en : Int) + 1 := by omega
  have y2 : (en : Int) + 1 ≤ (c : Int) := by omega
  have y3 : ¬ c = off := by omega
  have y4 : ¬ c = en + 1 := by omega
  have y5 : IntKind.i64.wrap ((en : Int) + 1) = (en : Int) + 1 := i64_id (by omega) (by omega)
  have y6 : IntKind.i64.wrap ((en : Int) + 5) = (en : Int) + 5 := i64_id (by omega) (by omega)
  have y7 : ((en : Int) + 1).toNat = en + 1 := by omega
  have y8 : ((en : Int) + 5).toNat = en + 5 := by omega
  have y9 : (en : Int) + 1 ≤ (en : Int) + 5 := by omega
  have y10 : (en : Int) + 5 ≤ (c : Int) := by omega
  have y11 : (en : Int) < (L : Int) := by omega
  refine AnyT.start (S := fun w' => w'.cell? ⟨g, o + en, none⟩ = some (.int .u8 0)) (T := []) (by kernel_rfl) (c0) (fun hHeld => ?_)
  refine AnyT.take (i := 0) (v := ?_) (by simp only [List.getElem?_toArray, List.getElem?_cons_succ, List.getElem?_cons_zero]; rfl) (by kernel_rfl) (by kernel_rfl) (by kernel_rfl) (by kernel_rfl) (by intro _ _ _ h; exact h) (Or.inl ⟨by rfl, fun w hSw => ?_⟩) hHeld ?_
  rotate_left
  · ((try dsimp only at hSw); go_simp; first | done | with_reducible rfl | rfl)
  try simp only [Act.put, List.setIfInBounds_toArray, List.set_cons_zero, List.set_cons_succ]
  refine AnyT.take (i := 1) (v := ?_) (by simp only [List.getElem?_toArray, List.getElem?_cons_succ, List.getElem?_cons_zero]; rfl) (by kernel_rfl) (by kernel_rfl) (by kernel_rfl) (by kernel_rfl) (by intro _ _ _ h; exact h) (Or.inl ⟨by rfl, fun w hSw => ?_⟩) hHeld ?_
  rotate_left
  · ((try dsimp only at hSw); go_simp; first | done | with_reducible rfl | rfl)
  try simp only [Act.put, List.setIfInBounds_toArray, List.set_cons_zero, List.set_cons_succ]
  refine AnyT.take (i := 2) (v := ?_) (by simp only [List.getElem?_toArray, List.getElem?_cons_succ, List.getElem?_cons_zero]; rfl) (by kernel_rfl) (by kernel_rfl) (by kernel_rfl) (by kernel_rfl) (by intro _ _ _ h; exact h) (Or.inl ⟨by rfl, fun w hSw => ?_⟩) hHeld ?_
  rotate_left
  · ((try dsimp only at hSw); go_simp; first | done | with_reducible rfl | rfl)
  try simp only [Act.put, List.setIfInBounds_toArray, List.set_cons_zero, List.set_cons_succ]
  refine AnyT.take (i := 3) (v := ?_) (by simp only [List.getElem?_toArray, List.getElem?_cons_succ, List.getElem?_cons_zero]; rfl) (by kernel_rfl) (by kernel_rfl) (by kernel_rfl) (by kernel_rfl) (by intro _ _ _ h; exact h) (Or.inl ⟨by rfl, fun w hSw => ?_⟩) hHeld ?_
  rotate_left
  · ((try dsimp only at hSw); go_simp; first | done | with_reducible rfl | rfl)
  try simp only [Act.put, List.setIfInBounds_toArray, List.set_cons_zero, List.set_cons_succ]
  refine AnyT.take (i := 4) (v := ?_) (by simp only [List.getElem?_toArray, List.getElem?_cons_succ, List.getElem?_cons_zero]; rfl) (by kernel_rfl) (by kernel_rfl) (by kernel_rfl) (by kernel_rfl) (by intro _ _ _ h; exact h) (Or.inl ⟨by rfl, fun w hSw => ?_⟩) hHeld ?_
  rotate_left
  · ((try dsimp only at hSw); go_simp; first | done | with_reducible rfl | rfl)
  try simp only [Act.put, List.setIfInBounds_toArray, List.set_cons_zero, List.set_cons_succ]
  refine AnyT.take (i := 5) (v := ?_) (by simp only [List.getElem?_toArray, List.getElem?_cons_succ, List.getElem?_cons_zero]; rfl) (by kernel_rfl) (by kernel_rfl) (by kernel_rfl) (by kernel_rfl) (by intro _ _ _ h; exact h) (Or.inl ⟨by rfl, fun w hSw => ?_⟩) hHeld ?_
  rotate_left
  · ((try dsimp only at hSw); go_simp; first | done | with_reducible rfl | rfl)
  try simp only [Act.put, List.setIfInBounds_toArray, List.set_cons_zero, List.set_cons_succ]
  refine AnyT.take (i := 6) (v := ?_) (by simp only [List.getElem?_toArray, List.getElem?_cons_succ, List.getElem?_cons_zero]; rfl) (by kernel_rfl) (by kernel_rfl) (by kernel_rfl) (by kernel_rfl) (by intro _ _ _ h; exact h) (Or.inl ⟨by rfl, fun w hSw => ?_⟩) hHeld ?_
  rotate_left
  · ((try dsimp only at hSw); go_simp; first | done | with_reducible rfl | rfl)
  try simp only [Act.put, List.setIfInBounds_toArray, List.set_cons_zero, List.set_cons_succ]
  refine AnyT.take (i := 7) (v := ?_) (by simp only [List.getElem?_toArray, List.getElem?_cons_succ, List.getElem?_cons_zero]; rfl) (by kernel_rfl) (by kernel_rfl) (by kernel_rfl) (by kernel_rfl) (by intro _ _ _ h; exact h) (Or.inl ⟨by rfl, fun w hSw => ?_⟩) hHeld ?_
  rotate_left
  · ((try dsimp only at hSw); go_simp; first | done | with_reducible rfl | rfl)
  try simp only [Act.put, List.setIfInBounds_toArray, List.set_cons_zero, List.set_cons_succ]
  refine AnyT.take (i := 8) (v := ?_) (by simp only [List.getElem?_toArray, List.getElem?_cons_succ, List.getElem?_cons_zero]; rfl) (by kernel_rfl) (by kernel_rfl) (by kernel_rfl) (by kernel_rfl) (by intro _ _ _ h; exact h) (Or.inl ⟨by rfl, fun w hSw => ?_⟩) hHeld ?_
  rotate_left
  · ((try dsimp only at hSw); go_simp; first | done | with_reducible rfl | rfl)
  try simp only [Act.put, List.setIfInBounds_toArray, List.set_cons_zero, List.set_cons_succ]
  refine AnyT.take (i := 9) (v := ?_) (by simp only [List.getElem?_toArray, List.getElem?_cons_succ, List.getElem?_cons_zero]; rfl) (by kernel_rfl) (by kernel_rfl) (by kernel_rfl) (by kernel_rfl) (by intro _ _ _ h; exact h) (Or.inl ⟨by rfl, fun w hSw => ?_⟩) hHeld ?_
  rotate_left
  · ((try dsimp only at hSw); go_simp; first | done | with_reducible rfl | rfl)
  try simp only [Act.put, List.setIfInBounds_toArray, List.set_cons_zero, List.set_cons_succ]
  refine AnyT.take (i := 10) (v := ?_) (by simp only [List.getElem?_toArray, List.getElem?_cons_succ, List.getElem?_cons_zero]; rfl) (by kernel_rfl) (by kernel_rfl) (by kernel_rfl) (by kernel_rfl) (by intro _ _ _ h; exact h) (Or.inl ⟨by rfl, fun w hSw => ?_⟩) hHeld ?_
  rotate_left
  · ((try dsimp only at hSw); go_simp; first | done | with_reducible rfl | rfl)
  try simp only [Act.put, List.setIfInBounds_toArray, List.set_cons_zero, List.set_cons_succ]
  refine AnyT.take (i := 14) (v := ?_) (by simp only [List.getElem?_toArray, List.getElem?_cons_succ, List.getElem?_cons_zero]; rfl) (by kernel_rfl) (by kernel_rfl) (by kernel_rfl) (by kernel_rfl) (by intro _ _ _ h; exact h) (Or.inl ⟨by rfl, fun w hSw => ?_⟩) hHeld ?_
  rotate_left
  · ((try dsimp only at hSw); go_simp; first | done | with_reducible rfl | rfl)
  try simp only [Act.put, List.setIfInBounds_toArray, List.set_cons_zero, List.set_cons_succ]
  refine AnyT.take (i := 15) (v := ?_) (by simp only [List.getElem?_toArray, List.getElem?_cons_succ, List.getElem?_cons_zero]; rfl) (by kernel_rfl) (by kernel_rfl) (by kernel_rfl) (by kernel_rfl) (by intro _ _ _ h; exact h) (Or.inl ⟨by rfl, fun w hSw => ?_⟩) hHeld ?_
  rotate_left
  · ((try dsimp only at hSw); go_simp; first | done | with_reducible rfl | rfl)
  try simp only [Act.put, List.setIfInBounds_toArray, List.set_cons_zero, List.set_cons_succ]
  refine AnyT.take (i := 16) (v := ?_) (by simp only [List.getElem?_toArray, List.getElem?_cons_succ, List.getElem?_cons_zero]; rfl) (by kernel_rfl) (by kernel_rfl) (by kernel_rfl) (by kernel_rfl) (by intro _ _ _ h; exact h) (Or.inl ⟨by rfl, fun w hSw => ?_⟩) hHeld ?_
  rotate_left
  · ((try dsimp only at hSw); go_simp; first | done | with_reducible rfl | rfl)
  try simp only [Act.put, List.setIfInBounds_toArray, List.set_cons_zero, List.set_cons_succ]
  refine AnyT.take (i := 17) (v := ?_) (by simp only [List.getElem?_toArray, List.getElem?_cons_succ, List.getElem?_cons_zero]; rfl) (by kernel_rfl) (by kernel_rfl) (by kernel_rfl) (by kernel_rfl) (by intro _ _ _ h; exact h) (Or.inl ⟨by rfl, fun w hSw => ?_⟩) hHeld ?_
  rotate_left
  · ((try dsimp only at hSw); go_simp; first | done | with_reducible rfl | rfl)
  try simp only [Act.put, List.setIfInBounds_toArray, List.set_cons_zero, List.set_cons_succ]
  refine AnyT.take (i := 18) (v := ?_) (by simp only [List.getElem?_toArray, List.getElem?_cons_succ, List.getElem?_cons_zero]; rfl) (by kernel_rfl) (by kernel_rfl) (by kernel_rfl) (by kernel_rfl) (by intro _ _ _ h; exact h) (Or.inl ⟨by rfl, fun w hSw => ?_⟩) hHeld ?_
  rotate_left
  · ((try dsimp only at hSw); go_simp; first | done | with_reducible rfl | rfl)
  try simp only [Act.put, List.setIfInBounds_toArray, List.set_cons_zero, List.set_cons_succ]
  refine AnyT.take (i := 19) (v := ?_) (by simp only [List.getElem?_toArray, List.getElem?_cons_succ, List.getElem?_cons_zero]; rfl) (by kernel_rfl) (by kernel_rfl) (by kernel_rfl) (by kernel_rfl) (by intro _ _ _ h; exact h) (Or.inl ⟨by rfl, fun w hSw => ?_⟩) hHeld ?_
  rotate_left
  · ((try dsimp only at hSw); go_simp; first | done | with_reducible rfl | rfl)
  try simp only [Act.put, List.setIfInBounds_toArray, List.set_cons_zero, List.set_cons_succ]
  refine AnyT.ready (rs := [11]) (by kernel_rfl) (by simp) ?_
  refine AllT.cons (by simp only [List.getElem?_toArray, List.getElem?_cons_succ, List.getElem?_cons_zero]; rfl) (fun K hK => ?_) AllT.nil
  go_simp
  obtain ⟨q, hq⟩ : ∃ q, w.heap.size = q := ⟨_, rfl⟩
  try rw [hq]
  have hes : en + 1 - off = sz + 1 := by have := HEN.out; omega
  rw [hes]
  have hO1 := (Own.start w).alloc' hq 25 [.slice (some ⟨g, o + off, none⟩) (sz + 1) (c - off)]
  have hcs1 : CsAt (w.alloc (.cells [.slice (some ⟨g, o + off, none⟩) (sz + 1) (c - off)].toArray 25)).drew (some ⟨q, 0, none⟩) ([(⟨some ⟨g, o + off, none⟩, c - off, blk ++ [0]⟩ : Sl)].flatMap Sl.cells) := by
    have := hO1.drew.cs_fw (List.mem_cons_self ..)
    simpa [Sl.cells, HX.out.2.2.2.2] using this
  have ho1 : Only [] w (w.alloc (.cells [.slice (some ⟨g, o + off, none⟩) (sz + 1) (c - off)].toArray 25)).drew := hO1.only.drew
  have hb1 := HX.out.1.keep0 ho1
  have c1 := (ho1.cell (p := ⟨g, o + en, none⟩) (cell_lt c0) (by simp)).trans c0
  have HC1 := hid hcs1
  have HO1 := hid ho1
  have HB1 := hid hb1
  clear hO1 hcs1 ho1 hb1 hq hes
  refine hK.out _ _ ?_ (fun hHeld => ?_)
  · exact c1
  clear hK
  try simp only [Act.put, List.setIfInBounds_toArray, List.set_cons_zero, List.set_cons_succ]
  generalize World.drew _ = W at HC1 HO1 HB1 hHeld ⊢
  refine AnyT.ready (rs := [12]) (by kernel_rfl) (by simp) ?_
  refine AllT.cons (by simp only [List.getElem?_toArray, List.getElem?_cons_succ, List.getElem?_cons_zero]; rfl) (fun K hK => ?_) AllT.nil
  go_simp
  refine (specCrc (some ⟨q, 0, none⟩) 1 1 [⟨some ⟨g, o + off, none⟩, c - off, blk ++ [0]⟩] W HC1.out (fun r hr => by
    rcases List.mem_singleton.1 hr with rfl
    exact ⟨HB1.out, by show (blk ++ [(0 : UInt8)]).length ≤ 140737488355328; rw [HX.out.2.2.2.2]; omega⟩) rfl (by simp)).mono ?_
  rintro e w2 ⟨rfl, ho2⟩
  have hcc : mask (not32 (crcS 4294967295 [⟨some ⟨g, o + off, none⟩, c - off, blk ++ [0]⟩])) = cr := HX.out.2.2.2.1
  rw [hcc]
  have HO2 := hid (HO1.out.new ho2)
  have c2 := (ho2.cell (p := ⟨g, o + en, none⟩) (cell_lt hHeld) (by simp)).trans hHeld
  clear ho2 hcc HC1 HB1 HO1
  try go_wp2_with fail
  refine hK.out _ _ ?_ (fun hHeld => ?_)
  · exact c2
  clear hK
  try simp only [Act.put, List.setIfInBounds_toArray, List.set_cons_zero, List.set_cons_succ]
  refine AnyT.take (i := 13) (v := ?_) (by simp only [List.getElem?_toArray, List.getElem?_cons_succ, List.getElem?_cons_zero]; rfl) (by kernel_rfl) (by kernel_rfl) (by kernel_rfl) (by kernel_rfl) (by intro _ _ _ h; exact h) (Or.inl ⟨by rfl, fun w hSw => ?_⟩) hHeld ?_
  rotate_left
  · ((try dsimp only at hSw); go_simp; first | done | with_reducible rfl | rfl)
  try simp only [Act.put, List.setIfInBounds_toArray, List.set_cons_zero, List.set_cons_succ]
  refine AnyT.ready (rs := [20]) (by kernel_rfl) (by simp) ?_
  refine AllT.cons (by simp only [List.getElem?_toArray, List.getElem?_cons_succ, List.getElem?_cons_zero]; rfl) (fun K hK => ?_) AllT.nil
  go_simp
  refine (unlittle_any _ 4 _ (leB cr 4) _ (HX.out.2.1.keep0 HO2.out) (by rw [leB_length]; decide) (by rw [leB_length])).mono ?_
  rintro e w3 ⟨rfl, hd3⟩
  rw [HX.out.2.2.1]
  have HO3 := hid (HO2.out.dr hd3)
  have c3 := (hd3.only.cell (p := ⟨g, o + en, none⟩) (cell_lt c2) (by simp)).trans c2
  clear hd3
  try go_wp2_with fail
  refine hK.out _ _ ?_ (fun hHeld => ?_)
  · exact c3
  clear hK
  try simp only [Act.put, List.setIfInBounds_toArray, List.set_cons_zero, List.set_cons_succ]
  refine AnyT.take (i := 21) (v := ?_) (by simp only [List.getElem?_toArray, List.getElem?_cons_succ, List.getElem?_cons_zero]; rfl) (by kernel_rfl) (by kernel_rfl) (by kernel_rfl) (by kernel_rfl) (by intro _ _ _ h; exact h) (Or.inl ⟨by rfl, fun w hSw => ?_⟩) hHeld ?_
  rotate_left
  · ((try dsimp only at hSw); go_simp; first | done | with_reducible rfl | rfl)
  try simp only [Act.put, List.setIfInBounds_toArray, List.set_cons_zero, List.set_cons_succ]
  refine AnyT.take (i := 22) (v := ?_) (by simp only [List.getElem?_toArray, List.getElem?_cons_succ, List.getElem?_cons_zero]; rfl) (by kernel_rfl) (by kernel_rfl) (by kernel_rfl) (by kernel_rfl) (by intro _ _ _ h; exact h) (Or.inl ⟨by rfl, fun w hSw => ?_⟩) hHeld ?_
  rotate_left
  · ((try dsimp only at hSw); go_simp; first | done | with_reducible rfl | rfl)
  try simp only [Act.put, List.setIfInBounds_toArray, List.set_cons_zero, List.set_cons_succ]
  refine AnyT.done (by kernel_rfl) ?_ _
  have ew : IntKind.u64.wrap cr = cr := wraps_u64 _ hcr0 (by simp; omega)
  have ez : (cr != cr) = false := by simp
  clear c3
  go_wp2_with fail
  go_ret3
  have hes2 : en - off = sz := by have := HEN.out; omega
  rw [hes2]
  refine ⟨some ⟨g, o + off, none⟩, c - off, ?_, ?_, by omega, ?_, HO3⟩
  · rw [HN.out.2.1]; rfl
  · rw [HN.out.2.1]; omega
  · have h9 := (HX.out.1.keep0 HO3.out).take sz
    rw [← HN.out.2.1, List.take_left] at h9
    exact hid h9
end Go.Proofs.YtloflmcgbbbnjaaDoor
