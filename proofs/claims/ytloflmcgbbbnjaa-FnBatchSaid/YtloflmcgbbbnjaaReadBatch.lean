/-
  impl.ReadBatch: the calls of a batch that was dumped.
-/
import Derived.Test.YtloflmcgbbbnjaaReplay2
namespace Go.Proofs.Ytloflmcgbbbnjaa
open Go.RowKit Plain
set_option linter.all false

set_option maxHeartbeats 800000 in
theorem len_batch (b n ic : Nat) (iA : Option Addr) (w : World) (c1 : w.cell? ⟨b, 1, none⟩ = some (.slice iA n ic)) :
    Calls Try.prog 18 #[.pointer (some ⟨b, 0, none⟩)] w fun e w' => e = .returned (.int .i64 (n : Int)) ∧ w = w' := by
  go_enter Try.func18, Try.ntmps18
  go_wp2
  go_ret
  exact ⟨by simp, rfl⟩
def RBOut (l : List P2) (w : World) (e : Ending) (w' : World) : Prop :=
  ∃ ops A c, e = .returned (.tuple #[.slice A l.length c, .int .i64 (l.length : Int), .bool true]) ∧ AllAlike ops l ∧ CsAt w' A (ops.flatMap P2.cells) ∧ (∀ r ∈ ops, BsAt w' r.ka r.k ∧ BsAt w' r.va r.v ∧ r.k.length ≤ r.kc ∧ r.v.length ≤ r.vc) ∧ Only [] w w'
set_option maxHeartbeats 3200000 in
set_option maxRecDepth 100000 in
theorem readBatch_any (A : Option Addr) (n c : Nat) (l : List P2) (w : World) (h : BsAt w A (dmp l)) (hn : n = (dmp l).length) (hdl : (dmp l).length ≤ 1099511627776) (hl : l.length ≤ 1073741824) (hok : okR l) :
    Calls Try.prog 10 #[.slice A n c] w (RBOut l w) := by
  subst hn
  have HH := hid h
  have HOK := hid hok
  obtain ⟨b, hb⟩ : ∃ b, w.heap.size = b := ⟨_, rfl⟩
  have hO := (Own.start w).alloc' hb 54 [.slice none 0 0, .slice none 0 0, .int .i64 0]
  have HO := hid hO
  obtain ⟨D, hD⟩ : ∃ D, dmp l = D := ⟨_, rfl⟩
  have HD := hid hD
  rw [hD] at HH hdl ⊢
  clear h hok hO hD
  go_enter Try.func10, Try.ntmps10
  go_wp2_with fail
  try rw [hb]
  clear hb
  refine (copied_own A D.length c D _ w _ (HH.out.alloc _) HO.out rfl (by omega)).mono ?_
  intro e w1 hret
  obtain ⟨A1, c1, F1, n1, hn1, rfl, hr1, hO1⟩ := hret
  have hle := hr1.out.le
  rw [hn1.out] at hle
  go_wp2_with fail
  refine (load_any b c1 A1 l (F1 ++ []) w w1 (hO1.out.perm (perm_of fun _ _ z => by simp only [List.count_append, List.count_cons, List.cons_append, List.count_nil, List.nil_append, List.append_nil]; omega)) (by rw [HD.out]; exact (hr1.out.rd w).left []) (by rw [HD.out]; exact hle) (by rw [HD.out]; exact hdl) hl HOK.out n1 (by rw [HD.out]; exact hn1.out)).mono ?_
  rintro e w2 ⟨rfl, iA, ic, il, Fi, hR2, hO2⟩
  have HR2 := hid hR2
  have HO2 := hid hO2
  clear hR2 hO2 hO1
  go_wp2_with fail
  obtain ⟨rp, hrp⟩ : ∃ rp, w2.heap.size = rp := ⟨_, rfl⟩
  have hO3 := HO2.out.alloc' hrp 60 [.slice none 0 0]
  try rw [hrp]
  have HO3 := hid hO3
  clear hO3 hrp
  refine (replay_any b rp c1 ic A1 iA il l [] [fw rp 60 [.slice none 0 0]] Fi (F1 ++ []) w _ HR2.out ⟨none, 0, [], Row.nil _ _, rfl, by simp⟩ HO3.out (by rw [HD.out]; exact (hr1.out.rd w).left []) (by rw [HD.out]; exact hle) (by rw [HD.out]; exact hdl) hl HOK.out).mono ?_
  rintro e w4 ⟨rfl, ops, Fx, F, hA, ⟨oA, oc, Fo, hRo, rfl, hro⟩, hO4⟩
  have b1 : w4.cell? ⟨b, 1, none⟩ = some (.slice iA l.length ic) := hO4.right.cell 0 rfl 1 rfl (by simp)
  have r0 : w4.cell? ⟨rp, 0, none⟩ = some (.slice oA ops.length oc) := hO4.cell 0 rfl 0 rfl (by simp)
  have HO4 := hid hO4
  have HRo := hid hRo
  have HRO := hid hro
  have HA := hid hA
  clear hO4 hRo hro hA
  go_wp2_with fail
  refine AnyT.start (S := fun w' => w'.cell? ⟨rp, 0, none⟩ = some (.slice oA ops.length oc) ∧ w'.cell? ⟨b, 1, none⟩ = some (.slice iA l.length ic)) (T := []) (by kernel_rfl) (⟨r0, b1⟩) (fun hHeld => ?_)
  refine AnyT.take (i := 0) (v := ?_) (by simp only [List.getElem?_toArray, List.getElem?_cons_succ, List.getElem?_cons_zero]; rfl) (by kernel_rfl) (by kernel_rfl) (by kernel_rfl) (by kernel_rfl) (by intro _ _ _ h; exact h) (Or.inl ⟨by rfl, fun w hSw => ?_⟩) hHeld ?_
  rotate_left
  · ((try dsimp only at hSw); go_simp; first | done | with_reducible rfl | rfl)
  try simp only [Act.put, List.setIfInBounds_toArray, List.set_cons_zero, List.set_cons_succ]
  refine AnyT.take (i := 1) (v := ?_) (by simp only [List.getElem?_toArray, List.getElem?_cons_succ, List.getElem?_cons_zero]; rfl) (by kernel_rfl) (by kernel_rfl) (by kernel_rfl) (by kernel_rfl) (by intro _ _ _ h; exact h) (Or.inl ⟨by rfl, fun w hSw => ?_⟩) hHeld ?_
  rotate_left
  · ((try dsimp only at hSw); go_simp; first | done | with_reducible rfl | rfl)
  try simp only [Act.put, List.setIfInBounds_toArray, List.set_cons_zero, List.set_cons_succ]
  refine AnyT.take (i := 2) (v := ?_) (by simp only [List.getElem?_toArray, List.getElem?_cons_succ, List.getElem?_cons_zero]; rfl) (by kernel_rfl) (by kernel_rfl) (by kernel_rfl) (by kernel_rfl) (by intro _ _ _ h; exact h) (Or.inl ⟨by rfl, fun w hSw => ?_⟩) hHeld ?_
  rotate_left
  · ((try dsimp only at hSw); go_simp; first | done | with_reducible rfl | rfl)
  try simp only [Act.put, List.setIfInBounds_toArray, List.set_cons_zero, List.set_cons_succ]
  refine AnyT.take (i := 3) (v := ?_) (by simp only [List.getElem?_toArray, List.getElem?_cons_succ, List.getElem?_cons_zero]; rfl) (by kernel_rfl) (by kernel_rfl) (by kernel_rfl) (by kernel_rfl) (by intro _ _ _ h; exact h) (Or.inl ⟨by rfl, fun w hSw => ?_⟩) hHeld ?_
  rotate_left
  · ((try dsimp only at hSw); go_simp; first | done | with_reducible rfl | rfl)
  try simp only [Act.put, List.setIfInBounds_toArray, List.set_cons_zero, List.set_cons_succ]
  refine AnyT.take (i := 4) (v := ?_) (by simp only [List.getElem?_toArray, List.getElem?_cons_succ, List.getElem?_cons_zero]; rfl) (by kernel_rfl) (by kernel_rfl) (by kernel_rfl) (by kernel_rfl) (by intro _ _ _ h; exact h) (Or.inl ⟨by rfl, fun w hSw => ?_⟩) hHeld ?_
  rotate_left
  · ((try dsimp only at hSw); go_simp; first | done | with_reducible rfl | rfl)
  try simp only [Act.put, List.setIfInBounds_toArray, List.set_cons_zero, List.set_cons_succ]
  refine AnyT.ready (rs := [5]) (by kernel_rfl) (by simp) ?_
  refine AllT.cons (by simp only [List.getElem?_toArray, List.getElem?_cons_succ, List.getElem?_cons_zero]; rfl) (fun K hK => ?_) AllT.nil
  go_simp
  refine (len_batch b l.length ic iA w4.drew b1).mono ?_
  rintro e w5 ⟨rfl, rfl⟩
  try go_wp2_with fail
  refine hK.out _ _ ?_ (fun hHeld => ?_)
  · exact ⟨r0, b1⟩
  clear hK
  try simp only [Act.put, List.setIfInBounds_toArray, List.set_cons_zero, List.set_cons_succ]
  refine AnyT.take (i := 6) (v := ?_) (by simp only [List.getElem?_toArray, List.getElem?_cons_succ, List.getElem?_cons_zero]; rfl) (by kernel_rfl) (by kernel_rfl) (by kernel_rfl) (by kernel_rfl) (by intro _ _ _ h; exact h) (Or.inl ⟨by rfl, fun w hSw => ?_⟩) hHeld ?_
  rotate_left
  · ((try dsimp only at hSw); go_simp; first | done | with_reducible rfl | rfl)
  try simp only [Act.put, List.setIfInBounds_toArray, List.set_cons_zero, List.set_cons_succ]
  refine AnyT.take (i := 7) (v := ?_) (by simp only [List.getElem?_toArray, List.getElem?_cons_succ, List.getElem?_cons_zero]; rfl) (by kernel_rfl) (by kernel_rfl) (by kernel_rfl) (by kernel_rfl) (by intro _ _ _ h; exact h) (Or.inl ⟨by rfl, fun w hSw => ?_⟩) hHeld ?_
  rotate_left
  · ((try dsimp only at hSw); go_simp; first | done | with_reducible rfl | rfl)
  try simp only [Act.put, List.setIfInBounds_toArray, List.set_cons_zero, List.set_cons_succ]
  refine AnyT.take (i := 8) (v := ?_) (by simp only [List.getElem?_toArray, List.getElem?_cons_succ, List.getElem?_cons_zero]; rfl) (by kernel_rfl) (by kernel_rfl) (by kernel_rfl) (by kernel_rfl) (by intro _ _ _ h; exact h) (Or.inl ⟨by rfl, fun w hSw => ?_⟩) hHeld ?_
  rotate_left
  · ((try dsimp only at hSw); go_simp; first | done | with_reducible rfl | rfl)
  try simp only [Act.put, List.setIfInBounds_toArray, List.set_cons_zero, List.set_cons_succ]
  refine AnyT.done (by kernel_rfl) ?_ _
  go_wp2_with fail
  go_ret3
  have hOf := HO4.out.drew
  have hlen := HA.out.1
  refine ⟨ops, oA, oc, by simp [hlen], HA.out, ?_, fun r hr => ?_, hOf.only⟩
  · exact hOf.st (HRo.out.st w) (fun x hx => by simp [hx])
  · obtain ⟨r1, r2, r3, r4⟩ := HRO.out r hr
    exact ⟨hOf.st r1 (fun x hx => by simp [hx]), hOf.st r2 (fun x hx => by simp [hx]), r3, r4⟩
end Go.Proofs.Ytloflmcgbbbnjaa
