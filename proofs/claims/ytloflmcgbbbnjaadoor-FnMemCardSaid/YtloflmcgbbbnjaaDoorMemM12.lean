/-
  FnMem's helpers: at, found, bound, backward.
  copy(dst, src) with elements of several cells, dst in a whole block that is owned.
  A region that draws its order: a call that leaves the world as it is may be taken first, too.
  spec.Map: Put.
  spec.Map: Range, Delete.
-/
import Derived.Test.YtloflmcgbbbnjaaDoorMemM6
import Derived.Test.YtloflmcgbbbnjaaDoorMemM5
import Derived.Test.YtloflmcgbbbnjaaDoorMemM11
import Derived.Test.YtloflmcgbbbnjaaDoorMemM4
import Derived.Lib.SlBuf
import Derived.Deep.Quiet
namespace Go.Proofs.YtloflmcgbbbnjaaDoor
open Go.RowKit Plain
set_option linter.all false

set_option maxHeartbeats 1600000 in
set_option maxRecDepth 100000 in
theorem at_some (A : Option Addr) (c n i : Nat) (m : List Pr) (r : Pr) (w : World) (hp : Prs w A m) (hn : n = m.length) (hr : m[i]? = some r) :
    Calls Tryd.prog 60 #[.slice A n c, .int .i64 i] w fun e w' => e = .returned (.agg #[.slice r.ka r.k.length r.kc, .slice r.va r.v.length r.vc]) ∧ Only [] w w' := by
  obtain ⟨q, hq⟩ : ∃ q, w.heap.size = q := ⟨_, rfl⟩
  have hO := (Own.start w).alloc' hq 38 [.slice none 0 0, .slice none 0 0]
  have hp2 := hp.keep0 hO.only
  obtain ⟨g, o, rfl, p0, p1⟩ := hp2.at_ hr
  have hlt := (List.getElem?_eq_some_iff.1 hr).1
  have hi : (i : Int) < (n : Int) := by omega
  have HQ := hid hq
  have HO := hid hO
  clear hO hp hp2 hn hr hlt hq
  go_enter Tryd.func60, Tryd.ntmps60
  go_upto_region 2 with fail
  rw [HQ.out]
  generalize (World.alloc _ _) = W at HO p0 p1 ⊢
  go_wp2_with (refine own_store_row rfl 38 (.tmp 4) (.tmp 12) rfl q _ rfl rfl 38 _ HO.out (by kernel_rfl) (by simp) (by simp [Value.oneCell']) ?_; intro w6 hO6; have qa0 : w6.cell? ⟨q, 0, none⟩ = some (.slice r.ka r.k.length r.kc) := hO6.cell 0 rfl (k := 0) 0 rfl (by simp); have qa1 : w6.cell? ⟨q, 1, none⟩ = some (.slice r.va r.v.length r.vc) := hO6.cell 0 rfl (k := 1) 1 rfl (by simp); have HO6 := hid hO6; clear hO6)
  refine bodyPost_ret (v := .agg #[.slice r.ka r.k.length r.kc, .slice r.va r.v.length r.vc]) ?_ rfl ?_
  · simp [results, Tryd.results60, go_sem, qa0, qa1]
  · exact ⟨rfl, HO6.out.only⟩
set_option maxHeartbeats 1600000 in
set_option maxRecDepth 100000 in
theorem at_none (A : Option Addr) (c n i : Nat) (w : World) (hn : n ≤ i) :
    Calls Tryd.prog 60 #[.slice A n c, .int .i64 i] w fun e w' => e = .returned (.agg #[.slice none 0 0, .slice none 0 0]) ∧ Only [] w w' := by
  obtain ⟨q, hq⟩ : ∃ q, w.heap.size = q := ⟨_, rfl⟩
  have hO := (Own.start w).alloc' hq 38 [.slice none 0 0, .slice none 0 0]
  have hi : ¬ (i : Int) < (n : Int) := by omega
  have HQ := hid hq
  have HO := hid hO
  clear hO hn hq
  go_enter Tryd.func60, Tryd.ntmps60
  go_upto_region 3 with fail
  rw [HQ.out]
  generalize (World.alloc _ _) = W at HO ⊢
  go_wp2_with (refine own_store_row rfl 38 (.tmp 4) (.tmp 13) rfl q _ rfl rfl 38 _ HO.out (by kernel_rfl) (by simp) (by simp [Value.oneCell']) ?_; intro w6 hO6; have qa0 : w6.cell? ⟨q, 0, none⟩ = some (.slice none 0 0) := hO6.cell 0 rfl (k := 0) 0 rfl (by simp); have qa1 : w6.cell? ⟨q, 1, none⟩ = some (.slice none 0 0) := hO6.cell 0 rfl (k := 1) 1 rfl (by simp); have HO6 := hid hO6; clear hO6)
  refine bodyPost_ret (v := .agg #[.slice none 0 0, .slice none 0 0]) ?_ rfl ?_
  · simp [results, Tryd.results60, go_sem, qa0, qa1]
  · exact ⟨rfl, HO6.out.only⟩
set_option maxHeartbeats 1600000 in
set_option maxRecDepth 100000 in
theorem found_no (A B : Option Addr) (n c m d : Nat) (x : Int) (p0 p1 : Value) (w : World) (h0 : ∃ a b e, p0 = .slice a b e) (h1 : ∃ a b e, p1 = .slice a b e) :
    Calls Tryd.prog 59 #[.agg #[.slice A n c, .slice B m d, .int .i64 x, .bool false], .bool false, .agg #[p0, p1]] w fun e w' => e = .returned (.bool true) ∧ Only [] w w' := by
  obtain ⟨a0, b0, e0, rfl⟩ := h0
  obtain ⟨a1, b1, e1, rfl⟩ := h1
  have hO := ((Own.start w).alloc 58 [.slice A n c, .slice B m d, .int .i64 x, .bool false]).alloc 38 [.slice a0 b0 e0, .slice a1 b1 e1]
  have HO := hid hO.only
  clear hO
  go_enter Tryd.func59, Tryd.ntmps59
  go_wp2_with fail
  go_ret
  exact ⟨rfl, HO.out⟩
set_option maxHeartbeats 6400000 in
set_option maxRecDepth 100000 in
theorem found_yes (A B : Option Addr) (c m d : Nat) (x : Int) (y : Pr) (r : Pr) (w : World) (hp : Prs w A [y]) (hr : r.Ok w) (hk : y.k = r.k) (hv : y.v = r.v) :
    Calls Tryd.prog 59 #[.agg #[.slice A 1 c, .slice B m d, .int .i64 x, .bool true], .bool true, .agg #[.slice r.ka r.k.length r.kc, .slice r.va r.v.length r.vc]] w fun e w' => e = .returned (.bool true) ∧ Only [] w w' := by
  obtain ⟨q, hq⟩ : ∃ q, w.heap.size = q := ⟨_, rfl⟩
  have hO := ((Own.start w).alloc' hq 58 [.slice A 1 c, .slice B m d, .int .i64 x, .bool true]).alloc' (g := q + 1) (by simp [hq]) 38 [.slice r.ka r.k.length r.kc, .slice r.va r.v.length r.vc]
  have ho := hO.only
  have hp2 := hp.keep0 ho
  have hr2 := hr.keep0 ho
  have hyo := hp2.ok y (by simp)
  obtain ⟨g, o, rfl, p0, p1⟩ := hp2.at_ (i := 0) (r := y) rfl
  have q0 := hO.cell 1 rfl (k := 0) 0 rfl (by simp)
  have q3 := hO.cell 1 rfl (k := 3) 3 rfl (by simp)
  have s0 := hO.cell 0 rfl (k := 0) 0 rfl (by simp)
  have s1 := hO.cell 0 rfl (k := 1) 1 rfl (by simp)
  simp only [List.getElem?_cons_zero, List.getElem?_cons_succ, Nat.zero_mul, Nat.add_zero] at q0 q3 s0 s1 p0 p1
  have HO := hid hO
  have HQ := hid hq
  have hyk : BsAt _ y.ka y.k := hyo.hk
  have hyv : BsAt _ y.va y.v := hyo.hv
  rw [hk] at p0 hyk
  rw [hv] at p1 hyv
  have hrk := hr2.hk
  have hrv := hr2.hv
  have HB := hid (show _ ∧ _ ∧ _ ∧ _ from ⟨hyk, hyv, hrk, hrv⟩)
  clear hO ho hp hp2 hr hr2 hyo hyk hyv hrk hrv hk hv hq
  go_enter Tryd.func59, Tryd.ntmps59
  go_upto_region 3 with fail
  rw [HQ.out]
  generalize (World.alloc _ _) = W at HO HB p0 p1 q0 q3 s0 s1 ⊢
  have hdd : Only [] W W.drew := (Only.refl [] W).drew
  obtain ⟨hyk, hyv, hrk, hrv⟩ := HB.out
  have f1 := runStr (hyk.keep0 hdd) y.kc r.k.length rfl
  have f2 := runStr (hrk.keep0 hdd) r.kc r.k.length rfl
  have f3 := runStr (hyv.keep0 hdd) y.vc r.v.length rfl
  have f4 := runStr (hrv.keep0 hdd) r.vc r.v.length rfl
  have HOF := hid HO.out.only.drew
  clear hyk hyv hrk hrv HB hdd
  generalize q + 1 = q2 at *
  go_wp2_with fail
  refine AnyT.start (S := fun w' => w'.cell? ⟨q, 0, none⟩ = some (.slice (some ⟨g, o, none⟩) 1 c) ∧ w'.cell? ⟨q, 3, none⟩ = some (.bool true) ∧ w'.cell? ⟨q2, 0, none⟩ = some (.slice r.ka r.k.length r.kc) ∧ w'.cell? ⟨q2, 1, none⟩ = some (.slice r.va r.v.length r.vc) ∧ w'.cell? ⟨g, o, none⟩ = some (.slice y.ka r.k.length y.kc) ∧ w'.cell? ⟨g, o + 1, none⟩ = some (.slice y.va r.v.length y.vc) ∧ Sem.run Tryd.prog (convert 25 9 (Value.slice y.ka r.k.length y.kc)) w' = Result.ok (Value.string (bstr r.k)) w' ∧ Sem.run Tryd.prog (convert 25 9 (Value.slice r.ka r.k.length r.kc)) w' = Result.ok (Value.string (bstr r.k)) w' ∧ Sem.run Tryd.prog (convert 25 9 (Value.slice y.va r.v.length y.vc)) w' = Result.ok (Value.string (bstr r.v)) w' ∧ Sem.run Tryd.prog (convert 25 9 (Value.slice r.va r.v.length r.vc)) w' = Result.ok (Value.string (bstr r.v)) w') (T := []) (by kernel_rfl) (⟨q0, q3, s0, s1, p0, p1, f1, f2, f3, f4⟩) (fun hHeld => ?_)
  refine AnyT.take (i := 0) (v := ?_) (by simp only [List.getElem?_toArray, List.getElem?_cons_succ, List.getElem?_cons_zero]; rfl) (by kernel_rfl) (by kernel_rfl) (by kernel_rfl) (by kernel_rfl) (by intro _ _ _ h; exact h) (Or.inl ⟨by rfl, fun w hSw => ?_⟩) hHeld ?_
  rotate_left
  · ((try dsimp only at hSw); go_simp; first | done | with_reducible rfl | rfl)
  try simp only [Act.put, List.setIfInBounds_toArray, List.set_cons_zero, List.set_cons_succ]
  refine AnyT.take (i := 1) (v := ?_) (by simp only [List.getElem?_toArray, List.getElem?_cons_succ, List.getElem?_cons_zero]; rfl) (by kernel_rfl) (by kernel_rfl) (by kernel_rfl) (by kernel_rfl) (by intro _ _ _ h; exact h) (Or.inl ⟨by rfl, fun w hSw => ?_⟩) hHeld ?_
  rotate_left
  · ((try dsimp only at hSw); go_simp; first | done | with_reducible rfl | rfl)
  try simp only [Act.put, List.setIfInBounds_toArray, List.set_cons_zero, List.set_cons_succ]
  refine AnyT.take (i := 2) (v := ?_) (by simp only [List.getElem?_toArray, List.getElem?_cons_succ, List.getElem?_cons_zero]; rfl) (by kernel_rfl) (by kernel_rfl) (by kernel_rfl) (by kernel_rfl) (by intro _ _ _ h; exact h) (Or.inl ⟨by rfl, fun w hSw => ?_⟩) hHeld ?_
  rotate_left
  · ((try dsimp only at hSw); go_simp; first | done | with_reducible rfl | rfl)
  try simp only [Act.put, List.setIfInBounds_toArray, List.set_cons_zero, List.set_cons_succ]
  refine AnyT.take (i := 3) (v := ?_) (by simp only [List.getElem?_toArray, List.getElem?_cons_succ, List.getElem?_cons_zero]; rfl) (by kernel_rfl) (by kernel_rfl) (by kernel_rfl) (by kernel_rfl) (by intro _ _ _ h; exact h) (Or.inl ⟨by rfl, fun w hSw => ?_⟩) hHeld ?_
  rotate_left
  · ((try dsimp only at hSw); go_simp; first | done | with_reducible rfl | rfl)
  try simp only [Act.put, List.setIfInBounds_toArray, List.set_cons_zero, List.set_cons_succ]
  refine AnyT.take (i := 4) (v := ?_) (by simp only [List.getElem?_toArray, List.getElem?_cons_succ, List.getElem?_cons_zero]; rfl) (by kernel_rfl) (by kernel_rfl) (by kernel_rfl) (by kernel_rfl) (by intro _ _ _ h; exact h) (Or.inl ⟨by rfl, fun w hSw => ?_⟩) hHeld ?_
  rotate_left
  · ((try dsimp only at hSw); go_simp; first | done | with_reducible rfl | rfl)
  try simp only [Act.put, List.setIfInBounds_toArray, List.set_cons_zero, List.set_cons_succ]
  refine AnyT.take (i := 5) (v := ?_) (by simp only [List.getElem?_toArray, List.getElem?_cons_succ, List.getElem?_cons_zero]; rfl) (by kernel_rfl) (by kernel_rfl) (by kernel_rfl) (by kernel_rfl) (by intro _ _ _ h; exact h) (Or.inl ⟨by rfl, fun w hSw => ?_⟩) hHeld ?_
  rotate_left
  · ((try dsimp only at hSw); go_simp; first | done | with_reducible rfl | rfl)
  try simp only [Act.put, List.setIfInBounds_toArray, List.set_cons_zero, List.set_cons_succ]
  refine AnyT.take (i := 6) (v := ?_) (by simp only [List.getElem?_toArray, List.getElem?_cons_succ, List.getElem?_cons_zero]; rfl) (by kernel_rfl) (by kernel_rfl) (by kernel_rfl) (by kernel_rfl) (by intro _ _ _ h; exact h) (Or.inl ⟨by rfl, fun w hSw => ?_⟩) hHeld ?_
  rotate_left
  · ((try dsimp only at hSw); go_simp; first | done | with_reducible rfl | rfl)
  try simp only [Act.put, List.setIfInBounds_toArray, List.set_cons_zero, List.set_cons_succ]
  refine AnyT.take (i := 7) (v := ?_) (by simp only [List.getElem?_toArray, List.getElem?_cons_succ, List.getElem?_cons_zero]; rfl) (by kernel_rfl) (by kernel_rfl) (by kernel_rfl) (by kernel_rfl) (by intro _ _ _ h; exact h) (Or.inl ⟨by rfl, fun w hSw => ?_⟩) hHeld ?_
  rotate_left
  · ((try dsimp only at hSw); go_simp; first | done | with_reducible rfl | rfl)
  try simp only [Act.put, List.setIfInBounds_toArray, List.set_cons_zero, List.set_cons_succ]
  refine AnyT.take (i := 8) (v := ?_) (by simp only [List.getElem?_toArray, List.getElem?_cons_succ, List.getElem?_cons_zero]; rfl) (by kernel_rfl) (by kernel_rfl) (by kernel_rfl) (by kernel_rfl) (by intro _ _ _ h; exact h) (Or.inl ⟨by rfl, fun w hSw => ?_⟩) hHeld ?_
  rotate_left
  · ((try dsimp only at hSw); go_simp; first | done | with_reducible rfl | rfl)
  try simp only [Act.put, List.setIfInBounds_toArray, List.set_cons_zero, List.set_cons_succ]
  refine AnyT.take (i := 9) (v := ?_) (by simp only [List.getElem?_toArray, List.getElem?_cons_succ, List.getElem?_cons_zero]; rfl) (by kernel_rfl) (by kernel_rfl) (by kernel_rfl) (by kernel_rfl) (by intro _ _ _ h; exact h) (Or.inl ⟨by rfl, fun w hSw => ?_⟩) hHeld ?_
  rotate_left
  · ((try dsimp only at hSw); go_simp; first | done | with_reducible rfl | rfl)
  try simp only [Act.put, List.setIfInBounds_toArray, List.set_cons_zero, List.set_cons_succ]
  refine AnyT.take (i := 10) (v := ?_) (by simp only [List.getElem?_toArray, List.getElem?_cons_succ, List.getElem?_cons_zero]; rfl) (by kernel_rfl) (by kernel_rfl) (by kernel_rfl) (by kernel_rfl) (by intro _ _ _ h; exact h) (Or.inl ⟨by rfl, fun w hSw => ?_⟩) hHeld ?_
  rotate_left
  · ((try dsimp only at hSw); go_simp; first | done | with_reducible rfl | rfl)
  try simp only [Act.put, List.setIfInBounds_toArray, List.set_cons_zero, List.set_cons_succ]
  refine AnyT.take (i := 11) (v := ?_) (by simp only [List.getElem?_toArray, List.getElem?_cons_succ, List.getElem?_cons_zero]; rfl) (by kernel_rfl) (by kernel_rfl) (by kernel_rfl) (by kernel_rfl) (by intro _ _ _ h; exact h) (Or.inl ⟨by rfl, fun w hSw => ?_⟩) hHeld ?_
  rotate_left
  · ((try dsimp only at hSw); go_simp; first | done | with_reducible rfl | rfl)
  try simp only [Act.put, List.setIfInBounds_toArray, List.set_cons_zero, List.set_cons_succ]
  refine AnyT.take (i := 12) (v := ?_) (by simp only [List.getElem?_toArray, List.getElem?_cons_succ, List.getElem?_cons_zero]; rfl) (by kernel_rfl) (by kernel_rfl) (by kernel_rfl) (by kernel_rfl) (by intro _ _ _ h; exact h) (Or.inl ⟨by rfl, fun w hSw => ?_⟩) hHeld ?_
  rotate_left
  · ((try dsimp only at hSw); go_simp; first | done | with_reducible rfl | rfl)
  try simp only [Act.put, List.setIfInBounds_toArray, List.set_cons_zero, List.set_cons_succ]
  refine AnyT.take (i := 13) (v := ?_) (by simp only [List.getElem?_toArray, List.getElem?_cons_succ, List.getElem?_cons_zero]; rfl) (by kernel_rfl) (by kernel_rfl) (by kernel_rfl) (by kernel_rfl) (by intro _ _ _ h; exact h) (Or.inl ⟨by rfl, fun w hSw => ?_⟩) hHeld ?_
  rotate_left
  · ((try dsimp only at hSw); go_simp; first | done | with_reducible rfl | rfl)
  try simp only [Act.put, List.setIfInBounds_toArray, List.set_cons_zero, List.set_cons_succ]
  refine AnyT.take (i := 14) (v := ?_) (by simp only [List.getElem?_toArray, List.getElem?_cons_succ, List.getElem?_cons_zero]; rfl) (by kernel_rfl) (by kernel_rfl) (by kernel_rfl) (by kernel_rfl) (by intro _ _ _ h; exact h) (Or.inl ⟨by rfl, fun w hSw => ?_⟩) hHeld ?_
  rotate_left
  · ((try dsimp only at hSw); go_simp; first | done | with_reducible rfl | rfl)
  try simp only [Act.put, List.setIfInBounds_toArray, List.set_cons_zero, List.set_cons_succ]
  refine AnyT.take (i := 15) (v := ?_) (by simp only [List.getElem?_toArray, List.getElem?_cons_succ, List.getElem?_cons_zero]; rfl) (by kernel_rfl) (by kernel_rfl) (by kernel_rfl) (by kernel_rfl) (by intro _ _ _ h; exact h) (Or.inl ⟨by rfl, fun w hSw => ?_⟩) hHeld ?_
  rotate_left
  · ((try dsimp only at hSw); go_simp; first | done | with_reducible rfl | rfl)
  try simp only [Act.put, List.setIfInBounds_toArray, List.set_cons_zero, List.set_cons_succ]
  refine AnyT.take (i := 16) (v := ?_) (by simp only [List.getElem?_toArray, List.getElem?_cons_succ, List.getElem?_cons_zero]; rfl) (by kernel_rfl) (by kernel_rfl) (by kernel_rfl) (by kernel_rfl) (by intro _ _ _ h; exact h) (Or.inl ⟨by rfl, fun w hSw => ?_⟩) hHeld ?_
  rotate_left
  · ((try dsimp only at hSw); go_simp; first | done | with_reducible rfl | rfl)
  try simp only [Act.put, List.setIfInBounds_toArray, List.set_cons_zero, List.set_cons_succ]
  refine AnyT.take (i := 17) (v := ?_) (by simp only [List.getElem?_toArray, List.getElem?_cons_succ, List.getElem?_cons_zero]; rfl) (by kernel_rfl) (by kernel_rfl) (by kernel_rfl) (by kernel_rfl) (by intro _ _ _ h; exact h) (Or.inl ⟨by rfl, fun w hSw => ?_⟩) hHeld ?_
  rotate_left
  · ((try dsimp only at hSw); go_simp; first | done | with_reducible rfl | rfl)
  try simp only [Act.put, List.setIfInBounds_toArray, List.set_cons_zero, List.set_cons_succ]
  refine AnyT.take (i := 18) (v := ?_) (by simp only [List.getElem?_toArray, List.getElem?_cons_succ, List.getElem?_cons_zero]; rfl) (by kernel_rfl) (by kernel_rfl) (by kernel_rfl) (by kernel_rfl) (by intro _ _ _ h; exact h) (Or.inl ⟨by rfl, fun w hSw => ?_⟩) hHeld ?_
  rotate_left
  · ((try dsimp only at hSw); go_simp; first | done | with_reducible rfl | rfl)
  try simp only [Act.put, List.setIfInBounds_toArray, List.set_cons_zero, List.set_cons_succ]
  refine AnyT.take (i := 19) (v := ?_) (by simp only [List.getElem?_toArray, List.getElem?_cons_succ, List.getElem?_cons_zero]; rfl) (by kernel_rfl) (by kernel_rfl) (by kernel_rfl) (by kernel_rfl) (by intro _ _ _ h; exact h) (Or.inl ⟨by rfl, fun w hSw => ?_⟩) hHeld ?_
  rotate_left
  · ((try dsimp only at hSw); go_simp; first | done | with_reducible rfl | rfl)
  try simp only [Act.put, List.setIfInBounds_toArray, List.set_cons_zero, List.set_cons_succ]
  refine AnyT.take (i := 20) (v := ?_) (by simp only [List.getElem?_toArray, List.getElem?_cons_succ, List.getElem?_cons_zero]; rfl) (by kernel_rfl) (by kernel_rfl) (by kernel_rfl) (by kernel_rfl) (by intro _ _ _ h; exact h) (Or.inl ⟨by rfl, fun w hSw => ?_⟩) hHeld ?_
  rotate_left
  · ((try dsimp only at hSw); go_simp; first | done | with_reducible rfl | rfl)
  try simp only [Act.put, List.setIfInBounds_toArray, List.set_cons_zero, List.set_cons_succ]
  refine AnyT.take (i := 21) (v := ?_) (by simp only [List.getElem?_toArray, List.getElem?_cons_succ, List.getElem?_cons_zero]; rfl) (by kernel_rfl) (by kernel_rfl) (by kernel_rfl) (by kernel_rfl) (by intro _ _ _ h; exact h) (Or.inl ⟨by rfl, fun w hSw => ?_⟩) hHeld ?_
  rotate_left
  · ((try dsimp only at hSw); go_simp; first | done | with_reducible rfl | rfl)
  try simp only [Act.put, List.setIfInBounds_toArray, List.set_cons_zero, List.set_cons_succ]
  refine AnyT.take (i := 22) (v := ?_) (by simp only [List.getElem?_toArray, List.getElem?_cons_succ, List.getElem?_cons_zero]; rfl) (by kernel_rfl) (by kernel_rfl) (by kernel_rfl) (by kernel_rfl) (by intro _ _ _ h; exact h) (Or.inl ⟨by rfl, fun w hSw => ?_⟩) hHeld ?_
  rotate_left
  · ((try dsimp only at hSw); go_simp; first | done | with_reducible rfl | rfl)
  try simp only [Act.put, List.setIfInBounds_toArray, List.set_cons_zero, List.set_cons_succ]
  refine AnyT.take (i := 23) (v := ?_) (by simp only [List.getElem?_toArray, List.getElem?_cons_succ, List.getElem?_cons_zero]; rfl) (by kernel_rfl) (by kernel_rfl) (by kernel_rfl) (by kernel_rfl) (by intro _ _ _ h; exact h) (Or.inl ⟨by rfl, fun w hSw => ?_⟩) hHeld ?_
  rotate_left
  · ((try dsimp only at hSw); go_simp; first | done | with_reducible rfl | rfl)
  try simp only [Act.put, List.setIfInBounds_toArray, List.set_cons_zero, List.set_cons_succ]
  refine AnyT.take (i := 24) (v := ?_) (by simp only [List.getElem?_toArray, List.getElem?_cons_succ, List.getElem?_cons_zero]; rfl) (by kernel_rfl) (by kernel_rfl) (by kernel_rfl) (by kernel_rfl) (by intro _ _ _ h; exact h) (Or.inl ⟨by rfl, fun w hSw => ?_⟩) hHeld ?_
  rotate_left
  · ((try dsimp only at hSw); go_simp; first | done | with_reducible rfl | rfl)
  try simp only [Act.put, List.setIfInBounds_toArray, List.set_cons_zero, List.set_cons_succ]
  refine AnyT.take (i := 25) (v := ?_) (by simp only [List.getElem?_toArray, List.getElem?_cons_succ, List.getElem?_cons_zero]; rfl) (by kernel_rfl) (by kernel_rfl) (by kernel_rfl) (by kernel_rfl) (by intro _ _ _ h; exact h) (Or.inl ⟨by rfl, fun w hSw => ?_⟩) hHeld ?_
  rotate_left
  · ((try dsimp only at hSw); go_simp; first | done | with_reducible rfl | rfl)
  try simp only [Act.put, List.setIfInBounds_toArray, List.set_cons_zero, List.set_cons_succ]
  refine AnyT.take (i := 26) (v := ?_) (by simp only [List.getElem?_toArray, List.getElem?_cons_succ, List.getElem?_cons_zero]; rfl) (by kernel_rfl) (by kernel_rfl) (by kernel_rfl) (by kernel_rfl) (by intro _ _ _ h; exact h) (Or.inl ⟨by rfl, fun w hSw => ?_⟩) hHeld ?_
  rotate_left
  · ((try dsimp only at hSw); go_simp; first | done | with_reducible rfl | rfl)
  try simp only [Act.put, List.setIfInBounds_toArray, List.set_cons_zero, List.set_cons_succ]
  refine AnyT.take (i := 27) (v := ?_) (by simp only [List.getElem?_toArray, List.getElem?_cons_succ, List.getElem?_cons_zero]; rfl) (by kernel_rfl) (by kernel_rfl) (by kernel_rfl) (by kernel_rfl) (by intro _ _ _ h; exact h) (Or.inl ⟨by rfl, fun w hSw => ?_⟩) hHeld ?_
  rotate_left
  · ((try dsimp only at hSw); go_simp; first | done | with_reducible rfl | rfl)
  try simp only [Act.put, List.setIfInBounds_toArray, List.set_cons_zero, List.set_cons_succ]
  refine AnyT.take (i := 28) (v := ?_) (by simp only [List.getElem?_toArray, List.getElem?_cons_succ, List.getElem?_cons_zero]; rfl) (by kernel_rfl) (by kernel_rfl) (by kernel_rfl) (by kernel_rfl) (by intro _ _ _ h; exact h) (Or.inl ⟨by rfl, fun w hSw => ?_⟩) hHeld ?_
  rotate_left
  · ((try dsimp only at hSw); go_simp; first | done | with_reducible rfl | rfl)
  try simp only [Act.put, List.setIfInBounds_toArray, List.set_cons_zero, List.set_cons_succ]
  refine AnyT.take (i := 29) (v := ?_) (by simp only [List.getElem?_toArray, List.getElem?_cons_succ, List.getElem?_cons_zero]; rfl) (by kernel_rfl) (by kernel_rfl) (by kernel_rfl) (by kernel_rfl) (by intro _ _ _ h; exact h) (Or.inl ⟨by rfl, fun w hSw => ?_⟩) hHeld ?_
  rotate_left
  · ((try dsimp only at hSw); go_simp; first | done | with_reducible rfl | rfl)
  try simp only [Act.put, List.setIfInBounds_toArray, List.set_cons_zero, List.set_cons_succ]
  refine AnyT.take (i := 30) (v := ?_) (by simp only [List.getElem?_toArray, List.getElem?_cons_succ, List.getElem?_cons_zero]; rfl) (by kernel_rfl) (by kernel_rfl) (by kernel_rfl) (by kernel_rfl) (by intro _ _ _ h; exact h) (Or.inl ⟨by rfl, fun w hSw => ?_⟩) hHeld ?_
  rotate_left
  · ((try dsimp only at hSw); go_simp; first | done | with_reducible rfl | rfl)
  try simp only [Act.put, List.setIfInBounds_toArray, List.set_cons_zero, List.set_cons_succ]
  refine AnyT.take (i := 31) (v := ?_) (by simp only [List.getElem?_toArray, List.getElem?_cons_succ, List.getElem?_cons_zero]; rfl) (by kernel_rfl) (by kernel_rfl) (by kernel_rfl) (by kernel_rfl) (by intro _ _ _ h; exact h) (Or.inl ⟨by rfl, fun w hSw => ?_⟩) hHeld ?_
  rotate_left
  · ((try dsimp only at hSw); go_simp; first | done | with_reducible rfl | rfl)
  try simp only [Act.put, List.setIfInBounds_toArray, List.set_cons_zero, List.set_cons_succ]
  refine AnyT.take (i := 32) (v := ?_) (by simp only [List.getElem?_toArray, List.getElem?_cons_succ, List.getElem?_cons_zero]; rfl) (by kernel_rfl) (by kernel_rfl) (by kernel_rfl) (by kernel_rfl) (by intro _ _ _ h; exact h) (Or.inl ⟨by rfl, fun w hSw => ?_⟩) hHeld ?_
  rotate_left
  · ((try dsimp only at hSw); go_simp; first | done | with_reducible rfl | rfl)
  try simp only [Act.put, List.setIfInBounds_toArray, List.set_cons_zero, List.set_cons_succ]
  refine AnyT.done (by kernel_rfl) ?_ _
  clear hHeld f1 f2 f3 f4 p0 p1 q0 q3 s0 s1
  go_wp2_with fail
  go_ret
  exact ⟨rfl, HOF.out⟩
theorem bound_any (A : Option Addr) (c n : Nat) (l : List UInt8) (w : World) (hA : BsAt w A l) (hn : n = l.length) :
    Calls Tryd.prog 63 #[.slice A n c] w fun e w' => (∃ v, e = .returned v ∧ ((l = [] ∧ v = .slice none 0 0) ∨ (l ≠ [] ∧ ∃ g o, A = some ⟨g, o, none⟩ ∧ v = .slice A n c))) ∧ w = w' := by
  by_cases h0 : n = 0
  · have t0 : ((n : Int) == 0) = true := by rw [h0]; rfl
    have HR := hid (show l = [] from List.eq_nil_of_length_eq_zero (by omega))
    clear h0 hA hn
    go_enter Tryd.func63, Tryd.ntmps63
    go_wp2_with fail
    go_ret
    exact ⟨⟨_, rfl, .inl ⟨HR.out, rfl⟩⟩, rfl⟩
  · have t0 : ((n : Int) == 0) = false := by rw [beq_eq_false_iff_ne]; omega
    have hl : l ≠ [] := fun e => by rw [e] at hn; exact h0 hn
    obtain ⟨g, o, hg, _, _⟩ := hA.addr (List.length_pos_iff.2 hl)
    have HR := hid (show _ ∧ _ from ⟨hl, hg⟩)
    clear h0 hA hn hl hg
    go_enter Tryd.func63, Tryd.ntmps63
    go_wp2_with fail
    go_ret
    exact ⟨⟨_, rfl, .inr ⟨HR.out.1, g, o, HR.out.2, rfl⟩⟩, rfl⟩
set_option maxHeartbeats 1600000 in
set_option maxRecDepth 100000 in
/-- A map from its end. -/
theorem backward_own (A : Option Addr) (c n : Nat) (m : List Pr) (w : World) (hp : Prs w A m) (hn : n = m.length) (hl : n ≤ 1073741824) :
    Calls Tryd.prog 61 #[.slice A n c] w (RetP [] w m.reverse) := by
  have HP := hid hp
  have HN := hid hn
  have HO := hid (Own.start w)
  clear hp hn
  have s0 : IntKind.i64.wrap ((n : Int) - 1) = (n : Int) - 1 := i64_id (by omega) (by omega)
  go_enter Tryd.func61, Tryd.ntmps61
  go_wp2_with fail
  go_loopw [3, 4] (fun ov s wr => ∃ (k k' ac : Nat) (aA : Option Addr) (F : List Fr), s = .int .i64 ((n : Int) - 1 - (k : Int)) ∧ ov = .slice aA k' ac ∧ k' = k ∧ k ≤ n ∧ Hid (Row 38 2 aA k' ac ((m.reverse.take k).flatMap Pr.cells) F) ∧ Hid (Own F w wr)) (fun _ s _ => (intOf s + 1).toNat)
  case atStart => exact ⟨0, 0, 0, none, [], by simp, rfl, rfl, Nat.zero_le _, hid (Row.nil _ _), HO⟩
  case round =>
    clear HO
    obtain ⟨k, k', ac, aA, F, rfl, rfl, rfl, hk, HR, HO⟩ := hrel
    obtain ⟨w2, rfl⟩ : ∃ w2, w2 = wr := ⟨_, rfl⟩
    by_cases h4 : k' < n
    · obtain ⟨j, hj⟩ : ∃ j : Nat, (n : Int) - 1 - (k' : Int) = (j : Int) := ⟨n - 1 - k', by omega⟩
      have hjn : j < m.length := by rw [← HN.out]; omega
      have hx : m[j]? = some m[j] := List.getElem?_eq_getElem hjn
      have hkr : k' < m.reverse.length := by rw [List.length_reverse, ← HN.out]; exact h4
      have htk := List.take_succ_eq_append_getElem hkr
      have e1 : m.reverse[k'] = m[j] := by
        rw [List.getElem_reverse]
        congr 1
        rw [← HN.out]; omega
      rw [e1] at htk
      generalize m[j] = r at hx htk
      obtain ⟨g, o, rfl, p0, p1⟩ := (HP.out.keep0 HO.out.only).at_ hx
      have HT := hid htk
      have HJ := hid hj
      have j0 : (0 : Int) ≤ (j : Int) := by omega
      have j1 : (j : Int) < (n : Int) := by omega
      have s1 : IntKind.i64.wrap ((j : Int) - 1) = (j : Int) - 1 := i64_id (by omega) (by omega)
      rw [hj]
      clear hx htk e1 hjn hj s0
      go_wp2_with (at_builtin; refine own_append rfl (.tmp 12) (.tmp 17) 28 rfl 38 (.agg #[.slice none 0 0, .slice none 0 0]) 2 48 Tryd.underlying28 Tryd.info_pair rfl (by decide) aA k' ac _ F rfl HR.out (R := []) (by rw [List.append_nil]; exact HO.out.skip _) (some ⟨_, 0, none⟩) 1 1 r.cells rfl rfl (csAt_all _ _ _) (by simp [Pr.cells, Value.oneCell']) (by simp [maxLen]; omega) (by omega) ?_; intro A2 c2 F2 w4 hr2 hO2 _; have HR2 := hid hr2; have HO2 := hid hO2; clear hr2 hO2)
      go_roundw
      case rel =>
        refine ⟨k' + 1, k' + 1, c2, A2, F2, ?_, rfl, rfl, by omega, hid ?_, hid (by have := HO2.out; rwa [List.append_nil] at this)⟩
        · rw [show (j : Int) - 1 = (n : Int) - 1 - ((k' + 1 : Nat) : Int) by have := HJ.out; omega]
        · rw [HT.out, List.flatMap_append]
          have := HR2.out
          simpa using this
      case measure =>
        have := HJ.out
        simp [intOf] <;> omega
    · obtain rfl : n = k' := by omega
      have h5 : ((n : Int) - 1 - (n : Int)) = -1 := by omega
      rw [h5]
      have hr := HR.out
      rw [List.take_of_length_le (by rw [List.length_reverse, ← HN.out]; exact Nat.le_refl _)] at hr
      have hnl : n = m.reverse.length := by rw [List.length_reverse]; exact HN.out
      have HR3 := hid hr
      have HNL := hid hnl
      clear hr HR h4 s0 hnl
      go_wp2_with fail
      go_ret
      have h6 := HNL.out
      subst h6
      exact ⟨aA, ac, F, rfl, HR3, hid (by rw [List.append_nil]; exact HO.out)⟩
end Go.Proofs.YtloflmcgbbbnjaaDoor
namespace Go.Proofs.YtloflmcgbbbnjaaDoor
open Go.RowKit Plain
set_option linter.all false

theorem Own.cellE {L : List Fr} {w0 w : World} {x : Fr} (h : Own L w0 w) (n : Nat) (hn : L[n]? = some x) {k : Nat} (i : Nat) (hk : k = x.off + i) (hi : i < x.cs.length) : ∃ v, w.cell? ⟨x.g, k, none⟩ = some v :=
  ⟨_, (h.cell n hn i hk hi).trans (List.getElem?_eq_getElem hi)⟩
section
variable {P : Program} {ops : Array Oper} {o : Oper} {a : Act} {w0 w : World} {R : List Fr} {K : Act → World → Prop} {Q : Exit → Act → World → Prop} {E : Prop}
theorem run_copy_rows (w : World) (dT sT ty elem : TypeId) (S g o dLen dCap : Nat) (a : Addr) (sLen sCap : Nat) (cur : Array Value) (t : TypeId) (cs : List Value)
    (hu : P.underlying dT = some (.slice elem)) (hs : (P.info? elem).map (·.size) = some S)
    (hg : w.heap[g]? = some (.cells cur t (0, 0))) (hn : cs.length = Nat.min sLen dLen * S)
    (hsrc : ∀ j v, cs[j]? = some v → w.cell? (a.add j) = some v) (hfit : o + cs.length ≤ cur.size) (h1 : ∀ v ∈ cs, v.oneCell' = true) :
    (Builtin.copy_ #[dT, sT] ty #[.slice (some ⟨g, o, none⟩) dLen dCap, .slice (some a) sLen sCap]).run P w =
      .ok (goInt (Nat.min sLen dLen)) (w.setRow g (cur.toList.take o ++ cs ++ cur.toList.drop (o + cs.length)).toArray) := by
  have hl := run_loadCells_list (P := P) w a cs hsrc
  have hst := run_storeCells_at P g o t cs 0 cur w hg (by simpa using hfit) h1
  cases hq : P.info? elem with
  | none => simp [hq] at hs
  | some i =>
    have hi : i.size = S := by simpa [hq] using hs
    simp [Builtin.copy_, run_underlying hu, Builtin.lenOf, Builtin.firstCells, sizeOf, typeInfo, hq, hi, ← hn, hl, hst]
theorem run_copy_rows_none (w : World) (dT sT ty elem : TypeId) (S : Nat) (d a : Option Addr) (dLen dCap sLen sCap : Nat) (hu : P.underlying dT = some (.slice elem)) (hs : (P.info? elem).map (·.size) = some S) (hn : Nat.min sLen dLen = 0) :
    (Builtin.copy_ #[dT, sT] ty #[.slice d dLen dCap, .slice a sLen sCap]).run P w = .ok (goInt 0) w := by
  cases hq : P.info? elem with
  | none => simp [hq] at hs
  | some i =>
    have hl : ∀ (x : Addr), (loadCells x 0).run P w = .ok #[] w := fun x => by simpa using run_loadCells_list (P := P) w x [] (by simp)
    cases d <;> cases a <;> simp [Builtin.copy_, run_underlying hu, Builtin.lenOf, Builtin.firstCells, sizeOf, typeInfo, hq, hn, storeCells, hl]
theorem own_step_copyN (hgd : o.guard = none) (d s : Operand) (dT sT : TypeId) (ho : o.op = .call { callee := .builtin .copy, args := #[d, s], argTypes := #[dT, sT] }) (elem : TypeId) (hu : P.underlying dT = some (.slice elem))
    (S : Nat) (hS : 0 < S) (hsz : (P.info? elem).map (·.size) = some S) (dp sp : Option Addr) (dLen dCap sLen sCap : Nat) (hd : a.eval d = .slice dp dLen dCap) (hs : a.eval s = .slice sp sLen sCap)
    (g off t : Nat) (cur : List Value) (hO : Own (fw g t cur :: R) w0 w) (cs : List Value) (hn : cs.length = Nat.min sLen dLen * S) (hpos : 0 < cs.length → dp = some ⟨g, off, none⟩ ∧ CsAt w sp cs)
    (hfit : off + cs.length ≤ cur.length) (h1 : ∀ v ∈ cs, v.oneCell' = true)
    (h : ∀ w', Own (fw g t (splice cur off cs) :: R) w0 w' → K (a.put o.dst (goInt (Nat.min sLen dLen))) w') :
    if Region.wanted o (yielded ops a.tmps) = true then Oper.wp P o a w K Q else E := by
  rw [if_pos (by simp [Region.wanted, hgd])]
  have hb : Blk w g t cur := hO.head.blk
  by_cases h0 : cs.length = 0
  · obtain rfl : cs = [] := List.eq_nil_of_length_eq_zero h0
    have hm : Nat.min sLen dLen = 0 := by
      rcases Nat.eq_zero_or_pos (Nat.min sLen dLen) with h' | h'
      · exact h'
      · have := Nat.mul_pos h' hS; simp at hn; omega
    refine Lib.wp_copy_run w d s dT sT ho _ _ hd hs (run_copy_rows_none (P := P) w dT sT o.type elem S dp sp dLen dCap sLen sCap hu hsz hm) ?_
    have := h w (by simpa [splice] using hO)
    rwa [hm] at this
  · obtain ⟨rfl, hsrc⟩ := hpos (by omega)
    obtain ⟨g', o', rfl, _, hc⟩ := hsrc.addr (by omega)
    refine Lib.wp_copy_run w d s dT sT ho _ _ hd hs (run_copy_rows (P := P) w dT sT o.type elem S g off dLen dCap ⟨g', o', none⟩ sLen sCap cur.toArray t cs hu hsz hb hn (fun j v hj => ?_) (by simpa using hfit) h1) ?_
    · rw [add_none, hc j (List.getElem?_eq_some_iff.1 hj).1, hj]
    · refine h _ (Own.swap (M := [fw g t cur]) (M' := [fw g t (splice cur off cs)]) (R := R) hO (by simp) ?_ ?_ (by simp) (by simp))
      · exact ⟨rfl, rfl, rfl, by simp [World.setRow], fun k _ hk => setRow_other w g k _ (by simpa using hk)⟩
      · have hb' : Blk (w.setRow g (cur.toArray.toList.take off ++ cs ++ cur.toArray.toList.drop (off + cs.length)).toArray) g t (splice cur off cs) := by
          have := setRow_heap w g cur.toArray (cur.toArray.toList.take off ++ cs ++ cur.toArray.toList.drop (off + cs.length)).toArray t _ hb
          simpa [Blk, splice] using this
        simpa using Fr.in_fw hb'
end
end Go.Proofs.YtloflmcgbbbnjaaDoor
namespace Go.Proofs.YtloflmcgbbbnjaaDoor
open Go Go.RowKit
set_option linter.all false

section
variable {P : Program} {md : Region.Mode} {ops : Array Oper} {Q : Exit → Act → World → Prop} {S : World → Prop} {T : List Nat}
/-- In state 'a', in every world that meets S, operation 'o' leaves 'v' in its temporary and the world as it is. -/
def YieldsC (P : Program) (ops : Array Oper) (S : World → Prop) (o : Oper) (v : Value) (a : Act) : Prop :=
  (Region.wanted o (yielded ops a.tmps) = true ∧ ∀ w, S w → o.quietAt P a (fun w' => w = w') w v) ∨ (Region.wanted o (yielded ops a.tmps) = false ∧ v = undef)
theorem YieldsC.wpOp {i : Nat} {o : Oper} {v : Value} {a : Act} (hi : ops[i]? = some o) (hy : YieldsC P ops S o v a)
    {K : Act → World → Prop} {w : World} (hS : S w) (h : K (a.put o.dst v) w) : wpOp P ops Q i K a w := by
  unfold Go.wpOp
  simp only [hi]
  rcases hy with ⟨hw, hv⟩ | ⟨hw, rfl⟩
  · simp only [hw, if_true]
    have h3 := hv w hS
    unfold Oper.quietAt at h3
    refine .inl ?_
    unfold Oper.wp
    generalize (execOp a.eval o).run P w = r at *
    cases r with
    | ok n w' =>
      cases n <;> simp only [Oper.quietUpon] at h3 <;> simp only [Oper.upon]
      case value u => obtain ⟨e1, e2⟩ := h3; rw [e1, e2]; exact h
      case skip => obtain ⟨e1, e2⟩ := h3; rw [e1, ← e2]; exact h
      case enter f args =>
        obtain ⟨e1, hc⟩ := h3
        rw [e1]
        exact hc.mono fun e w'' ⟨he, hw''⟩ => by subst he; subst hw''; exact h
    | halt x w' => simp only [Oper.quietUpon] at h3
  · simp only [hw, Bool.false_eq_true, if_false]; exact h
theorem YieldsC.of_same {o : Oper} {v : Value} {a a' : Act} (hy : YieldsC P ops S o v a) (he : execOp a'.eval o = execOp a.eval o)
    (hw : Region.wanted o (yielded ops a'.tmps) = Region.wanted o (yielded ops a.tmps)) : YieldsC P ops S o v a' := by
  unfold YieldsC Oper.quietAt at *
  rw [he, hw]
  exact hy
theorem wpOp_putC {j : Nat} {oi oj : Oper} {v : Value} (hj : ops[j]? = some oj) (hap : oi.apart ops oj = true)
    (hsi : ∀ cs b, oi.op ≠ .select cs b) (hsj : ∀ cs b, oj.op ≠ .select cs b)
    (hQ : ∀ c a w, Q (.panic c) (a.put oi.dst v) w → Q (.panic c) a w) {K : Act → World → Prop} {a : Act} {w : World}
    (hy : YieldsC P ops S oi v a) (h : wpOp P ops Q j K (a.put oi.dst v) w) :
    wpOp P ops Q j (fun a' w' => YieldsC P ops S oi v a' ∧ K (a'.put oi.dst v) w') a w := by
  obtain ⟨h1, h2, h3⟩ := Oper.apart_spec hap
  have keep : ∀ (a : Act), YieldsC P ops S oi v a → ∀ u, YieldsC P ops S oi v (a.put oj.dst u) := fun a hy u =>
    hy.of_same (execOp_put oi hsi a oj.dst u h3) (wanted_put oi a oj.dst u h3)
  have keepD : ∀ d, YieldsC P ops S oi v { a with defers := d :: a.defers } := fun d => hy.of_same rfl rfl
  unfold wpOp at *
  simp only [hj] at *
  rw [wanted_put oj a oi.dst v h1] at h
  split
  · rename_i hw
    simp only [hw, if_true] at h
    rcases h with h | ⟨hasks, hlets⟩
    case inr => exact .inr ⟨by unfold Oper.asks at *; rw [execOp_put oj hsj a oi.dst v h1] at hasks; exact hasks, hlets⟩
    refine .inl ?_
    unfold Oper.wp at *
    rw [execOp_put oj hsj a oi.dst v h1] at h
    generalize (execOp a.eval oj).run P w = r at *
    cases r with
    | ok n w' =>
      cases n <;> simp only [Oper.upon] at h ⊢
      case value u => exact ⟨keep a hy u, by rw [← Act.put_comm a v u h2]; exact h⟩
      case skip => exact ⟨keep a hy _, by rw [← Act.put_comm a v undef h2]; exact h⟩
      case defer d =>
        refine ⟨keep _ (keepD d) _, ?_⟩
        rw [← Act.put_comm _ v undef h2, ← Act.put_defers]
        exact h
      case enter f args =>
        refine Calls.mono h fun e w'' he => ?_
        cases e with
        | returned u => exact ⟨keep a hy u, by rw [← Act.put_comm a v u h2]; exact he⟩
        | panicked c => exact hQ _ _ _ he
        | outgrown => exact he
      case row row args => exact Rows.mono h fun u w'' he => ⟨keep a hy u, by rw [← Act.put_comm a v u h2]; exact he⟩
    | halt x w' =>
      cases x <;> simp only [Oper.upon] at h ⊢
      case panic u => exact hQ _ _ _ h
  · rename_i hw
    simp only [hw] at h
    exact ⟨keep a hy _, by rw [← Act.put_comm a v undef h2]; exact h⟩
theorem AnyT.firstC {i : Nat} {oi : Oper} {v : Value} (hi : ops[i]? = some oi) (hsel : ∀ (j : Nat) (o : Oper) cs b, ops[j]? = some o → o.op ≠ .select cs b) (hQ : ∀ c a w, Q (.panic c) (a.put oi.dst v) w → Q (.panic c) a w)
    (hT : ∀ j ∈ T, ∀ oj, ops[j]? = some oj → ∃ e ∈ oj.after, Region.binds md e = true ∧ e.on = i) : ∀ (n : Nat) (listed : Array Bool) (a : Act) (w : World),
      (∀ j oj, ops[j]? = some oj → j ≠ i → listed.getD j true = false → (∀ e ∈ oj.after, Region.binds md e = true → e.on ≠ i) → oi.apart ops oj = true) →
      i ∈ Region.ready md ops listed → YieldsC P ops S oi v a → S w → AnyT P md ops Q S T n (listed.setIfInBounds i true) (a.put oi.dst v) w → AnyT P md ops Q S T (n + 1) listed a w := by
  intro n
  induction n with
  | zero =>
    intro listed a w _ hr hy hS H
    refine ⟨fun h => (by rw [h] at hr; cases hr), fun j hj => ?_⟩
    by_cases e : j = i
    · subst e; exact hy.wpOp hi hS ⟨fun _ => hS, H⟩
    · have h := ready_mono hj e
      rw [H.1] at h
      cases h
  | succ n ih =>
    intro listed a w hfree hr hy hS H
    refine ⟨fun h => (by rw [h] at hr; cases hr), fun j hj => ?_⟩
    by_cases e : j = i
    · subst e; exact hy.wpOp hi hS ⟨fun _ => hS, H⟩
    · obtain ⟨hun, oj, hoj, hall⟩ := mem_ready.1 hj
      have hwait : ∀ x ∈ oj.after, Region.binds md x = true → x.on ≠ i := fun x hx hb hon => by
        have a1 := hall x hx hb
        have a2 := (mem_ready.1 hr).1
        rw [hon] at a1
        rcases Nat.lt_or_ge i listed.size with hl | hl
        · simp [hl] at a1 a2; rw [a2] at a1; cases a1
        · simp [Array.getElem?_eq_none hl] at a1
      have hjT : j ∉ T := fun hm => by
        obtain ⟨x, hx, hb, hon⟩ := hT j hm oj hoj
        exact hwait x hx hb hon
      have hstep := wpOp_putC hoj (hfree j oj hoj e hun hwait) (fun cs b => hsel i oi cs b hi) (fun cs b => hsel j oj cs b hoj) hQ hy (H.2 j (ready_mono hj e))
      refine wpOp_mono (fun a' w' h3 => ⟨h3.2.1, ih (listed.setIfInBounds j true) a' w' (fun k ok hk hki hun' hno => hfree k ok hk hki ?_ hno) (ready_mono hr (Ne.symm e)) h3.1 (h3.2.1 hjT) ?_⟩) hstep
      · by_cases hjk : j = k
        · subst hjk; exact hun
        · rw [getD_set_ne true hjk] at hun'; exact hun'
      · rw [Array.setIfInBounds_comm _ _ e]
        exact h3.2.2
theorem run_make_own (t e : TypeId) (z : Value) (bytes : Nat) (ht : P.underlying t = some (.slice e)) (hinfo : (P.info? e).map (fun i => (i.zero, i.size, i.bytes)) = some (some z, 1, bytes)) (hz1 : z.cells = #[z]) (kl kc : IntKind)
    (x y : Int) (n m : Nat) (hx : x = (n : Int)) (hy : y = (m : Int)) (hnm : n ≤ m) (hb : bytes * m ≤ 281474976710656) (h63 : m ≤ 9223372036854775807) (w : World) :
    (Instr.makeSlice t (.int kl x) (.int kc y)).run P w = .ok (.slice (some ⟨w.heap.size, 0, none⟩) n m) (w.alloc (.cells (List.replicate m z).toArray e)) := by
  obtain ⟨i, hi, hzz⟩ := Option.map_eq_some_iff.1 hinfo
  simp only [Prod.mk.injEq] at hzz
  obtain ⟨hz, hs, hbt⟩ := hzz
  subst hx; subst hy
  have hbb : (i.bytes : Int) * (m : Int) ≤ 281474976710656 := by
    have h' : ((i.bytes * m : Nat) : Int) ≤ 281474976710656 := by rw [hbt]; omega
    rwa [Int.natCast_mul] at h'
  have hrun := run_make (P := P) w t e i z ht hi hz kl kc n m (by omega) (by omega) hbb (by omega)
  simp only [Int.toNat_natCast, hs, Nat.mul_one, hz1] at hrun
  have hmk : madeCells #[z] m = (List.replicate m z).toArray := Array.ext' (by rw [toList_madeCells_one])
  rw [hrun, hmk]
theorem AnyT.takeC {i : Nat} {oi : Oper} {v : Value} {n : Nat} {listed : Array Bool} {a : Act} {w : World} (hi : ops[i]? = some oi) (hs : Region.noSelect ops = true) (hf : Region.free md ops listed i = true)
    (hr : (Region.ready md ops listed).contains i = true) (hT : waits md ops T i = true) (hQ : ∀ c a w, Q (.panic c) (a.put oi.dst v) w → Q (.panic c) a w) (hy : YieldsC P ops S oi v a) (hS : S w)
    (h : AnyT P md ops Q S T n (listed.setIfInBounds i true) (a.put oi.dst v) w) : AnyT P md ops Q S T (n + 1) listed a w :=
  AnyT.firstC hi (Region.noSelect_spec hs) hQ (waits_spec hT) n listed a w (Region.free_spec hi hf) (by simpa using hr) hy hS h
end
end Go.Proofs.YtloflmcgbbbnjaaDoor
namespace Go.Proofs.YtloflmcgbbbnjaaDoor
open Go.RowKit Plain
set_option linter.all false

def kSl0 (r : Pr) : Value := .slice r.ka r.k.length r.kc
def vSl0 (r : Pr) : Value := .slice r.va r.v.length r.vc
theorem pr_flat_len (l : List Pr) : (l.flatMap Pr.cells).length = l.length * 2 := flat_length Pr.cells 2 Pr.cells_length l
theorem pr_flat_take (l : List Pr) (i : Nat) : (l.take i).flatMap Pr.cells = (l.flatMap Pr.cells).take (i * 2) := by
  induction l generalizing i with
  | nil => simp
  | cons x l ih =>
    cases i with
    | zero => simp
    | succ i => rw [List.take_succ_cons, List.flatMap_cons, List.flatMap_cons, ih, show (i + 1) * 2 = (i * 2 + 1) + 1 by omega]; simp [Pr.cells]
theorem pr_flat_drop (l : List Pr) (i : Nat) : (l.drop i).flatMap Pr.cells = (l.flatMap Pr.cells).drop (i * 2) := by
  induction l generalizing i with
  | nil => simp
  | cons x l ih =>
    cases i with
    | zero => simp
    | succ i => rw [List.drop_succ_cons, List.flatMap_cons, ih, show (i + 1) * 2 = (i * 2 + 1) + 1 by omega]; simp [Pr.cells]
theorem pr_flat_set (l : List Pr) (i : Nat) (x : Pr) (h : i < l.length) : (l.set i x).flatMap Pr.cells = ((l.flatMap Pr.cells).set (i * 2) (kSl0 x)).set (i * 2 + 1) (vSl0 x) := by
  induction l generalizing i with
  | nil => simp at h
  | cons y l ih =>
    cases i with
    | zero => simp [Pr.cells, kSl0, vSl0]
    | succ i =>
      rw [List.set_cons_succ, List.flatMap_cons, List.flatMap_cons, ih i (by simpa using h), show (i + 1) * 2 = (i * 2 + 1) + 1 by omega]
      simp [Pr.cells]
theorem put_cells {cur cs : List Value} {n i : Nat} {a b z : Value} (hcs : cs.length = n * 2) (hi : i ≤ n) (hc : cur.take ((n + 1) * 2) = cs ++ [z, z]) :
    (((splice cur ((i + 1) * 2) ((cur.drop (i * 2)).take ((n - i) * 2))).set (i * 2) a).set (i * 2 + 1) b).take ((n + 1) * 2) = cs.take (i * 2) ++ ([a, b] ++ cs.drop (i * 2)) := by
  have hl : (n + 1) * 2 ≤ cur.length := by
    have := congrArg List.length hc
    rw [List.length_take, List.length_append, hcs] at this
    simp at this; omega
  have hget : ∀ j, j < n * 2 → cur[j]? = cs[j]? := fun j hj => by
    have := congrArg (·[j]?) hc
    simp only [List.getElem?_take, if_pos (show j < (n + 1) * 2 by omega), List.getElem?_append_left (show j < cs.length by omega)] at this
    exact this
  have hml : ((cur.drop (i * 2)).take ((n - i) * 2)).length = (n - i) * 2 := by rw [List.length_take, List.length_drop]; omega
  have hsl : (splice cur ((i + 1) * 2) ((cur.drop (i * 2)).take ((n - i) * 2))).length = cur.length := length_splice _ _ _ (by rw [hml]; omega)
  apply List.ext_getElem?
  intro j
  rw [List.getElem?_take]
  by_cases hj : j < (n + 1) * 2
  · rw [if_pos hj]
    by_cases h1 : j < i * 2
    · rw [List.getElem?_set_ne (by omega), List.getElem?_set_ne (by omega), splice_get _ _ _ (by rw [hml]; omega), if_pos (.inl (by omega)), hget j (by omega), List.getElem?_append_left (by rw [List.length_take]; omega), List.getElem?_take, if_pos h1]
    · by_cases h2 : j = i * 2
      · subst h2
        rw [List.getElem?_set_ne (by omega), List.getElem?_set_self (by rw [hsl]; omega), List.getElem?_append_right (by rw [List.length_take]; omega)]
        rw [show i * 2 - (cs.take (i * 2)).length = 0 by rw [List.length_take]; omega]; rfl
      · by_cases h3 : j = i * 2 + 1
        · subst h3
          rw [List.getElem?_set_self (by rw [List.length_set, hsl]; omega), List.getElem?_append_right (by rw [List.length_take]; omega)]
          rw [show i * 2 + 1 - (cs.take (i * 2)).length = 1 by rw [List.length_take]; omega]; rfl
        · rw [List.getElem?_set_ne (by omega), List.getElem?_set_ne (by omega), splice_get _ _ _ (by rw [hml]; omega), hml, if_neg (by omega), List.getElem?_take, if_pos (by omega), List.getElem?_drop, hget _ (by omega),
            List.getElem?_append_right (by rw [List.length_take]; omega), List.getElem?_append_right (by rw [List.length_take]; simp; omega), List.getElem?_drop]
          congr 1
          rw [List.length_take]; simp; omega
  · rw [if_neg hj, List.getElem?_eq_none]
    rw [List.length_append, List.length_append, List.length_take, List.length_drop]; simp; omega
theorem Row.shape {e size n c : Nat} {A : Option Addr} {xs : List Value} {F : List Fr} (h : Row e size A n c xs F) (hn : 0 < n) : ∃ g cur, A = some ⟨g, 0, none⟩ ∧ F = [fw g e cur] ∧ n ≤ c ∧ c ≤ maxLen ∧ cur.length = c * size ∧ cur.take (n * size) = xs := by
  rcases h.2 with ⟨_, h1, _⟩ | h1
  · omega
  · exact h1
theorem mIs_lt {m : List Pr} {k : List UInt8} (h : mIs Pr.k m k = true) : mAt Pr.k m k < m.length := by
  unfold mIs at h
  rcases Nat.lt_or_ge (mAt Pr.k m k) m.length with h' | h'
  · exact h'
  · rw [List.getElem?_eq_none h'] at h; cases h
set_option maxHeartbeats 3200000 in
set_option maxRecDepth 100000 in
theorem mapPut (A : Option Addr) (c : Nat) (m : List Pr) (x : Pr) (R : List Fr) (w0 w : World) (hp : St R w0 fun w => Prs w A m) (hx : St R w0 fun w => x.Ok w) (hO : Own R w0 w) (hkl : x.k.length ≤ 140737488351232) (hml : ∀ r ∈ m, r.k.length ≤ 140737488351232) (hl : m.length ≤ 1073741824) :
    Calls Tryd.prog 18 #[.slice A m.length c, .slice x.ka x.k.length x.kc, .slice x.va x.v.length x.vc] w (RetP R w0 (mPut Pr.k m x)) := by
  have HP := hid hp
  have HX := hid hx
  have HO := hid hO
  have hps := hO.st hp (by simp)
  have hxs := hO.st hx (by simp)
  have hxk := hxs.hk
  clear hp hx hO hxs
  have hle := mAt_le Pr.k m x.k
  go_enter Tryd.func18, Tryd.ntmps18
  go_wp2_with fail
  refine (mapAt _ _ _ _ _ _ _ hps hxk hkl hml (by omega)).mono ?_
  rintro e w1 ⟨rfl, hd1⟩
  have hO1 := HO.out.dr hd1
  have hps1 := hO1.st HP.out (by simp)
  have HO1 := hid hO1
  clear hd1 hO1 hps hxk HO
  obtain ⟨i, hi⟩ : ∃ i, mAt Pr.k m x.k = i := ⟨_, rfl⟩
  obtain ⟨b, hb⟩ : ∃ b, mIs Pr.k m x.k = b := ⟨_, rfl⟩
  rw [hi] at hle ⊢
  rw [hb]
  have HI := hid (show _ ∧ _ from ⟨hi, hb⟩)
  have hcs := hps1.row
  obtain ⟨n, hn⟩ : ∃ n, m.length = n := ⟨_, rfl⟩
  have HN := hid hn
  have hfl := pr_flat_len m
  rw [hn] at hle hl hfl ⊢
  have hlt : b = true → i < n := fun h => by rw [← hb] at h; have := mIs_lt h; omega
  clear hi hb hps1 hn
  cases b with
  | true =>
    have hi0 := hlt rfl
    clear hlt
    go_wp2_with (at_builtin; refine own_append rfl (.const (.slice none 0 0)) (.tmp 16) 34 rfl 38 (.agg #[.slice none 0 0, .slice none 0 0]) 2 48 Tryd.underlying34 Tryd.info_pair rfl (by decide) none 0 0 [] [] rfl (Row.nil _ _) (R := R) HO1.out A n c (m.flatMap Pr.cells) rfl hfl hcs pr_one (by simp [maxLen]; omega) (by omega) ?_; intro A2 c2 F2 w2 hr2 hO2 hnil; simp only [Nat.zero_add, List.nil_append] at hr2; obtain ⟨g, cur, rfl, rfl, hnc, hcm, hcl, hct⟩ := hr2.shape (by omega); obtain ⟨v1, z1⟩ := hO2.cellE 0 rfl (k := i * 2) (i * 2) (by simp) (by simp only; omega); obtain ⟨v2, z2⟩ := hO2.cellE 0 rfl (k := i * 2 + 1) (i * 2 + 1) (by simp) (by simp only; omega); have f0 := fun k => hO2.frozen 0 rfl k; have HCT := hid (show _ ∧ _ from ⟨hcl, hct⟩); have HO2 := hid hO2; clear hr2 hO2 hnil hcs hfl HO1 hcl hct)
    go_ret
    obtain ⟨hcl, hct⟩ := HCT.out
    have hO3 := (HO2.out.set (k := i * 2) (i * 2) (by simp) (by simp only; omega) (kSl0 x)).set (k := i * 2 + 1) (i * 2 + 1) (by simp) (by simp only [List.length_set]; omega) (vSl0 x)
    have hm : mPut Pr.k m x = m.set i x := by unfold mPut; rw [HI.out.2, HI.out.1]; rfl
    have hml2 : (m.set i x).length = n := by rw [List.length_set, HN.out]
    rw [hm]
    refine ⟨some ⟨g, 0, none⟩, c2, [fw g 38 ((cur.set (i * 2) (kSl0 x)).set (i * 2 + 1) (vSl0 x))], by rw [hml2]; rfl, hid ?_, hid hO3⟩
    have hr := Row.made 38 (g := g) (n := n) (c := c2) (size := 2) (cur := (cur.set (i * 2) (kSl0 x)).set (i * 2 + 1) (vSl0 x)) hnc hcm (by rw [List.length_set, List.length_set, hcl])
    rw [hml2]
    rw [pr_flat_set m i x (by rw [HN.out]; exact hi0), ← hct, ← List.take_set, ← List.take_set]
    exact hr
  | false =>
    clear hlt
    go_wp2_with (first
      | (at_builtin; refine own_append rfl (.const (.slice none 0 0)) (.tmp 16) 34 rfl 38 (.agg #[.slice none 0 0, .slice none 0 0]) 2 48 Tryd.underlying34 Tryd.info_pair rfl (by decide) none 0 0 [] [] rfl (Row.nil _ _) (R := R) HO1.out A n c (m.flatMap Pr.cells) rfl hfl hcs pr_one (by simp [maxLen]; omega) (by omega) ?_; intro A2 c2 F2 w2 hr2 hO2 hnil; simp only [Nat.zero_add, List.nil_append] at hr2; have HR2 := hid hr2; obtain ⟨q, hq⟩ : ∃ q, w2.heap.size = q := ⟨_, rfl⟩; have hO3 := hO2.alloc' hq 38 [.slice none 0 0, .slice none 0 0]; have HO3 := hid hO3; have hq2 := hO3.cs_fw (List.mem_cons_self ..); clear hr2 hO2 hnil hcs hfl HO1 hO3)
      | (at_builtin; refine own_append rfl (.tmp 26) (.tmp 28) 34 rfl 38 (.agg #[.slice none 0 0, .slice none 0 0]) 2 48 Tryd.underlying34 Tryd.info_pair rfl (by decide) A2 n c2 (m.flatMap Pr.cells) F2 rfl HR2.out (R := fw q 38 [.slice none 0 0, .slice none 0 0] :: R) (HO3.out.perm (perm_of fun _ _ z => by simp only [List.count_append, List.count_cons, List.cons_append, List.count_nil, List.nil_append, List.append_nil]; omega)) (some ⟨q, 0, none⟩) 1 1 [.slice none 0 0, .slice none 0 0] rfl rfl hq2 (by decide) (by simp [maxLen]; omega) (by omega) ?_; intro A4 c4 F4 w4 hr4 hO4 hnil; obtain ⟨g, cur, rfl, rfl, hnc, hcm, hcl, hct⟩ := hr4.shape (by omega); have HCT := hid (show _ ∧ _ from ⟨hcl, hct⟩); have HO4 := hid hO4; clear hr4 hO4 hnil hq2 HO3))
    have e1 : IntKind.i64.wrap ((i : Int) + 1) = (i : Int) + 1 := i64_id (by omega) (by omega)
    have y1 : (i : Int) ≤ (n : Int) := by omega
    have y2 : (i : Int) + 1 ≤ (n : Int) + 1 := by omega
    have y3 : ((i : Int) + 1).toNat = i + 1 := by omega
    have y4 : (i : Int) ≤ (n : Int) + 1 := by omega
    have y5 : ¬ c4 = i := by omega
    refine AnyT.start (S := fun _ => True) (T := []) (by kernel_rfl) (trivial) (fun hHeld => ?_)
    refine AnyT.take (i := 0) (v := ?_) (by simp only [List.getElem?_toArray, List.getElem?_cons_succ, List.getElem?_cons_zero]; rfl) (by kernel_rfl) (by kernel_rfl) (by kernel_rfl) (by kernel_rfl) (by intro _ _ _ h; exact h) (Or.inl ⟨by rfl, fun w hSw => ?_⟩) hHeld ?_
    rotate_left
    · ((try dsimp only at hSw); go_simp; first | done | with_reducible rfl | rfl)
    try simp only [Act.put, List.setIfInBounds_toArray, List.set_cons_zero, List.set_cons_succ]
    refine AnyT.take (i := 1) (v := ?_) (by simp only [List.getElem?_toArray, List.getElem?_cons_succ, List.getElem?_cons_zero]; rfl) (by kernel_rfl) (by kernel_rfl) (by kernel_rfl) (by kernel_rfl) (by intro _ _ _ h; exact h) (Or.inl ⟨by rfl, fun w hSw => ?_⟩) hHeld ?_
    rotate_left
    · ((try dsimp only at hSw); go_simp; first | done | with_reducible rfl | rfl)
    try simp only [Act.put, List.setIfInBounds_toArray, List.set_cons_zero, List.set_cons_succ]
    refine AnyT.take (i := 2) (v := ?_) (by simp only [List.getElem?_toArray, List.getElem?_cons_succ, List.getElem?_cons_zero]; rfl) (by kernel_rfl) (by kernel_rfl) (by kernel_rfl) (by kernel_rfl) (by intro _ _ _ h; exact h) (Or.inl ⟨by rfl, fun w hSw => ?_⟩) hHeld ?_
    rotate_left
    · ((try dsimp only at hSw); go_simp; first | done | with_reducible rfl | rfl)
    try simp only [Act.put, List.setIfInBounds_toArray, List.set_cons_zero, List.set_cons_succ]
    refine AnyT.take (i := 3) (v := ?_) (by simp only [List.getElem?_toArray, List.getElem?_cons_succ, List.getElem?_cons_zero]; rfl) (by kernel_rfl) (by kernel_rfl) (by kernel_rfl) (by kernel_rfl) (by intro _ _ _ h; exact h) (Or.inl ⟨by rfl, fun w hSw => ?_⟩) hHeld ?_
    rotate_left
    · ((try dsimp only at hSw); go_simp; first | done | with_reducible rfl | rfl)
    try simp only [Act.put, List.setIfInBounds_toArray, List.set_cons_zero, List.set_cons_succ]
    refine AnyT.take (i := 4) (v := ?_) (by simp only [List.getElem?_toArray, List.getElem?_cons_succ, List.getElem?_cons_zero]; rfl) (by kernel_rfl) (by kernel_rfl) (by kernel_rfl) (by kernel_rfl) (by intro _ _ _ h; exact h) (Or.inl ⟨by rfl, fun w hSw => ?_⟩) hHeld ?_
    rotate_left
    · ((try dsimp only at hSw); go_simp; first | done | with_reducible rfl | rfl)
    try simp only [Act.put, List.setIfInBounds_toArray, List.set_cons_zero, List.set_cons_succ]
    refine AnyT.take (i := 5) (v := ?_) (by simp only [List.getElem?_toArray, List.getElem?_cons_succ, List.getElem?_cons_zero]; rfl) (by kernel_rfl) (by kernel_rfl) (by kernel_rfl) (by kernel_rfl) (by intro _ _ _ h; exact h) (Or.inl ⟨by rfl, fun w hSw => ?_⟩) hHeld ?_
    rotate_left
    · ((try dsimp only at hSw); go_simp; first | done | with_reducible rfl | rfl)
    try simp only [Act.put, List.setIfInBounds_toArray, List.set_cons_zero, List.set_cons_succ]
    refine AnyT.take (i := 6) (v := ?_) (by simp only [List.getElem?_toArray, List.getElem?_cons_succ, List.getElem?_cons_zero]; rfl) (by kernel_rfl) (by kernel_rfl) (by kernel_rfl) (by kernel_rfl) (by intro _ _ _ h; exact h) (Or.inl ⟨by rfl, fun w hSw => ?_⟩) hHeld ?_
    rotate_left
    · ((try dsimp only at hSw); go_simp; first | done | with_reducible rfl | rfl)
    try simp only [Act.put, List.setIfInBounds_toArray, List.set_cons_zero, List.set_cons_succ]
    refine AnyT.ready (rs := [7]) (by kernel_rfl) (by simp) ?_
    refine AllT.cons (by simp only [List.getElem?_toArray, List.getElem?_cons_succ, List.getElem?_cons_zero]; rfl) (fun K hK => ?_) AllT.nil
    obtain ⟨hcl, hct⟩ := HCT.out
    have hmln : (m.flatMap Pr.cells).length = n * 2 := by rw [pr_flat_len, HN.out]
    have hc2l : ((cur.drop (i * 2)).take ((n - i) * 2)).length = (n - i) * 2 := by rw [List.length_take, List.length_drop]; omega
    have hone : ∀ v ∈ (cur.drop (i * 2)).take ((n - i) * 2), v.oneCell' = true := fun v hv => by
      obtain ⟨j, hj⟩ := List.mem_iff_getElem?.1 hv
      have hjl : j < (n - i) * 2 := by have := (List.getElem?_eq_some_iff.1 hj).1; omega
      rw [List.getElem?_take, if_pos hjl, List.getElem?_drop] at hj
      have h3 := congrArg (·[i * 2 + j]?) hct
      simp only [List.getElem?_take, if_pos (show i * 2 + j < (n + 1) * 2 by omega)] at h3
      rw [hj, List.getElem?_append_left (by omega)] at h3
      exact pr_one v (List.mem_of_getElem? h3.symm)
    have hput := put_cells (a := kSl0 x) (b := vSl0 x) (z := .slice none 0 0) hmln hle hct
    refine own_step_copyN rfl (.tmp 33) (.tmp 36) 34 34 rfl 38 Tryd.underlying34 2 (by decide) (by kernel_rfl) _ _ (n - i) (c4 - (i + 1)) (n + 1 - i) (c4 - i) rfl rfl g ((i + 1) * 2) 38 cur HO4.out.drew ((cur.drop (i * 2)).take ((n - i) * 2)) ?_ ?_ ?_ hone ?_
    · rw [hc2l]; congr 1; show n - i = min (n + 1 - i) (n - i); omega
    · intro h0
      rw [hc2l] at h0
      refine ⟨by rw [if_neg (by omega)], ?_⟩
      exact CsAt.of_blk HO4.out.drew.head.blk (i * 2) ((n - i) * 2)
    · rw [hc2l]; omega
    intro w5 hO5
    have hsl : (splice cur ((i + 1) * 2) ((cur.drop (i * 2)).take ((n - i) * 2))).length = cur.length := length_splice _ _ _ (by rw [hc2l]; omega)
    obtain ⟨cur5, hc5⟩ : ∃ cur5, splice cur ((i + 1) * 2) ((cur.drop (i * 2)).take ((n - i) * 2)) = cur5 := ⟨_, rfl⟩
    rw [hc5] at hO5 hsl hput
    have HPUT := hid hput
    obtain ⟨v1, z1⟩ := hO5.cellE 0 rfl (k := i * 2) (i * 2) (by simp) (by simp only; omega)
    obtain ⟨v2, z2⟩ := hO5.cellE 0 rfl (k := i * 2 + 1) (i * 2 + 1) (by simp) (by simp only; omega)
    have f0 := fun k => hO5.frozen 0 rfl k
    have HO5 := hid hO5
    have HSL := hid (show cur5.length = c4 * 2 by omega)
    clear hO5 hc5 hput hone hc2l hmln hcl hct hsl HO4
    refine hK.out _ _ ?_ (fun hHeld => ?_)
    · trivial
    clear hK
    try simp only [Act.put, List.setIfInBounds_toArray, List.set_cons_zero, List.set_cons_succ]
    refine AnyT.done (by kernel_rfl) ?_ _
    go_wp2_with fail
    all_goals
      go_ret
      have hO6 := (HO5.out.set (k := i * 2) (i * 2) (by simp) (by simp only; have := HSL.out; omega) (kSl0 x)).set (k := i * 2 + 1) (i * 2 + 1) (by simp) (by simp only [List.length_set]; have := HSL.out; omega) (vSl0 x)
      have hm : mPut Pr.k m x = m.take i ++ x :: m.drop i := by unfold mPut; rw [HI.out.2, HI.out.1]; rfl
      have hml2 : (m.take i ++ x :: m.drop i).length = n + 1 := by rw [List.length_append, List.length_take, List.length_cons, List.length_drop, HN.out]; omega
      rw [hm]
      refine ⟨some ⟨g, 0, none⟩, _, [fw g 38 ((cur5.set (i * 2) (kSl0 x)).set (i * 2 + 1) (vSl0 x))], by rw [hml2]; rfl, hid ?_, hid (hO6.sub (by simp))⟩
      have hr := Row.made 38 (g := g) (n := n + 1) (size := 2) (cur := (cur5.set (i * 2) (kSl0 x)).set (i * 2 + 1) (vSl0 x)) hnc hcm (by rw [List.length_set, List.length_set, HSL.out])
      rw [hml2]
      rw [HPUT.out] at hr
      rw [List.flatMap_append, List.flatMap_cons, pr_flat_take, pr_flat_drop]
      first
        | exact hr
        | (have hce : c4 = i + 1 := by assumption
           rw [hce] at hr
           exact hr)
end Go.Proofs.YtloflmcgbbbnjaaDoor
namespace Go.Proofs.YtloflmcgbbbnjaaDoor
open Go.RowKit Plain
set_option linter.all false

theorem mRange_snoc (m : List Pr) (r : Pr) (s : List UInt8) (e : Option (List UInt8)) : mRange Pr.k (m ++ [r]) s e = mRange Pr.k m s e ++ (if decide (0 ≤ cmpI r.k s) && (match e with | none => true | some e => decide (cmpI r.k e < 0)) then [r] else []) := by
  unfold mRange
  rw [List.filter_append]
  congr 1
  rw [List.filter_cons, List.filter_nil]
  cases e <;> rfl
/-- The end of a range as a value. -/
def LimV (w : World) (lv : Value) (e : Option (List UInt8)) : Prop :=
  (e = none ∧ lv = .slice none 0 0) ∨ ∃ l g o n lc, e = some l ∧ lv = .slice (some ⟨g, o, none⟩) n lc ∧ n = l.length ∧ BsAt w (some ⟨g, o, none⟩) l ∧ l.length ≤ 2147483647
set_option maxHeartbeats 6400000 in
set_option maxRecDepth 100000 in
theorem specRange (A sA : Option Addr) (c n sn sc : Nat) (lv : Value) (m : List Pr) (s : List UInt8) (e : Option (List UInt8)) (w : World) (hp : Prs w A m) (hs : BsAt w sA s) (hl : LimV w lv e) (hn : n = m.length) (hsn : sn = s.length) (hsl : sn ≤ 2147483647) (hml : ∀ r ∈ m, r.k.length ≤ 2147483647) (hnl : n ≤ 1073741824) :
    Calls Tryd.prog 62 #[.slice A n c, .slice sA sn sc, lv] w (RetP [] w (mRange Pr.k m s e)) := by
  have HP := hid hp
  have HS := hid (And.intro hs hsn)
  have HN := hid hn
  have HM := hid hml
  have HO := hid (Own.start w)
  have HL := hid hl
  have hlv : ∃ a b d, lv = .slice a b d := by
    rcases hl with ⟨_, rfl⟩ | ⟨l, g, o, n', lc, _, rfl, _⟩ <;> exact ⟨_, _, _, rfl⟩
  obtain ⟨la, lb, ld, rfl⟩ := hlv
  clear hp hs hn hsn hml hl
  go_enter Tryd.func62, Tryd.ntmps62
  go_wp2_with fail
  go_loopw [7, 12] (fun ov sv wr => ∃ (k k' ac : Nat) (aA : Option Addr) (F G : List Fr), sv = .int .i64 k ∧ ov = .slice aA k' ac ∧ k ≤ n ∧ k' ≤ k ∧ Hid (k' = (mRange Pr.k (m.take k) s e).length) ∧ Hid (Row 38 2 aA k' ac ((mRange Pr.k (m.take k) s e).flatMap Pr.cells) F) ∧ Hid (Own (F ++ G) w wr)) (fun _ sv _ => n - (intOf sv).toNat)
  case atStart => exact ⟨0, 0, 0, none, [], [], rfl, rfl, Nat.zero_le _, Nat.le_refl _, hid rfl, hid (Row.nil _ _), HO⟩
  case round =>
    clear HO
    obtain ⟨k, k', ac, aA, F, G, rfl, rfl, hk, hkk, HK, HR, HO⟩ := hrel
    obtain ⟨w2, rfl⟩ : ∃ w2, w2 = wr := ⟨_, rfl⟩
    by_cases h4 : k < n
    · have h4' : (k : Int) < (n : Int) := by omega
      have hkl : k < m.length := by rw [← HN.out]; exact h4
      have hx : m[k]? = some m[k] := List.getElem?_eq_getElem hkl
      have hxm : m[k] ∈ m := List.getElem_mem hkl
      have htk : m.take (k + 1) = m.take k ++ [m[k]] := List.take_succ_eq_append_getElem hkl
      generalize m[k] = r at hx hxm htk
      have hsn := mRange_snoc (m.take k) r s e
      rw [← htk] at hsn
      obtain ⟨g, o, rfl, p0, p1⟩ := (HP.out.keep0 HO.out.only).at_ hx
      have hrl := HM.out r hxm
      have hrk : BsAt w r.ka r.k := (HP.out.ok r hxm).hk
      have HRK := hid hrk
      obtain ⟨kn, hkn⟩ : ∃ kn, r.k.length = kn := ⟨_, rfl⟩
      obtain ⟨vn, hvn⟩ : ∃ vn, r.v.length = vn := ⟨_, rfl⟩
      rw [hkn] at p0 hrl
      rw [hvn] at p1
      have HKN := hid (And.intro hkn hvn)
      obtain ⟨qb, hqb⟩ : ∃ qb, w2.heap.size = qb := ⟨_, rfl⟩
      have HO1 := hid (HO.out.alloc' hqb 38 [.slice r.ka kn r.kc, .slice r.va vn r.vc])
      have HQ := hid hqb
      have HSN := hid hsn
      clear hx hxm htk hrk hkl hkn hvn hsn hqb
      go_upto_region 5 with fail
      rw [HQ.out]
      generalize (World.alloc _ _) = W at HO1 ⊢
      clear p0 p1
      have b0 : W.cell? ⟨qb, 0, none⟩ = some (.slice r.ka kn r.kc) := HO1.out.cell 0 rfl (k := 0) 0 rfl (by simp)
      have hcs := HS.out.2
      obtain ⟨c1, hc1⟩ : ∃ c1, cmpI r.k s = c1 := ⟨_, rfl⟩
      rw [hc1] at HSN
      have HC1 := hid hc1
      clear hc1 hcs
      go_wp2_with fail
      refine (compare_n r.ka sA kn sn r.kc sc r.k s _ (HRK.out.keep0 HO1.out.only) (HS.out.1.keep0 HO1.out.only) (by rw [HKN.out.1]; omega) (by rw [← HS.out.2]; omega) HKN.out.1.symm HS.out.2).mono ?_
      rintro e1 w3 ⟨rfl, hd3⟩
      rw [HC1.out]
      have HO3 := hid (HO1.out.dr hd3)
      clear hd3 b0
      have b0 : w3.cell? ⟨qb, 0, none⟩ = some (.slice r.ka kn r.kc) := HO3.out.cell 0 rfl (k := 0) 0 rfl (by simp)
      have b1 : w3.cell? ⟨qb, 1, none⟩ = some (.slice r.va vn r.vc) := HO3.out.cell 0 rfl (k := 1) 1 rfl (by simp)
      by_cases hge : 0 ≤ c1
      · have d1 : decide (0 ≤ c1) = true := decide_eq_true hge
        have d1' : decide (c1 ≥ 0) = true := d1
        rcases HL.out with ⟨rfl, hv⟩ | ⟨l, lg, lo, ln, lc, rfl, hv, hln, hlb, hll⟩
        · injection hv with q1 q2 q3
          subst q1; subst q2; subst q3
          have hsn := HSN.out
          rw [d1] at hsn
          simp only [Bool.true_and, if_true] at hsn
          have HO5 := HO3
          have heq : ∀ w, Sem.run Tryd.prog (binOp BinOp.eql 25 (.slice none 0 0) (.slice none 0 0)) w = Result.ok (.bool true) w := fun w => by kernel_rfl
          have HSN2 := hid hsn
          clear hsn
          go_wp2_with (at_builtin; refine own_append rfl (.tmp 32) (.tmp 34) 34 rfl 38 (.agg #[.slice none 0 0, .slice none 0 0]) 2 48 Tryd.underlying34 Tryd.info_pair rfl (by decide) aA k' ac _ F rfl HR.out (R := fw qb 38 [.slice r.ka kn r.kc, .slice r.va vn r.vc] :: G) ((HO5.out.perm (L' := F ++ (fw qb 38 [.slice r.ka kn r.kc, .slice r.va vn r.vc] :: G)) (perm_of fun _ _ z => by simp only [List.count_append, List.count_cons, List.cons_append, List.count_nil, List.nil_append, List.append_nil]; omega)).skip _) (some ⟨_, 0, none⟩) 1 1 [.slice r.ka kn r.kc, .slice r.va vn r.vc] rfl rfl (csAt_all _ _ _) (by simp [Value.oneCell']) (by simp [maxLen]; omega) (by omega) ?_; intro A2 c2 F2 w5 hr2 hO2 _; have HR2 := hid hr2; have HO2 := hid hO2; clear hr2 hO2)
          go_roundw
          case rel =>
            refine ⟨k + 1, k' + 1, c2, A2, F2, fw qb 38 [.slice r.ka kn r.kc, .slice r.va vn r.vc] :: G, by go_num, rfl, by omega, by omega, hid (by rw [HSN2.out, List.length_append, ← HK.out]; rfl), hid ?_, HO2⟩
            have h9 := HR2.out
            rw [← HKN.out.1, ← HKN.out.2] at h9
            rw [HSN2.out, List.flatMap_append]
            simpa [Pr.cells] using h9
          case measure => simp [intOf]; omega
        · injection hv with q1 q2 q3
          subst q1; subst q2; subst q3
          obtain ⟨c5, hc5⟩ : ∃ c5, cmpI r.k l = c5 := ⟨_, rfl⟩
          have hsn := HSN.out
          rw [d1] at hsn
          simp only [Bool.true_and, hc5] at hsn
          have HSX := hid hsn
          have HC5 := hid hc5
          have HLB := hid (show _ ∧ _ ∧ _ from ⟨hln, hlb, hll⟩)
          clear hsn hc5 hln hlb hll
          have heq : ∀ w, Sem.run Tryd.prog (binOp BinOp.eql 25 (.slice (some ⟨lg, lo, none⟩) lb ld) (.slice none 0 0)) w = Result.ok (.bool false) w := fun w => by kernel_rfl
          go_wp2_with fail
          refine (compare_n r.ka (some ⟨lg, lo, none⟩) kn lb r.kc ld r.k l _ (HRK.out.keep0 HO3.out.only) (HLB.out.2.1.keep0 HO3.out.only) (by rw [HKN.out.1]; omega) (by have := HLB.out.2.2; omega) HKN.out.1.symm HLB.out.1).mono ?_
          rintro e2 w4 ⟨rfl, hd4⟩
          rw [HC5.out]
          have HO5 := hid (HO3.out.dr hd4)
          clear hd4 b0 b1
          have b0 : w4.cell? ⟨qb, 0, none⟩ = some (.slice r.ka kn r.kc) := HO5.out.cell 0 rfl (k := 0) 0 rfl (by simp)
          have b1 : w4.cell? ⟨qb, 1, none⟩ = some (.slice r.va vn r.vc) := HO5.out.cell 0 rfl (k := 1) 1 rfl (by simp)
          by_cases hlt : c5 < 0
          · have d5 : decide (c5 < 0) = true := decide_eq_true hlt
            have hsn := HSX.out
            rw [d5] at hsn
            simp only [if_true] at hsn
            have HSN2 := hid hsn
            clear hsn
            go_wp2_with (at_builtin; refine own_append rfl (.tmp 32) (.tmp 34) 34 rfl 38 (.agg #[.slice none 0 0, .slice none 0 0]) 2 48 Tryd.underlying34 Tryd.info_pair rfl (by decide) aA k' ac _ F rfl HR.out (R := fw qb 38 [.slice r.ka kn r.kc, .slice r.va vn r.vc] :: G) ((HO5.out.perm (L' := F ++ (fw qb 38 [.slice r.ka kn r.kc, .slice r.va vn r.vc] :: G)) (perm_of fun _ _ z => by simp only [List.count_append, List.count_cons, List.cons_append, List.count_nil, List.nil_append, List.append_nil]; omega)).skip _) (some ⟨_, 0, none⟩) 1 1 [.slice r.ka kn r.kc, .slice r.va vn r.vc] rfl rfl (csAt_all _ _ _) (by simp [Value.oneCell']) (by simp [maxLen]; omega) (by omega) ?_; intro A2 c2 F2 w5 hr2 hO2 _; have HR2 := hid hr2; have HO2 := hid hO2; clear hr2 hO2)
            go_roundw
            case rel =>
              refine ⟨k + 1, k' + 1, c2, A2, F2, fw qb 38 [.slice r.ka kn r.kc, .slice r.va vn r.vc] :: G, by go_num, rfl, by omega, by omega, hid (by rw [HSN2.out, List.length_append, ← HK.out]; rfl), hid ?_, HO2⟩
              have h9 := HR2.out
              rw [← HKN.out.1, ← HKN.out.2] at h9
              rw [HSN2.out, List.flatMap_append]
              simpa [Pr.cells] using h9
            case measure => simp [intOf]; omega
          · have d5 : decide (c5 < 0) = false := decide_eq_false hlt
            have hsn := HSX.out
            rw [d5, if_neg (by simp), List.append_nil] at hsn
            have HSN2 := hid hsn
            clear hsn b0 b1
            go_wp2_with fail
            go_roundw
            case rel => exact ⟨k + 1, k', ac, aA, F, fw qb 38 [.slice r.ka kn r.kc, .slice r.va vn r.vc] :: G, by go_num, rfl, by omega, by omega, hid (by rw [HSN2.out]; exact HK.out), hid (by rw [HSN2.out]; exact HR.out), hid (HO5.out.perm (perm_of fun _ _ z => by simp only [List.count_append, List.count_cons, List.cons_append, List.count_nil, List.nil_append, List.append_nil]; omega))⟩
            case measure => simp [intOf]; omega
      · have d1 : decide (0 ≤ c1) = false := decide_eq_false hge
        have d1' : decide (c1 ≥ 0) = false := d1
        have hsn := HSN.out
        rw [d1, Bool.false_and, if_neg (by simp), List.append_nil] at hsn
        have HSN2 := hid hsn
        clear hsn b0 b1
        go_wp2_with fail
        go_roundw
        case rel => exact ⟨k + 1, k', ac, aA, F, fw qb 38 [.slice r.ka kn r.kc, .slice r.va vn r.vc] :: G, by go_num, rfl, by omega, by omega, hid (by rw [HSN2.out]; exact HK.out), hid (by rw [HSN2.out]; exact HR.out), hid (HO3.out.perm (perm_of fun _ _ z => by simp only [List.count_append, List.count_cons, List.cons_append, List.count_nil, List.nil_append, List.append_nil]; omega))⟩
        case measure => simp [intOf]; omega
    · have h4' : ¬ (k : Int) < (n : Int) := by omega
      obtain rfl : n = k := by omega
      have hr := HR.out
      have hkk2 := HK.out
      rw [List.take_of_length_le (by rw [← HN.out]; exact Nat.le_refl _)] at hr hkk2
      have HR3 := hid hr
      have HK3 := hid hkk2
      clear hr HR hkk2 HK h4
      go_wp2_with fail
      go_ret
      have h6 := HK3.out
      subst h6
      exact ⟨aA, ac, F, rfl, HR3, hid (by rw [List.append_nil]; exact HO.out.left)⟩
end Go.Proofs.YtloflmcgbbbnjaaDoor
