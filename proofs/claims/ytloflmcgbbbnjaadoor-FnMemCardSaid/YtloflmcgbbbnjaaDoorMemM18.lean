/-
  memdb: the iterator's fill, behind the end of a range.
  memdb: the iterator's methods.
  memdb: the iterator's other methods.
-/
import Derived.Test.YtloflmcgbbbnjaaDoorMemM17
namespace Go.Proofs.YtloflmcgbbbnjaaDoor
open Go.RowKit Plain
set_option linter.all false
def jAct (q : Nat) (f : Nat → Value) : Act := { tmps := #[.pointer (some ⟨q, 0, none⟩), f 1, f 2, f 3, f 4, f 5, f 6, f 7, f 8, f 9, f 10, f 11, f 12, f 13, f 14, f 15, f 16, f 17, f 18, f 19, f 20, f 21, f 22, f 23, f 24, f 25, f 26, f 27, f 28, f 29, f 30, f 31, f 32, f 33, f 34, f 35, f 36, f 37, f 38, f 39, f 40, f 41, f 42, f 43, f 44, f 45, f 46, f 47, f 48, f 49, f 50, f 51, f 52, f 53, f 54, f 55, f 56, f 57, f 58, f 59, f 60, f 61, f 62, f 63, f 64, f 65, f 66, f 67, f 68, f 69, f 70, f 71, f 72, f 73, f 74, f 75, f 76, f 77, f 78, f 79, f 80, f 81, f 82, f 83, f 84, f 85, f 86, f 87, f 88, f 89, f 90, f 91, f 92, f 93, f 94, f 95, f 96, f 97, f 98, f 99, f 100, f 101, f 102, f 103, f 104, f 105, f 106, f 107, f 108, f 109, f 110, f 111, f 112, f 113, f 114, f 115, f 116, f 117, f 118, f 119, f 120, f 121, f 122, f 123, f 124, f 125, f 126, f 127, f 128, f 129, f 130, f 131, f 132, f 133, f 134, f 135, f 136, f 137, f 138, f 139, f 140, f 141, f 142, f 143, f 144, f 145, f 146, f 147, f 148, f 149, f 150, f 151, f 152, f 153, f 154, f 155, f 156, f 157, f 158, f 159, f 160, f 161, f 162, f 163, f 164, f 165, f 166, f 167, f 168, f 169], defers := [] }
theorem exJ (q : Nat) (a : Act) (Q : Prop) (h : a = jAct q (fun n => a.tmps.getD n undef)) (hq : Q) : ∃ f, a = jAct q f ∧ Q := ⟨_, h, hq⟩
set_option maxHeartbeats 12800000 in
set_option maxRecDepth 100000 in
theorem fill_r2 (q g sg : Nat) (sv lv : Value) (s lim : List UInt8) (A : Option Addr) (n1 c1 b n2 c2 mh : Nat) (fwd : Bool) (kv0 vv0 : Value) (kv : List UInt8) (nd : List Nat) (es : List En) (en : En) (i : Nat) (R : List Fr) (w0 w : World) (ok : DbOk kv nd mh es) (hD : St R w0 fun w => DbR w g A n1 c1 b n2 c2 mh kv nd) (hcap : c1 ≤ maxLen)
    (he : es[i]? = some en) (hO : Own (iFr q g (.pointer (some ⟨sg, 0, none⟩)) en.nd.p fwd kv0 vv0 :: R) w0 w) (hR : RgD R w0 sg sv lv s lim) (hlt : rHi es lim ≤ i) :
    Calls Tryd.prog 236 #[.pointer (some ⟨q, 0, none⟩), .bool false, .bool true] w (FillOut q g A c1 (.pointer (some ⟨sg, 0, none⟩)) fwd es i (rHi es lim) R w0) := by
  have hem := List.mem_of_getElem? he
  have hr := hO.st hD (fun y hy => by simp [hy])
  obtain ⟨p1, p2, p3, ke, ve, hF, -, -, hl1, hl2⟩ := hr.en ok hem
  have hb1 : St R w0 fun w => BsAt w (if c1 = en.nd.ko then A else Option.map (fun x => x.add en.nd.ko) A) en.k := hD.imp fun w h => by
    obtain ⟨_, _, _, _, _, _, hb, _⟩ := h.en ok hem
    exact hb
  have hke : ke = en.nd.ko + en.nd.kl := by have := hF.k1; have := hF.g1; omega
  have hb2 : St R w0 fun w => BsAt w (if c1 = ke then A else Option.map (fun x => x.add ke) A) en.v := hD.imp fun w h => by
    obtain ⟨_, _, _, ke', _, hF', _, hb, _⟩ := h.en ok hem
    have : ke' = ke := by have := hF'.k1; have := hF'.g1; omega
    rw [this] at hb
    exact hb
  obtain ⟨s1, s2, s3, t1, t2, a0, a1, a2, a3, l0, l1, l2, l3, g1, g2, g3, g4, g5, k1, k2, p0, e1, e2, e3, b1', b2'⟩ := hF
  have q2 := hr.q2
  have q3 := hr.q3
  obtain ⟨i1, i2, i3, i4, i5, i6, i7, i8, fz⟩ := iFr_cells hO
  have hnd2 := (ok.at_ hem).2.2.1
  rw [← e2] at hnd2
  have HND2 := hid hnd2
  have HE := hid he
  have HB := hid (And.intro hb1 hb2)
  have HL := hid (And.intro hl1 hl2)
  have HLT := hid hlt
  have HD := hid hD
  have HC := hid hcap
  have HX := hid (And.intro b1' b2')
  have HO := hid hO
  obtain ⟨p, hp⟩ : ∃ p, en.nd.p = p := ⟨_, rfl⟩
  rw [hp] at HO i4 s1 s2 s3 a0 l0 p0
  have HP := hid hp
  have n0 : ((p : Int) == 0) = false := by rw [beq_eq_false_iff_ne]; omega
  have n0' : ¬ (p : Int) = 0 := by omega
  have n0'' : ¬ p = 0 := by omega
  have HQ : Hid (∀ v, v = .slice (pAd A c1 en.nd.ko) en.nd.kl (c1 - en.nd.ko) → v = kSl A c1 en) := hid fun v h => h
  have HQ2 : Hid (∀ v, v = .slice (pAd A c1 ke) en.nd.vl (c1 - ke) → v = vSl A c1 en) := hid fun v h => by rw [h, hke]; rfl
  have HRG := hid hR
  have hcl : lim ≠ [] ∧ 0 ≤ cmpI en.k lim := by
    by_cases h0 : lim = []
    · exfalso
      unfold rHi at hlt
      rw [if_pos h0] at hlt
      have := (List.getElem?_eq_some_iff.1 he).1
      omega
    · have := rHi_lt ok h0 he
      exact ⟨h0, by omega⟩
  have HCL := hid hcl
  clear hR hcl
  clear hnd2 ok hD he hO hr hlt hcap hem hl1 hl2 hb1 hb2 e1 e2 e3 hke b1' b2' a3 l3 s3 i1 i5 i8 hp
  generalize en.nd.ko = ko at *
  generalize en.nd.kl = kl at *
  generalize en.nd.vl = vl at *
  generalize en.nd.h = hh at *
  go_enter Tryd.func236, Tryd.ntmps236
  go_wp2_with fail
  refine wp_scope_jumps 0 (fun a' w' => ∃ f, a' = jAct q f ∧ ∃ kz, Hid (Own (iFr q g (.pointer (some ⟨sg, 0, none⟩)) 0 fwd kz vv0 :: R) w0 w')) (fun _ _ => 0) rfl ?_ ?_
  rotate_left
  · clear HO i2 i3 i4 i6 i7 fz q2 q3 a0 a1 a2
    rintro a' w' ⟨f, rfl, kz, HO⟩
    unfold jAct
    have HO2 := hid (iFr_val (iFr_key HO.out (.slice none 0 0)) (.slice none 0 0))
    obtain ⟨i1, i2, i3, i4, i5, i6, i7, i8, fz⟩ := iFr_cells HO.out
    clear i1 i2 i3 i4 i5 i8 HO
    go_wp2_with fail
    try simp only [Exit.jump]
    go_ret
    exact .inr ⟨HLT.out, rfl, HO2.out⟩
  go_wp2_with fail
  refine AnyT.start (S := fun w' => w'.cell? ⟨q, 2, none⟩ = some (.pointer (some ⟨g, 0, none⟩)) ∧ w'.cell? ⟨q, 4, none⟩ = some (.int .i64 (p : Int)) ∧ w'.cell? ⟨g, 3, none⟩ = some (.slice (some ⟨b, 0, none⟩) n2 c2) ∧ w'.cell? ⟨b, p, none⟩ = some (.int .i64 (ko : Int))) (T := []) (by kernel_rfl) (⟨i2, i4, q3, a0⟩) (fun hHeld => ?_)
  refine AnyT.take (i := 0) (v := ?_) (by simp only [List.getElem?_toArray, List.getElem?_cons_succ, List.getElem?_cons_zero]; rfl) (by kernel_rfl) (by kernel_rfl) (by kernel_rfl) (by kernel_rfl) (by intro _ _ _ h; exact h) (Or.inl ⟨by rfl, fun w hSw => ?_⟩) hHeld ?_
  rotate_left
  · ((try dsimp only at hSw); go_simp; first | done | with_reducible rfl | rfl)
  try simp only [Act.put, List.setIfInBounds_toArray, List.set_cons_zero, List.set_cons_succ]
  refine AnyT.take (i := 1) (v := ?_) (by simp only [List.getElem?_toArray, List.getElem?_cons_succ, List.getElem?_cons_zero]; rfl) (by kernel_rfl) (by kernel_rfl) (by kernel_rfl) (by kernel_rfl) (by intro _ _ _ h; exact h) (Or.inl ⟨by rfl, fun w hSw => ?_⟩) hHeld ?_
  rotate_left
  · ((try dsimp only at hSw); go_simp; first | done | with_reducible rfl | rfl)
  try simp only [Act.put, List.setIfInBounds_toArray, List.set_cons_zero, List.set_cons_succ]
  refine AnyT.take (i := 2) (v := ?_) (by simp only [List.getElem?_toArray, List.getElem?_cons_succ, List.getElem?_cons_zero]; rfl) (by kernel_rfl) (by kernel_rfl) (by kernel_rfl) (by kernel_rfl) (by intro _ _ _ h; exact h) (Or.inl ⟨by rfl, fun w hSw => ?_⟩) hHeld ?_
  rotate_left
  · ((try dsimp only at hSw); go_simp; first | done | with_reducible rfl | rfl)
  try simp only [Act.put, List.setIfInBounds_toArray, List.set_cons_zero, List.set_cons_succ]
  refine AnyT.take (i := 3) (v := ?_) (by simp only [List.getElem?_toArray, List.getElem?_cons_succ, List.getElem?_cons_zero]; rfl) (by kernel_rfl) (by kernel_rfl) (by kernel_rfl) (by kernel_rfl) (by intro _ _ _ h; exact h) (Or.inl ⟨by rfl, fun w hSw => ?_⟩) hHeld ?_
  rotate_left
  · ((try dsimp only at hSw); go_simp; first | done | with_reducible rfl | rfl)
  try simp only [Act.put, List.setIfInBounds_toArray, List.set_cons_zero, List.set_cons_succ]
  refine AnyT.take (i := 4) (v := ?_) (by simp only [List.getElem?_toArray, List.getElem?_cons_succ, List.getElem?_cons_zero]; rfl) (by kernel_rfl) (by kernel_rfl) (by kernel_rfl) (by kernel_rfl) (by intro _ _ _ h; exact h) (Or.inl ⟨by rfl, fun w hSw => ?_⟩) hHeld ?_
  rotate_left
  · ((try dsimp only at hSw); go_simp; first | done | with_reducible rfl | rfl)
  try simp only [Act.put, List.setIfInBounds_toArray, List.set_cons_zero, List.set_cons_succ]
  refine AnyT.take (i := 5) (v := ?_) (by simp only [List.getElem?_toArray, List.getElem?_cons_succ, List.getElem?_cons_zero]; rfl) (by kernel_rfl) (by kernel_rfl) (by kernel_rfl) (by kernel_rfl) (by intro _ _ _ h; exact h) (Or.inl ⟨by rfl, fun w hSw => ?_⟩) hHeld ?_
  rotate_left
  · ((try dsimp only at hSw); go_simp; first | done | with_reducible rfl | rfl)
  try simp only [Act.put, List.setIfInBounds_toArray, List.set_cons_zero, List.set_cons_succ]
  refine AnyT.take (i := 6) (v := ?_) (by simp only [List.getElem?_toArray, List.getElem?_cons_succ, List.getElem?_cons_zero]; rfl) (by kernel_rfl) (by kernel_rfl) (by kernel_rfl) (by kernel_rfl) (by intro _ _ _ h; exact h) (Or.inl ⟨by rfl, fun w hSw => ?_⟩) hHeld ?_
  rotate_left
  · ((try dsimp only at hSw); go_simp; first | done | with_reducible rfl | rfl)
  try simp only [Act.put, List.setIfInBounds_toArray, List.set_cons_zero, List.set_cons_succ]
  refine AnyT.take (i := 7) (v := ?_) (by simp only [List.getElem?_toArray, List.getElem?_cons_succ, List.getElem?_cons_zero]; rfl) (by kernel_rfl) (by kernel_rfl) (by kernel_rfl) (by kernel_rfl) (by intro _ _ _ h; exact h) (Or.inl ⟨by rfl, fun w hSw => ?_⟩) hHeld ?_
  rotate_left
  · ((try dsimp only at hSw); go_simp; first | done | with_reducible rfl | rfl)
  try simp only [Act.put, List.setIfInBounds_toArray, List.set_cons_zero, List.set_cons_succ]
  refine AnyT.take (i := 8) (v := ?_) (by simp only [List.getElem?_toArray, List.getElem?_cons_succ, List.getElem?_cons_zero]; rfl) (by kernel_rfl) (by kernel_rfl) (by kernel_rfl) (by kernel_rfl) (by intro _ _ _ h; exact h) (Or.inl ⟨by rfl, fun w hSw => ?_⟩) hHeld ?_
  rotate_left
  · ((try dsimp only at hSw); go_simp; first | done | with_reducible rfl | rfl)
  try simp only [Act.put, List.setIfInBounds_toArray, List.set_cons_zero, List.set_cons_succ]
  refine AnyT.take (i := 9) (v := ?_) (by simp only [List.getElem?_toArray, List.getElem?_cons_succ, List.getElem?_cons_zero]; rfl) (by kernel_rfl) (by kernel_rfl) (by kernel_rfl) (by kernel_rfl) (by intro _ _ _ h; exact h) (Or.inl ⟨by rfl, fun w hSw => ?_⟩) hHeld ?_
  rotate_left
  · ((try dsimp only at hSw); go_simp; first | done | with_reducible rfl | rfl)
  try simp only [Act.put, List.setIfInBounds_toArray, List.set_cons_zero, List.set_cons_succ]
  refine AnyT.take (i := 10) (v := ?_) (by simp only [List.getElem?_toArray, List.getElem?_cons_succ, List.getElem?_cons_zero]; rfl) (by kernel_rfl) (by kernel_rfl) (by kernel_rfl) (by kernel_rfl) (by intro _ _ _ h; exact h) (Or.inl ⟨by rfl, fun w hSw => ?_⟩) hHeld ?_
  rotate_left
  · ((try dsimp only at hSw); go_simp; first | done | with_reducible rfl | rfl)
  try simp only [Act.put, List.setIfInBounds_toArray, List.set_cons_zero, List.set_cons_succ]
  refine AnyT.take (i := 11) (v := ?_) (by simp only [List.getElem?_toArray, List.getElem?_cons_succ, List.getElem?_cons_zero]; rfl) (by kernel_rfl) (by kernel_rfl) (by kernel_rfl) (by kernel_rfl) (by intro _ _ _ h; exact h) (Or.inl ⟨by rfl, fun w hSw => ?_⟩) hHeld ?_
  rotate_left
  · ((try dsimp only at hSw); go_simp; first | done | with_reducible rfl | rfl)
  try simp only [Act.put, List.setIfInBounds_toArray, List.set_cons_zero, List.set_cons_succ]
  refine AnyT.take (i := 12) (v := ?_) (by simp only [List.getElem?_toArray, List.getElem?_cons_succ, List.getElem?_cons_zero]; rfl) (by kernel_rfl) (by kernel_rfl) (by kernel_rfl) (by kernel_rfl) (by intro _ _ _ h; exact h) (Or.inl ⟨by rfl, fun w hSw => ?_⟩) hHeld ?_
  rotate_left
  · ((try dsimp only at hSw); go_simp; first | done | with_reducible rfl | rfl)
  try simp only [Act.put, List.setIfInBounds_toArray, List.set_cons_zero, List.set_cons_succ]
  refine AnyT.take (i := 13) (v := ?_) (by simp only [List.getElem?_toArray, List.getElem?_cons_succ, List.getElem?_cons_zero]; rfl) (by kernel_rfl) (by kernel_rfl) (by kernel_rfl) (by kernel_rfl) (by intro _ _ _ h; exact h) (Or.inl ⟨by rfl, fun w hSw => ?_⟩) hHeld ?_
  rotate_left
  · ((try dsimp only at hSw); go_simp; first | done | with_reducible rfl | rfl)
  try simp only [Act.put, List.setIfInBounds_toArray, List.set_cons_zero, List.set_cons_succ]
  refine AnyT.done (by kernel_rfl) ?_ _
  clear hHeld
  go_wp2_with fail
  refine AnyT.start (S := fun w' => w'.cell? ⟨q, 2, none⟩ = some (.pointer (some ⟨g, 0, none⟩)) ∧ w'.cell? ⟨q, 4, none⟩ = some (.int .i64 (p : Int)) ∧ w'.cell? ⟨g, 3, none⟩ = some (.slice (some ⟨b, 0, none⟩) n2 c2) ∧ w'.cell? ⟨b, p1, none⟩ = some (.int .i64 (kl : Int))) (T := []) (by kernel_rfl) (⟨i2, i4, q3, a1⟩) (fun hHeld => ?_)
  refine AnyT.take (i := 0) (v := ?_) (by simp only [List.getElem?_toArray, List.getElem?_cons_succ, List.getElem?_cons_zero]; rfl) (by kernel_rfl) (by kernel_rfl) (by kernel_rfl) (by kernel_rfl) (by intro _ _ _ h; exact h) (Or.inl ⟨by rfl, fun w hSw => ?_⟩) hHeld ?_
  rotate_left
  · ((try dsimp only at hSw); go_simp; first | done | with_reducible rfl | rfl)
  try simp only [Act.put, List.setIfInBounds_toArray, List.set_cons_zero, List.set_cons_succ]
  refine AnyT.take (i := 1) (v := ?_) (by simp only [List.getElem?_toArray, List.getElem?_cons_succ, List.getElem?_cons_zero]; rfl) (by kernel_rfl) (by kernel_rfl) (by kernel_rfl) (by kernel_rfl) (by intro _ _ _ h; exact h) (Or.inl ⟨by rfl, fun w hSw => ?_⟩) hHeld ?_
  rotate_left
  · ((try dsimp only at hSw); go_simp; first | done | with_reducible rfl | rfl)
  try simp only [Act.put, List.setIfInBounds_toArray, List.set_cons_zero, List.set_cons_succ]
  refine AnyT.take (i := 2) (v := ?_) (by simp only [List.getElem?_toArray, List.getElem?_cons_succ, List.getElem?_cons_zero]; rfl) (by kernel_rfl) (by kernel_rfl) (by kernel_rfl) (by kernel_rfl) (by intro _ _ _ h; exact h) (Or.inl ⟨by rfl, fun w hSw => ?_⟩) hHeld ?_
  rotate_left
  · ((try dsimp only at hSw); go_simp; first | done | with_reducible rfl | rfl)
  try simp only [Act.put, List.setIfInBounds_toArray, List.set_cons_zero, List.set_cons_succ]
  refine AnyT.take (i := 3) (v := ?_) (by simp only [List.getElem?_toArray, List.getElem?_cons_succ, List.getElem?_cons_zero]; rfl) (by kernel_rfl) (by kernel_rfl) (by kernel_rfl) (by kernel_rfl) (by intro _ _ _ h; exact h) (Or.inl ⟨by rfl, fun w hSw => ?_⟩) hHeld ?_
  rotate_left
  · ((try dsimp only at hSw); go_simp; first | done | with_reducible rfl | rfl)
  try simp only [Act.put, List.setIfInBounds_toArray, List.set_cons_zero, List.set_cons_succ]
  refine AnyT.take (i := 4) (v := ?_) (by simp only [List.getElem?_toArray, List.getElem?_cons_succ, List.getElem?_cons_zero]; rfl) (by kernel_rfl) (by kernel_rfl) (by kernel_rfl) (by kernel_rfl) (by intro _ _ _ h; exact h) (Or.inl ⟨by rfl, fun w hSw => ?_⟩) hHeld ?_
  rotate_left
  · ((try dsimp only at hSw); go_simp; first | done | with_reducible rfl | rfl)
  try simp only [Act.put, List.setIfInBounds_toArray, List.set_cons_zero, List.set_cons_succ]
  refine AnyT.take (i := 5) (v := ?_) (by simp only [List.getElem?_toArray, List.getElem?_cons_succ, List.getElem?_cons_zero]; rfl) (by kernel_rfl) (by kernel_rfl) (by kernel_rfl) (by kernel_rfl) (by intro _ _ _ h; exact h) (Or.inl ⟨by rfl, fun w hSw => ?_⟩) hHeld ?_
  rotate_left
  · ((try dsimp only at hSw); go_simp; first | done | with_reducible rfl | rfl)
  try simp only [Act.put, List.setIfInBounds_toArray, List.set_cons_zero, List.set_cons_succ]
  refine AnyT.take (i := 6) (v := ?_) (by simp only [List.getElem?_toArray, List.getElem?_cons_succ, List.getElem?_cons_zero]; rfl) (by kernel_rfl) (by kernel_rfl) (by kernel_rfl) (by kernel_rfl) (by intro _ _ _ h; exact h) (Or.inl ⟨by rfl, fun w hSw => ?_⟩) hHeld ?_
  rotate_left
  · ((try dsimp only at hSw); go_simp; first | done | with_reducible rfl | rfl)
  try simp only [Act.put, List.setIfInBounds_toArray, List.set_cons_zero, List.set_cons_succ]
  refine AnyT.take (i := 7) (v := ?_) (by simp only [List.getElem?_toArray, List.getElem?_cons_succ, List.getElem?_cons_zero]; rfl) (by kernel_rfl) (by kernel_rfl) (by kernel_rfl) (by kernel_rfl) (by intro _ _ _ h; exact h) (Or.inl ⟨by rfl, fun w hSw => ?_⟩) hHeld ?_
  rotate_left
  · ((try dsimp only at hSw); go_simp; first | done | with_reducible rfl | rfl)
  try simp only [Act.put, List.setIfInBounds_toArray, List.set_cons_zero, List.set_cons_succ]
  refine AnyT.take (i := 8) (v := ?_) (by simp only [List.getElem?_toArray, List.getElem?_cons_succ, List.getElem?_cons_zero]; rfl) (by kernel_rfl) (by kernel_rfl) (by kernel_rfl) (by kernel_rfl) (by intro _ _ _ h; exact h) (Or.inl ⟨by rfl, fun w hSw => ?_⟩) hHeld ?_
  rotate_left
  · ((try dsimp only at hSw); go_simp; first | done | with_reducible rfl | rfl)
  try simp only [Act.put, List.setIfInBounds_toArray, List.set_cons_zero, List.set_cons_succ]
  refine AnyT.take (i := 9) (v := ?_) (by simp only [List.getElem?_toArray, List.getElem?_cons_succ, List.getElem?_cons_zero]; rfl) (by kernel_rfl) (by kernel_rfl) (by kernel_rfl) (by kernel_rfl) (by intro _ _ _ h; exact h) (Or.inl ⟨by rfl, fun w hSw => ?_⟩) hHeld ?_
  rotate_left
  · ((try dsimp only at hSw); go_simp; first | done | with_reducible rfl | rfl)
  try simp only [Act.put, List.setIfInBounds_toArray, List.set_cons_zero, List.set_cons_succ]
  refine AnyT.take (i := 10) (v := ?_) (by simp only [List.getElem?_toArray, List.getElem?_cons_succ, List.getElem?_cons_zero]; rfl) (by kernel_rfl) (by kernel_rfl) (by kernel_rfl) (by kernel_rfl) (by intro _ _ _ h; exact h) (Or.inl ⟨by rfl, fun w hSw => ?_⟩) hHeld ?_
  rotate_left
  · ((try dsimp only at hSw); go_simp; first | done | with_reducible rfl | rfl)
  try simp only [Act.put, List.setIfInBounds_toArray, List.set_cons_zero, List.set_cons_succ]
  refine AnyT.take (i := 11) (v := ?_) (by simp only [List.getElem?_toArray, List.getElem?_cons_succ, List.getElem?_cons_zero]; rfl) (by kernel_rfl) (by kernel_rfl) (by kernel_rfl) (by kernel_rfl) (by intro _ _ _ h; exact h) (Or.inl ⟨by rfl, fun w hSw => ?_⟩) hHeld ?_
  rotate_left
  · ((try dsimp only at hSw); go_simp; first | done | with_reducible rfl | rfl)
  try simp only [Act.put, List.setIfInBounds_toArray, List.set_cons_zero, List.set_cons_succ]
  refine AnyT.take (i := 12) (v := ?_) (by simp only [List.getElem?_toArray, List.getElem?_cons_succ, List.getElem?_cons_zero]; rfl) (by kernel_rfl) (by kernel_rfl) (by kernel_rfl) (by kernel_rfl) (by intro _ _ _ h; exact h) (Or.inl ⟨by rfl, fun w hSw => ?_⟩) hHeld ?_
  rotate_left
  · ((try dsimp only at hSw); go_simp; first | done | with_reducible rfl | rfl)
  try simp only [Act.put, List.setIfInBounds_toArray, List.set_cons_zero, List.set_cons_succ]
  refine AnyT.take (i := 13) (v := ?_) (by simp only [List.getElem?_toArray, List.getElem?_cons_succ, List.getElem?_cons_zero]; rfl) (by kernel_rfl) (by kernel_rfl) (by kernel_rfl) (by kernel_rfl) (by intro _ _ _ h; exact h) (Or.inl ⟨by rfl, fun w hSw => ?_⟩) hHeld ?_
  rotate_left
  · ((try dsimp only at hSw); go_simp; first | done | with_reducible rfl | rfl)
  try simp only [Act.put, List.setIfInBounds_toArray, List.set_cons_zero, List.set_cons_succ]
  refine AnyT.take (i := 14) (v := ?_) (by simp only [List.getElem?_toArray, List.getElem?_cons_succ, List.getElem?_cons_zero]; rfl) (by kernel_rfl) (by kernel_rfl) (by kernel_rfl) (by kernel_rfl) (by intro _ _ _ h; exact h) (Or.inl ⟨by rfl, fun w hSw => ?_⟩) hHeld ?_
  rotate_left
  · ((try dsimp only at hSw); go_simp; first | done | with_reducible rfl | rfl)
  try simp only [Act.put, List.setIfInBounds_toArray, List.set_cons_zero, List.set_cons_succ]
  refine AnyT.take (i := 15) (v := ?_) (by simp only [List.getElem?_toArray, List.getElem?_cons_succ, List.getElem?_cons_zero]; rfl) (by kernel_rfl) (by kernel_rfl) (by kernel_rfl) (by kernel_rfl) (by intro _ _ _ h; exact h) (Or.inl ⟨by rfl, fun w hSw => ?_⟩) hHeld ?_
  rotate_left
  · ((try dsimp only at hSw); go_simp; first | done | with_reducible rfl | rfl)
  try simp only [Act.put, List.setIfInBounds_toArray, List.set_cons_zero, List.set_cons_succ]
  refine AnyT.take (i := 16) (v := ?_) (by simp only [List.getElem?_toArray, List.getElem?_cons_succ, List.getElem?_cons_zero]; rfl) (by kernel_rfl) (by kernel_rfl) (by kernel_rfl) (by kernel_rfl) (by intro _ _ _ h; exact h) (Or.inl ⟨by rfl, fun w hSw => ?_⟩) hHeld ?_
  rotate_left
  · ((try dsimp only at hSw); go_simp; first | done | with_reducible rfl | rfl)
  try simp only [Act.put, List.setIfInBounds_toArray, List.set_cons_zero, List.set_cons_succ]
  refine AnyT.done (by kernel_rfl) ?_ _
  clear hHeld
  have HO1 := hid HO.out.drew.drew
  have q2 := keepc ((Only.refl [] w).drew.drew) q2
  have q3 := keepc ((Only.refl [] w).drew.drew) q3
  have a2 := keepc ((Only.refl [] w).drew.drew) a2
  obtain ⟨i1, i2, i3, i4, i5, i6, i7, i8, fz⟩ := iFr_cells HO1.out
  generalize w.drew.drew = W at *
  clear i1 i5 i8 a0 a1 HO
  go_upto_region 4 with fail
  go_cut [] (fun wx => ∃ A3, Hid (A3 = pAd A c1 ko) ∧ Hid (Rd R w0 A3 en.k) ∧ Hid (Own (iFr q g (.pointer (some ⟨sg, 0, none⟩)) p fwd (.slice A3 kl (c1 - ko)) vv0 :: R) w0 wx))
  case first =>
    by_cases hck : c1 = ko
    · have hb := HB.out.1
      rw [if_pos hck] at hb
      subst hck
      have HB1 := hid hb
      have HO2 := hid (iFr_key HO1.out (.slice A kl (c1 - c1)))
      clear hb HB
      rw [Nat.sub_self] at HO2
      go_wp2_with fail
      go_meet
      exact ⟨A, hid (by unfold pAd; rw [if_pos rfl]), HB1, by rw [Nat.sub_self]; exact HO2⟩
    · have hb := HB.out.1
      rw [if_neg hck] at hb
      have HNC := hid hck
      have HB1 := hid hb
      have HO2 := hid (iFr_key HO1.out (.slice (Option.map (fun x => x.add ko) A) kl (c1 - ko)))
      clear hb HB
      go_wp2_with fail
      go_meet
      exact ⟨_, hid (by unfold pAd; rw [if_neg HNC.out]), HB1, HO2⟩
  case rest =>
  clear HO1 i6 i7 fz i2 i3 i4
  obtain ⟨A3, HA3, HB3, HO3⟩ := hcut
  have hr := HO3.out.st HD.out (fun y hy => by simp [hy])
  have q0 := hr.q0
  obtain ⟨cs, cl⟩ := HO3.out.st HRG.out.c (fun y hy => by simp [hy])
  obtain ⟨i1, i2, i3, i4, i5, i6, i7, i8, fz⟩ := iFr_cells HO3.out
  have HK := hid (And.intro (And.intro g1 g2) (And.intro k1 (And.intro g3 (And.intro g4 k2))))
  clear hr i1 i5 i8 k1 q2 q3 a2
  rcases HRG.out.e with ⟨h0, -⟩ | ⟨hne, lg, lo, lc, hlv, hlc, hll, hlr⟩
  · exact absurd h0 HCL.out.1
  · have hcl := HCL.out.2
    clear hlc hll hne
    subst hlv
    have hsp := bcmp_spec en.k lim
    obtain ⟨cmp, hcmp⟩ : ∃ cmp, bcmp en.k lim = cmp := ⟨_, rfl⟩
    rw [hcmp] at hsp
    have d1 : decide (0 ≤ cmp) = true := decide_eq_true (by omega)
    have d1' : decide (cmp ≥ 0) = true := d1
    have HCMP := hid hcmp
    have hm := method_cmp
    have HLR := hid hlr
    obtain ⟨ll, hll⟩ : ∃ ll, lim.length = ll := ⟨_, rfl⟩
    rw [hll] at cl
    have HLL := hid hll
    clear hcmp hsp hlr hll hcl
    go_wp2_with fail
    refine AnyT.start (S := fun w' => w'.cell? ⟨q, 2, none⟩ = some (.pointer (some ⟨g, 0, none⟩)) ∧ w'.cell? ⟨q, 3, none⟩ = some (.pointer (some ⟨sg, 0, none⟩)) ∧ w'.cell? ⟨q, 6, none⟩ = some (.slice A3 kl (c1 - ko)) ∧ w'.cell? ⟨g, 0, none⟩ = some (.iface 112 (.agg #[])) ∧ w'.cell? ⟨sg, 1, none⟩ = some (.slice (some ⟨lg, lo, none⟩) ll lc)) (T := []) (by kernel_rfl) (⟨i2, i3, i6, q0, cl⟩) (fun hHeld => ?_)
    refine AnyT.take (i := 0) (v := ?_) (by simp only [List.getElem?_toArray, List.getElem?_cons_succ, List.getElem?_cons_zero]; rfl) (by kernel_rfl) (by kernel_rfl) (by kernel_rfl) (by kernel_rfl) (by intro _ _ _ h; exact h) (Or.inl ⟨by rfl, fun w hSw => ?_⟩) hHeld ?_
    rotate_left
    · ((try dsimp only at hSw); go_simp; first | done | with_reducible rfl | rfl)
    try simp only [Act.put, List.setIfInBounds_toArray, List.set_cons_zero, List.set_cons_succ]
    refine AnyT.take (i := 1) (v := ?_) (by simp only [List.getElem?_toArray, List.getElem?_cons_succ, List.getElem?_cons_zero]; rfl) (by kernel_rfl) (by kernel_rfl) (by kernel_rfl) (by kernel_rfl) (by intro _ _ _ h; exact h) (Or.inl ⟨by rfl, fun w hSw => ?_⟩) hHeld ?_
    rotate_left
    · ((try dsimp only at hSw); go_simp; first | done | with_reducible rfl | rfl)
    try simp only [Act.put, List.setIfInBounds_toArray, List.set_cons_zero, List.set_cons_succ]
    refine AnyT.take (i := 2) (v := ?_) (by simp only [List.getElem?_toArray, List.getElem?_cons_succ, List.getElem?_cons_zero]; rfl) (by kernel_rfl) (by kernel_rfl) (by kernel_rfl) (by kernel_rfl) (by intro _ _ _ h; exact h) (Or.inl ⟨by rfl, fun w hSw => ?_⟩) hHeld ?_
    rotate_left
    · ((try dsimp only at hSw); go_simp; first | done | with_reducible rfl | rfl)
    try simp only [Act.put, List.setIfInBounds_toArray, List.set_cons_zero, List.set_cons_succ]
    refine AnyT.take (i := 3) (v := ?_) (by simp only [List.getElem?_toArray, List.getElem?_cons_succ, List.getElem?_cons_zero]; rfl) (by kernel_rfl) (by kernel_rfl) (by kernel_rfl) (by kernel_rfl) (by intro _ _ _ h; exact h) (Or.inl ⟨by rfl, fun w hSw => ?_⟩) hHeld ?_
    rotate_left
    · ((try dsimp only at hSw); go_simp; first | done | with_reducible rfl | rfl)
    try simp only [Act.put, List.setIfInBounds_toArray, List.set_cons_zero, List.set_cons_succ]
    refine AnyT.take (i := 4) (v := ?_) (by simp only [List.getElem?_toArray, List.getElem?_cons_succ, List.getElem?_cons_zero]; rfl) (by kernel_rfl) (by kernel_rfl) (by kernel_rfl) (by kernel_rfl) (by intro _ _ _ h; exact h) (Or.inl ⟨by rfl, fun w hSw => ?_⟩) hHeld ?_
    rotate_left
    · ((try dsimp only at hSw); go_simp; first | done | with_reducible rfl | rfl)
    try simp only [Act.put, List.setIfInBounds_toArray, List.set_cons_zero, List.set_cons_succ]
    refine AnyT.take (i := 5) (v := ?_) (by simp only [List.getElem?_toArray, List.getElem?_cons_succ, List.getElem?_cons_zero]; rfl) (by kernel_rfl) (by kernel_rfl) (by kernel_rfl) (by kernel_rfl) (by intro _ _ _ h; exact h) (Or.inl ⟨by rfl, fun w hSw => ?_⟩) hHeld ?_
    rotate_left
    · ((try dsimp only at hSw); go_simp; first | done | with_reducible rfl | rfl)
    try simp only [Act.put, List.setIfInBounds_toArray, List.set_cons_zero, List.set_cons_succ]
    refine AnyT.take (i := 6) (v := ?_) (by simp only [List.getElem?_toArray, List.getElem?_cons_succ, List.getElem?_cons_zero]; rfl) (by kernel_rfl) (by kernel_rfl) (by kernel_rfl) (by kernel_rfl) (by intro _ _ _ h; exact h) (Or.inl ⟨by rfl, fun w hSw => ?_⟩) hHeld ?_
    rotate_left
    · ((try dsimp only at hSw); go_simp; first | done | with_reducible rfl | rfl)
    try simp only [Act.put, List.setIfInBounds_toArray, List.set_cons_zero, List.set_cons_succ]
    refine AnyT.take (i := 7) (v := ?_) (by simp only [List.getElem?_toArray, List.getElem?_cons_succ, List.getElem?_cons_zero]; rfl) (by kernel_rfl) (by kernel_rfl) (by kernel_rfl) (by kernel_rfl) (by intro _ _ _ h; exact h) (Or.inl ⟨by rfl, fun w hSw => ?_⟩) hHeld ?_
    rotate_left
    · ((try dsimp only at hSw); go_simp; first | done | with_reducible rfl | rfl)
    try simp only [Act.put, List.setIfInBounds_toArray, List.set_cons_zero, List.set_cons_succ]
    refine AnyT.take (i := 8) (v := ?_) (by simp only [List.getElem?_toArray, List.getElem?_cons_succ, List.getElem?_cons_zero]; rfl) (by kernel_rfl) (by kernel_rfl) (by kernel_rfl) (by kernel_rfl) (by intro _ _ _ h; exact h) (Or.inl ⟨by rfl, fun w hSw => ?_⟩) hHeld ?_
    rotate_left
    · ((try dsimp only at hSw); go_simp; first | done | with_reducible rfl | rfl)
    try simp only [Act.put, List.setIfInBounds_toArray, List.set_cons_zero, List.set_cons_succ]
    refine AnyT.take (i := 9) (v := ?_) (by simp only [List.getElem?_toArray, List.getElem?_cons_succ, List.getElem?_cons_zero]; rfl) (by kernel_rfl) (by kernel_rfl) (by kernel_rfl) (by kernel_rfl) (by intro _ _ _ h; exact h) (Or.inl ⟨by rfl, fun w hSw => ?_⟩) hHeld ?_
    rotate_left
    · ((try dsimp only at hSw); go_simp; first | done | with_reducible rfl | rfl)
    try simp only [Act.put, List.setIfInBounds_toArray, List.set_cons_zero, List.set_cons_succ]
    refine AnyT.take (i := 10) (v := ?_) (by simp only [List.getElem?_toArray, List.getElem?_cons_succ, List.getElem?_cons_zero]; rfl) (by kernel_rfl) (by kernel_rfl) (by kernel_rfl) (by kernel_rfl) (by intro _ _ _ h; exact h) (Or.inl ⟨by rfl, fun w hSw => ?_⟩) hHeld ?_
    rotate_left
    · ((try dsimp only at hSw); go_simp; first | done | with_reducible rfl | rfl)
    try simp only [Act.put, List.setIfInBounds_toArray, List.set_cons_zero, List.set_cons_succ]
    refine AnyT.take (i := 11) (v := ?_) (by simp only [List.getElem?_toArray, List.getElem?_cons_succ, List.getElem?_cons_zero]; rfl) (by kernel_rfl) (by kernel_rfl) (by kernel_rfl) (by kernel_rfl) (by intro _ _ _ h; exact h) (Or.inl ⟨by rfl, fun w hSw => ?_⟩) hHeld ?_
    rotate_left
    · ((try dsimp only at hSw); go_simp; first | done | with_reducible rfl | rfl)
    try simp only [Act.put, List.setIfInBounds_toArray, List.set_cons_zero, List.set_cons_succ]
    refine AnyT.take (i := 12) (v := ?_) (by simp only [List.getElem?_toArray, List.getElem?_cons_succ, List.getElem?_cons_zero]; rfl) (by kernel_rfl) (by kernel_rfl) (by kernel_rfl) (by kernel_rfl) (by intro _ _ _ h; exact h) (Or.inl ⟨by rfl, fun w hSw => ?_⟩) hHeld ?_
    rotate_left
    · ((try dsimp only at hSw); go_simp; first | done | with_reducible rfl | rfl)
    try simp only [Act.put, List.setIfInBounds_toArray, List.set_cons_zero, List.set_cons_succ]
    refine AnyT.take (i := 13) (v := ?_) (by simp only [List.getElem?_toArray, List.getElem?_cons_succ, List.getElem?_cons_zero]; rfl) (by kernel_rfl) (by kernel_rfl) (by kernel_rfl) (by kernel_rfl) (by intro _ _ _ h; exact h) (Or.inl ⟨by rfl, fun w hSw => ?_⟩) hHeld ?_
    rotate_left
    · ((try dsimp only at hSw); go_simp; first | done | with_reducible rfl | rfl)
    try simp only [Act.put, List.setIfInBounds_toArray, List.set_cons_zero, List.set_cons_succ]
    refine AnyT.take (i := 14) (v := ?_) (by simp only [List.getElem?_toArray, List.getElem?_cons_succ, List.getElem?_cons_zero]; rfl) (by kernel_rfl) (by kernel_rfl) (by kernel_rfl) (by kernel_rfl) (by intro _ _ _ h; exact h) (Or.inl ⟨by rfl, fun w hSw => ?_⟩) hHeld ?_
    rotate_left
    · ((try dsimp only at hSw); go_simp; first | done | with_reducible rfl | rfl)
    try simp only [Act.put, List.setIfInBounds_toArray, List.set_cons_zero, List.set_cons_succ]
    refine AnyT.take (i := 15) (v := ?_) (by simp only [List.getElem?_toArray, List.getElem?_cons_succ, List.getElem?_cons_zero]; rfl) (by kernel_rfl) (by kernel_rfl) (by kernel_rfl) (by kernel_rfl) (by intro _ _ _ h; exact h) (Or.inl ⟨by rfl, fun w hSw => ?_⟩) hHeld ?_
    rotate_left
    · ((try dsimp only at hSw); go_simp; first | done | with_reducible rfl | rfl)
    try simp only [Act.put, List.setIfInBounds_toArray, List.set_cons_zero, List.set_cons_succ]
    refine AnyT.take (i := 16) (v := ?_) (by simp only [List.getElem?_toArray, List.getElem?_cons_succ, List.getElem?_cons_zero]; rfl) (by kernel_rfl) (by kernel_rfl) (by kernel_rfl) (by kernel_rfl) (by intro _ _ _ h; exact h) (Or.inl ⟨by rfl, fun w hSw => ?_⟩) hHeld ?_
    rotate_left
    · ((try dsimp only at hSw); go_simp; first | done | with_reducible rfl | rfl)
    try simp only [Act.put, List.setIfInBounds_toArray, List.set_cons_zero, List.set_cons_succ]
    refine AnyT.take (i := 17) (v := ?_) (by simp only [List.getElem?_toArray, List.getElem?_cons_succ, List.getElem?_cons_zero]; rfl) (by kernel_rfl) (by kernel_rfl) (by kernel_rfl) (by kernel_rfl) (by intro _ _ _ h; exact h) (Or.inl ⟨by rfl, fun w hSw => ?_⟩) hHeld ?_
    rotate_left
    · ((try dsimp only at hSw); go_simp; first | done | with_reducible rfl | rfl)
    try simp only [Act.put, List.setIfInBounds_toArray, List.set_cons_zero, List.set_cons_succ]
    refine AnyT.take (i := 18) (v := ?_) (by simp only [List.getElem?_toArray, List.getElem?_cons_succ, List.getElem?_cons_zero]; rfl) (by kernel_rfl) (by kernel_rfl) (by kernel_rfl) (by kernel_rfl) (by intro _ _ _ h; exact h) (Or.inl ⟨by rfl, fun w hSw => ?_⟩) hHeld ?_
    rotate_left
    · ((try dsimp only at hSw); go_simp; first | done | with_reducible rfl | rfl)
    try simp only [Act.put, List.setIfInBounds_toArray, List.set_cons_zero, List.set_cons_succ]
    refine AnyT.take (i := 19) (v := ?_) (by simp only [List.getElem?_toArray, List.getElem?_cons_succ, List.getElem?_cons_zero]; rfl) (by kernel_rfl) (by kernel_rfl) (by kernel_rfl) (by kernel_rfl) (by intro _ _ _ h; exact h) (Or.inl ⟨by rfl, fun w hSw => ?_⟩) hHeld ?_
    rotate_left
    · ((try dsimp only at hSw); go_simp; first | done | with_reducible rfl | rfl)
    try simp only [Act.put, List.setIfInBounds_toArray, List.set_cons_zero, List.set_cons_succ]
    refine AnyT.take (i := 20) (v := ?_) (by simp only [List.getElem?_toArray, List.getElem?_cons_succ, List.getElem?_cons_zero]; rfl) (by kernel_rfl) (by kernel_rfl) (by kernel_rfl) (by kernel_rfl) (by intro _ _ _ h; exact h) (Or.inl ⟨by rfl, fun w hSw => ?_⟩) hHeld ?_
    rotate_left
    · ((try dsimp only at hSw); go_simp; first | done | with_reducible rfl | rfl)
    try simp only [Act.put, List.setIfInBounds_toArray, List.set_cons_zero, List.set_cons_succ]
    refine AnyT.take (i := 21) (v := ?_) (by simp only [List.getElem?_toArray, List.getElem?_cons_succ, List.getElem?_cons_zero]; rfl) (by kernel_rfl) (by kernel_rfl) (by kernel_rfl) (by kernel_rfl) (by intro _ _ _ h; exact h) (Or.inl ⟨by rfl, fun w hSw => ?_⟩) hHeld ?_
    rotate_left
    · ((try dsimp only at hSw); go_simp; first | done | with_reducible rfl | rfl)
    try simp only [Act.put, List.setIfInBounds_toArray, List.set_cons_zero, List.set_cons_succ]
    refine AnyT.take (i := 22) (v := ?_) (by simp only [List.getElem?_toArray, List.getElem?_cons_succ, List.getElem?_cons_zero]; rfl) (by kernel_rfl) (by kernel_rfl) (by kernel_rfl) (by kernel_rfl) (by intro _ _ _ h; exact h) (Or.inl ⟨by rfl, fun w hSw => ?_⟩) hHeld ?_
    rotate_left
    · ((try dsimp only at hSw); go_simp; first | done | with_reducible rfl | rfl)
    try simp only [Act.put, List.setIfInBounds_toArray, List.set_cons_zero, List.set_cons_succ]
    refine AnyT.take (i := 23) (v := ?_) (by simp only [List.getElem?_toArray, List.getElem?_cons_succ, List.getElem?_cons_zero]; rfl) (by kernel_rfl) (by kernel_rfl) (by kernel_rfl) (by kernel_rfl) (by intro _ _ _ h; exact h) (Or.inl ⟨by rfl, fun w hSw => ?_⟩) hHeld ?_
    rotate_left
    · ((try dsimp only at hSw); go_simp; first | done | with_reducible rfl | rfl)
    try simp only [Act.put, List.setIfInBounds_toArray, List.set_cons_zero, List.set_cons_succ]
    refine AnyT.take (i := 24) (v := ?_) (by simp only [List.getElem?_toArray, List.getElem?_cons_succ, List.getElem?_cons_zero]; rfl) (by kernel_rfl) (by kernel_rfl) (by kernel_rfl) (by kernel_rfl) (by intro _ _ _ h; exact h) (Or.inl ⟨by rfl, fun w hSw => ?_⟩) hHeld ?_
    rotate_left
    · ((try dsimp only at hSw); go_simp; first | done | with_reducible rfl | rfl)
    try simp only [Act.put, List.setIfInBounds_toArray, List.set_cons_zero, List.set_cons_succ]
    refine AnyT.take (i := 25) (v := ?_) (by simp only [List.getElem?_toArray, List.getElem?_cons_succ, List.getElem?_cons_zero]; rfl) (by kernel_rfl) (by kernel_rfl) (by kernel_rfl) (by kernel_rfl) (by intro _ _ _ h; exact h) (Or.inl ⟨by rfl, fun w hSw => ?_⟩) hHeld ?_
    rotate_left
    · ((try dsimp only at hSw); go_simp; first | done | with_reducible rfl | rfl)
    try simp only [Act.put, List.setIfInBounds_toArray, List.set_cons_zero, List.set_cons_succ]
    refine AnyT.take (i := 26) (v := ?_) (by simp only [List.getElem?_toArray, List.getElem?_cons_succ, List.getElem?_cons_zero]; rfl) (by kernel_rfl) (by kernel_rfl) (by kernel_rfl) (by kernel_rfl) (by intro _ _ _ h; exact h) (Or.inl ⟨by rfl, fun w hSw => ?_⟩) hHeld ?_
    rotate_left
    · ((try dsimp only at hSw); go_simp; first | done | with_reducible rfl | rfl)
    try simp only [Act.put, List.setIfInBounds_toArray, List.set_cons_zero, List.set_cons_succ]
    refine AnyT.take (i := 27) (v := ?_) (by simp only [List.getElem?_toArray, List.getElem?_cons_succ, List.getElem?_cons_zero]; rfl) (by kernel_rfl) (by kernel_rfl) (by kernel_rfl) (by kernel_rfl) (by intro _ _ _ h; exact h) (Or.inl ⟨by rfl, fun w hSw => ?_⟩) hHeld ?_
    rotate_left
    · ((try dsimp only at hSw); go_simp; first | done | with_reducible rfl | rfl)
    try simp only [Act.put, List.setIfInBounds_toArray, List.set_cons_zero, List.set_cons_succ]
    refine AnyT.take (i := 28) (v := ?_) (by simp only [List.getElem?_toArray, List.getElem?_cons_succ, List.getElem?_cons_zero]; rfl) (by kernel_rfl) (by kernel_rfl) (by kernel_rfl) (by kernel_rfl) (by intro _ _ _ h; exact h) (Or.inl ⟨by rfl, fun w hSw => ?_⟩) hHeld ?_
    rotate_left
    · ((try dsimp only at hSw); go_simp; first | done | with_reducible rfl | rfl)
    try simp only [Act.put, List.setIfInBounds_toArray, List.set_cons_zero, List.set_cons_succ]
    refine AnyT.take (i := 29) (v := ?_) (by simp only [List.getElem?_toArray, List.getElem?_cons_succ, List.getElem?_cons_zero]; rfl) (by kernel_rfl) (by kernel_rfl) (by kernel_rfl) (by kernel_rfl) (by intro _ _ _ h; exact h) (Or.inl ⟨by rfl, fun w hSw => ?_⟩) hHeld ?_
    rotate_left
    · ((try dsimp only at hSw); go_simp; first | done | with_reducible rfl | rfl)
    try simp only [Act.put, List.setIfInBounds_toArray, List.set_cons_zero, List.set_cons_succ]
    refine AnyT.take (i := 30) (v := ?_) (by simp only [List.getElem?_toArray, List.getElem?_cons_succ, List.getElem?_cons_zero]; rfl) (by kernel_rfl) (by kernel_rfl) (by kernel_rfl) (by kernel_rfl) (by intro _ _ _ h; exact h) (Or.inl ⟨by rfl, fun w hSw => ?_⟩) hHeld ?_
    rotate_left
    · ((try dsimp only at hSw); go_simp; first | done | with_reducible rfl | rfl)
    try simp only [Act.put, List.setIfInBounds_toArray, List.set_cons_zero, List.set_cons_succ]
    refine AnyT.take (i := 31) (v := ?_) (by simp only [List.getElem?_toArray, List.getElem?_cons_succ, List.getElem?_cons_zero]; rfl) (by kernel_rfl) (by kernel_rfl) (by kernel_rfl) (by kernel_rfl) (by intro _ _ _ h; exact h) (Or.inl ⟨by rfl, fun w hSw => ?_⟩) hHeld ?_
    rotate_left
    · ((try dsimp only at hSw); go_simp; first | done | with_reducible rfl | rfl)
    try simp only [Act.put, List.setIfInBounds_toArray, List.set_cons_zero, List.set_cons_succ]
    refine AnyT.ready (rs := [32]) (by kernel_rfl) (by simp) ?_
    refine AllT.cons (by simp only [List.getElem?_toArray, List.getElem?_cons_succ, List.getElem?_cons_zero]; rfl) (fun K hK => ?_) AllT.nil
    go_simp
    refine (cmpCompare_any A3 (some ⟨lg, lo, none⟩) kl ll (c1 - ko) lc en.k lim _ ((HO3.out.drew).st HB3.out (fun y hy => by simp [hy])) ((HO3.out.drew).st HLR.out (fun y hy => by simp [hy])) HL.out.1 HLL.out.symm).mono ?_
    rintro e3 w3 ⟨rfl, ho3⟩
    rw [HCMP.out]
    have HO4 := hid (HO3.out.drew.only0 ho3)
    have j2 := keepc ((Only.refl [] _).drew.trans ho3) i2
    have j3 := keepc ((Only.refl [] _).drew.trans ho3) i3
    have j6 := keepc ((Only.refl [] _).drew.trans ho3) i6
    have j0 := keepc ((Only.refl [] _).drew.trans ho3) q0
    have jl := keepc ((Only.refl [] _).drew.trans ho3) cl
    clear ho3 hm
    try go_wp2_with fail
    refine hK.out _ _ ?_ (fun hHeld => ?_)
    · exact ⟨j2, j3, j6, j0, jl⟩
    clear hK
    try simp only [Act.put, List.setIfInBounds_toArray, List.set_cons_zero, List.set_cons_succ]
    refine AnyT.take (i := 33) (v := ?_) (by simp only [List.getElem?_toArray, List.getElem?_cons_succ, List.getElem?_cons_zero]; rfl) (by kernel_rfl) (by kernel_rfl) (by kernel_rfl) (by kernel_rfl) (by intro _ _ _ h; exact h) (Or.inl ⟨by rfl, fun w hSw => ?_⟩) hHeld ?_
    rotate_left
    · ((try dsimp only at hSw); go_simp; first | done | with_reducible rfl | rfl)
    try simp only [Act.put, List.setIfInBounds_toArray, List.set_cons_zero, List.set_cons_succ]
    refine AnyT.take (i := 34) (v := ?_) (by simp only [List.getElem?_toArray, List.getElem?_cons_succ, List.getElem?_cons_zero]; rfl) (by kernel_rfl) (by kernel_rfl) (by kernel_rfl) (by kernel_rfl) (by intro _ _ _ h; exact h) (Or.inl ⟨by rfl, fun w hSw => ?_⟩) hHeld ?_
    rotate_left
    · ((try dsimp only at hSw); go_simp; first | done | with_reducible rfl | rfl)
    try simp only [Act.put, List.setIfInBounds_toArray, List.set_cons_zero, List.set_cons_succ]
    refine AnyT.take (i := 35) (v := ?_) (by simp only [List.getElem?_toArray, List.getElem?_cons_succ, List.getElem?_cons_zero]; rfl) (by kernel_rfl) (by kernel_rfl) (by kernel_rfl) (by kernel_rfl) (by intro _ _ _ h; exact h) (Or.inl ⟨by rfl, fun w hSw => ?_⟩) hHeld ?_
    rotate_left
    · ((try dsimp only at hSw); go_simp; first | done | with_reducible rfl | rfl)
    try simp only [Act.put, List.setIfInBounds_toArray, List.set_cons_zero, List.set_cons_succ]
    refine AnyT.done (by kernel_rfl) ?_ _
    clear hHeld j2 j3 j6 j0 jl d1'
    obtain ⟨i1, i2, i3, i4, i5, i6, i7, i8, fz⟩ := iFr_cells HO4.out
    have HO5 := hid (iFr_node HO4.out 0)
    clear i1 i2 i3 i5 i6 i7 i8 q0 cl cs HO3 HO4
    go_wp2_with fail
    go_step3
    exact ⟨rfl, exJ q _ _ rfl ⟨_, HO5⟩⟩
end Go.Proofs.YtloflmcgbbbnjaaDoor
namespace Go.Proofs.YtloflmcgbbbnjaaDoor
open Go.RowKit Plain
set_option linter.all false

/-- No range, or one. -/
def RgS (R : List Fr) (w0 : World) (sv : Value) (s e : List UInt8) : Prop := (sv = .pointer none ∧ s = [] ∧ e = []) ∨ ∃ sg v1 v2, sv = .pointer (some ⟨sg, 0, none⟩) ∧ RgD R w0 sg v1 v2 s e
/-- What is read of a database while it is walked along. -/
structure DbD (g : Nat) (A : Option Addr) (n1 c1 b n2 c2 mh : Nat) (kv : List UInt8) (nd : List Nat) (es : List En) (R : List Fr) (w0 : World) : Prop where
  ok : DbOk kv nd mh es
  r : St R w0 fun w => DbR w g A n1 c1 b n2 c2 mh kv nd
  cap : c1 ≤ maxLen
section
variable {g : Nat} {A : Option Addr} {n1 c1 b n2 c2 mh : Nat} {kv : List UInt8} {nd : List Nat} {es : List En} {R : List Fr} {w0 w : World}
theorem nodeOf_get {es : List En} {i : Nat} {en : En} (h : es[i]? = some en) : nodeOf es i = en.nd.p := by unfold nodeOf; rw [h]
theorem nodeOf_out {es : List En} {i : Nat} (h : es.length ≤ i) : nodeOf es i = 0 := by unfold nodeOf; rw [List.getElem?_eq_none h]
theorem fill_fwd (hD : DbD g A n1 c1 b n2 c2 mh kv nd es R w0) (q : Nat) (sv : Value) (s lim : List UInt8) (fwd : Bool) (kv0 vv0 : Value) (i node : Nat) (hR : RgS R w0 sv s lim) (hO : Own (iFr q g sv node fwd kv0 vv0 :: R) w0 w) (hn : node = nodeOf es i) :
    Calls Tryd.prog 236 #[.pointer (some ⟨q, 0, none⟩), .bool false, .bool true] w (FillOut q g A c1 sv fwd es i (rHi es lim) R w0) := by
  subst hn
  rcases Nat.lt_or_ge i es.length with hi | hi
  · have he : es[i]? = some es[i] := List.getElem?_eq_getElem hi
    rw [nodeOf_get he] at hO
    rcases hR with ⟨rfl, rfl, rfl⟩ | ⟨sg, v1, v2, rfl, hR⟩
    · exact fill_n q g A n1 c1 b n2 c2 mh fwd false true kv0 vv0 kv nd es _ i (rHi es []) R w0 w hD.ok hD.r hD.cap he hO (by unfold rHi; rw [if_pos rfl]; exact hi)
    · rcases Nat.lt_or_ge i (rHi es lim) with h1 | h1
      · exact fill_r1 q g sg v1 v2 s lim A n1 c1 b n2 c2 mh fwd kv0 vv0 kv nd es _ i R w0 w hD.ok hD.r hD.cap he hO hR h1
      · exact fill_r2 q g sg v1 v2 s lim A n1 c1 b n2 c2 mh fwd kv0 vv0 kv nd es _ i R w0 w hD.ok hD.r hD.cap he hO hR h1
  · rw [nodeOf_out hi] at hO
    exact fill_none q g A c1 sv fwd false true kv0 vv0 es i (rHi es lim) R w0 w hO (Nat.le_trans (rHi_le _ _) hi)
end
theorem head0 {kv : List UInt8} {nd : List Nat} {mh : Nat} {es : List En} (ok : DbOk kv nd mh es) : nd[4]? = some (nodeOf es 0) := by
  have h := ok.skip.linked [] hdN (es.map En.nd) rfl 0 (by decide)
  rw [nx0 (fun e he => (ok.high he).1)] at h
  exact h
set_option maxHeartbeats 6400000 in
set_option maxRecDepth 100000 in
theorem itFirst {g : Nat} {A : Option Addr} {n1 c1 b n2 c2 mh : Nat} {kv : List UInt8} {nd : List Nat} {es : List En} {R : List Fr} {w0 w : World} (hD : DbD g A n1 c1 b n2 c2 mh kv nd es R w0) (q : Nat) (sv : Value) (s lim : List UInt8) (fwd : Bool) (node : Nat) (kv0 vv0 : Value) (hR : RgS R w0 sv s lim) (hO : Own (iFr q g sv node fwd kv0 vv0 :: R) w0 w) :
    Calls Tryd.prog 227 #[.pointer (some ⟨q, 0, none⟩)] w (FillOut q g A c1 sv true es (rLo es s) (rHi es lim) R w0) := by
  have HD := hid hD
  have HR := hid hR
  have hc := iFr_cells hO
  have HO1 := hid (iFr_fwd hO true)
  obtain ⟨i1, i2, i3, i4, i5, i6, i7, i8, fz⟩ := hc
  clear hD hR hO i6 i7 i8
  go_enter Tryd.func227, Tryd.ntmps227
  go_wp2_with fail
  refine (released q w i1).mono ?_
  rintro e w1 ⟨rfl, rfl⟩
  go_upto_region 5 with fail
  generalize (World.setCell _ _ _) = W at HO1 ⊢
  clear i1 i2 i3 i4 i5 fz
  obtain ⟨i1, i2, i3, i4, i5, i6, i7, i8, fz⟩ := iFr_cells HO1.out
  clear i1 i5 i6 i7 i8
  rcases HR.out with ⟨rfl, rfl, rfl⟩ | ⟨sg, v1, v2, rfl, hRD⟩
  · skip
    have hr := HO1.out.st HD.out.r (fun y hy => by simp [hy])
    have q3 := hr.q3
    obtain ⟨a4, l4⟩ := hr.bn.cell _ _ (head0 HD.out.ok)
    have l4' : (4 : Int) < (n2 : Int) := by omega
    have HO2 := hid (iFr_node HO1.out (nodeOf es 0))
    obtain ⟨n0, hn0⟩ : ∃ n0, nodeOf es 0 = n0 := ⟨_, rfl⟩
    rw [hn0] at a4 HO2
    have HN0 := hid hn0
    clear hr hn0
    go_wp2_with fail
    have hnn : n0 = nodeOf es (rLo es []) := by rw [← HN0.out]; unfold rLo; rw [if_pos rfl]
    refine (fill_fwd HD.out q _ _ _ true _ _ _ _ HR.out HO2.out hnn).mono ?_
    rintro e w2 hout
    rcases hout with ⟨h1, rfl, hx⟩ | ⟨h1, rfl, hx⟩
    · have HOUT := hid (And.intro h1 hx)
      clear h1 hx
      go_wp2_with fail
      go_ret
      exact .inl ⟨HOUT.out.1, rfl, HOUT.out.2⟩
    · have HOUT := hid (And.intro h1 hx)
      clear h1 hx
      go_wp2_with fail
      go_ret
      exact .inr ⟨HOUT.out.1, rfl, HOUT.out.2⟩
  · obtain ⟨cs, -⟩ := HO1.out.st hRD.c (fun y hy => by simp [hy])
    rcases hRD.s with ⟨rfl, rfl⟩ | ⟨hne, lg, lo, lc, rfl, hlc, hll, hlr⟩
    · skip
      clear hRD
      have hr := HO1.out.st HD.out.r (fun y hy => by simp [hy])
      have q3 := hr.q3
      obtain ⟨a4, l4⟩ := hr.bn.cell _ _ (head0 HD.out.ok)
      have l4' : (4 : Int) < (n2 : Int) := by omega
      have HO2 := hid (iFr_node HO1.out (nodeOf es 0))
      obtain ⟨n0, hn0⟩ : ∃ n0, nodeOf es 0 = n0 := ⟨_, rfl⟩
      rw [hn0] at a4 HO2
      have HN0 := hid hn0
      clear hr hn0
      go_wp2_with fail
      have hnn : n0 = nodeOf es (rLo es []) := by rw [← HN0.out]; unfold rLo; rw [if_pos rfl]
      refine (fill_fwd HD.out q _ _ _ true _ _ _ _ HR.out HO2.out hnn).mono ?_
      rintro e w2 hout
      rcases hout with ⟨h1, rfl, hx⟩ | ⟨h1, rfl, hx⟩
      · have HOUT := hid (And.intro h1 hx)
        clear h1 hx
        go_wp2_with fail
        go_ret
        exact .inl ⟨HOUT.out.1, rfl, HOUT.out.2⟩
      · have HOUT := hid (And.intro h1 hx)
        clear h1 hx
        go_wp2_with fail
        go_ret
        exact .inr ⟨HOUT.out.1, rfl, HOUT.out.2⟩
    · have HHD := hid hRD
      have HLR := hid hlr
      have HNE := hid hne
      clear hRD hlr hne hlc hll
      go_wp2_with fail
      refine AnyT.start (S := fun w' => w'.cell? ⟨q, 2, none⟩ = some (.pointer (some ⟨g, 0, none⟩)) ∧ w'.cell? ⟨q, 3, none⟩ = some (.pointer (some ⟨sg, 0, none⟩)) ∧ w'.cell? ⟨sg, 0, none⟩ = some (.slice (some ⟨lg, lo, none⟩) s.length lc)) (T := []) (by kernel_rfl) (⟨i2, i3, cs⟩) (fun hHeld => ?_)
      refine AnyT.take (i := 0) (v := ?_) (by simp only [List.getElem?_toArray, List.getElem?_cons_succ, List.getElem?_cons_zero]; rfl) (by kernel_rfl) (by kernel_rfl) (by kernel_rfl) (by kernel_rfl) (by intro _ _ _ h; exact h) (Or.inl ⟨by rfl, fun w hSw => ?_⟩) hHeld ?_
      rotate_left
      · ((try dsimp only at hSw); go_simp; first | done | with_reducible rfl | rfl)
      try simp only [Act.put, List.setIfInBounds_toArray, List.set_cons_zero, List.set_cons_succ]
      refine AnyT.take (i := 1) (v := ?_) (by simp only [List.getElem?_toArray, List.getElem?_cons_succ, List.getElem?_cons_zero]; rfl) (by kernel_rfl) (by kernel_rfl) (by kernel_rfl) (by kernel_rfl) (by intro _ _ _ h; exact h) (Or.inl ⟨by rfl, fun w hSw => ?_⟩) hHeld ?_
      rotate_left
      · ((try dsimp only at hSw); go_simp; first | done | with_reducible rfl | rfl)
      try simp only [Act.put, List.setIfInBounds_toArray, List.set_cons_zero, List.set_cons_succ]
      refine AnyT.take (i := 2) (v := ?_) (by simp only [List.getElem?_toArray, List.getElem?_cons_succ, List.getElem?_cons_zero]; rfl) (by kernel_rfl) (by kernel_rfl) (by kernel_rfl) (by kernel_rfl) (by intro _ _ _ h; exact h) (Or.inl ⟨by rfl, fun w hSw => ?_⟩) hHeld ?_
      rotate_left
      · ((try dsimp only at hSw); go_simp; first | done | with_reducible rfl | rfl)
      try simp only [Act.put, List.setIfInBounds_toArray, List.set_cons_zero, List.set_cons_succ]
      refine AnyT.take (i := 3) (v := ?_) (by simp only [List.getElem?_toArray, List.getElem?_cons_succ, List.getElem?_cons_zero]; rfl) (by kernel_rfl) (by kernel_rfl) (by kernel_rfl) (by kernel_rfl) (by intro _ _ _ h; exact h) (Or.inl ⟨by rfl, fun w hSw => ?_⟩) hHeld ?_
      rotate_left
      · ((try dsimp only at hSw); go_simp; first | done | with_reducible rfl | rfl)
      try simp only [Act.put, List.setIfInBounds_toArray, List.set_cons_zero, List.set_cons_succ]
      refine AnyT.take (i := 4) (v := ?_) (by simp only [List.getElem?_toArray, List.getElem?_cons_succ, List.getElem?_cons_zero]; rfl) (by kernel_rfl) (by kernel_rfl) (by kernel_rfl) (by kernel_rfl) (by intro _ _ _ h; exact h) (Or.inl ⟨by rfl, fun w hSw => ?_⟩) hHeld ?_
      rotate_left
      · ((try dsimp only at hSw); go_simp; first | done | with_reducible rfl | rfl)
      try simp only [Act.put, List.setIfInBounds_toArray, List.set_cons_zero, List.set_cons_succ]
      refine AnyT.take (i := 5) (v := ?_) (by simp only [List.getElem?_toArray, List.getElem?_cons_succ, List.getElem?_cons_zero]; rfl) (by kernel_rfl) (by kernel_rfl) (by kernel_rfl) (by kernel_rfl) (by intro _ _ _ h; exact h) (Or.inl ⟨by rfl, fun w hSw => ?_⟩) hHeld ?_
      rotate_left
      · ((try dsimp only at hSw); go_simp; first | done | with_reducible rfl | rfl)
      try simp only [Act.put, List.setIfInBounds_toArray, List.set_cons_zero, List.set_cons_succ]
      refine AnyT.take (i := 6) (v := ?_) (by simp only [List.getElem?_toArray, List.getElem?_cons_succ, List.getElem?_cons_zero]; rfl) (by kernel_rfl) (by kernel_rfl) (by kernel_rfl) (by kernel_rfl) (by intro _ _ _ h; exact h) (Or.inl ⟨by rfl, fun w hSw => ?_⟩) hHeld ?_
      rotate_left
      · ((try dsimp only at hSw); go_simp; first | done | with_reducible rfl | rfl)
      try simp only [Act.put, List.setIfInBounds_toArray, List.set_cons_zero, List.set_cons_succ]
      refine AnyT.take (i := 7) (v := ?_) (by simp only [List.getElem?_toArray, List.getElem?_cons_succ, List.getElem?_cons_zero]; rfl) (by kernel_rfl) (by kernel_rfl) (by kernel_rfl) (by kernel_rfl) (by intro _ _ _ h; exact h) (Or.inl ⟨by rfl, fun w hSw => ?_⟩) hHeld ?_
      rotate_left
      · ((try dsimp only at hSw); go_simp; first | done | with_reducible rfl | rfl)
      try simp only [Act.put, List.setIfInBounds_toArray, List.set_cons_zero, List.set_cons_succ]
      refine AnyT.take (i := 8) (v := ?_) (by simp only [List.getElem?_toArray, List.getElem?_cons_succ, List.getElem?_cons_zero]; rfl) (by kernel_rfl) (by kernel_rfl) (by kernel_rfl) (by kernel_rfl) (by intro _ _ _ h; exact h) (Or.inl ⟨by rfl, fun w hSw => ?_⟩) hHeld ?_
      rotate_left
      · ((try dsimp only at hSw); go_simp; first | done | with_reducible rfl | rfl)
      try simp only [Act.put, List.setIfInBounds_toArray, List.set_cons_zero, List.set_cons_succ]
      refine AnyT.take (i := 9) (v := ?_) (by simp only [List.getElem?_toArray, List.getElem?_cons_succ, List.getElem?_cons_zero]; rfl) (by kernel_rfl) (by kernel_rfl) (by kernel_rfl) (by kernel_rfl) (by intro _ _ _ h; exact h) (Or.inl ⟨by rfl, fun w hSw => ?_⟩) hHeld ?_
      rotate_left
      · ((try dsimp only at hSw); go_simp; first | done | with_reducible rfl | rfl)
      try simp only [Act.put, List.setIfInBounds_toArray, List.set_cons_zero, List.set_cons_succ]
      refine AnyT.take (i := 10) (v := ?_) (by simp only [List.getElem?_toArray, List.getElem?_cons_succ, List.getElem?_cons_zero]; rfl) (by kernel_rfl) (by kernel_rfl) (by kernel_rfl) (by kernel_rfl) (by intro _ _ _ h; exact h) (Or.inl ⟨by rfl, fun w hSw => ?_⟩) hHeld ?_
      rotate_left
      · ((try dsimp only at hSw); go_simp; first | done | with_reducible rfl | rfl)
      try simp only [Act.put, List.setIfInBounds_toArray, List.set_cons_zero, List.set_cons_succ]
      refine AnyT.take (i := 11) (v := ?_) (by simp only [List.getElem?_toArray, List.getElem?_cons_succ, List.getElem?_cons_zero]; rfl) (by kernel_rfl) (by kernel_rfl) (by kernel_rfl) (by kernel_rfl) (by intro _ _ _ h; exact h) (Or.inl ⟨by rfl, fun w hSw => ?_⟩) hHeld ?_
      rotate_left
      · ((try dsimp only at hSw); go_simp; first | done | with_reducible rfl | rfl)
      try simp only [Act.put, List.setIfInBounds_toArray, List.set_cons_zero, List.set_cons_succ]
      refine AnyT.ready (rs := [12]) (by kernel_rfl) (by simp) ?_
      refine AllT.cons (by simp only [List.getElem?_toArray, List.getElem?_cons_succ, List.getElem?_cons_zero]; rfl) (fun K hK => ?_) AllT.nil
      go_simp
      refine (findGE_r g A (some ⟨lg, lo, none⟩) n1 c1 b n2 c2 mh s.length lc kv nd es s _ HD.out.ok (HO1.out.drew.st HD.out.r (fun y hy => by simp [hy])) (HO1.out.drew.st HLR.out (fun y hy => by simp [hy])) rfl).mono ?_
      rintro e w3 ⟨rfl, ho3⟩
      have HO3 := hid (HO1.out.drew.only0 ho3)
      have j2 := keepc ((Only.refl [] _).drew.trans ho3) i2
      have j3 := keepc ((Only.refl [] _).drew.trans ho3) i3
      have js := keepc ((Only.refl [] _).drew.trans ho3) cs
      have j4 := keepc ((Only.refl [] _).drew.trans ho3) i4
      have fz3 := (iFr_cells HO3.out).fz
      obtain ⟨n0, hn0⟩ : ∃ n0, nodeOf es (mAt En.k es s) = n0 := ⟨_, rfl⟩
      rw [hn0]
      have HN0 := hid hn0
      have HO2 := hid (iFr_node HO3.out n0)
      clear hn0 ho3 i2 i3 i4 cs fz HO1
      try go_wp2_with fail
      refine hK.out _ _ ?_ (fun hHeld => ?_)
      · exact ⟨j2, j3, js⟩
      clear hK
      try simp only [Act.put, List.setIfInBounds_toArray, List.set_cons_zero, List.set_cons_succ]
      refine AnyT.take (i := 13) (v := ?_) (by simp only [List.getElem?_toArray, List.getElem?_cons_succ, List.getElem?_cons_zero]; rfl) (by kernel_rfl) (by kernel_rfl) (by kernel_rfl) (by kernel_rfl) (by intro _ _ _ h; exact h) (Or.inl ⟨by rfl, fun w hSw => ?_⟩) hHeld ?_
      rotate_left
      · ((try dsimp only at hSw); go_simp; first | done | with_reducible rfl | rfl)
      try simp only [Act.put, List.setIfInBounds_toArray, List.set_cons_zero, List.set_cons_succ]
      refine AnyT.take (i := 14) (v := ?_) (by simp only [List.getElem?_toArray, List.getElem?_cons_succ, List.getElem?_cons_zero]; rfl) (by kernel_rfl) (by kernel_rfl) (by kernel_rfl) (by kernel_rfl) (by intro _ _ _ h; exact h) (Or.inl ⟨by rfl, fun w hSw => ?_⟩) hHeld ?_
      rotate_left
      · ((try dsimp only at hSw); go_simp; first | done | with_reducible rfl | rfl)
      try simp only [Act.put, List.setIfInBounds_toArray, List.set_cons_zero, List.set_cons_succ]
      refine AnyT.take (i := 15) (v := ?_) (by simp only [List.getElem?_toArray, List.getElem?_cons_succ, List.getElem?_cons_zero]; rfl) (by kernel_rfl) (by kernel_rfl) (by kernel_rfl) (by kernel_rfl) (by intro _ _ _ h; exact h) (Or.inl ⟨by rfl, fun w hSw => ?_⟩) hHeld ?_
      rotate_left
      · ((try dsimp only at hSw); go_simp; first | done | with_reducible rfl | rfl)
      try simp only [Act.put, List.setIfInBounds_toArray, List.set_cons_zero, List.set_cons_succ]
      refine AnyT.take (i := 16) (v := ?_) (by simp only [List.getElem?_toArray, List.getElem?_cons_succ, List.getElem?_cons_zero]; rfl) (by kernel_rfl) (by kernel_rfl) (by kernel_rfl) (by kernel_rfl) (by intro _ _ _ h; exact h) (Or.inl ⟨by rfl, fun w hSw => ?_⟩) hHeld ?_
      rotate_left
      · ((try dsimp only at hSw); go_simp; first | done | with_reducible rfl | rfl)
      try simp only [Act.put, List.setIfInBounds_toArray, List.set_cons_zero, List.set_cons_succ]
      refine AnyT.take (i := 17) (v := ?_) (by simp only [List.getElem?_toArray, List.getElem?_cons_succ, List.getElem?_cons_zero]; rfl) (by kernel_rfl) (by kernel_rfl) (by kernel_rfl) (by kernel_rfl) (by intro _ _ _ h; exact h) (Or.inl ⟨by rfl, fun w hSw => ?_⟩) hHeld ?_
      rotate_left
      · ((try dsimp only at hSw); go_simp; first | done | with_reducible rfl | rfl)
      try simp only [Act.put, List.setIfInBounds_toArray, List.set_cons_zero, List.set_cons_succ]
      refine AnyT.ready (rs := [18]) (by kernel_rfl) (by simp) ?_
      refine AllT.cons (by simp only [List.getElem?_toArray, List.getElem?_cons_succ, List.getElem?_cons_zero]; rfl) (fun K hK => ?_) AllT.nil
      have k2 := (iFr_cells HO2.out).i2
      have k3 := (iFr_cells HO2.out).i3
      have ks := (HO2.out.st HHD.out.c (fun y hy => by simp [hy])).1
      go_simp
      refine hK.out _ _ ?_ (fun hHeld => ?_)
      · exact ⟨k2, k3, ks⟩
      clear hK
      try simp only [Act.put, List.setIfInBounds_toArray, List.set_cons_zero, List.set_cons_succ]
      refine AnyT.done (by kernel_rfl) ?_ _
      clear k2 k3 ks
      clear hHeld j2 j3 js j4 fz3
      go_wp2_with fail
      have hnn : n0 = nodeOf es (rLo es s) := by rw [← HN0.out]; unfold rLo; rw [if_neg HNE.out]
      refine (fill_fwd HD.out q _ _ _ true _ _ _ _ HR.out HO2.out hnn).mono ?_
      rintro e w2 hout
      rcases hout with ⟨h1, rfl, hx⟩ | ⟨h1, rfl, hx⟩
      · have HOUT := hid (And.intro h1 hx)
        clear h1 hx
        go_wp2_with fail
        go_ret
        exact .inl ⟨HOUT.out.1, rfl, HOUT.out.2⟩
      · have HOUT := hid (And.intro h1 hx)
        clear h1 hx
        go_wp2_with fail
        go_ret
        exact .inr ⟨HOUT.out.1, rfl, HOUT.out.2⟩
end Go.Proofs.YtloflmcgbbbnjaaDoor
namespace Go.Proofs.YtloflmcgbbbnjaaDoor
open Go.RowKit Plain
set_option linter.all false

/-- Where an iterator stands, and what it shows. -/
def IAt (A : Option Addr) (c1 : Nat) (es : List En) (lo hi : Nat) (p : Int) (node : Nat) (fwd : Bool) (kv vv : Value) : Prop :=
  (∃ (i : Nat) (en : En), p = (i : Int) ∧ lo + i < hi ∧ es[lo + i]? = some en ∧ node = en.nd.p ∧ kv = kSl A c1 en ∧ vv = vSl A c1 en) ∨
  (((p < 0 ∧ fwd = false) ∨ (0 ≤ p ∧ (hi : Int) ≤ (lo : Int) + p ∧ fwd = true)) ∧ node = 0 ∧ kv = .slice none 0 0 ∧ vv = .slice none 0 0)
def II (q g : Nat) (A : Option Addr) (c1 : Nat) (sv : Value) (es : List En) (lo hi : Nat) (p : Int) (F : List Fr) : Prop :=
  ∃ node fwd kv vv, F = [iFr q g sv node fwd kv vv] ∧ IAt A c1 es lo hi p node fwd kv vv
theorem fill_to {q g : Nat} {A : Option Addr} {c1 : Nat} {sv : Value} {es : List En} {lo hi j : Nat} {R : List Fr} {w0 w' : World} {e : Ending} (h : FillOut q g A c1 sv true es (lo + j) hi R w0 e w') : ItBool (hi - lo) (II q g A c1 sv es lo hi) (j : Int) R w0 e w' := by
  rcases h with ⟨h1, rfl, en, he, hO⟩ | ⟨h1, rfl, hO⟩
  · exact ⟨by rw [wval_iff.2 ⟨by omega, by omega⟩], _, ⟨_, _, _, _, rfl, .inl ⟨j, en, rfl, h1, he, rfl, rfl, rfl⟩⟩, hO⟩
  · exact ⟨by rw [wval_not.2 (.inr (by omega))], _, ⟨_, _, _, _, rfl, .inr ⟨.inr ⟨by omega, by omega, rfl⟩, rfl, rfl, rfl⟩⟩, hO⟩
theorem next0 {kv : List UInt8} {nd : List Nat} {mh : Nat} {es : List En} (ok : DbOk kv nd mh es) {i : Nat} {en : En} (he : es[i]? = some en) : nd[en.nd.p + 4]? = some (nodeOf es (i + 1)) := by
  obtain ⟨hs1, -⟩ := set_split he en
  have hl := ok.skip.linked
  conv at hl => arg 2; rw [hs1]
  rw [List.map_append, List.map_cons] at hl
  have h := hl (hdN :: (es.take i).map En.nd) en.nd ((es.drop (i + 1)).map En.nd) (by simp) 0 (by have := (ok.high (List.mem_of_getElem? he)).1; omega)
  rw [nx0 (fun e h => (ok.high (List.mem_of_mem_drop h)).1), nodeOf_drop, Nat.add_zero, Nat.add_zero] at h
  exact h
theorem mAt_self {kv : List UInt8} {nd : List Nat} {mh : Nat} {es : List En} (ok : DbOk kv nd mh es) {i : Nat} {en : En} (he : es[i]? = some en) : mAt En.k es en.k = i := by
  obtain ⟨hl, rfl⟩ := List.getElem?_eq_some_iff.1 he
  have ha := List.pairwise_iff_getElem.1 ok.asc
  have h := mAt_split En.k (es.take i) (es.drop i) es[i].k (fun x hx => by
    obtain ⟨j, hj, rfl⟩ := List.getElem_of_mem hx
    rw [List.length_take] at hj
    rw [List.getElem_take]
    exact ha j i (by omega) hl (by omega)) (fun x hx => by
    obtain ⟨j, hj, rfl⟩ := List.getElem_of_mem hx
    rw [List.length_drop] at hj
    rw [List.getElem_drop]
    rcases Nat.eq_zero_or_pos j with h0 | h0
    · subst h0; simp only [Nat.add_zero]; rw [cmpI_refl]; omega
    · have h1 := ha i (i + j) hl (by omega) (by omega)
      have := cmpI_anti es[i].k es[i + j].k
      omega)
  rw [List.take_append_drop, List.length_take] at h
  omega
set_option maxHeartbeats 3200000 in
set_option maxRecDepth 100000 in
theorem itNext {g : Nat} {A : Option Addr} {n1 c1 b n2 c2 mh : Nat} {kv : List UInt8} {nd : List Nat} {es : List En} {R : List Fr} {w0 w : World} (hD : DbD g A n1 c1 b n2 c2 mh kv nd es R w0) (q : Nat) (sv : Value) (s lim : List UInt8) (p : Int) (F : List Fr) (hR : RgS R w0 sv s lim) (hI : II q g A c1 sv es (rLo es s) (rHi es lim) p F) (hp : -1 ≤ p ∧ p ≤ ((rHi es lim - rLo es s : Nat) : Int)) (hO : Own (F ++ R) w0 w) :
    Calls Tryd.prog 230 #[.pointer (some ⟨q, 0, none⟩)] w (ItBool (rHi es lim - rLo es s) (II q g A c1 sv es (rLo es s) (rHi es lim)) (min (p + 1) ((rHi es lim - rLo es s : Nat) : Int)) R w0) := by
  obtain ⟨node, fwd, kv0, vv0, rfl, hat⟩ := hI
  have HD := hid hD
  have HR := hid hR
  have hc := iFr_cells hO
  obtain ⟨i1, i2, i3, i4, i5, i6, i7, i8, fz⟩ := hc
  rcases hat with ⟨i, en, rfl, hlt, he, rfl, rfl, rfl⟩ | ⟨hx, rfl, rfl, rfl⟩
  · have hr := hO.st hD.r (fun y hy => by simp [hy])
    have hn := next0 hD.ok he
    obtain ⟨-, l4⟩ := hr.bn.cell _ _ hn
    have hp16 := hD.ok.p16 (List.mem_of_getElem? he)
    have hf := hr.bn.fit
    have hmin : min ((i : Int) + 1) ((rHi es lim - rLo es s : Nat) : Int) = ((i + 1 : Nat) : Int) := by omega
    rw [hmin]
    obtain ⟨en0, hen0⟩ : ∃ en0, en.nd.p = en0 := ⟨_, rfl⟩
    rw [hen0] at hn l4 i4 hp16 hO
    have s4 : IntKind.i64.wrap ((en0 : Int) + 4) = ((en0 + 4 : Nat) : Int) := wrap_add en0 4 (by omega)
    obtain ⟨e4, he4⟩ : ∃ e4, en0 + 4 = e4 := ⟨_, rfl⟩
    rw [he4] at s4 hn l4
    have l4' : (e4 : Int) < (n2 : Int) := by omega
    have n0 : ((en0 : Int) == 0) = false := by rw [beq_eq_false_iff_ne]; omega
    have n0' : ¬ (en0 : Int) = 0 := by omega
    have n0'' : ¬ en0 = 0 := by omega
    obtain ⟨nn, hnn⟩ : ∃ nn, nodeOf es (rLo es s + i + 1) = nn := ⟨_, rfl⟩
    rw [hnn] at hn
    have HNN := hid hnn
    have HNX := hid hn
    have HO1 := hid (iFr_fwd hO true)
    clear hD hR hO hr hn hf hmin hen0 he4 hnn he hlt hp hp16 i6 i7 i8 i2 i3
    go_enter Tryd.func230, Tryd.ntmps230
    go_wp2_with fail
    refine (released q w i1).mono ?_
    rintro e w1 ⟨rfl, rfl⟩
    go_upto_region 9 with fail
    generalize (World.setCell _ _ _) = W at HO1 ⊢
    clear i1 i4 i5 fz
    obtain ⟨i1, i2, i3, i4, i5, i6, i7, i8, fz⟩ := iFr_cells HO1.out
    have hr := HO1.out.st HD.out.r (fun y hy => by simp [hy])
    have q3 := hr.q3
    have a4 := (hr.bn.cell _ _ HNX.out).1
    have HO2 := hid (iFr_node HO1.out.drew nn)
    clear hr i1 i3 i5 i6 i7 i8
    go_wp2_with fail
    refine AnyT.start (S := fun w' => w'.cell? ⟨q, 2, none⟩ = some (.pointer (some ⟨g, 0, none⟩)) ∧ w'.cell? ⟨q, 4, none⟩ = some (.int .i64 (en0 : Int)) ∧ w'.cell? ⟨g, 3, none⟩ = some (.slice (some ⟨b, 0, none⟩) n2 c2) ∧ w'.cell? ⟨b, e4, none⟩ = some (.int .i64 (nn : Int))) (T := [17]) (by kernel_rfl) (⟨i2, i4, q3, a4⟩) (fun hHeld => ?_)
    refine AnyT.take (i := 0) (v := ?_) (by simp only [List.getElem?_toArray, List.getElem?_cons_succ, List.getElem?_cons_zero]; rfl) (by kernel_rfl) (by kernel_rfl) (by kernel_rfl) (by kernel_rfl) (by intro _ _ _ h; exact h) (Or.inl ⟨by rfl, fun w hSw => ?_⟩) hHeld ?_
    rotate_left
    · ((try dsimp only at hSw); go_simp; first | done | with_reducible rfl | rfl)
    try simp only [Act.put, List.setIfInBounds_toArray, List.set_cons_zero, List.set_cons_succ]
    refine AnyT.take (i := 1) (v := ?_) (by simp only [List.getElem?_toArray, List.getElem?_cons_succ, List.getElem?_cons_zero]; rfl) (by kernel_rfl) (by kernel_rfl) (by kernel_rfl) (by kernel_rfl) (by intro _ _ _ h; exact h) (Or.inl ⟨by rfl, fun w hSw => ?_⟩) hHeld ?_
    rotate_left
    · ((try dsimp only at hSw); go_simp; first | done | with_reducible rfl | rfl)
    try simp only [Act.put, List.setIfInBounds_toArray, List.set_cons_zero, List.set_cons_succ]
    refine AnyT.take (i := 2) (v := ?_) (by simp only [List.getElem?_toArray, List.getElem?_cons_succ, List.getElem?_cons_zero]; rfl) (by kernel_rfl) (by kernel_rfl) (by kernel_rfl) (by kernel_rfl) (by intro _ _ _ h; exact h) (Or.inl ⟨by rfl, fun w hSw => ?_⟩) hHeld ?_
    rotate_left
    · ((try dsimp only at hSw); go_simp; first | done | with_reducible rfl | rfl)
    try simp only [Act.put, List.setIfInBounds_toArray, List.set_cons_zero, List.set_cons_succ]
    refine AnyT.take (i := 3) (v := ?_) (by simp only [List.getElem?_toArray, List.getElem?_cons_succ, List.getElem?_cons_zero]; rfl) (by kernel_rfl) (by kernel_rfl) (by kernel_rfl) (by kernel_rfl) (by intro _ _ _ h; exact h) (Or.inl ⟨by rfl, fun w hSw => ?_⟩) hHeld ?_
    rotate_left
    · ((try dsimp only at hSw); go_simp; first | done | with_reducible rfl | rfl)
    try simp only [Act.put, List.setIfInBounds_toArray, List.set_cons_zero, List.set_cons_succ]
    refine AnyT.take (i := 4) (v := ?_) (by simp only [List.getElem?_toArray, List.getElem?_cons_succ, List.getElem?_cons_zero]; rfl) (by kernel_rfl) (by kernel_rfl) (by kernel_rfl) (by kernel_rfl) (by intro _ _ _ h; exact h) (Or.inl ⟨by rfl, fun w hSw => ?_⟩) hHeld ?_
    rotate_left
    · ((try dsimp only at hSw); go_simp; first | done | with_reducible rfl | rfl)
    try simp only [Act.put, List.setIfInBounds_toArray, List.set_cons_zero, List.set_cons_succ]
    refine AnyT.take (i := 5) (v := ?_) (by simp only [List.getElem?_toArray, List.getElem?_cons_succ, List.getElem?_cons_zero]; rfl) (by kernel_rfl) (by kernel_rfl) (by kernel_rfl) (by kernel_rfl) (by intro _ _ _ h; exact h) (Or.inl ⟨by rfl, fun w hSw => ?_⟩) hHeld ?_
    rotate_left
    · ((try dsimp only at hSw); go_simp; first | done | with_reducible rfl | rfl)
    try simp only [Act.put, List.setIfInBounds_toArray, List.set_cons_zero, List.set_cons_succ]
    refine AnyT.take (i := 6) (v := ?_) (by simp only [List.getElem?_toArray, List.getElem?_cons_succ, List.getElem?_cons_zero]; rfl) (by kernel_rfl) (by kernel_rfl) (by kernel_rfl) (by kernel_rfl) (by intro _ _ _ h; exact h) (Or.inl ⟨by rfl, fun w hSw => ?_⟩) hHeld ?_
    rotate_left
    · ((try dsimp only at hSw); go_simp; first | done | with_reducible rfl | rfl)
    try simp only [Act.put, List.setIfInBounds_toArray, List.set_cons_zero, List.set_cons_succ]
    refine AnyT.take (i := 7) (v := ?_) (by simp only [List.getElem?_toArray, List.getElem?_cons_succ, List.getElem?_cons_zero]; rfl) (by kernel_rfl) (by kernel_rfl) (by kernel_rfl) (by kernel_rfl) (by intro _ _ _ h; exact h) (Or.inl ⟨by rfl, fun w hSw => ?_⟩) hHeld ?_
    rotate_left
    · ((try dsimp only at hSw); go_simp; first | done | with_reducible rfl | rfl)
    try simp only [Act.put, List.setIfInBounds_toArray, List.set_cons_zero, List.set_cons_succ]
    refine AnyT.take (i := 8) (v := ?_) (by simp only [List.getElem?_toArray, List.getElem?_cons_succ, List.getElem?_cons_zero]; rfl) (by kernel_rfl) (by kernel_rfl) (by kernel_rfl) (by kernel_rfl) (by intro _ _ _ h; exact h) (Or.inl ⟨by rfl, fun w hSw => ?_⟩) hHeld ?_
    rotate_left
    · ((try dsimp only at hSw); go_simp; first | done | with_reducible rfl | rfl)
    try simp only [Act.put, List.setIfInBounds_toArray, List.set_cons_zero, List.set_cons_succ]
    refine AnyT.take (i := 9) (v := ?_) (by simp only [List.getElem?_toArray, List.getElem?_cons_succ, List.getElem?_cons_zero]; rfl) (by kernel_rfl) (by kernel_rfl) (by kernel_rfl) (by kernel_rfl) (by intro _ _ _ h; exact h) (Or.inl ⟨by rfl, fun w hSw => ?_⟩) hHeld ?_
    rotate_left
    · ((try dsimp only at hSw); go_simp; first | done | with_reducible rfl | rfl)
    try simp only [Act.put, List.setIfInBounds_toArray, List.set_cons_zero, List.set_cons_succ]
    refine AnyT.take (i := 10) (v := ?_) (by simp only [List.getElem?_toArray, List.getElem?_cons_succ, List.getElem?_cons_zero]; rfl) (by kernel_rfl) (by kernel_rfl) (by kernel_rfl) (by kernel_rfl) (by intro _ _ _ h; exact h) (Or.inl ⟨by rfl, fun w hSw => ?_⟩) hHeld ?_
    rotate_left
    · ((try dsimp only at hSw); go_simp; first | done | with_reducible rfl | rfl)
    try simp only [Act.put, List.setIfInBounds_toArray, List.set_cons_zero, List.set_cons_succ]
    refine AnyT.take (i := 11) (v := ?_) (by simp only [List.getElem?_toArray, List.getElem?_cons_succ, List.getElem?_cons_zero]; rfl) (by kernel_rfl) (by kernel_rfl) (by kernel_rfl) (by kernel_rfl) (by intro _ _ _ h; exact h) (Or.inl ⟨by rfl, fun w hSw => ?_⟩) hHeld ?_
    rotate_left
    · ((try dsimp only at hSw); go_simp; first | done | with_reducible rfl | rfl)
    try simp only [Act.put, List.setIfInBounds_toArray, List.set_cons_zero, List.set_cons_succ]
    refine AnyT.take (i := 12) (v := ?_) (by simp only [List.getElem?_toArray, List.getElem?_cons_succ, List.getElem?_cons_zero]; rfl) (by kernel_rfl) (by kernel_rfl) (by kernel_rfl) (by kernel_rfl) (by intro _ _ _ h; exact h) (Or.inl ⟨by rfl, fun w hSw => ?_⟩) hHeld ?_
    rotate_left
    · ((try dsimp only at hSw); go_simp; first | done | with_reducible rfl | rfl)
    try simp only [Act.put, List.setIfInBounds_toArray, List.set_cons_zero, List.set_cons_succ]
    refine AnyT.take (i := 13) (v := ?_) (by simp only [List.getElem?_toArray, List.getElem?_cons_succ, List.getElem?_cons_zero]; rfl) (by kernel_rfl) (by kernel_rfl) (by kernel_rfl) (by kernel_rfl) (by intro _ _ _ h; exact h) (Or.inl ⟨by rfl, fun w hSw => ?_⟩) hHeld ?_
    rotate_left
    · ((try dsimp only at hSw); go_simp; first | done | with_reducible rfl | rfl)
    try simp only [Act.put, List.setIfInBounds_toArray, List.set_cons_zero, List.set_cons_succ]
    refine AnyT.take (i := 14) (v := ?_) (by simp only [List.getElem?_toArray, List.getElem?_cons_succ, List.getElem?_cons_zero]; rfl) (by kernel_rfl) (by kernel_rfl) (by kernel_rfl) (by kernel_rfl) (by intro _ _ _ h; exact h) (Or.inl ⟨by rfl, fun w hSw => ?_⟩) hHeld ?_
    rotate_left
    · ((try dsimp only at hSw); go_simp; first | done | with_reducible rfl | rfl)
    try simp only [Act.put, List.setIfInBounds_toArray, List.set_cons_zero, List.set_cons_succ]
    refine AnyT.ready (rs := [15]) (by kernel_rfl) (by simp) ?_
    refine AllT.cons (by simp only [List.getElem?_toArray, List.getElem?_cons_succ, List.getElem?_cons_zero]; rfl) (fun K hK => ?_) AllT.nil
    go_simp
    refine hK.out _ _ ?_ (fun hHeld => ?_)
    · exact hHeld
    clear hK
    try simp only [Act.put, List.setIfInBounds_toArray, List.set_cons_zero, List.set_cons_succ]
    refine AnyT.take (i := 16) (v := ?_) (by simp only [List.getElem?_toArray, List.getElem?_cons_succ, List.getElem?_cons_zero]; rfl) (by kernel_rfl) (by kernel_rfl) (by kernel_rfl) (by kernel_rfl) (by intro _ _ _ h; exact h) (Or.inl ⟨by rfl, fun w hSw => ?_⟩) hHeld ?_
    rotate_left
    · ((try dsimp only at hSw); go_simp; first | done | with_reducible rfl | rfl)
    try simp only [Act.put, List.setIfInBounds_toArray, List.set_cons_zero, List.set_cons_succ]
    refine AnyT.ready (rs := [17]) (by kernel_rfl) (by simp) ?_
    refine AllT.late (by simp only [List.getElem?_toArray, List.getElem?_cons_succ, List.getElem?_cons_zero]; rfl) (by kernel_rfl) (fun K hK => ?_)
    go_simp
    refine hK.out _ _ ?_
    clear hK
    try simp only [Act.put, List.setIfInBounds_toArray, List.set_cons_zero, List.set_cons_succ]
    refine AnyT.done (by kernel_rfl) ?_ _
    clear hHeld a4 q3 i2 i4
    go_wp2_with fail
    refine (fill_fwd HD.out q _ s lim true _ _ (rLo es s + (i + 1)) _ HR.out HO2.out (by rw [← HNN.out]; rfl)).mono ?_
    rintro e w2 hout
    obtain ⟨rfl, F', hI', hO'⟩ := fill_to hout
    have HF := hid (And.intro hI' hO')
    clear hout hI' hO'
    go_wp2_with fail
    go_ret
    exact ⟨rfl, F', HF.out.1, HF.out.2⟩
  · rcases hx with ⟨h1, rfl⟩ | ⟨h1, h2, rfl⟩
    · obtain rfl : p = -1 := by omega
      have hmin : min ((-1 : Int) + 1) ((rHi es lim - rLo es s : Nat) : Int) = ((0 : Nat) : Int) := by omega
      rw [hmin]
      have HO := hid hO
      clear hD hR hO i2 i3 i6 i7 i8 fz hp hmin h1
      go_enter Tryd.func230, Tryd.ntmps230
      go_wp2_with fail
      refine (released q w i1).mono ?_
      rintro e w1 ⟨rfl, rfl⟩
      go_wp2_with fail
      refine (itFirst HD.out q sv s lim false 0 _ _ HR.out HO.out).mono ?_
      rintro e w2 hout
      obtain ⟨rfl, F', hI', hO'⟩ := fill_to (j := 0) hout
      have HF := hid (And.intro hI' hO')
      clear hout hI' hO'
      go_wp2_with fail
      go_ret
      exact ⟨rfl, F', HF.out.1, HF.out.2⟩
    · have hmin : min (p + 1) ((rHi es lim - rLo es s : Nat) : Int) = p := by omega
      rw [hmin]
      have HO := hid hO
      have HX := hid (show _ ∧ _ from ⟨h1, h2⟩)
      clear hD hR hO i2 i3 i6 i7 i8 fz hp hmin h1 h2
      go_enter Tryd.func230, Tryd.ntmps230
      go_wp2_with fail
      refine (released q w i1).mono ?_
      rintro e w1 ⟨rfl, rfl⟩
      go_wp2_with fail
      go_ret
      have h1 := HX.out
      exact ⟨by rw [wval_not.2 (.inr (by omega))]; rfl, _, ⟨0, true, _, _, rfl, .inr ⟨.inr ⟨h1.1, h1.2, rfl⟩, rfl, rfl, rfl⟩⟩, HO.out⟩
end Go.Proofs.YtloflmcgbbbnjaaDoor
