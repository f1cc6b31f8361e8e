/-
  memdb.DB: Get, Find: what they give is read whatever else turns.
-/
import Derived.Test.YtloflmcgbbbnjaaDoorMemM19
import Derived.Test.YtloflmcgbbbnjaaDoorMemM5
namespace Go.Proofs.YtloflmcgbbbnjaaDoor
open Go.RowKit Plain
set_option linter.all false

def GetV (kA0 : Option Addr) (c1 : Nat) (es : List En) (key : List UInt8) (w : World) (e : Ending) (w' : World) : Prop :=
  (mIs En.k es key = true ∧ ∃ (en : En), es[mAt En.k es key]? = some en ∧ e = .returned (.tuple #[vSl kA0 c1 en, .nilIface]) ∧ Only [] w w') ∨
  (mIs En.k es key = false ∧ e = .returned (.tuple #[.slice none 0 0, .iface 231 (.string { data := #[108, 101, 118, 101, 108, 100, 98, 58, 32, 110, 111, 116, 32, 102, 111, 117, 110, 100] })]) ∧ Only [] w w')
set_option maxHeartbeats 3200000 in
set_option maxRecDepth 100000 in
theorem get_v (g : Nat) (A kA : Option Addr) (n1 c1 b n2 c2 mh kn kc : Nat) (kv : List UInt8) (nd : List Nat) (es : List En) (key : List UInt8) (w : World)
    (ok : DbOk kv nd mh es) (hr : DbR w g A n1 c1 b n2 c2 mh kv nd) (hk : BsAt w kA key) (hkn : kn = key.length) :
    Calls Tryd.prog 67 #[.pointer (some ⟨g, 0, none⟩), .slice kA kn kc] w (GetV A c1 es key w) := by
  have HG := hid (findGE_r g A kA n1 c1 b n2 c2 mh kn kc kv nd es key w ok hr hk hkn)
  have HOK := hid ok
  have HR := hid hr
  clear ok hr hk hkn
  go_enter Tryd.func67, Tryd.ntmps67
  go_wp2_with fail
  refine HG.out.mono ?_
  rintro e w1 ⟨rfl, ho1⟩
  have HO1 := hid ho1
  cases hi : mIs En.k es key with
  | false =>
    have HI := hid hi
    clear ho1 hi
    go_wp2_with fail
    go_ret2
    exact .inr ⟨HI.out, rfl, HO1.out⟩
  | true =>
    obtain ⟨en, he, hk⟩ := mIs_get hi
    have hno : nodeOf es (mAt En.k es key) = en.nd.p := by unfold nodeOf; rw [he]
    have hr1 := HR.out.keep0 ho1
    obtain ⟨p1, p2, p3, ke, ve, hF, hb1, hb2, hl1, hl2⟩ := hr1.en HOK.out (List.mem_of_getElem? he)
    rw [hno]
    obtain ⟨s1, s2, s3, t1, t2, a0, a1, a2, a3, l0, l1, l2, l3, g1, g2, g3, g4, g5, k1, k2, p0, e1, e2, e3, b1, b2⟩ := hF
    have q2 := hr1.q2
    have q3 := hr1.q3
    have HI := hid hi
    have HE := hid he
    have HB2 := hid hb2
    have HL2 := hid hl2
    have HB := hid b2
    have hke : ke = en.nd.ko + en.nd.kl := by omega
    have HQ2 : Hid (∀ v, v = .slice (pAd A c1 ke) en.nd.vl (c1 - ke) → v = vSl A c1 en) := hid fun v h => by rw [h, hke]; rfl
    clear hke
    clear hr1 hno ho1 hi he hk hb1 hb2 hl1 hl2 e1 e2 e3 b1 b2
    generalize en.nd.p = p at *
    generalize en.nd.ko = ko at *
    generalize en.nd.kl = kl at *
    generalize en.nd.vl = vl at *
    generalize en.nd.h = hh at *
    clear a3 l3 s3
    go_wp2_with fail
    refine AnyT.start (S := fun w' => w'.cell? ⟨g, 3, none⟩ = some (.slice (some ⟨b, 0, none⟩) n2 c2) ∧ w'.cell? ⟨b, p, none⟩ = some (.int .i64 (ko : Int)) ∧ w'.cell? ⟨b, p1, none⟩ = some (.int .i64 (kl : Int))) (T := []) (by kernel_rfl) (⟨q3, a0, a1⟩) (fun hHeld => ?_)
    refine AnyT.take (i := 0) (v := ?_) (by simp only [List.getElem?_toArray, List.getElem?_cons_succ, List.getElem?_cons_zero]; rfl) (by kernel_rfl) (by kernel_rfl) (by kernel_rfl) (by kernel_rfl) (by intro _ _ _ h; exact h) (Or.inl ⟨by rfl, fun w hSw => ?_⟩) hHeld ?_
    rotate_left
    · ((try dsimp only at hSw); go_simp; first | done | with_reducible rfl | rfl)
    try simp only [Act.put, List.setIfInBounds_toArray, List.set_cons_zero, List.set_cons_succ]
    refine AnyT.take (i := 1) (v := ?_) (by simp only [List.getElem?_toArray, List.getElem?_cons_succ, List.getElem?_cons_zero]; rfl) (by kernel_rfl) (by kernel_rfl) (by kernel_rfl) (by kernel_rfl) (by intro _ _ _ h; exact h) (Or.inl ⟨by rfl, fun w hSw => ?_⟩) hHeld ?_
    rotate_left
    · ((try dsimp only at hSw); go_simp; first | done | with_reducible rfl | rfl)
    try simp only [Act.put, List.setIfInBounds_toArray, List.set_cons_zero, List.set_cons_succ]
    refine AnyT.take (i := 2) (v := ?_) (by simp only [List.getElem?_toArray, List.getElem?_cons_succ, List.getElem?_cons_zero]; rfl) (by kernel_rfl) (by kernel_rfl) (by kernel_rfl) (by kernel_rfl) (by intro _ _ _ h; exact h) (Or.inl ⟨by rfl, fun w hSw => ?_⟩) hHeld ?_
    rotate_left
    · ((try dsimp only at hSw); go_simp; first | done | with_reducible rfl | rfl)
    try simp only [Act.put, List.setIfInBounds_toArray, List.set_cons_zero, List.set_cons_succ]
    refine AnyT.take (i := 3) (v := ?_) (by simp only [List.getElem?_toArray, List.getElem?_cons_succ, List.getElem?_cons_zero]; rfl) (by kernel_rfl) (by kernel_rfl) (by kernel_rfl) (by kernel_rfl) (by intro _ _ _ h; exact h) (Or.inl ⟨by rfl, fun w hSw => ?_⟩) hHeld ?_
    rotate_left
    · ((try dsimp only at hSw); go_simp; first | done | with_reducible rfl | rfl)
    try simp only [Act.put, List.setIfInBounds_toArray, List.set_cons_zero, List.set_cons_succ]
    refine AnyT.take (i := 4) (v := ?_) (by simp only [List.getElem?_toArray, List.getElem?_cons_succ, List.getElem?_cons_zero]; rfl) (by kernel_rfl) (by kernel_rfl) (by kernel_rfl) (by kernel_rfl) (by intro _ _ _ h; exact h) (Or.inl ⟨by rfl, fun w hSw => ?_⟩) hHeld ?_
    rotate_left
    · ((try dsimp only at hSw); go_simp; first | done | with_reducible rfl | rfl)
    try simp only [Act.put, List.setIfInBounds_toArray, List.set_cons_zero, List.set_cons_succ]
    refine AnyT.take (i := 5) (v := ?_) (by simp only [List.getElem?_toArray, List.getElem?_cons_succ, List.getElem?_cons_zero]; rfl) (by kernel_rfl) (by kernel_rfl) (by kernel_rfl) (by kernel_rfl) (by intro _ _ _ h; exact h) (Or.inl ⟨by rfl, fun w hSw => ?_⟩) hHeld ?_
    rotate_left
    · ((try dsimp only at hSw); go_simp; first | done | with_reducible rfl | rfl)
    try simp only [Act.put, List.setIfInBounds_toArray, List.set_cons_zero, List.set_cons_succ]
    refine AnyT.take (i := 6) (v := ?_) (by simp only [List.getElem?_toArray, List.getElem?_cons_succ, List.getElem?_cons_zero]; rfl) (by kernel_rfl) (by kernel_rfl) (by kernel_rfl) (by kernel_rfl) (by intro _ _ _ h; exact h) (Or.inl ⟨by rfl, fun w hSw => ?_⟩) hHeld ?_
    rotate_left
    · ((try dsimp only at hSw); go_simp; first | done | with_reducible rfl | rfl)
    try simp only [Act.put, List.setIfInBounds_toArray, List.set_cons_zero, List.set_cons_succ]
    refine AnyT.take (i := 7) (v := ?_) (by simp only [List.getElem?_toArray, List.getElem?_cons_succ, List.getElem?_cons_zero]; rfl) (by kernel_rfl) (by kernel_rfl) (by kernel_rfl) (by kernel_rfl) (by intro _ _ _ h; exact h) (Or.inl ⟨by rfl, fun w hSw => ?_⟩) hHeld ?_
    rotate_left
    · ((try dsimp only at hSw); go_simp; first | done | with_reducible rfl | rfl)
    try simp only [Act.put, List.setIfInBounds_toArray, List.set_cons_zero, List.set_cons_succ]
    refine AnyT.take (i := 8) (v := ?_) (by simp only [List.getElem?_toArray, List.getElem?_cons_succ, List.getElem?_cons_zero]; rfl) (by kernel_rfl) (by kernel_rfl) (by kernel_rfl) (by kernel_rfl) (by intro _ _ _ h; exact h) (Or.inl ⟨by rfl, fun w hSw => ?_⟩) hHeld ?_
    rotate_left
    · ((try dsimp only at hSw); go_simp; first | done | with_reducible rfl | rfl)
    try simp only [Act.put, List.setIfInBounds_toArray, List.set_cons_zero, List.set_cons_succ]
    refine AnyT.take (i := 9) (v := ?_) (by simp only [List.getElem?_toArray, List.getElem?_cons_succ, List.getElem?_cons_zero]; rfl) (by kernel_rfl) (by kernel_rfl) (by kernel_rfl) (by kernel_rfl) (by intro _ _ _ h; exact h) (Or.inl ⟨by rfl, fun w hSw => ?_⟩) hHeld ?_
    rotate_left
    · ((try dsimp only at hSw); go_simp; first | done | with_reducible rfl | rfl)
    try simp only [Act.put, List.setIfInBounds_toArray, List.set_cons_zero, List.set_cons_succ]
    refine AnyT.take (i := 10) (v := ?_) (by simp only [List.getElem?_toArray, List.getElem?_cons_succ, List.getElem?_cons_zero]; rfl) (by kernel_rfl) (by kernel_rfl) (by kernel_rfl) (by kernel_rfl) (by intro _ _ _ h; exact h) (Or.inl ⟨by rfl, fun w hSw => ?_⟩) hHeld ?_
    rotate_left
    · ((try dsimp only at hSw); go_simp; first | done | with_reducible rfl | rfl)
    try simp only [Act.put, List.setIfInBounds_toArray, List.set_cons_zero, List.set_cons_succ]
    refine AnyT.take (i := 11) (v := ?_) (by simp only [List.getElem?_toArray, List.getElem?_cons_succ, List.getElem?_cons_zero]; rfl) (by kernel_rfl) (by kernel_rfl) (by kernel_rfl) (by kernel_rfl) (by intro _ _ _ h; exact h) (Or.inl ⟨by rfl, fun w hSw => ?_⟩) hHeld ?_
    rotate_left
    · ((try dsimp only at hSw); go_simp; first | done | with_reducible rfl | rfl)
    try simp only [Act.put, List.setIfInBounds_toArray, List.set_cons_zero, List.set_cons_succ]
    refine AnyT.take (i := 12) (v := ?_) (by simp only [List.getElem?_toArray, List.getElem?_cons_succ, List.getElem?_cons_zero]; rfl) (by kernel_rfl) (by kernel_rfl) (by kernel_rfl) (by kernel_rfl) (by intro _ _ _ h; exact h) (Or.inl ⟨by rfl, fun w hSw => ?_⟩) hHeld ?_
    rotate_left
    · ((try dsimp only at hSw); go_simp; first | done | with_reducible rfl | rfl)
    try simp only [Act.put, List.setIfInBounds_toArray, List.set_cons_zero, List.set_cons_succ]
    refine AnyT.take (i := 13) (v := ?_) (by simp only [List.getElem?_toArray, List.getElem?_cons_succ, List.getElem?_cons_zero]; rfl) (by kernel_rfl) (by kernel_rfl) (by kernel_rfl) (by kernel_rfl) (by intro _ _ _ h; exact h) (Or.inl ⟨by rfl, fun w hSw => ?_⟩) hHeld ?_
    rotate_left
    · ((try dsimp only at hSw); go_simp; first | done | with_reducible rfl | rfl)
    try simp only [Act.put, List.setIfInBounds_toArray, List.set_cons_zero, List.set_cons_succ]
    refine AnyT.take (i := 14) (v := ?_) (by simp only [List.getElem?_toArray, List.getElem?_cons_succ, List.getElem?_cons_zero]; rfl) (by kernel_rfl) (by kernel_rfl) (by kernel_rfl) (by kernel_rfl) (by intro _ _ _ h; exact h) (Or.inl ⟨by rfl, fun w hSw => ?_⟩) hHeld ?_
    rotate_left
    · ((try dsimp only at hSw); go_simp; first | done | with_reducible rfl | rfl)
    try simp only [Act.put, List.setIfInBounds_toArray, List.set_cons_zero, List.set_cons_succ]
    refine AnyT.take (i := 15) (v := ?_) (by simp only [List.getElem?_toArray, List.getElem?_cons_succ, List.getElem?_cons_zero]; rfl) (by kernel_rfl) (by kernel_rfl) (by kernel_rfl) (by kernel_rfl) (by intro _ _ _ h; exact h) (Or.inl ⟨by rfl, fun w hSw => ?_⟩) hHeld ?_
    rotate_left
    · ((try dsimp only at hSw); go_simp; first | done | with_reducible rfl | rfl)
    try simp only [Act.put, List.setIfInBounds_toArray, List.set_cons_zero, List.set_cons_succ]
    refine AnyT.take (i := 16) (v := ?_) (by simp only [List.getElem?_toArray, List.getElem?_cons_succ, List.getElem?_cons_zero]; rfl) (by kernel_rfl) (by kernel_rfl) (by kernel_rfl) (by kernel_rfl) (by intro _ _ _ h; exact h) (Or.inl ⟨by rfl, fun w hSw => ?_⟩) hHeld ?_
    rotate_left
    · ((try dsimp only at hSw); go_simp; first | done | with_reducible rfl | rfl)
    try simp only [Act.put, List.setIfInBounds_toArray, List.set_cons_zero, List.set_cons_succ]
    refine AnyT.done (by kernel_rfl) ?_ _
    clear hHeld
    go_wp2_with fail
    refine AnyT.start (S := fun w' => w'.cell? ⟨g, 2, none⟩ = some (.slice A n1 c1) ∧ w'.cell? ⟨g, 3, none⟩ = some (.slice (some ⟨b, 0, none⟩) n2 c2) ∧ w'.cell? ⟨b, p2, none⟩ = some (.int .i64 (vl : Int))) (T := []) (by kernel_rfl) (⟨q2, q3, a2⟩) (fun hHeld => ?_)
    refine AnyT.take (i := 0) (v := ?_) (by simp only [List.getElem?_toArray, List.getElem?_cons_succ, List.getElem?_cons_zero]; rfl) (by kernel_rfl) (by kernel_rfl) (by kernel_rfl) (by kernel_rfl) (by intro _ _ _ h; exact h) (Or.inl ⟨by rfl, fun w hSw => ?_⟩) hHeld ?_
    rotate_left
    · ((try dsimp only at hSw); go_simp; first | done | with_reducible rfl | rfl)
    try simp only [Act.put, List.setIfInBounds_toArray, List.set_cons_zero, List.set_cons_succ]
    refine AnyT.take (i := 1) (v := ?_) (by simp only [List.getElem?_toArray, List.getElem?_cons_succ, List.getElem?_cons_zero]; rfl) (by kernel_rfl) (by kernel_rfl) (by kernel_rfl) (by kernel_rfl) (by intro _ _ _ h; exact h) (Or.inl ⟨by rfl, fun w hSw => ?_⟩) hHeld ?_
    rotate_left
    · ((try dsimp only at hSw); go_simp; first | done | with_reducible rfl | rfl)
    try simp only [Act.put, List.setIfInBounds_toArray, List.set_cons_zero, List.set_cons_succ]
    refine AnyT.take (i := 2) (v := ?_) (by simp only [List.getElem?_toArray, List.getElem?_cons_succ, List.getElem?_cons_zero]; rfl) (by kernel_rfl) (by kernel_rfl) (by kernel_rfl) (by kernel_rfl) (by intro _ _ _ h; exact h) (Or.inl ⟨by rfl, fun w hSw => ?_⟩) hHeld ?_
    rotate_left
    · ((try dsimp only at hSw); go_simp; first | done | with_reducible rfl | rfl)
    try simp only [Act.put, List.setIfInBounds_toArray, List.set_cons_zero, List.set_cons_succ]
    refine AnyT.take (i := 3) (v := ?_) (by simp only [List.getElem?_toArray, List.getElem?_cons_succ, List.getElem?_cons_zero]; rfl) (by kernel_rfl) (by kernel_rfl) (by kernel_rfl) (by kernel_rfl) (by intro _ _ _ h; exact h) (Or.inl ⟨by rfl, fun w hSw => ?_⟩) hHeld ?_
    rotate_left
    · ((try dsimp only at hSw); go_simp; first | done | with_reducible rfl | rfl)
    try simp only [Act.put, List.setIfInBounds_toArray, List.set_cons_zero, List.set_cons_succ]
    refine AnyT.take (i := 4) (v := ?_) (by simp only [List.getElem?_toArray, List.getElem?_cons_succ, List.getElem?_cons_zero]; rfl) (by kernel_rfl) (by kernel_rfl) (by kernel_rfl) (by kernel_rfl) (by intro _ _ _ h; exact h) (Or.inl ⟨by rfl, fun w hSw => ?_⟩) hHeld ?_
    rotate_left
    · ((try dsimp only at hSw); go_simp; first | done | with_reducible rfl | rfl)
    try simp only [Act.put, List.setIfInBounds_toArray, List.set_cons_zero, List.set_cons_succ]
    refine AnyT.take (i := 5) (v := ?_) (by simp only [List.getElem?_toArray, List.getElem?_cons_succ, List.getElem?_cons_zero]; rfl) (by kernel_rfl) (by kernel_rfl) (by kernel_rfl) (by kernel_rfl) (by intro _ _ _ h; exact h) (Or.inl ⟨by rfl, fun w hSw => ?_⟩) hHeld ?_
    rotate_left
    · ((try dsimp only at hSw); go_simp; first | done | with_reducible rfl | rfl)
    try simp only [Act.put, List.setIfInBounds_toArray, List.set_cons_zero, List.set_cons_succ]
    refine AnyT.take (i := 6) (v := ?_) (by simp only [List.getElem?_toArray, List.getElem?_cons_succ, List.getElem?_cons_zero]; rfl) (by kernel_rfl) (by kernel_rfl) (by kernel_rfl) (by kernel_rfl) (by intro _ _ _ h; exact h) (Or.inl ⟨by rfl, fun w hSw => ?_⟩) hHeld ?_
    rotate_left
    · ((try dsimp only at hSw); go_simp; first | done | with_reducible rfl | rfl)
    try simp only [Act.put, List.setIfInBounds_toArray, List.set_cons_zero, List.set_cons_succ]
    refine AnyT.take (i := 7) (v := ?_) (by simp only [List.getElem?_toArray, List.getElem?_cons_succ, List.getElem?_cons_zero]; rfl) (by kernel_rfl) (by kernel_rfl) (by kernel_rfl) (by kernel_rfl) (by intro _ _ _ h; exact h) (Or.inl ⟨by rfl, fun w hSw => ?_⟩) hHeld ?_
    rotate_left
    · ((try dsimp only at hSw); go_simp; first | done | with_reducible rfl | rfl)
    try simp only [Act.put, List.setIfInBounds_toArray, List.set_cons_zero, List.set_cons_succ]
    refine AnyT.take (i := 8) (v := ?_) (by simp only [List.getElem?_toArray, List.getElem?_cons_succ, List.getElem?_cons_zero]; rfl) (by kernel_rfl) (by kernel_rfl) (by kernel_rfl) (by kernel_rfl) (by intro _ _ _ h; exact h) (Or.inl ⟨by rfl, fun w hSw => ?_⟩) hHeld ?_
    rotate_left
    · ((try dsimp only at hSw); go_simp; first | done | with_reducible rfl | rfl)
    try simp only [Act.put, List.setIfInBounds_toArray, List.set_cons_zero, List.set_cons_succ]
    refine AnyT.take (i := 9) (v := ?_) (by simp only [List.getElem?_toArray, List.getElem?_cons_succ, List.getElem?_cons_zero]; rfl) (by kernel_rfl) (by kernel_rfl) (by kernel_rfl) (by kernel_rfl) (by intro _ _ _ h; exact h) (Or.inl ⟨by rfl, fun w hSw => ?_⟩) hHeld ?_
    rotate_left
    · ((try dsimp only at hSw); go_simp; first | done | with_reducible rfl | rfl)
    try simp only [Act.put, List.setIfInBounds_toArray, List.set_cons_zero, List.set_cons_succ]
    refine AnyT.take (i := 10) (v := ?_) (by simp only [List.getElem?_toArray, List.getElem?_cons_succ, List.getElem?_cons_zero]; rfl) (by kernel_rfl) (by kernel_rfl) (by kernel_rfl) (by kernel_rfl) (by intro _ _ _ h; exact h) (Or.inl ⟨by rfl, fun w hSw => ?_⟩) hHeld ?_
    rotate_left
    · ((try dsimp only at hSw); go_simp; first | done | with_reducible rfl | rfl)
    try simp only [Act.put, List.setIfInBounds_toArray, List.set_cons_zero, List.set_cons_succ]
    refine AnyT.take (i := 11) (v := ?_) (by simp only [List.getElem?_toArray, List.getElem?_cons_succ, List.getElem?_cons_zero]; rfl) (by kernel_rfl) (by kernel_rfl) (by kernel_rfl) (by kernel_rfl) (by intro _ _ _ h; exact h) (Or.inl ⟨by rfl, fun w hSw => ?_⟩) hHeld ?_
    rotate_left
    · ((try dsimp only at hSw); go_simp; first | done | with_reducible rfl | rfl)
    try simp only [Act.put, List.setIfInBounds_toArray, List.set_cons_zero, List.set_cons_succ]
    refine AnyT.take (i := 12) (v := ?_) (by simp only [List.getElem?_toArray, List.getElem?_cons_succ, List.getElem?_cons_zero]; rfl) (by kernel_rfl) (by kernel_rfl) (by kernel_rfl) (by kernel_rfl) (by intro _ _ _ h; exact h) (Or.inl ⟨by rfl, fun w hSw => ?_⟩) hHeld ?_
    rotate_left
    · ((try dsimp only at hSw); go_simp; first | done | with_reducible rfl | rfl)
    try simp only [Act.put, List.setIfInBounds_toArray, List.set_cons_zero, List.set_cons_succ]
    refine AnyT.take (i := 13) (v := ?_) (by simp only [List.getElem?_toArray, List.getElem?_cons_succ, List.getElem?_cons_zero]; rfl) (by kernel_rfl) (by kernel_rfl) (by kernel_rfl) (by kernel_rfl) (by intro _ _ _ h; exact h) (Or.inl ⟨by rfl, fun w hSw => ?_⟩) hHeld ?_
    rotate_left
    · ((try dsimp only at hSw); go_simp; first | done | with_reducible rfl | rfl)
    try simp only [Act.put, List.setIfInBounds_toArray, List.set_cons_zero, List.set_cons_succ]
    refine AnyT.take (i := 14) (v := ?_) (by simp only [List.getElem?_toArray, List.getElem?_cons_succ, List.getElem?_cons_zero]; rfl) (by kernel_rfl) (by kernel_rfl) (by kernel_rfl) (by kernel_rfl) (by intro _ _ _ h; exact h) (Or.inl ⟨by rfl, fun w hSw => ?_⟩) hHeld ?_
    rotate_left
    · ((try dsimp only at hSw); go_simp; first | done | with_reducible rfl | rfl)
    try simp only [Act.put, List.setIfInBounds_toArray, List.set_cons_zero, List.set_cons_succ]
    refine AnyT.take (i := 15) (v := ?_) (by simp only [List.getElem?_toArray, List.getElem?_cons_succ, List.getElem?_cons_zero]; rfl) (by kernel_rfl) (by kernel_rfl) (by kernel_rfl) (by kernel_rfl) (by intro _ _ _ h; exact h) (Or.inl ⟨by rfl, fun w hSw => ?_⟩) hHeld ?_
    rotate_left
    · ((try dsimp only at hSw); go_simp; first | done | with_reducible rfl | rfl)
    try simp only [Act.put, List.setIfInBounds_toArray, List.set_cons_zero, List.set_cons_succ]
    refine AnyT.take (i := 16) (v := ?_) (by simp only [List.getElem?_toArray, List.getElem?_cons_succ, List.getElem?_cons_zero]; rfl) (by kernel_rfl) (by kernel_rfl) (by kernel_rfl) (by kernel_rfl) (by intro _ _ _ h; exact h) (Or.inl ⟨by rfl, fun w hSw => ?_⟩) hHeld ?_
    rotate_left
    · ((try dsimp only at hSw); go_simp; first | done | with_reducible rfl | rfl)
    try simp only [Act.put, List.setIfInBounds_toArray, List.set_cons_zero, List.set_cons_succ]
    refine AnyT.done (by kernel_rfl) ?_ _
    clear hHeld
    have HA4 : Hid (pAd A c1 ke = (if c1 = ke then A else Option.map (fun x => x.add ke) A)) := hid rfl
    clear HB2
    generalize (if c1 = ke then A else Option.map (fun x => x.add ke) A) = A3 at HA4 ⊢
    go_wp2_with fail
    go_ret2
    exact .inl ⟨HI.out, en, HE.out, by rw [← HQ2.out (.slice A3 vl (c1 - ke)) (by rw [HA4.out])]; rfl, HO1.out.drew.drew⟩
def FindV (kA0 : Option Addr) (c1 : Nat) (es : List En) (key : List UInt8) (w : World) (e : Ending) (w' : World) : Prop :=
  (∃ (en : En), es[mAt En.k es key]? = some en ∧ e = .returned (.tuple #[kSl kA0 c1 en, vSl kA0 c1 en, .nilIface]) ∧ Only [] w w') ∨
  (es.length ≤ mAt En.k es key ∧ e = .returned (.tuple #[.slice none 0 0, .slice none 0 0, .iface 231 (.string { data := #[108, 101, 118, 101, 108, 100, 98, 58, 32, 110, 111, 116, 32, 102, 111, 117, 110, 100] })]) ∧ Only [] w w')
set_option maxHeartbeats 3200000 in
set_option maxRecDepth 100000 in
theorem find_v (g : Nat) (A kA : Option Addr) (n1 c1 b n2 c2 mh kn kc : Nat) (kv : List UInt8) (nd : List Nat) (es : List En) (key : List UInt8) (w : World)
    (ok : DbOk kv nd mh es) (hr : DbR w g A n1 c1 b n2 c2 mh kv nd) (hk : BsAt w kA key) (hkn : kn = key.length) :
    Calls Tryd.prog 68 #[.pointer (some ⟨g, 0, none⟩), .slice kA kn kc] w (FindV A c1 es key w) := by
  have HG := hid (findGE_r g A kA n1 c1 b n2 c2 mh kn kc kv nd es key w ok hr hk hkn)
  have HOK := hid ok
  have HR := hid hr
  clear ok hr hk hkn
  obtain ⟨m, hM⟩ : ∃ m, mAt En.k es key = m := ⟨_, rfl⟩
  obtain ⟨z, hz⟩ : ∃ z, mIs En.k es key = z := ⟨_, rfl⟩
  rw [hM, hz] at HG
  have HM := hid hM
  clear hM hz
  cases he : es[m]? with
  | none =>
    have hno : nodeOf es m = 0 := by unfold nodeOf; rw [he]
    rw [hno] at HG
    have HE := hid he
    clear he hno
    go_enter Tryd.func68, Tryd.ntmps68
    go_wp2_with fail
    refine HG.out.mono ?_
    rintro e w1 ⟨rfl, ho1⟩
    have HO1 := hid ho1
    clear ho1
    go_wp2_with fail
    go_ret3
    exact .inr ⟨by rw [HM.out]; exact List.getElem?_eq_none_iff.1 HE.out, rfl, HO1.out⟩
  | some en =>
    have hno : nodeOf es m = en.nd.p := by unfold nodeOf; rw [he]
    rw [hno] at HG
    have HE := hid he
    clear he hno
    go_enter Tryd.func68, Tryd.ntmps68
    go_wp2_with fail
    refine HG.out.mono ?_
    rintro e w1 ⟨rfl, ho1⟩
    have hr1 := HR.out.keep0 ho1
    obtain ⟨p1, p2, p3, ke, ve, hF, hb1, hb2, hl1, hl2⟩ := hr1.en HOK.out (List.mem_of_getElem? HE.out)
    obtain ⟨s1, s2, s3, t1, t2, a0, a1, a2, a3, l0, l1, l2, l3, g1, g2, g3, g4, g5, k1, k2, p0, e1, e2, e3, b1, b2⟩ := hF
    have q2 := hr1.q2
    have q3 := hr1.q3
    have HO1 := hid ho1
    have HB1 := hid hb1
    have HL1 := hid hl1
    have HB2 := hid hb2
    have HL2 := hid hl2
    have HB := hid (And.intro b1 b2)
    have hke : ke = en.nd.ko + en.nd.kl := by omega
    have HQ2 : Hid (∀ v, v = .slice (pAd A c1 ke) en.nd.vl (c1 - ke) → v = vSl A c1 en) := hid fun v h => by rw [h, hke]; rfl
    have HQ : Hid (∀ v, v = .slice (pAd A c1 en.nd.ko) en.nd.kl (c1 - en.nd.ko) → v = kSl A c1 en) := hid fun v h => h
    clear hke
    clear hr1 ho1 hb1 hb2 hl1 hl2 e1 e2 e3 b1 b2 HG
    generalize en.nd.p = p at *
    generalize en.nd.ko = ko at *
    generalize en.nd.kl = kl at *
    generalize en.nd.vl = vl at *
    generalize en.nd.h = hh at *
    clear a3 l3 s3
    have n0 : ((p : Int) == 0) = false := by rw [beq_eq_false_iff_ne]; omega
    have n0' : ¬ (p : Int) = 0 := by omega
    have n0'' : ¬ p = 0 := by omega
    go_upto_region 5 with fail
    go_cut [4] (fun v wx => ∃ A3, v = .slice A3 kl (c1 - ko) ∧ Hid (A3 = pAd A c1 ko) ∧ w1 = wx)
    case first =>
      by_cases hck : c1 = ko
      · have HCK := hid hck
        clear HB1
        have e1 : pAd A c1 ko = A := by unfold pAd; rw [if_pos hck]
        have E1 := hid e1
        subst hck
        clear e1
        go_wp2_with fail
        go_meet
        exact ⟨_, by rw [Nat.sub_self], hid E1.out.symm, rfl⟩
      · have e1 : pAd A c1 ko = Option.map (fun x => x.add ko) A := by unfold pAd; rw [if_neg hck]
        have E1 := hid e1
        clear HB1 e1
        go_wp2_with fail
        go_meet
        exact ⟨_, rfl, hid E1.out.symm, rfl⟩
    case rest =>
    obtain ⟨A3, rfl, HA3, rfl⟩ := hcut
    go_wp2_with fail
    refine AnyT.start (S := fun w' => w'.cell? ⟨g, 2, none⟩ = some (.slice A n1 c1) ∧ w'.cell? ⟨g, 3, none⟩ = some (.slice (some ⟨b, 0, none⟩) n2 c2) ∧ w'.cell? ⟨b, p2, none⟩ = some (.int .i64 (vl : Int))) (T := []) (by kernel_rfl) (⟨q2, q3, a2⟩) (fun hHeld => ?_)
    refine AnyT.take (i := 0) (v := ?_) (by simp only [List.getElem?_toArray, List.getElem?_cons_succ, List.getElem?_cons_zero]; rfl) (by kernel_rfl) (by kernel_rfl) (by kernel_rfl) (by kernel_rfl) (by intro _ _ _ h; exact h) (Or.inl ⟨by rfl, fun w hSw => ?_⟩) hHeld ?_
    rotate_left
    · ((try dsimp only at hSw); go_simp; first | done | with_reducible rfl | rfl)
    try simp only [Act.put, List.setIfInBounds_toArray, List.set_cons_zero, List.set_cons_succ]
    refine AnyT.take (i := 1) (v := ?_) (by simp only [List.getElem?_toArray, List.getElem?_cons_succ, List.getElem?_cons_zero]; rfl) (by kernel_rfl) (by kernel_rfl) (by kernel_rfl) (by kernel_rfl) (by intro _ _ _ h; exact h) (Or.inl ⟨by rfl, fun w hSw => ?_⟩) hHeld ?_
    rotate_left
    · ((try dsimp only at hSw); go_simp; first | done | with_reducible rfl | rfl)
    try simp only [Act.put, List.setIfInBounds_toArray, List.set_cons_zero, List.set_cons_succ]
    refine AnyT.take (i := 2) (v := ?_) (by simp only [List.getElem?_toArray, List.getElem?_cons_succ, List.getElem?_cons_zero]; rfl) (by kernel_rfl) (by kernel_rfl) (by kernel_rfl) (by kernel_rfl) (by intro _ _ _ h; exact h) (Or.inl ⟨by rfl, fun w hSw => ?_⟩) hHeld ?_
    rotate_left
    · ((try dsimp only at hSw); go_simp; first | done | with_reducible rfl | rfl)
    try simp only [Act.put, List.setIfInBounds_toArray, List.set_cons_zero, List.set_cons_succ]
    refine AnyT.take (i := 3) (v := ?_) (by simp only [List.getElem?_toArray, List.getElem?_cons_succ, List.getElem?_cons_zero]; rfl) (by kernel_rfl) (by kernel_rfl) (by kernel_rfl) (by kernel_rfl) (by intro _ _ _ h; exact h) (Or.inl ⟨by rfl, fun w hSw => ?_⟩) hHeld ?_
    rotate_left
    · ((try dsimp only at hSw); go_simp; first | done | with_reducible rfl | rfl)
    try simp only [Act.put, List.setIfInBounds_toArray, List.set_cons_zero, List.set_cons_succ]
    refine AnyT.take (i := 4) (v := ?_) (by simp only [List.getElem?_toArray, List.getElem?_cons_succ, List.getElem?_cons_zero]; rfl) (by kernel_rfl) (by kernel_rfl) (by kernel_rfl) (by kernel_rfl) (by intro _ _ _ h; exact h) (Or.inl ⟨by rfl, fun w hSw => ?_⟩) hHeld ?_
    rotate_left
    · ((try dsimp only at hSw); go_simp; first | done | with_reducible rfl | rfl)
    try simp only [Act.put, List.setIfInBounds_toArray, List.set_cons_zero, List.set_cons_succ]
    refine AnyT.take (i := 5) (v := ?_) (by simp only [List.getElem?_toArray, List.getElem?_cons_succ, List.getElem?_cons_zero]; rfl) (by kernel_rfl) (by kernel_rfl) (by kernel_rfl) (by kernel_rfl) (by intro _ _ _ h; exact h) (Or.inl ⟨by rfl, fun w hSw => ?_⟩) hHeld ?_
    rotate_left
    · ((try dsimp only at hSw); go_simp; first | done | with_reducible rfl | rfl)
    try simp only [Act.put, List.setIfInBounds_toArray, List.set_cons_zero, List.set_cons_succ]
    refine AnyT.take (i := 6) (v := ?_) (by simp only [List.getElem?_toArray, List.getElem?_cons_succ, List.getElem?_cons_zero]; rfl) (by kernel_rfl) (by kernel_rfl) (by kernel_rfl) (by kernel_rfl) (by intro _ _ _ h; exact h) (Or.inl ⟨by rfl, fun w hSw => ?_⟩) hHeld ?_
    rotate_left
    · ((try dsimp only at hSw); go_simp; first | done | with_reducible rfl | rfl)
    try simp only [Act.put, List.setIfInBounds_toArray, List.set_cons_zero, List.set_cons_succ]
    refine AnyT.take (i := 7) (v := ?_) (by simp only [List.getElem?_toArray, List.getElem?_cons_succ, List.getElem?_cons_zero]; rfl) (by kernel_rfl) (by kernel_rfl) (by kernel_rfl) (by kernel_rfl) (by intro _ _ _ h; exact h) (Or.inl ⟨by rfl, fun w hSw => ?_⟩) hHeld ?_
    rotate_left
    · ((try dsimp only at hSw); go_simp; first | done | with_reducible rfl | rfl)
    try simp only [Act.put, List.setIfInBounds_toArray, List.set_cons_zero, List.set_cons_succ]
    refine AnyT.take (i := 8) (v := ?_) (by simp only [List.getElem?_toArray, List.getElem?_cons_succ, List.getElem?_cons_zero]; rfl) (by kernel_rfl) (by kernel_rfl) (by kernel_rfl) (by kernel_rfl) (by intro _ _ _ h; exact h) (Or.inl ⟨by rfl, fun w hSw => ?_⟩) hHeld ?_
    rotate_left
    · ((try dsimp only at hSw); go_simp; first | done | with_reducible rfl | rfl)
    try simp only [Act.put, List.setIfInBounds_toArray, List.set_cons_zero, List.set_cons_succ]
    refine AnyT.take (i := 9) (v := ?_) (by simp only [List.getElem?_toArray, List.getElem?_cons_succ, List.getElem?_cons_zero]; rfl) (by kernel_rfl) (by kernel_rfl) (by kernel_rfl) (by kernel_rfl) (by intro _ _ _ h; exact h) (Or.inl ⟨by rfl, fun w hSw => ?_⟩) hHeld ?_
    rotate_left
    · ((try dsimp only at hSw); go_simp; first | done | with_reducible rfl | rfl)
    try simp only [Act.put, List.setIfInBounds_toArray, List.set_cons_zero, List.set_cons_succ]
    refine AnyT.take (i := 10) (v := ?_) (by simp only [List.getElem?_toArray, List.getElem?_cons_succ, List.getElem?_cons_zero]; rfl) (by kernel_rfl) (by kernel_rfl) (by kernel_rfl) (by kernel_rfl) (by intro _ _ _ h; exact h) (Or.inl ⟨by rfl, fun w hSw => ?_⟩) hHeld ?_
    rotate_left
    · ((try dsimp only at hSw); go_simp; first | done | with_reducible rfl | rfl)
    try simp only [Act.put, List.setIfInBounds_toArray, List.set_cons_zero, List.set_cons_succ]
    refine AnyT.take (i := 11) (v := ?_) (by simp only [List.getElem?_toArray, List.getElem?_cons_succ, List.getElem?_cons_zero]; rfl) (by kernel_rfl) (by kernel_rfl) (by kernel_rfl) (by kernel_rfl) (by intro _ _ _ h; exact h) (Or.inl ⟨by rfl, fun w hSw => ?_⟩) hHeld ?_
    rotate_left
    · ((try dsimp only at hSw); go_simp; first | done | with_reducible rfl | rfl)
    try simp only [Act.put, List.setIfInBounds_toArray, List.set_cons_zero, List.set_cons_succ]
    refine AnyT.take (i := 12) (v := ?_) (by simp only [List.getElem?_toArray, List.getElem?_cons_succ, List.getElem?_cons_zero]; rfl) (by kernel_rfl) (by kernel_rfl) (by kernel_rfl) (by kernel_rfl) (by intro _ _ _ h; exact h) (Or.inl ⟨by rfl, fun w hSw => ?_⟩) hHeld ?_
    rotate_left
    · ((try dsimp only at hSw); go_simp; first | done | with_reducible rfl | rfl)
    try simp only [Act.put, List.setIfInBounds_toArray, List.set_cons_zero, List.set_cons_succ]
    refine AnyT.take (i := 13) (v := ?_) (by simp only [List.getElem?_toArray, List.getElem?_cons_succ, List.getElem?_cons_zero]; rfl) (by kernel_rfl) (by kernel_rfl) (by kernel_rfl) (by kernel_rfl) (by intro _ _ _ h; exact h) (Or.inl ⟨by rfl, fun w hSw => ?_⟩) hHeld ?_
    rotate_left
    · ((try dsimp only at hSw); go_simp; first | done | with_reducible rfl | rfl)
    try simp only [Act.put, List.setIfInBounds_toArray, List.set_cons_zero, List.set_cons_succ]
    refine AnyT.take (i := 14) (v := ?_) (by simp only [List.getElem?_toArray, List.getElem?_cons_succ, List.getElem?_cons_zero]; rfl) (by kernel_rfl) (by kernel_rfl) (by kernel_rfl) (by kernel_rfl) (by intro _ _ _ h; exact h) (Or.inl ⟨by rfl, fun w hSw => ?_⟩) hHeld ?_
    rotate_left
    · ((try dsimp only at hSw); go_simp; first | done | with_reducible rfl | rfl)
    try simp only [Act.put, List.setIfInBounds_toArray, List.set_cons_zero, List.set_cons_succ]
    refine AnyT.take (i := 15) (v := ?_) (by simp only [List.getElem?_toArray, List.getElem?_cons_succ, List.getElem?_cons_zero]; rfl) (by kernel_rfl) (by kernel_rfl) (by kernel_rfl) (by kernel_rfl) (by intro _ _ _ h; exact h) (Or.inl ⟨by rfl, fun w hSw => ?_⟩) hHeld ?_
    rotate_left
    · ((try dsimp only at hSw); go_simp; first | done | with_reducible rfl | rfl)
    try simp only [Act.put, List.setIfInBounds_toArray, List.set_cons_zero, List.set_cons_succ]
    refine AnyT.take (i := 16) (v := ?_) (by simp only [List.getElem?_toArray, List.getElem?_cons_succ, List.getElem?_cons_zero]; rfl) (by kernel_rfl) (by kernel_rfl) (by kernel_rfl) (by kernel_rfl) (by intro _ _ _ h; exact h) (Or.inl ⟨by rfl, fun w hSw => ?_⟩) hHeld ?_
    rotate_left
    · ((try dsimp only at hSw); go_simp; first | done | with_reducible rfl | rfl)
    try simp only [Act.put, List.setIfInBounds_toArray, List.set_cons_zero, List.set_cons_succ]
    refine AnyT.done (by kernel_rfl) ?_ _
    clear hHeld
    have HA4 : Hid (pAd A c1 ke = (if c1 = ke then A else Option.map (fun x => x.add ke) A)) := hid rfl
    clear HB2
    generalize (if c1 = ke then A else Option.map (fun x => x.add ke) A) = A4 at HA4 ⊢
    go_wp2_with fail
    go_ret3
    exact .inl ⟨en, by rw [HM.out]; exact HE.out, by rw [← HQ2.out (.slice A4 vl (c1 - ke)) (by rw [HA4.out]), ← HQ.out (.slice A3 kl (c1 - ko)) (by rw [HA3.out])]; rfl, HO1.out.drew⟩
theorem vSl_rd {g : Nat} {A : Option Addr} {n1 c1 b n2 c2 mh : Nat} {kv : List UInt8} {nd : List Nat} {es : List En} {L : List Fr} {w0 : World} (hD : St L w0 fun w => DbR w g A n1 c1 b n2 c2 mh kv nd) (ok : DbOk kv nd mh es) (hK : kv.length ≤ 2147483647) {en : En} (he : en ∈ es) :
    (∃ A' c', kSl A c1 en = .slice A' en.k.length c' ∧ Rd L w0 A' en.k) ∧ ∃ A' c', vSl A c1 en = .slice A' en.v.length c' ∧ Rd L w0 A' en.v := by
  refine ⟨⟨pAd A c1 en.nd.ko, c1 - en.nd.ko, by unfold kSl; rw [(ok.key en he).1], hD.imp fun w h => ?_⟩, ⟨pAd A c1 (en.nd.ko + en.nd.kl), c1 - (en.nd.ko + en.nd.kl), by unfold vSl; rw [(ok.val en he).1], hD.imp fun w h => ?_⟩⟩
  · obtain ⟨_, _, _, _, _, _, hb, _⟩ := h.en ok he
    exact hb
  · obtain ⟨_, _, _, ke', _, hF', _, hb, _⟩ := h.en ok he
    have : ke' = en.nd.ko + en.nd.kl := by have := hF'.k1; have := hF'.g1; omega
    rw [this] at hb
    exact hb
def DbBack (g : Nat) (es : List En) (K N : Nat) (D : List Fr) (w0 : World) : Prop := ∀ (R' : List Fr) (w'' : World), Own (D ++ R') w0 w'' → DbSt g es K N R' w0 w''
def GetO (g : Nat) (es : List En) (K N : Nat) (key : List UInt8) (R : List Fr) (w0 : World) (e : Ending) (w' : World) : Prop :=
  (mIs En.k es key = true ∧ ∃ (en : En) (A : Option Addr) (n c : Nat) (D : List Fr), es[mAt En.k es key]? = some en ∧ e = .returned (.tuple #[.slice A n c, .nilIface]) ∧ n = en.v.length ∧ n ≤ 2147483647 ∧ Rd D w0 A en.v ∧ Own (D ++ R) w0 w' ∧ DbBack g es K N D w0) ∨
  (mIs En.k es key = false ∧ e = .returned (.tuple #[.slice none 0 0, .iface 231 (.string { data := #[108, 101, 118, 101, 108, 100, 98, 58, 32, 110, 111, 116, 32, 102, 111, 117, 110, 100] })]) ∧ DbSt g es K N R w0 w')
def FindO (g : Nat) (es : List En) (K N : Nat) (key : List UInt8) (R : List Fr) (w0 : World) (e : Ending) (w' : World) : Prop :=
  (∃ (en : En) (A : Option Addr) (n c : Nat) (B : Option Addr) (m d : Nat) (D : List Fr), es[mAt En.k es key]? = some en ∧ e = .returned (.tuple #[.slice A n c, .slice B m d, .nilIface]) ∧ n = en.k.length ∧ n ≤ 2147483647 ∧ Rd D w0 A en.k ∧ m = en.v.length ∧ m ≤ 2147483647 ∧ Rd D w0 B en.v ∧ Own (D ++ R) w0 w' ∧ DbBack g es K N D w0) ∨
  (es.length ≤ mAt En.k es key ∧ e = .returned (.tuple #[.slice none 0 0, .slice none 0 0, .iface 231 (.string { data := #[108, 101, 118, 101, 108, 100, 98, 58, 32, 110, 111, 116, 32, 102, 111, 117, 110, 100] })]) ∧ DbSt g es K N R w0 w')
theorem stGetO {g : Nat} {es : List En} {K N : Nat} {R : List Fr} {w0 w : World} (h : DbSt g es K N R w0 w) (kA : Option Addr) (kn kc : Nat) (key : List UInt8) (hk : Rd R w0 kA key) (hkn : kn = key.length) (hK : K ≤ 1073741824) (hN : N ≤ 1048576) :
    Calls Tryd.prog 67 #[.pointer (some ⟨g, 0, none⟩), .slice kA kn kc] w (GetO g es K N key R w0) := by
  obtain ⟨x, A, n1, c1, b, n2, c2, pv, mh, kv, nd, F, G, hs, hO⟩ := h
  refine (get_v g A kA n1 c1 b n2 c2 mh kn kc kv nd es key w hs.ok (hs.r hK hN hO) (hO.st hk fun y hy => by simp [hy]) hkn).mono ?_
  rintro e w' (⟨hi, en, he, rfl, ho⟩ | ⟨hi, rfl, ho⟩)
  · have hem := List.mem_of_getElem? he
    have hkv : kv.length ≤ 2147483647 := by have := hs.bk; omega
    obtain ⟨-, A', c', e1, h2⟩ := vSl_rd (L := dFr g x A n1 c1 b n2 c2 pv mh es.length (szKv (es.map En.kv)) :: (F ++ G)) (hs.st (w0 := w0) (g := g) (x := x) (n := es.length) (sz := szKv (es.map En.kv)) hK hN (by simp) (fun y hy => by simp [hy]) (fun y hy => by simp [hy])) hs.ok hkv hem
    have h3 := (fits_en hs.ok hkv hem).2
    exact .inl ⟨hi, en, A', _, c', _, he, by rw [e1], rfl, h3, h2, (hO.only0 ho).perm (perm_of fun _ _ z => by simp only [List.count_append, List.count_cons, List.cons_append, List.count_nil, List.nil_append, List.append_nil]; omega), fun R' w'' h => ⟨x, A, n1, c1, b, n2, c2, pv, mh, kv, nd, F, G, hs, h.perm (perm_of fun _ _ z => by simp only [List.count_append, List.count_cons, List.cons_append, List.count_nil, List.nil_append, List.append_nil]; omega)⟩⟩
  · exact .inr ⟨hi, rfl, x, A, n1, c1, b, n2, c2, pv, mh, kv, nd, F, G, hs, hO.only0 ho⟩
theorem stFindO {g : Nat} {es : List En} {K N : Nat} {R : List Fr} {w0 w : World} (h : DbSt g es K N R w0 w) (kA : Option Addr) (kn kc : Nat) (key : List UInt8) (hk : Rd R w0 kA key) (hkn : kn = key.length) (hK : K ≤ 1073741824) (hN : N ≤ 1048576) :
    Calls Tryd.prog 68 #[.pointer (some ⟨g, 0, none⟩), .slice kA kn kc] w (FindO g es K N key R w0) := by
  obtain ⟨x, A, n1, c1, b, n2, c2, pv, mh, kv, nd, F, G, hs, hO⟩ := h
  refine (find_v g A kA n1 c1 b n2 c2 mh kn kc kv nd es key w hs.ok (hs.r hK hN hO) (hO.st hk fun y hy => by simp [hy]) hkn).mono ?_
  rintro e w' (⟨en, he, rfl, ho⟩ | ⟨hi, rfl, ho⟩)
  · have hem := List.mem_of_getElem? he
    have hkv : kv.length ≤ 2147483647 := by have := hs.bk; omega
    obtain ⟨⟨A1, c1', e1, h1⟩, A2, c2', e2, h2⟩ := vSl_rd (L := dFr g x A n1 c1 b n2 c2 pv mh es.length (szKv (es.map En.kv)) :: (F ++ G)) (hs.st (w0 := w0) (g := g) (x := x) (n := es.length) (sz := szKv (es.map En.kv)) hK hN (by simp) (fun y hy => by simp [hy]) (fun y hy => by simp [hy])) hs.ok hkv hem
    have h3 := fits_en hs.ok hkv hem
    exact .inl ⟨en, A1, _, c1', A2, _, c2', _, he, by rw [e1, e2], rfl, h3.1, h1, rfl, h3.2, h2, (hO.only0 ho).perm (perm_of fun _ _ z => by simp only [List.count_append, List.count_cons, List.cons_append, List.count_nil, List.nil_append, List.append_nil]; omega), fun R' w'' h => ⟨x, A, n1, c1, b, n2, c2, pv, mh, kv, nd, F, G, hs, h.perm (perm_of fun _ _ z => by simp only [List.count_append, List.count_cons, List.cons_append, List.count_nil, List.nil_append, List.append_nil]; omega)⟩⟩
  · exact .inr ⟨hi, rfl, x, A, n1, c1, b, n2, c2, pv, mh, kv, nd, F, G, hs, hO.only0 ho⟩
end Go.Proofs.YtloflmcgbbbnjaaDoor
