/-
  memdb.DB: Get, Find, Contains, Len, Size, Free, Capacity.
  memdb.DB: Put, where the key is there.
-/
import Derived.Test.YtloflmcgbbbnjaaDoorMemM8
import Derived.Test.YtloflmcgbbbnjaaDoorMemM5
namespace Go.Proofs.YtloflmcgbbbnjaaDoor
open Go.RowKit Plain
set_option linter.all false

/-- What stands of a node, as the code reads it. -/
structure EnF (w : World) (b n1 c1 n2 p p1 p2 p3 ko ke ve kl vl h : Nat) : Prop where
  s1 : IntKind.i64.wrap ((p : Int) + 1) = (p1 : Int)
  s2 : IntKind.i64.wrap ((p : Int) + 2) = (p2 : Int)
  s3 : IntKind.i64.wrap ((p : Int) + 3) = (p3 : Int)
  t1 : IntKind.i64.wrap ((ko : Int) + (kl : Int)) = (ke : Int)
  t2 : IntKind.i64.wrap ((ke : Int) + (vl : Int)) = (ve : Int)
  a0 : w.cell? ⟨b, p, none⟩ = some (.int .i64 (ko : Int))
  a1 : w.cell? ⟨b, p1, none⟩ = some (.int .i64 (kl : Int))
  a2 : w.cell? ⟨b, p2, none⟩ = some (.int .i64 (vl : Int))
  a3 : w.cell? ⟨b, p3, none⟩ = some (.int .i64 (h : Int))
  l0 : (p : Int) < (n2 : Int)
  l1 : (p1 : Int) < (n2 : Int)
  l2 : (p2 : Int) < (n2 : Int)
  l3 : (p3 : Int) < (n2 : Int)
  g1 : (ko : Int) ≤ (ke : Int)
  g2 : (ke : Int) ≤ (c1 : Int)
  g3 : (ke : Int) ≤ (ve : Int)
  g4 : (ve : Int) ≤ (c1 : Int)
  g5 : (ve : Int) ≤ (n1 : Int)
  k1 : ke - ko = kl
  k2 : ve - ke = vl
  p0 : 16 ≤ p
  e1 : p1 = p + 1
  e2 : p2 = p + 2
  e3 : p3 = p + 3
  b1 : kl ≤ 2147483647
  b2 : vl ≤ 2147483647
theorem DbR.en {w : World} {g : Nat} {A : Option Addr} {n1 c1 b n2 c2 mh : Nat} {kv : List UInt8} {nd : List Nat} {es : List En} (hr : DbR w g A n1 c1 b n2 c2 mh kv nd) (ok : DbOk kv nd mh es) {e : En} (he : e ∈ es) :
    ∃ p1 p2 p3 ke ve, EnF w b n1 c1 n2 e.nd.p p1 p2 p3 e.nd.ko ke ve e.nd.kl e.nd.vl e.nd.h ∧ BsAt w (if c1 = e.nd.ko then A else Option.map (fun x => x.add e.nd.ko) A) e.k ∧ BsAt w (if c1 = ke then A else Option.map (fun x => x.add ke) A) e.v ∧ e.nd.kl = e.k.length ∧ e.nd.vl = e.v.length := by
  obtain ⟨h0, h1, h2, h3⟩ := ok.at_ he
  obtain ⟨a0, l0⟩ := hr.bn.cell _ _ h0
  obtain ⟨a1, l1⟩ := hr.bn.cell _ _ h1
  obtain ⟨a2, l2⟩ := hr.bn.cell _ _ h2
  obtain ⟨a3, l3⟩ := hr.bn.cell _ _ h3
  have hf := hr.bn.fit
  have hfit := ok.fit e he
  have hln := hr.ln
  have hle := hr.le
  have hfi := hr.fit
  have hp := ok.p16 he
  obtain ⟨k1, k2⟩ := ok.key e he
  obtain ⟨v1, v2⟩ := ok.val e he
  refine ⟨e.nd.p + 1, e.nd.p + 2, e.nd.p + 3, e.nd.ko + e.nd.kl, e.nd.ko + e.nd.kl + e.nd.vl, ⟨wrap_add _ 1 (by omega), wrap_add _ 2 (by omega), wrap_add _ 3 (by omega), wrap_add _ _ (by omega), wrap_add _ _ (by omega), a0, a1, a2, a3, by omega, by omega, by omega, by omega, by omega, by omega, by omega, by omega, by omega, by omega, by omega, hp, rfl, rfl, rfl, by omega, by omega⟩, piece_at hr.bk _ _ _ (by omega) k2, piece_at hr.bk _ _ _ (by omega) v2, k1, v1⟩
def GetOut (es : List En) (key : List UInt8) (w : World) (e : Ending) (w' : World) : Prop :=
  (mIs En.k es key = true ∧ ∃ (en : En) (A : Option Addr) (n c : Nat), es[mAt En.k es key]? = some en ∧ e = .returned (.tuple #[.slice A n c, .nilIface]) ∧ n = en.v.length ∧ n ≤ 2147483647 ∧ BsAt w' A en.v ∧ Only [] w w') ∨
  (mIs En.k es key = false ∧ e = .returned (.tuple #[.slice none 0 0, .iface 231 (.string { data := #[108, 101, 118, 101, 108, 100, 98, 58, 32, 110, 111, 116, 32, 102, 111, 117, 110, 100] })]) ∧ Only [] w w')
set_option maxHeartbeats 3200000 in
set_option maxRecDepth 100000 in
theorem get_any (g : Nat) (A kA : Option Addr) (n1 c1 b n2 c2 mh kn kc : Nat) (kv : List UInt8) (nd : List Nat) (es : List En) (key : List UInt8) (w : World)
    (ok : DbOk kv nd mh es) (hr : DbR w g A n1 c1 b n2 c2 mh kv nd) (hk : BsAt w kA key) (hkn : kn = key.length) :
    Calls Tryd.prog 67 #[.pointer (some ⟨g, 0, none⟩), .slice kA kn kc] w (GetOut es key w) := by
  have HG := hid (findGE_r g A kA n1 c1 b n2 c2 mh kn kc kv nd es key w ok hr hk hkn)
  have HOK := hid ok
  have HR := hid hr
  clear ok hr hk hkn
  go_enter Tryd.func67, Tryd.ntmps67
  go_wp2_with fail
  refine HG.out.mono ?_
  rintro e w1 ⟨rfl, ho1⟩
  have HO1 := hid ho1
  cases hi : mIs En.k es key with
  | false =>
    have HI := hid hi
    clear ho1 hi
    go_wp2_with fail
    go_ret2
    exact .inr ⟨HI.out, rfl, HO1.out⟩
  | true =>
    obtain ⟨en, he, hk⟩ := mIs_get hi
    have hno : nodeOf es (mAt En.k es key) = en.nd.p := by unfold nodeOf; rw [he]
    have hr1 := HR.out.keep0 ho1
    obtain ⟨p1, p2, p3, ke, ve, hF, hb1, hb2, hl1, hl2⟩ := hr1.en HOK.out (List.mem_of_getElem? he)
    rw [hno]
    obtain ⟨s1, s2, s3, t1, t2, a0, a1, a2, a3, l0, l1, l2, l3, g1, g2, g3, g4, g5, k1, k2, p0, e1, e2, e3, b1, b2⟩ := hF
    have q2 := hr1.q2
    have q3 := hr1.q3
    have HI := hid hi
    have HE := hid he
    have HB2 := hid hb2
    have HL2 := hid hl2
    have HB := hid b2
    clear hr1 hno ho1 hi he hk hb1 hb2 hl1 hl2 e1 e2 e3 b1 b2
    generalize en.nd.p = p at *
    generalize en.nd.ko = ko at *
    generalize en.nd.kl = kl at *
    generalize en.nd.vl = vl at *
    generalize en.nd.h = hh at *
    clear a3 l3 s3
    go_wp2_with fail
    refine AnyT.start (S := fun w' => w'.cell? ⟨g, 3, none⟩ = some (.slice (some ⟨b, 0, none⟩) n2 c2) ∧ w'.cell? ⟨b, p, none⟩ = some (.int .i64 (ko : Int)) ∧ w'.cell? ⟨b, p1, none⟩ = some (.int .i64 (kl : Int))) (T := []) (by kernel_rfl) (⟨q3, a0, a1⟩) (fun hHeld => ?_)
    refine AnyT.take (i := 0) (v := ?_) (by simp only [List.getElem?_toArray, List.getElem?_cons_succ, List.getElem?_cons_zero]; rfl) (by kernel_rfl) (by kernel_rfl) (by kernel_rfl) (by kernel_rfl) (by intro _ _ _ h; exact h) (Or.inl ⟨by rfl, fun w hSw => ?_⟩) hHeld ?_
    rotate_left
    · ((try dsimp only at hSw); go_simp; first | done | with_reducible rfl | rfl)
    try simp only [Act.put, List.setIfInBounds_toArray, List.set_cons_zero, List.set_cons_succ]
    refine AnyT.take (i := 1) (v := ?_) (by simp only [List.getElem?_toArray, List.getElem?_cons_succ, List.getElem?_cons_zero]; rfl) (by kernel_rfl) (by kernel_rfl) (by kernel_rfl) (by kernel_rfl) (by intro _ _ _ h; exact h) (Or.inl ⟨by rfl, fun w hSw => ?_⟩) hHeld ?_
    rotate_left
    · ((try dsimp only at hSw); go_simp; first | done | with_reducible rfl | rfl)
    try simp only [Act.put, List.setIfInBounds_toArray, List.set_cons_zero, List.set_cons_succ]
    refine AnyT.take (i := 2) (v := ?_) (by simp only [List.getElem?_toArray, List.getElem?_cons_succ, List.getElem?_cons_zero]; rfl) (by kernel_rfl) (by kernel_rfl) (by kernel_rfl) (by kernel_rfl) (by intro _ _ _ h; exact h) (Or.inl ⟨by rfl, fun w hSw => ?_⟩) hHeld ?_
    rotate_left
    · ((try dsimp only at hSw); go_simp; first | done | with_reducible rfl | rfl)
    try simp only [Act.put, List.setIfInBounds_toArray, List.set_cons_zero, List.set_cons_succ]
    refine AnyT.take (i := 3) (v := ?_) (by simp only [List.getElem?_toArray, List.getElem?_cons_succ, List.getElem?_cons_zero]; rfl) (by kernel_rfl) (by kernel_rfl) (by kernel_rfl) (by kernel_rfl) (by intro _ _ _ h; exact h) (Or.inl ⟨by rfl, fun w hSw => ?_⟩) hHeld ?_
    rotate_left
    · ((try dsimp only at hSw); go_simp; first | done | with_reducible rfl | rfl)
    try simp only [Act.put, List.setIfInBounds_toArray, List.set_cons_zero, List.set_cons_succ]
    refine AnyT.take (i := 4) (v := ?_) (by simp only [List.getElem?_toArray, List.getElem?_cons_succ, List.getElem?_cons_zero]; rfl) (by kernel_rfl) (by kernel_rfl) (by kernel_rfl) (by kernel_rfl) (by intro _ _ _ h; exact h) (Or.inl ⟨by rfl, fun w hSw => ?_⟩) hHeld ?_
    rotate_left
    · ((try dsimp only at hSw); go_simp; first | done | with_reducible rfl | rfl)
    try simp only [Act.put, List.setIfInBounds_toArray, List.set_cons_zero, List.set_cons_succ]
    refine AnyT.take (i := 5) (v := ?_) (by simp only [List.getElem?_toArray, List.getElem?_cons_succ, List.getElem?_cons_zero]; rfl) (by kernel_rfl) (by kernel_rfl) (by kernel_rfl) (by kernel_rfl) (by intro _ _ _ h; exact h) (Or.inl ⟨by rfl, fun w hSw => ?_⟩) hHeld ?_
    rotate_left
    · ((try dsimp only at hSw); go_simp; first | done | with_reducible rfl | rfl)
    try simp only [Act.put, List.setIfInBounds_toArray, List.set_cons_zero, List.set_cons_succ]
    refine AnyT.take (i := 6) (v := ?_) (by simp only [List.getElem?_toArray, List.getElem?_cons_succ, List.getElem?_cons_zero]; rfl) (by kernel_rfl) (by kernel_rfl) (by kernel_rfl) (by kernel_rfl) (by intro _ _ _ h; exact h) (Or.inl ⟨by rfl, fun w hSw => ?_⟩) hHeld ?_
    rotate_left
    · ((try dsimp only at hSw); go_simp; first | done | with_reducible rfl | rfl)
    try simp only [Act.put, List.setIfInBounds_toArray, List.set_cons_zero, List.set_cons_succ]
    refine AnyT.take (i := 7) (v := ?_) (by simp only [List.getElem?_toArray, List.getElem?_cons_succ, List.getElem?_cons_zero]; rfl) (by kernel_rfl) (by kernel_rfl) (by kernel_rfl) (by kernel_rfl) (by intro _ _ _ h; exact h) (Or.inl ⟨by rfl, fun w hSw => ?_⟩) hHeld ?_
    rotate_left
    · ((try dsimp only at hSw); go_simp; first | done | with_reducible rfl | rfl)
    try simp only [Act.put, List.setIfInBounds_toArray, List.set_cons_zero, List.set_cons_succ]
    refine AnyT.take (i := 8) (v := ?_) (by simp only [List.getElem?_toArray, List.getElem?_cons_succ, List.getElem?_cons_zero]; rfl) (by kernel_rfl) (by kernel_rfl) (by kernel_rfl) (by kernel_rfl) (by intro _ _ _ h; exact h) (Or.inl ⟨by rfl, fun w hSw => ?_⟩) hHeld ?_
    rotate_left
    · ((try dsimp only at hSw); go_simp; first | done | with_reducible rfl | rfl)
    try simp only [Act.put, List.setIfInBounds_toArray, List.set_cons_zero, List.set_cons_succ]
    refine AnyT.take (i := 9) (v := ?_) (by simp only [List.getElem?_toArray, List.getElem?_cons_succ, List.getElem?_cons_zero]; rfl) (by kernel_rfl) (by kernel_rfl) (by kernel_rfl) (by kernel_rfl) (by intro _ _ _ h; exact h) (Or.inl ⟨by rfl, fun w hSw => ?_⟩) hHeld ?_
    rotate_left
    · ((try dsimp only at hSw); go_simp; first | done | with_reducible rfl | rfl)
    try simp only [Act.put, List.setIfInBounds_toArray, List.set_cons_zero, List.set_cons_succ]
    refine AnyT.take (i := 10) (v := ?_) (by simp only [List.getElem?_toArray, List.getElem?_cons_succ, List.getElem?_cons_zero]; rfl) (by kernel_rfl) (by kernel_rfl) (by kernel_rfl) (by kernel_rfl) (by intro _ _ _ h; exact h) (Or.inl ⟨by rfl, fun w hSw => ?_⟩) hHeld ?_
    rotate_left
    · ((try dsimp only at hSw); go_simp; first | done | with_reducible rfl | rfl)
    try simp only [Act.put, List.setIfInBounds_toArray, List.set_cons_zero, List.set_cons_succ]
    refine AnyT.take (i := 11) (v := ?_) (by simp only [List.getElem?_toArray, List.getElem?_cons_succ, List.getElem?_cons_zero]; rfl) (by kernel_rfl) (by kernel_rfl) (by kernel_rfl) (by kernel_rfl) (by intro _ _ _ h; exact h) (Or.inl ⟨by rfl, fun w hSw => ?_⟩) hHeld ?_
    rotate_left
    · ((try dsimp only at hSw); go_simp; first | done | with_reducible rfl | rfl)
    try simp only [Act.put, List.setIfInBounds_toArray, List.set_cons_zero, List.set_cons_succ]
    refine AnyT.take (i := 12) (v := ?_) (by simp only [List.getElem?_toArray, List.getElem?_cons_succ, List.getElem?_cons_zero]; rfl) (by kernel_rfl) (by kernel_rfl) (by kernel_rfl) (by kernel_rfl) (by intro _ _ _ h; exact h) (Or.inl ⟨by rfl, fun w hSw => ?_⟩) hHeld ?_
    rotate_left
    · ((try dsimp only at hSw); go_simp; first | done | with_reducible rfl | rfl)
    try simp only [Act.put, List.setIfInBounds_toArray, List.set_cons_zero, List.set_cons_succ]
    refine AnyT.take (i := 13) (v := ?_) (by simp only [List.getElem?_toArray, List.getElem?_cons_succ, List.getElem?_cons_zero]; rfl) (by kernel_rfl) (by kernel_rfl) (by kernel_rfl) (by kernel_rfl) (by intro _ _ _ h; exact h) (Or.inl ⟨by rfl, fun w hSw => ?_⟩) hHeld ?_
    rotate_left
    · ((try dsimp only at hSw); go_simp; first | done | with_reducible rfl | rfl)
    try simp only [Act.put, List.setIfInBounds_toArray, List.set_cons_zero, List.set_cons_succ]
    refine AnyT.take (i := 14) (v := ?_) (by simp only [List.getElem?_toArray, List.getElem?_cons_succ, List.getElem?_cons_zero]; rfl) (by kernel_rfl) (by kernel_rfl) (by kernel_rfl) (by kernel_rfl) (by intro _ _ _ h; exact h) (Or.inl ⟨by rfl, fun w hSw => ?_⟩) hHeld ?_
    rotate_left
    · ((try dsimp only at hSw); go_simp; first | done | with_reducible rfl | rfl)
    try simp only [Act.put, List.setIfInBounds_toArray, List.set_cons_zero, List.set_cons_succ]
    refine AnyT.take (i := 15) (v := ?_) (by simp only [List.getElem?_toArray, List.getElem?_cons_succ, List.getElem?_cons_zero]; rfl) (by kernel_rfl) (by kernel_rfl) (by kernel_rfl) (by kernel_rfl) (by intro _ _ _ h; exact h) (Or.inl ⟨by rfl, fun w hSw => ?_⟩) hHeld ?_
    rotate_left
    · ((try dsimp only at hSw); go_simp; first | done | with_reducible rfl | rfl)
    try simp only [Act.put, List.setIfInBounds_toArray, List.set_cons_zero, List.set_cons_succ]
    refine AnyT.take (i := 16) (v := ?_) (by simp only [List.getElem?_toArray, List.getElem?_cons_succ, List.getElem?_cons_zero]; rfl) (by kernel_rfl) (by kernel_rfl) (by kernel_rfl) (by kernel_rfl) (by intro _ _ _ h; exact h) (Or.inl ⟨by rfl, fun w hSw => ?_⟩) hHeld ?_
    rotate_left
    · ((try dsimp only at hSw); go_simp; first | done | with_reducible rfl | rfl)
    try simp only [Act.put, List.setIfInBounds_toArray, List.set_cons_zero, List.set_cons_succ]
    refine AnyT.done (by kernel_rfl) ?_ _
    clear hHeld
    go_wp2_with fail
    refine AnyT.start (S := fun w' => w'.cell? ⟨g, 2, none⟩ = some (.slice A n1 c1) ∧ w'.cell? ⟨g, 3, none⟩ = some (.slice (some ⟨b, 0, none⟩) n2 c2) ∧ w'.cell? ⟨b, p2, none⟩ = some (.int .i64 (vl : Int))) (T := []) (by kernel_rfl) (⟨q2, q3, a2⟩) (fun hHeld => ?_)
    refine AnyT.take (i := 0) (v := ?_) (by simp only [List.getElem?_toArray, List.getElem?_cons_succ, List.getElem?_cons_zero]; rfl) (by kernel_rfl) (by kernel_rfl) (by kernel_rfl) (by kernel_rfl) (by intro _ _ _ h; exact h) (Or.inl ⟨by rfl, fun w hSw => ?_⟩) hHeld ?_
    rotate_left
    · ((try dsimp only at hSw); go_simp; first | done | with_reducible rfl | rfl)
    try simp only [Act.put, List.setIfInBounds_toArray, List.set_cons_zero, List.set_cons_succ]
    refine AnyT.take (i := 1) (v := ?_) (by simp only [List.getElem?_toArray, List.getElem?_cons_succ, List.getElem?_cons_zero]; rfl) (by kernel_rfl) (by kernel_rfl) (by kernel_rfl) (by kernel_rfl) (by intro _ _ _ h; exact h) (Or.inl ⟨by rfl, fun w hSw => ?_⟩) hHeld ?_
    rotate_left
    · ((try dsimp only at hSw); go_simp; first | done | with_reducible rfl | rfl)
    try simp only [Act.put, List.setIfInBounds_toArray, List.set_cons_zero, List.set_cons_succ]
    refine AnyT.take (i := 2) (v := ?_) (by simp only [List.getElem?_toArray, List.getElem?_cons_succ, List.getElem?_cons_zero]; rfl) (by kernel_rfl) (by kernel_rfl) (by kernel_rfl) (by kernel_rfl) (by intro _ _ _ h; exact h) (Or.inl ⟨by rfl, fun w hSw => ?_⟩) hHeld ?_
    rotate_left
    · ((try dsimp only at hSw); go_simp; first | done | with_reducible rfl | rfl)
    try simp only [Act.put, List.setIfInBounds_toArray, List.set_cons_zero, List.set_cons_succ]
    refine AnyT.take (i := 3) (v := ?_) (by simp only [List.getElem?_toArray, List.getElem?_cons_succ, List.getElem?_cons_zero]; rfl) (by kernel_rfl) (by kernel_rfl) (by kernel_rfl) (by kernel_rfl) (by intro _ _ _ h; exact h) (Or.inl ⟨by rfl, fun w hSw => ?_⟩) hHeld ?_
    rotate_left
    · ((try dsimp only at hSw); go_simp; first | done | with_reducible rfl | rfl)
    try simp only [Act.put, List.setIfInBounds_toArray, List.set_cons_zero, List.set_cons_succ]
    refine AnyT.take (i := 4) (v := ?_) (by simp only [List.getElem?_toArray, List.getElem?_cons_succ, List.getElem?_cons_zero]; rfl) (by kernel_rfl) (by kernel_rfl) (by kernel_rfl) (by kernel_rfl) (by intro _ _ _ h; exact h) (Or.inl ⟨by rfl, fun w hSw => ?_⟩) hHeld ?_
    rotate_left
    · ((try dsimp only at hSw); go_simp; first | done | with_reducible rfl | rfl)
    try simp only [Act.put, List.setIfInBounds_toArray, List.set_cons_zero, List.set_cons_succ]
    refine AnyT.take (i := 5) (v := ?_) (by simp only [List.getElem?_toArray, List.getElem?_cons_succ, List.getElem?_cons_zero]; rfl) (by kernel_rfl) (by kernel_rfl) (by kernel_rfl) (by kernel_rfl) (by intro _ _ _ h; exact h) (Or.inl ⟨by rfl, fun w hSw => ?_⟩) hHeld ?_
    rotate_left
    · ((try dsimp only at hSw); go_simp; first | done | with_reducible rfl | rfl)
    try simp only [Act.put, List.setIfInBounds_toArray, List.set_cons_zero, List.set_cons_succ]
    refine AnyT.take (i := 6) (v := ?_) (by simp only [List.getElem?_toArray, List.getElem?_cons_succ, List.getElem?_cons_zero]; rfl) (by kernel_rfl) (by kernel_rfl) (by kernel_rfl) (by kernel_rfl) (by intro _ _ _ h; exact h) (Or.inl ⟨by rfl, fun w hSw => ?_⟩) hHeld ?_
    rotate_left
    · ((try dsimp only at hSw); go_simp; first | done | with_reducible rfl | rfl)
    try simp only [Act.put, List.setIfInBounds_toArray, List.set_cons_zero, List.set_cons_succ]
    refine AnyT.take (i := 7) (v := ?_) (by simp only [List.getElem?_toArray, List.getElem?_cons_succ, List.getElem?_cons_zero]; rfl) (by kernel_rfl) (by kernel_rfl) (by kernel_rfl) (by kernel_rfl) (by intro _ _ _ h; exact h) (Or.inl ⟨by rfl, fun w hSw => ?_⟩) hHeld ?_
    rotate_left
    · ((try dsimp only at hSw); go_simp; first | done | with_reducible rfl | rfl)
    try simp only [Act.put, List.setIfInBounds_toArray, List.set_cons_zero, List.set_cons_succ]
    refine AnyT.take (i := 8) (v := ?_) (by simp only [List.getElem?_toArray, List.getElem?_cons_succ, List.getElem?_cons_zero]; rfl) (by kernel_rfl) (by kernel_rfl) (by kernel_rfl) (by kernel_rfl) (by intro _ _ _ h; exact h) (Or.inl ⟨by rfl, fun w hSw => ?_⟩) hHeld ?_
    rotate_left
    · ((try dsimp only at hSw); go_simp; first | done | with_reducible rfl | rfl)
    try simp only [Act.put, List.setIfInBounds_toArray, List.set_cons_zero, List.set_cons_succ]
    refine AnyT.take (i := 9) (v := ?_) (by simp only [List.getElem?_toArray, List.getElem?_cons_succ, List.getElem?_cons_zero]; rfl) (by kernel_rfl) (by kernel_rfl) (by kernel_rfl) (by kernel_rfl) (by intro _ _ _ h; exact h) (Or.inl ⟨by rfl, fun w hSw => ?_⟩) hHeld ?_
    rotate_left
    · ((try dsimp only at hSw); go_simp; first | done | with_reducible rfl | rfl)
    try simp only [Act.put, List.setIfInBounds_toArray, List.set_cons_zero, List.set_cons_succ]
    refine AnyT.take (i := 10) (v := ?_) (by simp only [List.getElem?_toArray, List.getElem?_cons_succ, List.getElem?_cons_zero]; rfl) (by kernel_rfl) (by kernel_rfl) (by kernel_rfl) (by kernel_rfl) (by intro _ _ _ h; exact h) (Or.inl ⟨by rfl, fun w hSw => ?_⟩) hHeld ?_
    rotate_left
    · ((try dsimp only at hSw); go_simp; first | done | with_reducible rfl | rfl)
    try simp only [Act.put, List.setIfInBounds_toArray, List.set_cons_zero, List.set_cons_succ]
    refine AnyT.take (i := 11) (v := ?_) (by simp only [List.getElem?_toArray, List.getElem?_cons_succ, List.getElem?_cons_zero]; rfl) (by kernel_rfl) (by kernel_rfl) (by kernel_rfl) (by kernel_rfl) (by intro _ _ _ h; exact h) (Or.inl ⟨by rfl, fun w hSw => ?_⟩) hHeld ?_
    rotate_left
    · ((try dsimp only at hSw); go_simp; first | done | with_reducible rfl | rfl)
    try simp only [Act.put, List.setIfInBounds_toArray, List.set_cons_zero, List.set_cons_succ]
    refine AnyT.take (i := 12) (v := ?_) (by simp only [List.getElem?_toArray, List.getElem?_cons_succ, List.getElem?_cons_zero]; rfl) (by kernel_rfl) (by kernel_rfl) (by kernel_rfl) (by kernel_rfl) (by intro _ _ _ h; exact h) (Or.inl ⟨by rfl, fun w hSw => ?_⟩) hHeld ?_
    rotate_left
    · ((try dsimp only at hSw); go_simp; first | done | with_reducible rfl | rfl)
    try simp only [Act.put, List.setIfInBounds_toArray, List.set_cons_zero, List.set_cons_succ]
    refine AnyT.take (i := 13) (v := ?_) (by simp only [List.getElem?_toArray, List.getElem?_cons_succ, List.getElem?_cons_zero]; rfl) (by kernel_rfl) (by kernel_rfl) (by kernel_rfl) (by kernel_rfl) (by intro _ _ _ h; exact h) (Or.inl ⟨by rfl, fun w hSw => ?_⟩) hHeld ?_
    rotate_left
    · ((try dsimp only at hSw); go_simp; first | done | with_reducible rfl | rfl)
    try simp only [Act.put, List.setIfInBounds_toArray, List.set_cons_zero, List.set_cons_succ]
    refine AnyT.take (i := 14) (v := ?_) (by simp only [List.getElem?_toArray, List.getElem?_cons_succ, List.getElem?_cons_zero]; rfl) (by kernel_rfl) (by kernel_rfl) (by kernel_rfl) (by kernel_rfl) (by intro _ _ _ h; exact h) (Or.inl ⟨by rfl, fun w hSw => ?_⟩) hHeld ?_
    rotate_left
    · ((try dsimp only at hSw); go_simp; first | done | with_reducible rfl | rfl)
    try simp only [Act.put, List.setIfInBounds_toArray, List.set_cons_zero, List.set_cons_succ]
    refine AnyT.take (i := 15) (v := ?_) (by simp only [List.getElem?_toArray, List.getElem?_cons_succ, List.getElem?_cons_zero]; rfl) (by kernel_rfl) (by kernel_rfl) (by kernel_rfl) (by kernel_rfl) (by intro _ _ _ h; exact h) (Or.inl ⟨by rfl, fun w hSw => ?_⟩) hHeld ?_
    rotate_left
    · ((try dsimp only at hSw); go_simp; first | done | with_reducible rfl | rfl)
    try simp only [Act.put, List.setIfInBounds_toArray, List.set_cons_zero, List.set_cons_succ]
    refine AnyT.take (i := 16) (v := ?_) (by simp only [List.getElem?_toArray, List.getElem?_cons_succ, List.getElem?_cons_zero]; rfl) (by kernel_rfl) (by kernel_rfl) (by kernel_rfl) (by kernel_rfl) (by intro _ _ _ h; exact h) (Or.inl ⟨by rfl, fun w hSw => ?_⟩) hHeld ?_
    rotate_left
    · ((try dsimp only at hSw); go_simp; first | done | with_reducible rfl | rfl)
    try simp only [Act.put, List.setIfInBounds_toArray, List.set_cons_zero, List.set_cons_succ]
    refine AnyT.done (by kernel_rfl) ?_ _
    clear hHeld
    generalize (if c1 = ke then A else Option.map (fun x => x.add ke) A) = A3 at HB2 ⊢
    go_wp2_with fail
    go_ret2
    exact .inl ⟨HI.out, en, _, vl, c1 - ke, HE.out, rfl, HL2.out, HB.out, HB2.out.keep0 ((Only.refl _ _).drew.drew), HO1.out.drew.drew⟩
def FindOut (es : List En) (key : List UInt8) (w : World) (e : Ending) (w' : World) : Prop :=
  (∃ (en : En) (A : Option Addr) (n c : Nat) (B : Option Addr) (m d : Nat), es[mAt En.k es key]? = some en ∧ e = .returned (.tuple #[.slice A n c, .slice B m d, .nilIface]) ∧ n = en.k.length ∧ n ≤ 2147483647 ∧ BsAt w' A en.k ∧ m = en.v.length ∧ m ≤ 2147483647 ∧ BsAt w' B en.v ∧ Only [] w w') ∨
  (es.length ≤ mAt En.k es key ∧ e = .returned (.tuple #[.slice none 0 0, .slice none 0 0, .iface 231 (.string { data := #[108, 101, 118, 101, 108, 100, 98, 58, 32, 110, 111, 116, 32, 102, 111, 117, 110, 100] })]) ∧ Only [] w w')
set_option maxHeartbeats 3200000 in
set_option maxRecDepth 100000 in
theorem find_any (g : Nat) (A kA : Option Addr) (n1 c1 b n2 c2 mh kn kc : Nat) (kv : List UInt8) (nd : List Nat) (es : List En) (key : List UInt8) (w : World)
    (ok : DbOk kv nd mh es) (hr : DbR w g A n1 c1 b n2 c2 mh kv nd) (hk : BsAt w kA key) (hkn : kn = key.length) :
    Calls Tryd.prog 68 #[.pointer (some ⟨g, 0, none⟩), .slice kA kn kc] w (FindOut es key w) := by
  have HG := hid (findGE_r g A kA n1 c1 b n2 c2 mh kn kc kv nd es key w ok hr hk hkn)
  have HOK := hid ok
  have HR := hid hr
  clear ok hr hk hkn
  obtain ⟨m, hM⟩ : ∃ m, mAt En.k es key = m := ⟨_, rfl⟩
  obtain ⟨z, hz⟩ : ∃ z, mIs En.k es key = z := ⟨_, rfl⟩
  rw [hM, hz] at HG
  have HM := hid hM
  clear hM hz
  cases he : es[m]? with
  | none =>
    have hno : nodeOf es m = 0 := by unfold nodeOf; rw [he]
    rw [hno] at HG
    have HE := hid he
    clear he hno
    go_enter Tryd.func68, Tryd.ntmps68
    go_wp2_with fail
    refine HG.out.mono ?_
    rintro e w1 ⟨rfl, ho1⟩
    have HO1 := hid ho1
    clear ho1
    go_wp2_with fail
    go_ret3
    exact .inr ⟨by rw [HM.out]; exact List.getElem?_eq_none_iff.1 HE.out, rfl, HO1.out⟩
  | some en =>
    have hno : nodeOf es m = en.nd.p := by unfold nodeOf; rw [he]
    rw [hno] at HG
    have HE := hid he
    clear he hno
    go_enter Tryd.func68, Tryd.ntmps68
    go_wp2_with fail
    refine HG.out.mono ?_
    rintro e w1 ⟨rfl, ho1⟩
    have hr1 := HR.out.keep0 ho1
    obtain ⟨p1, p2, p3, ke, ve, hF, hb1, hb2, hl1, hl2⟩ := hr1.en HOK.out (List.mem_of_getElem? HE.out)
    obtain ⟨s1, s2, s3, t1, t2, a0, a1, a2, a3, l0, l1, l2, l3, g1, g2, g3, g4, g5, k1, k2, p0, e1, e2, e3, b1, b2⟩ := hF
    have q2 := hr1.q2
    have q3 := hr1.q3
    have HO1 := hid ho1
    have HB1 := hid hb1
    have HL1 := hid hl1
    have HB2 := hid hb2
    have HL2 := hid hl2
    have HB := hid (And.intro b1 b2)
    clear hr1 ho1 hb1 hb2 hl1 hl2 e1 e2 e3 b1 b2 HG
    generalize en.nd.p = p at *
    generalize en.nd.ko = ko at *
    generalize en.nd.kl = kl at *
    generalize en.nd.vl = vl at *
    generalize en.nd.h = hh at *
    clear a3 l3 s3
    have n0 : ((p : Int) == 0) = false := by rw [beq_eq_false_iff_ne]; omega
    have n0' : ¬ (p : Int) = 0 := by omega
    have n0'' : ¬ p = 0 := by omega
    go_upto_region 5 with fail
    go_cut [4] (fun v wx => ∃ A3 c, v = .slice A3 kl c ∧ Hid (BsAt w1 A3 en.k) ∧ w1 = wx)
    case first =>
      have hb := HB1.out
      by_cases hck : c1 = ko
      · rw [if_pos hck] at hb
        subst hck
        have HB := hid hb
        clear hb HB1
        go_wp2_with fail
        go_meet
        exact ⟨_, _, rfl, HB, rfl⟩
      · rw [if_neg hck] at hb
        have HB := hid hb
        clear hb HB1
        go_wp2_with fail
        go_meet
        exact ⟨_, _, rfl, HB, rfl⟩
    case rest =>
    obtain ⟨A3, c3, rfl, HB1, rfl⟩ := hcut
    go_wp2_with fail
    refine AnyT.start (S := fun w' => w'.cell? ⟨g, 2, none⟩ = some (.slice A n1 c1) ∧ w'.cell? ⟨g, 3, none⟩ = some (.slice (some ⟨b, 0, none⟩) n2 c2) ∧ w'.cell? ⟨b, p2, none⟩ = some (.int .i64 (vl : Int))) (T := []) (by kernel_rfl) (⟨q2, q3, a2⟩) (fun hHeld => ?_)
    refine AnyT.take (i := 0) (v := ?_) (by simp only [List.getElem?_toArray, List.getElem?_cons_succ, List.getElem?_cons_zero]; rfl) (by kernel_rfl) (by kernel_rfl) (by kernel_rfl) (by kernel_rfl) (by intro _ _ _ h; exact h) (Or.inl ⟨by rfl, fun w hSw => ?_⟩) hHeld ?_
    rotate_left
    · ((try dsimp only at hSw); go_simp; first | done | with_reducible rfl | rfl)
    try simp only [Act.put, List.setIfInBounds_toArray, List.set_cons_zero, List.set_cons_succ]
    refine AnyT.take (i := 1) (v := ?_) (by simp only [List.getElem?_toArray, List.getElem?_cons_succ, List.getElem?_cons_zero]; rfl) (by kernel_rfl) (by kernel_rfl) (by kernel_rfl) (by kernel_rfl) (by intro _ _ _ h; exact h) (Or.inl ⟨by rfl, fun w hSw => ?_⟩) hHeld ?_
    rotate_left
    · ((try dsimp only at hSw); go_simp; first | done | with_reducible rfl | rfl)
    try simp only [Act.put, List.setIfInBounds_toArray, List.set_cons_zero, List.set_cons_succ]
    refine AnyT.take (i := 2) (v := ?_) (by simp only [List.getElem?_toArray, List.getElem?_cons_succ, List.getElem?_cons_zero]; rfl) (by kernel_rfl) (by kernel_rfl) (by kernel_rfl) (by kernel_rfl) (by intro _ _ _ h; exact h) (Or.inl ⟨by rfl, fun w hSw => ?_⟩) hHeld ?_
    rotate_left
    · ((try dsimp only at hSw); go_simp; first | done | with_reducible rfl | rfl)
    try simp only [Act.put, List.setIfInBounds_toArray, List.set_cons_zero, List.set_cons_succ]
    refine AnyT.take (i := 3) (v := ?_) (by simp only [List.getElem?_toArray, List.getElem?_cons_succ, List.getElem?_cons_zero]; rfl) (by kernel_rfl) (by kernel_rfl) (by kernel_rfl) (by kernel_rfl) (by intro _ _ _ h; exact h) (Or.inl ⟨by rfl, fun w hSw => ?_⟩) hHeld ?_
    rotate_left
    · ((try dsimp only at hSw); go_simp; first | done | with_reducible rfl | rfl)
    try simp only [Act.put, List.setIfInBounds_toArray, List.set_cons_zero, List.set_cons_succ]
    refine AnyT.take (i := 4) (v := ?_) (by simp only [List.getElem?_toArray, List.getElem?_cons_succ, List.getElem?_cons_zero]; rfl) (by kernel_rfl) (by kernel_rfl) (by kernel_rfl) (by kernel_rfl) (by intro _ _ _ h; exact h) (Or.inl ⟨by rfl, fun w hSw => ?_⟩) hHeld ?_
    rotate_left
    · ((try dsimp only at hSw); go_simp; first | done | with_reducible rfl | rfl)
    try simp only [Act.put, List.setIfInBounds_toArray, List.set_cons_zero, List.set_cons_succ]
    refine AnyT.take (i := 5) (v := ?_) (by simp only [List.getElem?_toArray, List.getElem?_cons_succ, List.getElem?_cons_zero]; rfl) (by kernel_rfl) (by kernel_rfl) (by kernel_rfl) (by kernel_rfl) (by intro _ _ _ h; exact h) (Or.inl ⟨by rfl, fun w hSw => ?_⟩) hHeld ?_
    rotate_left
    · ((try dsimp only at hSw); go_simp; first | done | with_reducible rfl | rfl)
    try simp only [Act.put, List.setIfInBounds_toArray, List.set_cons_zero, List.set_cons_succ]
    refine AnyT.take (i := 6) (v := ?_) (by simp only [List.getElem?_toArray, List.getElem?_cons_succ, List.getElem?_cons_zero]; rfl) (by kernel_rfl) (by kernel_rfl) (by kernel_rfl) (by kernel_rfl) (by intro _ _ _ h; exact h) (Or.inl ⟨by rfl, fun w hSw => ?_⟩) hHeld ?_
    rotate_left
    · ((try dsimp only at hSw); go_simp; first | done | with_reducible rfl | rfl)
    try simp only [Act.put, List.setIfInBounds_toArray, List.set_cons_zero, List.set_cons_succ]
    refine AnyT.take (i := 7) (v := ?_) (by simp only [List.getElem?_toArray, List.getElem?_cons_succ, List.getElem?_cons_zero]; rfl) (by kernel_rfl) (by kernel_rfl) (by kernel_rfl) (by kernel_rfl) (by intro _ _ _ h; exact h) (Or.inl ⟨by rfl, fun w hSw => ?_⟩) hHeld ?_
    rotate_left
    · ((try dsimp only at hSw); go_simp; first | done | with_reducible rfl | rfl)
    try simp only [Act.put, List.setIfInBounds_toArray, List.set_cons_zero, List.set_cons_succ]
    refine AnyT.take (i := 8) (v := ?_) (by simp only [List.getElem?_toArray, List.getElem?_cons_succ, List.getElem?_cons_zero]; rfl) (by kernel_rfl) (by kernel_rfl) (by kernel_rfl) (by kernel_rfl) (by intro _ _ _ h; exact h) (Or.inl ⟨by rfl, fun w hSw => ?_⟩) hHeld ?_
    rotate_left
    · ((try dsimp only at hSw); go_simp; first | done | with_reducible rfl | rfl)
    try simp only [Act.put, List.setIfInBounds_toArray, List.set_cons_zero, List.set_cons_succ]
    refine AnyT.take (i := 9) (v := ?_) (by simp only [List.getElem?_toArray, List.getElem?_cons_succ, List.getElem?_cons_zero]; rfl) (by kernel_rfl) (by kernel_rfl) (by kernel_rfl) (by kernel_rfl) (by intro _ _ _ h; exact h) (Or.inl ⟨by rfl, fun w hSw => ?_⟩) hHeld ?_
    rotate_left
    · ((try dsimp only at hSw); go_simp; first | done | with_reducible rfl | rfl)
    try simp only [Act.put, List.setIfInBounds_toArray, List.set_cons_zero, List.set_cons_succ]
    refine AnyT.take (i := 10) (v := ?_) (by simp only [List.getElem?_toArray, List.getElem?_cons_succ, List.getElem?_cons_zero]; rfl) (by kernel_rfl) (by kernel_rfl) (by kernel_rfl) (by kernel_rfl) (by intro _ _ _ h; exact h) (Or.inl ⟨by rfl, fun w hSw => ?_⟩) hHeld ?_
    rotate_left
    · ((try dsimp only at hSw); go_simp; first | done | with_reducible rfl | rfl)
    try simp only [Act.put, List.setIfInBounds_toArray, List.set_cons_zero, List.set_cons_succ]
    refine AnyT.take (i := 11) (v := ?_) (by simp only [List.getElem?_toArray, List.getElem?_cons_succ, List.getElem?_cons_zero]; rfl) (by kernel_rfl) (by kernel_rfl) (by kernel_rfl) (by kernel_rfl) (by intro _ _ _ h; exact h) (Or.inl ⟨by rfl, fun w hSw => ?_⟩) hHeld ?_
    rotate_left
    · ((try dsimp only at hSw); go_simp; first | done | with_reducible rfl | rfl)
    try simp only [Act.put, List.setIfInBounds_toArray, List.set_cons_zero, List.set_cons_succ]
    refine AnyT.take (i := 12) (v := ?_) (by simp only [List.getElem?_toArray, List.getElem?_cons_succ, List.getElem?_cons_zero]; rfl) (by kernel_rfl) (by kernel_rfl) (by kernel_rfl) (by kernel_rfl) (by intro _ _ _ h; exact h) (Or.inl ⟨by rfl, fun w hSw => ?_⟩) hHeld ?_
    rotate_left
    · ((try dsimp only at hSw); go_simp; first | done | with_reducible rfl | rfl)
    try simp only [Act.put, List.setIfInBounds_toArray, List.set_cons_zero, List.set_cons_succ]
    refine AnyT.take (i := 13) (v := ?_) (by simp only [List.getElem?_toArray, List.getElem?_cons_succ, List.getElem?_cons_zero]; rfl) (by kernel_rfl) (by kernel_rfl) (by kernel_rfl) (by kernel_rfl) (by intro _ _ _ h; exact h) (Or.inl ⟨by rfl, fun w hSw => ?_⟩) hHeld ?_
    rotate_left
    · ((try dsimp only at hSw); go_simp; first | done | with_reducible rfl | rfl)
    try simp only [Act.put, List.setIfInBounds_toArray, List.set_cons_zero, List.set_cons_succ]
    refine AnyT.take (i := 14) (v := ?_) (by simp only [List.getElem?_toArray, List.getElem?_cons_succ, List.getElem?_cons_zero]; rfl) (by kernel_rfl) (by kernel_rfl) (by kernel_rfl) (by kernel_rfl) (by intro _ _ _ h; exact h) (Or.inl ⟨by rfl, fun w hSw => ?_⟩) hHeld ?_
    rotate_left
    · ((try dsimp only at hSw); go_simp; first | done | with_reducible rfl | rfl)
    try simp only [Act.put, List.setIfInBounds_toArray, List.set_cons_zero, List.set_cons_succ]
    refine AnyT.take (i := 15) (v := ?_) (by simp only [List.getElem?_toArray, List.getElem?_cons_succ, List.getElem?_cons_zero]; rfl) (by kernel_rfl) (by kernel_rfl) (by kernel_rfl) (by kernel_rfl) (by intro _ _ _ h; exact h) (Or.inl ⟨by rfl, fun w hSw => ?_⟩) hHeld ?_
    rotate_left
    · ((try dsimp only at hSw); go_simp; first | done | with_reducible rfl | rfl)
    try simp only [Act.put, List.setIfInBounds_toArray, List.set_cons_zero, List.set_cons_succ]
    refine AnyT.take (i := 16) (v := ?_) (by simp only [List.getElem?_toArray, List.getElem?_cons_succ, List.getElem?_cons_zero]; rfl) (by kernel_rfl) (by kernel_rfl) (by kernel_rfl) (by kernel_rfl) (by intro _ _ _ h; exact h) (Or.inl ⟨by rfl, fun w hSw => ?_⟩) hHeld ?_
    rotate_left
    · ((try dsimp only at hSw); go_simp; first | done | with_reducible rfl | rfl)
    try simp only [Act.put, List.setIfInBounds_toArray, List.set_cons_zero, List.set_cons_succ]
    refine AnyT.done (by kernel_rfl) ?_ _
    clear hHeld
    generalize (if c1 = ke then A else Option.map (fun x => x.add ke) A) = A4 at HB2 ⊢
    go_wp2_with fail
    go_ret3
    exact .inl ⟨en, _, kl, _, _, vl, c1 - ke, by rw [HM.out]; exact HE.out, rfl, HL1.out, HB.out.1, HB1.out.keep0 (Only.refl _ _).drew, HL2.out, HB.out.2, HB2.out.keep0 (Only.refl _ _).drew, HO1.out.drew⟩
set_option maxHeartbeats 800000 in
theorem contains_any (g : Nat) (A kA : Option Addr) (n1 c1 b n2 c2 mh kn kc : Nat) (kv : List UInt8) (nd : List Nat) (es : List En) (key : List UInt8) (w : World)
    (ok : DbOk kv nd mh es) (hr : DbR w g A n1 c1 b n2 c2 mh kv nd) (hk : BsAt w kA key) (hkn : kn = key.length) :
    Calls Tryd.prog 69 #[.pointer (some ⟨g, 0, none⟩), .slice kA kn kc] w fun e w' => e = .returned (.bool (mIs En.k es key)) ∧ Only [] w w' := by
  have HG := hid (findGE_r g A kA n1 c1 b n2 c2 mh kn kc kv nd es key w ok hr hk hkn)
  clear ok hr hk hkn
  go_enter Tryd.func69, Tryd.ntmps69
  go_wp2_with fail
  refine HG.out.mono ?_
  rintro e w1 ⟨rfl, ho1⟩
  have HO1 := hid ho1
  clear ho1
  go_wp2_with fail
  go_ret
  exact ⟨rfl, HO1.out⟩
theorem len_any (g : Nat) (n : Int) (w : World) (h : w.cell? ⟨g, 17, none⟩ = some (.int .i64 n)) :
    Calls Tryd.prog 70 #[.pointer (some ⟨g, 0, none⟩)] w fun e w' => e = .returned (.int .i64 n) ∧ w = w' := by
  go_enter Tryd.func70, Tryd.ntmps70
  go_wp2_with fail
  go_ret
  exact ⟨rfl, rfl⟩
theorem size_any (g : Nat) (n : Int) (w : World) (h : w.cell? ⟨g, 18, none⟩ = some (.int .i64 n)) :
    Calls Tryd.prog 71 #[.pointer (some ⟨g, 0, none⟩)] w fun e w' => e = .returned (.int .i64 n) ∧ w = w' := by
  go_enter Tryd.func71, Tryd.ntmps71
  go_wp2_with fail
  go_ret
  exact ⟨rfl, rfl⟩
theorem capacity_any (g : Nat) (A : Option Addr) (n1 c1 : Nat) (w : World) (h : w.cell? ⟨g, 2, none⟩ = some (.slice A n1 c1)) :
    Calls Tryd.prog 75 #[.pointer (some ⟨g, 0, none⟩)] w fun e w' => (∃ n, e = .returned (.int .i64 n)) ∧ Only [] w w' := by
  go_enter Tryd.func75, Tryd.ntmps75
  go_wp2_with fail
  go_ret
  exact ⟨⟨_, rfl⟩, Only.refl _ _⟩
theorem free_any (g : Nat) (A : Option Addr) (n1 c1 : Nat) (w : World) (h : w.cell? ⟨g, 2, none⟩ = some (.slice A n1 c1)) :
    Calls Tryd.prog 74 #[.pointer (some ⟨g, 0, none⟩)] w fun e w' => (∃ n, e = .returned (.int .i64 n)) ∧ Only [] w w' := by
  go_enter Tryd.func74, Tryd.ntmps74
  go_wp2_with fail
  refine AnyT.start (S := fun w' => w'.cell? ⟨g, 2, none⟩ = some (.slice A n1 c1)) (T := []) (by kernel_rfl) (h) (fun hHeld => ?_)
  refine AnyT.take (i := 0) (v := ?_) (by simp only [List.getElem?_toArray, List.getElem?_cons_succ, List.getElem?_cons_zero]; rfl) (by kernel_rfl) (by kernel_rfl) (by kernel_rfl) (by kernel_rfl) (by intro _ _ _ h; exact h) (Or.inl ⟨by rfl, fun w hSw => ?_⟩) hHeld ?_
  rotate_left
  · ((try dsimp only at hSw); go_simp; first | done | with_reducible rfl | rfl)
  try simp only [Act.put, List.setIfInBounds_toArray, List.set_cons_zero, List.set_cons_succ]
  refine AnyT.take (i := 1) (v := ?_) (by simp only [List.getElem?_toArray, List.getElem?_cons_succ, List.getElem?_cons_zero]; rfl) (by kernel_rfl) (by kernel_rfl) (by kernel_rfl) (by kernel_rfl) (by intro _ _ _ h; exact h) (Or.inl ⟨by rfl, fun w hSw => ?_⟩) hHeld ?_
  rotate_left
  · ((try dsimp only at hSw); go_simp; first | done | with_reducible rfl | rfl)
  try simp only [Act.put, List.setIfInBounds_toArray, List.set_cons_zero, List.set_cons_succ]
  refine AnyT.take (i := 2) (v := ?_) (by simp only [List.getElem?_toArray, List.getElem?_cons_succ, List.getElem?_cons_zero]; rfl) (by kernel_rfl) (by kernel_rfl) (by kernel_rfl) (by kernel_rfl) (by intro _ _ _ h; exact h) (Or.inl ⟨by rfl, fun w hSw => ?_⟩) hHeld ?_
  rotate_left
  · ((try dsimp only at hSw); go_simp; first | done | with_reducible rfl | rfl)
  try simp only [Act.put, List.setIfInBounds_toArray, List.set_cons_zero, List.set_cons_succ]
  refine AnyT.take (i := 3) (v := ?_) (by simp only [List.getElem?_toArray, List.getElem?_cons_succ, List.getElem?_cons_zero]; rfl) (by kernel_rfl) (by kernel_rfl) (by kernel_rfl) (by kernel_rfl) (by intro _ _ _ h; exact h) (Or.inl ⟨by rfl, fun w hSw => ?_⟩) hHeld ?_
  rotate_left
  · ((try dsimp only at hSw); go_simp; first | done | with_reducible rfl | rfl)
  try simp only [Act.put, List.setIfInBounds_toArray, List.set_cons_zero, List.set_cons_succ]
  refine AnyT.take (i := 4) (v := ?_) (by simp only [List.getElem?_toArray, List.getElem?_cons_succ, List.getElem?_cons_zero]; rfl) (by kernel_rfl) (by kernel_rfl) (by kernel_rfl) (by kernel_rfl) (by intro _ _ _ h; exact h) (Or.inl ⟨by rfl, fun w hSw => ?_⟩) hHeld ?_
  rotate_left
  · ((try dsimp only at hSw); go_simp; first | done | with_reducible rfl | rfl)
  try simp only [Act.put, List.setIfInBounds_toArray, List.set_cons_zero, List.set_cons_succ]
  refine AnyT.take (i := 5) (v := ?_) (by simp only [List.getElem?_toArray, List.getElem?_cons_succ, List.getElem?_cons_zero]; rfl) (by kernel_rfl) (by kernel_rfl) (by kernel_rfl) (by kernel_rfl) (by intro _ _ _ h; exact h) (Or.inl ⟨by rfl, fun w hSw => ?_⟩) hHeld ?_
  rotate_left
  · ((try dsimp only at hSw); go_simp; first | done | with_reducible rfl | rfl)
  try simp only [Act.put, List.setIfInBounds_toArray, List.set_cons_zero, List.set_cons_succ]
  refine AnyT.take (i := 6) (v := ?_) (by simp only [List.getElem?_toArray, List.getElem?_cons_succ, List.getElem?_cons_zero]; rfl) (by kernel_rfl) (by kernel_rfl) (by kernel_rfl) (by kernel_rfl) (by intro _ _ _ h; exact h) (Or.inl ⟨by rfl, fun w hSw => ?_⟩) hHeld ?_
  rotate_left
  · ((try dsimp only at hSw); go_simp; first | done | with_reducible rfl | rfl)
  try simp only [Act.put, List.setIfInBounds_toArray, List.set_cons_zero, List.set_cons_succ]
  refine AnyT.take (i := 7) (v := ?_) (by simp only [List.getElem?_toArray, List.getElem?_cons_succ, List.getElem?_cons_zero]; rfl) (by kernel_rfl) (by kernel_rfl) (by kernel_rfl) (by kernel_rfl) (by intro _ _ _ h; exact h) (Or.inl ⟨by rfl, fun w hSw => ?_⟩) hHeld ?_
  rotate_left
  · ((try dsimp only at hSw); go_simp; first | done | with_reducible rfl | rfl)
  try simp only [Act.put, List.setIfInBounds_toArray, List.set_cons_zero, List.set_cons_succ]
  refine AnyT.take (i := 8) (v := ?_) (by simp only [List.getElem?_toArray, List.getElem?_cons_succ, List.getElem?_cons_zero]; rfl) (by kernel_rfl) (by kernel_rfl) (by kernel_rfl) (by kernel_rfl) (by intro _ _ _ h; exact h) (Or.inl ⟨by rfl, fun w hSw => ?_⟩) hHeld ?_
  rotate_left
  · ((try dsimp only at hSw); go_simp; first | done | with_reducible rfl | rfl)
  try simp only [Act.put, List.setIfInBounds_toArray, List.set_cons_zero, List.set_cons_succ]
  refine AnyT.take (i := 9) (v := ?_) (by simp only [List.getElem?_toArray, List.getElem?_cons_succ, List.getElem?_cons_zero]; rfl) (by kernel_rfl) (by kernel_rfl) (by kernel_rfl) (by kernel_rfl) (by intro _ _ _ h; exact h) (Or.inl ⟨by rfl, fun w hSw => ?_⟩) hHeld ?_
  rotate_left
  · ((try dsimp only at hSw); go_simp; first | done | with_reducible rfl | rfl)
  try simp only [Act.put, List.setIfInBounds_toArray, List.set_cons_zero, List.set_cons_succ]
  refine AnyT.take (i := 10) (v := ?_) (by simp only [List.getElem?_toArray, List.getElem?_cons_succ, List.getElem?_cons_zero]; rfl) (by kernel_rfl) (by kernel_rfl) (by kernel_rfl) (by kernel_rfl) (by intro _ _ _ h; exact h) (Or.inl ⟨by rfl, fun w hSw => ?_⟩) hHeld ?_
  rotate_left
  · ((try dsimp only at hSw); go_simp; first | done | with_reducible rfl | rfl)
  try simp only [Act.put, List.setIfInBounds_toArray, List.set_cons_zero, List.set_cons_succ]
  refine AnyT.take (i := 11) (v := ?_) (by simp only [List.getElem?_toArray, List.getElem?_cons_succ, List.getElem?_cons_zero]; rfl) (by kernel_rfl) (by kernel_rfl) (by kernel_rfl) (by kernel_rfl) (by intro _ _ _ h; exact h) (Or.inl ⟨by rfl, fun w hSw => ?_⟩) hHeld ?_
  rotate_left
  · ((try dsimp only at hSw); go_simp; first | done | with_reducible rfl | rfl)
  try simp only [Act.put, List.setIfInBounds_toArray, List.set_cons_zero, List.set_cons_succ]
  refine AnyT.done (by kernel_rfl) ?_ _
  clear hHeld
  go_wp2_with fail
  go_ret
  exact ⟨⟨_, rfl⟩, (Only.refl _ _).drew⟩
end Go.Proofs.YtloflmcgbbbnjaaDoor
namespace Go.Proofs.YtloflmcgbbbnjaaDoor
open Go.RowKit Plain
set_option linter.all false

theorem Row.put {e n c b i : Nat} {xs : List Value} {G R : List Fr} {w0 w : World} (h : Row e 1 (some ⟨b, 0, none⟩) n c xs G) (hO : Own (G ++ R) w0 w) (hi : i < n) (u : Value) :
    ∃ G', Row e 1 (some ⟨b, 0, none⟩) n c (xs.set i u) G' ∧ Own (G' ++ R) w0 (w.setCell ⟨b, i, none⟩ u) ∧ w.frozen? ⟨b, i, none⟩ = false := by
  obtain ⟨hl, h⟩ := h
  rcases h with ⟨h, _⟩ | ⟨g, cur, hA, rfl, h1, h2, h3, h4⟩
  · cases h
  · injection hA with hA
    injection hA with hA
    subst hA
    simp only [List.singleton_append] at hO
    have hs := hO.set (k := i) i (by simp) (by simp; omega) u
    refine ⟨[fw b e (cur.set i u)], ⟨by rw [List.length_set]; exact hl, .inr ⟨b, _, rfl, rfl, h1, h2, by rw [List.length_set]; exact h3, ?_⟩⟩, hs, hO.frozen 0 rfl i⟩
    rw [Nat.mul_one] at h4 ⊢
    rw [List.take_set, h4]
theorem ni_set (l : List Nat) (i v : Nat) : ni (l.set i v) = (ni l).set i (.int .i64 (v : Int)) := by simp [ni, List.map_set]
theorem ni_append (a b : List Nat) : ni (a ++ b) = ni a ++ ni b := by simp [ni]
section
variable {g x n1 c1 b n2 c2 mh n sz : Nat} {A : Option Addr} {pv : List Nat} {F G R : List Fr} {w0 w : World}
theorem ownN (hO : Own (dFr g x A n1 c1 b n2 c2 pv mh n sz :: (F ++ (G ++ R))) w0 w) : Own (G ++ (dFr g x A n1 c1 b n2 c2 pv mh n sz :: (F ++ R))) w0 w := hO.perm (perm_of fun _ _ z => by simp only [List.count_append, List.count_cons, List.cons_append, List.count_nil, List.nil_append, List.append_nil]; omega)
theorem ownN' (hO : Own (G ++ (dFr g x A n1 c1 b n2 c2 pv mh n sz :: (F ++ R))) w0 w) : Own (dFr g x A n1 c1 b n2 c2 pv mh n sz :: (F ++ (G ++ R))) w0 w := hO.perm (perm_of fun _ _ z => by simp only [List.count_append, List.count_cons, List.cons_append, List.count_nil, List.nil_append, List.append_nil]; omega)
theorem ownK (hO : Own (dFr g x A n1 c1 b n2 c2 pv mh n sz :: (F ++ (G ++ R))) w0 w) : Own (F ++ (dFr g x A n1 c1 b n2 c2 pv mh n sz :: (G ++ R))) w0 w := hO.perm (perm_of fun _ _ z => by simp only [List.count_append, List.count_cons, List.cons_append, List.count_nil, List.nil_append, List.append_nil]; omega)
theorem ownK' (hO : Own (F ++ (dFr g x A n1 c1 b n2 c2 pv mh n sz :: (G ++ R))) w0 w) : Own (dFr g x A n1 c1 b n2 c2 pv mh n sz :: (F ++ (G ++ R))) w0 w := hO.perm (perm_of fun _ _ z => by simp only [List.count_append, List.count_cons, List.cons_append, List.count_nil, List.nil_append, List.append_nil]; omega)
end
def KvOut (g x b n2 c2 : Nat) (pv : List Nat) (mh n sz : Nat) (kv : List UInt8) (N : Nat) (G R : List Fr) (w0 wx : World) : Prop :=
  ∃ A c F, Hid (Row 5 1 A N c (bc kv) F) ∧ Hid (Own (dFr g x A N c b n2 c2 pv mh n sz :: (F ++ (G ++ R))) w0 wx)
def NdOut (g x : Nat) (A : Option Addr) (n1 c1 : Nat) (pv : List Nat) (mh n sz : Nat) (nd : List Nat) (b n2 c2 : Nat) (F R : List Fr) (w0 wx : World) : Prop :=
  ∃ G, Hid (Row 3 1 (some ⟨b, 0, none⟩) n2 c2 (ni nd) G) ∧ Hid (Own (dFr g x A n1 c1 b n2 c2 pv mh n sz :: (F ++ (G ++ R))) w0 wx)
def PutOut (g : Nat) (es : List En) (key val : List UInt8) (K N : Nat) (R : List Fr) (w0 : World) (e : Ending) (w' : World) : Prop :=
  e = .returned .nilIface ∧ ∃ es', es'.map En.kv = mPut Prod.fst (es.map En.kv) (key, val) ∧ DbSt g es' K N R w0 w'
set_option maxHeartbeats 6400000 in
set_option maxRecDepth 100000 in
theorem put_old_any (g x : Nat) (A kA vA : Option Addr) (n1 c1 b n2 c2 mh kn kc vn vc K N : Nat) (pv : List Nat) (kv : List UInt8) (nd : List Nat) (F G : List Fr) (es : List En) (key val : List UInt8) (R : List Fr) (w0 w : World)
    (hS : DbS es K N A n1 c1 b n2 c2 pv mh kv nd F G) (hO : Own (dFr g x A n1 c1 b n2 c2 pv mh es.length (szKv (es.map En.kv)) :: (F ++ (G ++ R))) w0 w) (hi : mIs En.k es key = true) (hk : Rd R w0 kA key) (hv : Rd R w0 vA val) (hkn : kn = key.length) (hvn : vn = val.length) (hK : K + kn + vn ≤ 1073741824) (hN : N ≤ 1048576) (hsz : szKv (es.map En.kv) ≤ K) :
    Calls Tryd.prog 65 #[.pointer (some ⟨g, 0, none⟩), .slice kA kn kc, .slice vA vn vc] w (PutOut g es key val (K + kn + vn) (N + 1) R w0) := by
  obtain ⟨en, he, hkk⟩ := mIs_get hi
  have hno : nodeOf es (mAt En.k es key) = en.nd.p := by unfold nodeOf; rw [he]
  have HG := hid (findGE_p g x A kA n1 c1 b n2 c2 mh es.length (szKv (es.map En.kv)) kn kc pv kv nd es key (F ++ (G ++ R)) w0 w hS.ok hS.hp hO (hS.rd (fun y hy => by simp [hy])) (hS.nst hN (fun y hy => by simp [hy])) (hk.mono (fun y hy => by simp [hy])) hS.n1l hS.rk.le (by have := hS.bk; have := hS.n1l; omega) hkn)
  rw [hno, hi] at HG
  have hold := sz_old (es' := es.map En.kv) (val := val) (v0 := en.v) (by rw [mIs_map]; exact hi) (by rw [mAt_map, List.getElem?_map, he, ← hkk]; rfl)
  have hbk := hS.bk
  have hbn := hS.bn
  have hn1 := hS.n1l
  have hn2 := hS.n2l
  have HS := hid hS
  have HE := hid (And.intro he hkk)
  have HI := hid hi
  have HK := hid hk
  have HV := hid hv
  have HKN := hid hkn
  have HVN := hid hvn
  have HOLD := hid hold
  have hvl := (hS.ok.val en (List.mem_of_getElem? he)).1
  have HVL := hid hvl
  obtain ⟨sz, hsz'⟩ : ∃ sz, szKv (es.map En.kv) = sz := ⟨_, rfl⟩
  rw [hsz'] at HG hsz HOLD hO
  obtain ⟨n, hn⟩ : ∃ n, es.length = n := ⟨_, rfl⟩
  rw [hn] at HG
  have HN := hid (And.intro hn hsz')
  have HN12 := hid (And.intro hn1 hn2)
  have HNO := hid hno
  have hn1b : n1 ≤ K := by omega
  have hn2b : n2 ≤ 16 + 16 * N := by omega
  obtain ⟨p, hp⟩ : ∃ p, en.nd.p = p := ⟨_, rfl⟩
  rw [hp] at HG
  have HP := hid hp
  clear hS hO he hkk hi hk hv hkn hvn hold hno hvl hsz' hn hn1 hn2 hbk hbn hp
  go_enter Tryd.func65, Tryd.ntmps65
  go_wp2_with fail
  refine HG.out.mono ?_
  rintro e w1 ⟨rfl, pv1, hrec, hO1⟩
  have HO1 := hid hO1
  have HREC := hid hrec
  have hc := dFr_cells hrec.1 hO1
  have q2 := hc.q2
  clear hO1 hrec HG hc
  go_upto_region 4 with fail
  go_cut [] (fun wx => KvOut g x b n2 c2 pv1 mh n sz (kv ++ key) (n1 + kn) G R w0 wx)
  case first =>
    have hbs := HO1.out.st HK.out (fun y hy => by simp [hy])
    have HBS := hid hbs
    clear hbs
    go_wp2_with (at_builtin; refine own_append rfl (.tmp 34) (.tmp 35) 25 rfl 5 (.int .u8 0) 1 1 Tryd.underlying25 Tryd.info_u8 rfl (by decide) A n1 c1 (bc kv) F rfl HS.out.rk (R := dFr g x A n1 c1 b n2 c2 pv1 mh n sz :: (G ++ R)) (ownK HO1.out) kA kn kc (bc key) rfl (by rw [bc_length, Nat.mul_one]; exact HKN.out.symm) HBS.out.cs (bc_one key) (by simp [maxLen]; omega) (by omega) ?_; intro A3 c3 F3 w3 hr3 hO3 _; have hO3' := ownK' hO3; have hc3 := dFr_cells HREC.out.1 hO3'; have q3 := hc3.q2; have f3 := hc3.fz 2; have HR3 := hid hr3; have HO3 := hid (dFr_kv hO3' A3 (n1 + kn) c3); clear hr3 hO3 hO3' hc3)
    go_meet
    exact ⟨A3, c3, F3, by rw [bc_append]; exact HR3, HO3⟩
  case rest =>
  obtain ⟨A3, c3, F3, HR3, HO3⟩ := hcut
  have hc3 := dFr_cells HREC.out.1 HO3.out
  have q2 := hc3.q2
  clear hc3 HO1
  go_step
  go_step
  go_cut [] (fun wx => KvOut g x b n2 c2 pv1 mh n sz (kv ++ key ++ val) (n1 + kn + vn) G R w0 wx)
  case first =>
    have hbs := HO3.out.st HV.out (fun y hy => by simp [hy])
    have HBS := hid hbs
    clear hbs
    go_wp2_with (at_builtin; refine own_append rfl (.tmp 43) (.tmp 44) 25 rfl 5 (.int .u8 0) 1 1 Tryd.underlying25 Tryd.info_u8 rfl (by decide) A3 (n1 + kn) c3 (bc (kv ++ key)) F3 rfl HR3.out (R := dFr g x A3 (n1 + kn) c3 b n2 c2 pv1 mh n sz :: (G ++ R)) (ownK HO3.out) vA vn vc (bc val) rfl (by rw [bc_length, Nat.mul_one]; exact HVN.out.symm) HBS.out.cs (bc_one val) (by simp [maxLen]; omega) (by omega) ?_; intro A4 c4 F4 w4 hr4 hO4 _; have hO4' := ownK' hO4; have hc4 := dFr_cells HREC.out.1 hO4'; have q4 := hc4.q2; have f4 := hc4.fz 2; have HR4 := hid hr4; have HO4 := hid (dFr_kv hO4' A4 (n1 + kn + vn) c4); clear hr4 hO4 hO4' hc4)
    go_meet
    exact ⟨A4, c4, F4, by rw [bc_append]; exact HR4, HO4⟩
  case rest =>
  obtain ⟨A4, c4, F4, HR4, HO4⟩ := hcut
  clear q2 HR3 HO3
  have hc4 := dFr_cells HREC.out.1 HO4.out
  have q3 := hc4.q3
  have hpl := HS.out.ok.at_ (List.mem_of_getElem? HE.out.1)
  rw [HP.out] at hpl
  have hl2 := (List.getElem?_eq_some_iff.1 hpl.2.2.1).1
  have hlp : (p : Int) < (n2 : Int) := by have := HN12.out.2; omega
  have hlp2 : ((p + 2 : Nat) : Int) < (n2 : Int) := by have := HN12.out.2; omega
  have s2 : IntKind.i64.wrap ((p : Int) + 2) = ((p + 2 : Nat) : Int) := wrap_add p 2 (by have := HN12.out.2; omega)
  have HPL := hid hpl
  have hl2n : p + 2 < n2 := by omega
  obtain ⟨p2, hp2⟩ : ∃ p2, p + 2 = p2 := ⟨_, rfl⟩
  rw [hp2] at s2 hlp2 hl2n
  have HP2 := hid hp2
  obtain ⟨G5, hG5, hO5, f5⟩ := HS.out.rn.put (ownN HO4.out) (i := p) (by omega) (.int .i64 (n1 : Int))
  rw [← ni_set] at hG5
  have HG5 := hid hG5
  have HO5 := hid (ownN' hO5)
  have z5 := ((NdAt.of (HS.out.rn.csO (ownN HO4.out)) HN12.out.2 (by omega)).cell p _ HPL.out.1).1
  clear hc4 hpl hG5 hO5 hl2
  go_step
  go_step
  go_cut [] (fun wx => NdOut g x A4 (n1 + kn + vn) c4 pv1 mh n sz (nd.set p n1) b n2 c2 F4 R w0 wx)
  case first =>
    go_wp2_with fail
    go_meet
    exact ⟨G5, HG5, HO5⟩
  case rest =>
  clear z5 f5 HG5 HO5 q3
  obtain ⟨G6, HG6, HO6⟩ := hcut
  clear HO4
  have hc6 := dFr_cells HREC.out.1 HO6.out
  have q3 := hc6.q3
  have HNA := hid (NdAt.of (n2 := n2) (HG6.out.csO (ownN HO6.out)) (by rw [List.length_set]; exact HN12.out.2) (by omega))
  obtain ⟨vl, hvl⟩ : ∃ vl, en.nd.vl = vl := ⟨_, rfl⟩
  have z6 := (HNA.out.cell p2 vl (by rw [List.getElem?_set_ne (by have := HP2.out; omega), ← HP2.out, ← hvl]; exact HPL.out.2.2.1)).1
  rw [hvl] at HVL
  obtain ⟨G7, hG7, hO7, f7⟩ := HG6.out.put (ownN HO6.out) (i := p2) hl2n (.int .i64 (vn : Int))
  rw [← ni_set] at hG7
  have HG7 := hid hG7
  have HO7 := hid (ownN' hO7)
  have HVLE := hid hvl
  clear hc6 hG7 hO7 hvl HNA
  go_step
  go_upto_region 8 with fail
  go_cut [] (fun wx => NdOut g x A4 (n1 + kn + vn) c4 pv1 mh n sz ((nd.set p n1).set p2 vn) b n2 c2 F4 R w0 wx)
  case first =>
    go_wp2_with fail
    go_meet
    exact ⟨G7, HG7, HO7⟩
  case rest =>
  clear z6 f7 HG7 HO7 q3
  obtain ⟨G8, HG8, HO8⟩ := hcut
  clear HO6 HG6
  have hc8 := dFr_cells HREC.out.1 HO8.out
  have q18 := hc8.cz
  have f18 := hc8.fz 18
  obtain ⟨sz2, hsz2⟩ : ∃ sz2, szKv (mPut Prod.fst (es.map En.kv) (key, val)) = sz2 := ⟨_, rfl⟩
  have hold := HOLD.out
  rw [hsz2, ← HVL.out, ← HVN.out] at hold
  have vle : vl ≤ 2147483647 := by have := HS.out.ok.fit en (List.mem_of_getElem? HE.out.1); have := HS.out.bk; have := HVLE.out; omega
  have i1 : IntKind.i64.wrap ((vn : Int) - (vl : Int)) = (vn : Int) - (vl : Int) := i64_id (by omega) (by omega)
  have i2 : IntKind.i64.wrap ((sz : Int) + ((vn : Int) - (vl : Int))) = (sz2 : Int) := by rw [i64_id (by omega) (by omega)]; omega
  have HO9 := hid (dFr_sz HREC.out.1 HO8.out sz2)
  have HSZ2 := hid hsz2
  clear hc8 hsz2 hold
  go_step
  go_wp2_with fail
  go_ret
  have hid1 := (HS.out.ok.turn (val := val) HE.out.1 HE.out.2)
  refine ⟨rfl, _, put_old (z := ⟨en.nd.p, en.nd.h, kv.length, key.length, val.length⟩) HI.out, x, A4, n1 + kn + vn, c4, b, n2, c2, pv1, mh, kv ++ key ++ val, (nd.set p n1).set p2 vn, F4, G8, ⟨HREC.out.1, ?_, HR4.out, HG8.out, ?_, ?_⟩, ?_⟩
  · have h1 := HP.out; have h2 := HP2.out; have h3 := HN12.out.1; have h4 := HVN.out
    subst h1; subst h2; subst h3; subst h4
    exact hid1
  · rw [List.length_append, List.length_append, ← HKN.out, ← HVN.out]
    have := HN12.out.1; omega
  · rw [List.length_set, List.length_set]
    have := HN12.out.2; omega
  · rw [put_old HI.out, HSZ2.out, List.length_set, HN.out.1]
    exact HO9.out
end Go.Proofs.YtloflmcgbbbnjaaDoor
