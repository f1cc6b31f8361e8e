/-
  Batch.Replay.
-/
import Derived.Test.YtloflmcgbbbnjaaReplay
namespace Go.Proofs.Ytloflmcgbbbnjaa
open Go.RowKit Plain
set_option linter.all false

def KOut (k : List UInt8) (R : List Fr) (w0 w : World) (e : Ending) (w' : World) : Prop := ∃ A c, e = .returned (.slice A k.length c) ∧ Rd R w0 A k ∧ k.length ≤ c ∧ Only [] w w'
set_option maxHeartbeats 800000 in
theorem ixk_any (dg do' dc n : Nat) (D key : List UInt8) (x : Ix) (R : List Fr) (w0 w : World) (hD : Rd R w0 (some ⟨dg, do', none⟩) D) (hn : n = D.length) (hdc : D.length ≤ dc) (hkey : (D.drop x.kp).take x.kl = key) (hb : x.kp + x.kl ≤ D.length) (hl : D.length ≤ 1099511627776) :
    Calls Try.prog 23 #[.agg #[.int .u64 x.kt, .int .i64 x.kp, .int .i64 x.kl, .int .i64 x.vp, .int .i64 x.vl], .slice (some ⟨dg, do', none⟩) n dc] w (KOut key R w0 w) := by
  subst hn; subst hkey
  obtain ⟨kt, kp, kl, vp, vl⟩ := x
  simp only at hb ⊢
  have hlen : ((D.drop kp).take kl).length = kl := by rw [List.length_take, List.length_drop]; omega
  have HL := hid hlen
  have HD := hid hD
  have ho := (Only.refl [] w).alloc (Obj.cells #[.int .u64 kt, .int .i64 kp, .int .i64 kl, .int .i64 vp, .int .i64 vl] 71)
  have e1 : IntKind.i64.wrap ((kp : Int) + (kl : Int)) = (kp : Int) + (kl : Int) := i64_id (by omega) (by omega)
  have r1 : (kp : Int) + (kl : Int) ≤ (dc : Int) := by omega
  have r0 : (kp : Int) ≤ (kp : Int) + (kl : Int) := by omega
  have HO := hid ho
  clear hlen hD ho
  by_cases hc : dc = kp
  · have hk0 : kl = 0 := by omega
    subst hc
    subst hk0
    go_enter Try.func23, Try.ntmps23
    go_wp2_with fail
    go_ret
    exact ⟨some ⟨dg, do', none⟩, 0, by simp, Rd.nil _ _ _, Nat.le_refl _, HO.out⟩
  · have hc' : ¬ dc = kp := hc
    go_enter Try.func23, Try.ntmps23
    go_wp2_with fail
    go_ret
    refine ⟨some ⟨dg, do' + kp, none⟩, dc - kp, ?_, (HD.out.drop kp).take kl, ?_, HO.out⟩
    · rw [HL.out]; simp
    · rw [HL.out]; omega
set_option maxHeartbeats 800000 in
theorem ixv_some (dg do' dc n : Nat) (D key : List UInt8) (x : Ix) (R : List Fr) (w0 w : World) (hD : Rd R w0 (some ⟨dg, do', none⟩) D) (hn : n = D.length) (hdc : D.length ≤ dc) (hkey : (D.drop x.vp).take x.vl = key) (hb : x.vp + x.vl ≤ D.length) (h0 : 0 < x.vl) (hl : D.length ≤ 1099511627776) :
    Calls Try.prog 24 #[.agg #[.int .u64 x.kt, .int .i64 x.kp, .int .i64 x.kl, .int .i64 x.vp, .int .i64 x.vl], .slice (some ⟨dg, do', none⟩) n dc] w (KOut key R w0 w) := by
  subst hn; subst hkey
  obtain ⟨kt, kp, kl, vp, vl⟩ := x
  simp only at hb h0 ⊢
  have hlen : ((D.drop vp).take vl).length = vl := by rw [List.length_take, List.length_drop]; omega
  have HL := hid hlen
  have HD := hid hD
  have ho := (Only.refl [] w).alloc (Obj.cells #[.int .u64 kt, .int .i64 kp, .int .i64 kl, .int .i64 vp, .int .i64 vl] 71)
  have e1 : IntKind.i64.wrap ((vp : Int) + (vl : Int)) = (vp : Int) + (vl : Int) := i64_id (by omega) (by omega)
  have r1 : (vp : Int) + (vl : Int) ≤ (dc : Int) := by omega
  have r0 : (vp : Int) ≤ (vp : Int) + (vl : Int) := by omega
  have HO := hid ho
  clear hlen hD ho
  have hc' : ¬ dc = vp := by omega
  have t0 : ((vl : Int) != 0) = true := by rw [bne_iff_ne]; omega
  go_enter Try.func24, Try.ntmps24
  go_wp2_with fail
  go_ret
  refine ⟨some ⟨dg, do' + vp, none⟩, dc - vp, ?_, (HD.out.drop vp).take vl, ?_, HO.out⟩
  · rw [HL.out]; simp
  · rw [HL.out]; omega
set_option maxHeartbeats 800000 in
theorem ixv_none (A : Option Addr) (dc n : Nat) (x : Ix) (R : List Fr) (w0 w : World) (h0 : x.vl = 0) :
    Calls Try.prog 24 #[.agg #[.int .u64 x.kt, .int .i64 x.kp, .int .i64 x.kl, .int .i64 x.vp, .int .i64 x.vl], .slice A n dc] w (KOut [] R w0 w) := by
  obtain ⟨kt, kp, kl, vp, vl⟩ := x
  simp only at h0 ⊢
  subst h0
  have HO := hid ((Only.refl [] w).alloc (Obj.cells #[.int .u64 kt, .int .i64 kp, .int .i64 kl, .int .i64 vp, .int .i64 0] 71))
  go_enter Try.func24, Try.ntmps24
  go_wp2_with fail
  go_ret
  exact ⟨none, 0, by simp, Rd.nil _ _ _, Nat.le_refl _, HO.out⟩
theorem ixv_any (dg do' dc n : Nat) (D key : List UInt8) (x : Ix) (R : List Fr) (w0 w : World) (hD : Rd R w0 (some ⟨dg, do', none⟩) D) (hn : n = D.length) (hdc : D.length ≤ dc) (hkey : (D.drop x.vp).take x.vl = key) (hb : x.vp + x.vl ≤ D.length) (hl : D.length ≤ 1099511627776) :
    Calls Try.prog 24 #[.agg #[.int .u64 x.kt, .int .i64 x.kp, .int .i64 x.kl, .int .i64 x.vp, .int .i64 x.vl], .slice (some ⟨dg, do', none⟩) n dc] w (KOut key R w0 w) := by
  rcases Nat.eq_zero_or_pos x.vl with h0 | h0
  · obtain rfl : key = [] := by rw [← hkey, h0]; simp
    exact ixv_none _ dc n x R w0 w h0
  · exact ixv_some dg do' dc n D key x R w0 w hD hn hdc hkey hb h0 hl

theorem method_put (d : Nat) (v : Value) (w : World) : (method (d + 1) 58 v "Put").run Try.prog w = .ok (52, v) w := by kernel_rfl
theorem method_del (d : Nat) (v : Value) (w : World) : (method (d + 1) 58 v "Delete").run Try.prog w = .ok (51, v) w := by kernel_rfl
theorem ix_cut {l : List P2} {k : Nat} (h : k < l.length) (x : Ix) (hxd : x = ixOf (dmp (l.take k)).length l[k]) : ((dmp l).drop x.kp).take x.kl = l[k].k ∧ x.kp + x.kl ≤ (dmp l).length ∧
    (l[k].del = false → ((dmp l).drop x.vp).take x.vl = l[k].v ∧ x.vp + x.vl ≤ (dmp l).length) := by
  obtain ⟨rest, hr⟩ := rOf_bytes h
  generalize l[k] = r at *
  generalize (dmp (l.take k)).length = o at *
  generalize dmp l = D at *
  have hlen := congrArg List.length hr
  rw [List.length_drop, List.length_append] at hlen
  cases hd : r.del with
  | true =>
    have hrf : rOf r = 0 :: (uv r.k.length ++ r.k) := by rw [rOf, hd]; rfl
    have hx : x = ⟨0, o + 1 + (uv r.k.length).length, r.k.length, 0, 0⟩ := by rw [hxd, ixOf, hd]; rfl
    rw [hrf] at hr hlen
    simp only [List.length_cons, List.length_append] at hlen
    rw [hx]
    have h1 : D.drop (o + 1 + (uv r.k.length).length) = r.k ++ rest := by
      rw [← List.drop_drop, ← List.drop_drop, hr, List.cons_append, List.drop_succ_cons, List.drop_zero, List.append_assoc, List.drop_left' rfl]
    exact ⟨by simp only [h1]; exact List.take_left' rfl, by simp only; omega, fun h => by cases h⟩
  | false =>
    have hrf : rOf r = 1 :: (uv r.k.length ++ r.k ++ (uv r.v.length ++ r.v)) := by rw [rOf, hd]; rfl
    have hx : x = ⟨1, o + 1 + (uv r.k.length).length, r.k.length, o + 1 + (uv r.k.length).length + r.k.length + (uv r.v.length).length, r.v.length⟩ := by rw [hxd, ixOf, hd]; rfl
    rw [hrf] at hr hlen
    simp only [List.length_cons, List.length_append] at hlen
    rw [hx]
    have h1 : D.drop (o + 1 + (uv r.k.length).length) = r.k ++ (uv r.v.length ++ (r.v ++ rest)) := by
      rw [← List.drop_drop, ← List.drop_drop, hr, List.cons_append, List.drop_succ_cons, List.drop_zero, List.append_assoc, List.append_assoc, List.append_assoc, List.drop_left' rfl]
    have h2 : D.drop (o + 1 + (uv r.k.length).length + r.k.length + (uv r.v.length).length) = r.v ++ rest := by
      rw [← List.drop_drop, ← List.drop_drop, h1, List.drop_left' rfl, List.drop_left' rfl]
    exact ⟨by simp only [h1]; exact List.take_left' rfl, by simp only; omega, fun _ => ⟨by simp only [h2]; exact List.take_left' rfl, by simp only; omega⟩⟩
def ReplayOut (rp : Nat) (l : List P2) (w0 : World) (R : List Fr) (e : Ending) (w' : World) : Prop :=
  e = .returned .nilIface ∧ ∃ ops Fx F, AllAlike ops l ∧ RepF rp ops w0 Fx F ∧ Own (F ++ R) w0 w'
set_option maxHeartbeats 6400000 in
set_option maxRecDepth 100000 in
theorem replay_any (b rp dc ic : Nat) (dA iA : Option Addr) (il : Int) (l : List P2) (Fx F Fi R : List Fr) (w0 w : World) (hR : Row 71 5 iA l.length ic ((ixs 0 l).flatMap Ix.cells) Fi) (hF : RepF rp [] w0 Fx F)
    (hO : Own (F ++ (fw b 54 [.slice dA (dmp l).length dc, .slice iA l.length ic, .int .i64 il] :: (Fi ++ R))) w0 w)
    (hD : Rd R w0 dA (dmp l)) (hdc : (dmp l).length ≤ dc) (hdl : (dmp l).length ≤ 1099511627776) (hl : l.length ≤ 1073741824) (hok : okR l) :
    Calls Try.prog 17 #[.pointer (some ⟨b, 0, none⟩), .iface 58 (.pointer (some ⟨rp, 0, none⟩))] w (ReplayOut rp l w0 (fw b 54 [.slice dA (dmp l).length dc, .slice iA l.length ic, .int .i64 il] :: (Fi ++ R))) := by
  have hmf : ∀ (fn : Fn) (first cap : Array Value) (w : World), (Instr.makeFunc fn first cap).run Try.prog w = .ok (.func fn first cap) w := fun _ _ _ _ => rfl
  have hm1 := method_put
  have hm2 := method_del
  have HCUT := hid (fun (k : Nat) (h : k < l.length) => ix_cut h _ rfl)
  have HIX := hid (fun (k : Nat) (r : P2) (h : l[k]? = some r) => ixs_get 0 l k r h)
  have HIL := hid (ixs_length 0 l)
  obtain ⟨D, hDD⟩ : ∃ D, dmp l = D := ⟨_, rfl⟩
  rw [hDD] at hO hD hdc hdl HCUT ⊢
  have q1 : w.cell? ⟨b, 1, none⟩ = some (.slice iA l.length ic) := hO.right.cell 0 rfl 1 rfl (by simp)
  have HR := hid hR
  have HO := hid hO
  have HD := hid hD
  have HF := hid hF
  have HOK := hid hok
  have HDD := hid hDD
  clear hR hO hD hF hok hDD
  go_enter Try.func17, Try.ntmps17
  go_wp2_with fail
  go_loopw [12] (fun i wr => ∃ (k : Nat) (ops : List P2) (Fx F : List Fr), i = .int .i64 k ∧ k ≤ l.length ∧ Hid (AllAlike ops (l.take k)) ∧ Hid (RepF rp ops w0 Fx F) ∧ Hid (Own (F ++ (fw b 54 [.slice dA D.length dc, .slice iA l.length ic, .int .i64 il] :: (Fi ++ R))) w0 wr)) (fun i _ => l.length - (intOf i).toNat)
  case atStart => exact ⟨0, [], Fx, F, rfl, Nat.zero_le _, hid AllAlike.nil, HF, HO⟩
  case round =>
    obtain ⟨k, ops, Fx, F, rfl, hk, hA, hF, hO⟩ := hrel
    by_cases h4 : k < l.length
    · have h4' : (k : Int) < (l.length : Int) := by omega
      have hr : l[k]? = some l[k] := List.getElem?_eq_getElem h4
      have hcut := HCUT.out k h4
      have hix := HIX.out k _ hr
      have hrok := HOK.out _ (List.getElem_mem h4)
      have htk : l.take (k + 1) = l.take k ++ [l[k]] := List.take_succ_eq_append_getElem h4
      have hln : ops.length = k := by rw [hA.out.1, List.length_take]; omega
      generalize l[k] = r at hr hcut hix hrok htk
      rw [Nat.zero_add] at hix
      obtain ⟨x, hx⟩ : ∃ x, ixOf (dmp (l.take k)).length r = x := ⟨_, rfl⟩
      rw [hx] at hcut hix
      have hcs : CsAt wr iA ((ixs 0 l).flatMap Ix.cells) := hO.out.st (HR.out.st w0) (fun x hx => by simp [hx])
      obtain ⟨ig, io, rfl, hcell⟩ := CsAt.at_row Ix.cells 5 Ix.cells_length (by omega) hcs hix
      have z0 := hcell 0 (by omega)
      have z1 := hcell 1 (by omega)
      have z2 := hcell 2 (by omega)
      have z3 := hcell 3 (by omega)
      have z4 := hcell 4 (by omega)
      simp only [Ix.cells, List.getElem?_cons_zero, List.getElem?_cons_succ, Nat.add_zero, ← Nat.add_assoc] at z0 z1 z2 z3 z4
      have HX := hid hx
      have HC := hid hcut
      have HTK := hid htk
      have HLN := hid hln
      clear hcs hcell hx hcut hix htk hln
      cases hdel : r.del with
      | false =>
        have hkt : x.kt = 1 := by rw [← HX.out, ixOf, hdel]; rfl
        have hkp : 0 < x.kp := by rw [← HX.out, ixOf, hdel]; simp only [if_true, Bool.false_eq_true, if_false]; omega
        obtain ⟨cut1, cut2, cut3⟩ := HC.out
        obtain ⟨dg, do', rfl, _, _⟩ := BsAt.addr (hO.out.st HD.out (fun x hx => by simp [hx])) (by omega)
        have HX2 := HX
        obtain ⟨kt, kp, kl, vp, vl⟩ := x
        simp only at hkt hkp cut1 cut2 cut3 z0 z1 z2 z3 z4
        subst hkt
        have HC1 := hid cut1
        have HC3 := hid (cut3)
        clear cut1 cut3
        go_wp2_with fail
        obtain ⟨g, hg⟩ : ∃ g, wr.heap.size = g := ⟨_, rfl⟩
        have hO9 : Own (fw g 71 [.int .u64 1, .int .i64 (kp : Int), .int .i64 (kl : Int), .int .i64 (vp : Int), .int .i64 (vl : Int)] :: fw b 54 [.slice (some ⟨dg, do', none⟩) D.length dc, .slice (some ⟨ig, io, none⟩) l.length ic, .int .i64 il] :: (Fi ++ R) ++ F) w0 (wr.alloc (.cells #[.int .u64 1, .int .i64 (kp : Int), .int .i64 (kl : Int), .int .i64 (vp : Int), .int .i64 (vl : Int)] 71)) := (hO.out.alloc' hg 71 [.int .u64 1, .int .i64 (kp : Int), .int .i64 (kl : Int), .int .i64 (vp : Int), .int .i64 (vl : Int)]).perm (perm_of fun _ _ z => by simp only [List.count_append, List.count_cons, List.cons_append, List.count_nil, List.nil_append, List.append_nil]; omega)
        try rw [hg]
        clear z0 z1 z2 z3 z4 hg
        generalize wr.alloc _ = W at hO9 ⊢
        obtain ⟨y0, y1, y2, y3, y4, yl⟩ := ix_hdr hO9
        have b0 : W.cell? ⟨b, 0, none⟩ = some (.slice (some ⟨dg, do', none⟩) D.length dc) := hO9.cell 1 rfl 0 rfl (by simp)
        have bl : b < W.heap.size := (hO9.at_ 1 rfl).lt
        have HO9 := hid hO9
        clear hO9 hO
        refine AnyT.start (S := fun w' => w'.cell? ⟨g, 0, none⟩ = some (.int .u64 1) ∧ w'.cell? ⟨g, 1, none⟩ = some (.int .i64 (kp : Int)) ∧ w'.cell? ⟨g, 2, none⟩ = some (.int .i64 (kl : Int)) ∧ w'.cell? ⟨g, 3, none⟩ = some (.int .i64 (vp : Int)) ∧ w'.cell? ⟨g, 4, none⟩ = some (.int .i64 (vl : Int)) ∧ w'.cell? ⟨b, 0, none⟩ = some (.slice (some ⟨dg, do', none⟩) D.length dc)) (T := []) (by kernel_rfl) (⟨y0, y1, y2, y3, y4, b0⟩) (fun hHeld => ?_)
        refine AnyT.take (i := 0) (v := ?_) (by simp only [List.getElem?_toArray, List.getElem?_cons_succ, List.getElem?_cons_zero]; rfl) (by kernel_rfl) (by kernel_rfl) (by kernel_rfl) (by kernel_rfl) (by intro _ _ _ h; exact h) (Or.inl ⟨by rfl, fun w hSw => ?_⟩) hHeld ?_
        rotate_left
        · ((try dsimp only at hSw); go_simp; first | done | with_reducible rfl | rfl)
        try simp only [Act.put, List.setIfInBounds_toArray, List.set_cons_zero, List.set_cons_succ]
        refine AnyT.take (i := 1) (v := ?_) (by simp only [List.getElem?_toArray, List.getElem?_cons_succ, List.getElem?_cons_zero]; rfl) (by kernel_rfl) (by kernel_rfl) (by kernel_rfl) (by kernel_rfl) (by intro _ _ _ h; exact h) (Or.inl ⟨by rfl, fun w hSw => ?_⟩) hHeld ?_
        rotate_left
        · ((try dsimp only at hSw); go_simp; first | done | with_reducible rfl | rfl)
        try simp only [Act.put, List.setIfInBounds_toArray, List.set_cons_zero, List.set_cons_succ]
        refine AnyT.take (i := 2) (v := ?_) (by simp only [List.getElem?_toArray, List.getElem?_cons_succ, List.getElem?_cons_zero]; rfl) (by kernel_rfl) (by kernel_rfl) (by kernel_rfl) (by kernel_rfl) (by intro _ _ _ h; exact h) (Or.inl ⟨by rfl, fun w hSw => ?_⟩) hHeld ?_
        rotate_left
        · ((try dsimp only at hSw); go_simp; first | done | with_reducible rfl | rfl)
        try simp only [Act.put, List.setIfInBounds_toArray, List.set_cons_zero, List.set_cons_succ]
        refine AnyT.take (i := 3) (v := ?_) (by simp only [List.getElem?_toArray, List.getElem?_cons_succ, List.getElem?_cons_zero]; rfl) (by kernel_rfl) (by kernel_rfl) (by kernel_rfl) (by kernel_rfl) (by intro _ _ _ h; exact h) (Or.inl ⟨by rfl, fun w hSw => ?_⟩) hHeld ?_
        rotate_left
        · ((try dsimp only at hSw); go_simp; first | done | with_reducible rfl | rfl)
        try simp only [Act.put, List.setIfInBounds_toArray, List.set_cons_zero, List.set_cons_succ]
        refine AnyT.take (i := 4) (v := ?_) (by simp only [List.getElem?_toArray, List.getElem?_cons_succ, List.getElem?_cons_zero]; rfl) (by kernel_rfl) (by kernel_rfl) (by kernel_rfl) (by kernel_rfl) (by intro _ _ _ h; exact h) (Or.inl ⟨by rfl, fun w hSw => ?_⟩) hHeld ?_
        rotate_left
        · ((try dsimp only at hSw); go_simp; first | done | with_reducible rfl | rfl)
        try simp only [Act.put, List.setIfInBounds_toArray, List.set_cons_zero, List.set_cons_succ]
        refine AnyT.take (i := 5) (v := ?_) (by simp only [List.getElem?_toArray, List.getElem?_cons_succ, List.getElem?_cons_zero]; rfl) (by kernel_rfl) (by kernel_rfl) (by kernel_rfl) (by kernel_rfl) (by intro _ _ _ h; exact h) (Or.inl ⟨by rfl, fun w hSw => ?_⟩) hHeld ?_
        rotate_left
        · ((try dsimp only at hSw); go_simp; first | done | with_reducible rfl | rfl)
        try simp only [Act.put, List.setIfInBounds_toArray, List.set_cons_zero, List.set_cons_succ]
        refine AnyT.take (i := 7) (v := ?_) (by simp only [List.getElem?_toArray, List.getElem?_cons_succ, List.getElem?_cons_zero]; rfl) (by kernel_rfl) (by kernel_rfl) (by kernel_rfl) (by kernel_rfl) (by intro _ _ _ h; exact h) (Or.inl ⟨by rfl, fun w hSw => ?_⟩) hHeld ?_
        rotate_left
        · ((try dsimp only at hSw); go_simp; first | done | with_reducible rfl | rfl)
        try simp only [Act.put, List.setIfInBounds_toArray, List.set_cons_zero, List.set_cons_succ]
        refine AnyT.take (i := 8) (v := ?_) (by simp only [List.getElem?_toArray, List.getElem?_cons_succ, List.getElem?_cons_zero]; rfl) (by kernel_rfl) (by kernel_rfl) (by kernel_rfl) (by kernel_rfl) (by intro _ _ _ h; exact h) (Or.inl ⟨by rfl, fun w hSw => ?_⟩) hHeld ?_
        rotate_left
        · ((try dsimp only at hSw); go_simp; first | done | with_reducible rfl | rfl)
        try simp only [Act.put, List.setIfInBounds_toArray, List.set_cons_zero, List.set_cons_succ]
        refine AnyT.take (i := 9) (v := ?_) (by simp only [List.getElem?_toArray, List.getElem?_cons_succ, List.getElem?_cons_zero]; rfl) (by kernel_rfl) (by kernel_rfl) (by kernel_rfl) (by kernel_rfl) (by intro _ _ _ h; exact h) (Or.inl ⟨by rfl, fun w hSw => ?_⟩) hHeld ?_
        rotate_left
        · ((try dsimp only at hSw); go_simp; first | done | with_reducible rfl | rfl)
        try simp only [Act.put, List.setIfInBounds_toArray, List.set_cons_zero, List.set_cons_succ]
        refine AnyT.take (i := 10) (v := ?_) (by simp only [List.getElem?_toArray, List.getElem?_cons_succ, List.getElem?_cons_zero]; rfl) (by kernel_rfl) (by kernel_rfl) (by kernel_rfl) (by kernel_rfl) (by intro _ _ _ h; exact h) (Or.inl ⟨by rfl, fun w hSw => ?_⟩) hHeld ?_
        rotate_left
        · ((try dsimp only at hSw); go_simp; first | done | with_reducible rfl | rfl)
        try simp only [Act.put, List.setIfInBounds_toArray, List.set_cons_zero, List.set_cons_succ]
        refine AnyT.take (i := 11) (v := ?_) (by simp only [List.getElem?_toArray, List.getElem?_cons_succ, List.getElem?_cons_zero]; rfl) (by kernel_rfl) (by kernel_rfl) (by kernel_rfl) (by kernel_rfl) (by intro _ _ _ h; exact h) (Or.inl ⟨by rfl, fun w hSw => ?_⟩) hHeld ?_
        rotate_left
        · ((try dsimp only at hSw); go_simp; first | done | with_reducible rfl | rfl)
        try simp only [Act.put, List.setIfInBounds_toArray, List.set_cons_zero, List.set_cons_succ]
        refine AnyT.take (i := 13) (v := ?_) (by simp only [List.getElem?_toArray, List.getElem?_cons_succ, List.getElem?_cons_zero]; rfl) (by kernel_rfl) (by kernel_rfl) (by kernel_rfl) (by kernel_rfl) (by intro _ _ _ h; exact h) (Or.inl ⟨by rfl, fun w hSw => ?_⟩) hHeld ?_
        rotate_left
        · ((try dsimp only at hSw); go_simp; first | done | with_reducible rfl | rfl)
        try simp only [Act.put, List.setIfInBounds_toArray, List.set_cons_zero, List.set_cons_succ]
        refine AnyT.take (i := 14) (v := ?_) (by simp only [List.getElem?_toArray, List.getElem?_cons_succ, List.getElem?_cons_zero]; rfl) (by kernel_rfl) (by kernel_rfl) (by kernel_rfl) (by kernel_rfl) (by intro _ _ _ h; exact h) (Or.inl ⟨by rfl, fun w hSw => ?_⟩) hHeld ?_
        rotate_left
        · ((try dsimp only at hSw); go_simp; first | done | with_reducible rfl | rfl)
        try simp only [Act.put, List.setIfInBounds_toArray, List.set_cons_zero, List.set_cons_succ]
        refine AnyT.take (i := 15) (v := ?_) (by simp only [List.getElem?_toArray, List.getElem?_cons_succ, List.getElem?_cons_zero]; rfl) (by kernel_rfl) (by kernel_rfl) (by kernel_rfl) (by kernel_rfl) (by intro _ _ _ h; exact h) (Or.inl ⟨by rfl, fun w hSw => ?_⟩) hHeld ?_
        rotate_left
        · ((try dsimp only at hSw); go_simp; first | done | with_reducible rfl | rfl)
        try simp only [Act.put, List.setIfInBounds_toArray, List.set_cons_zero, List.set_cons_succ]
        refine AnyT.ready (rs := [6]) (by kernel_rfl) (by simp) ?_
        refine AllT.cons (by simp only [List.getElem?_toArray, List.getElem?_cons_succ, List.getElem?_cons_zero]; rfl) (fun K hK => ?_) AllT.nil
        go_simp
        refine (ixk_any dg do' dc D.length D r.k ⟨1, kp, kl, vp, vl⟩ R w0 _ HD.out rfl hdc HC1.out cut2 hdl).mono ?_
        rintro e w1 ⟨A1, c1, rfl, hk1, hkc1, ho1⟩
        have hO1 := HO9.out.drew.only0 ho1
        clear y0 y1 y2 y3 y4 yl b0 bl
        obtain ⟨y0, y1, y2, y3, y4, yl⟩ := ix_hdr hO1
        have b0 : w1.cell? ⟨b, 0, none⟩ = some (.slice (some ⟨dg, do', none⟩) D.length dc) := hO1.cell 1 rfl 0 rfl (by simp)
        have bl : b < w1.heap.size := (hO1.at_ 1 rfl).lt
        have HO1 := hid hO1
        have HK1 := hid hk1
        clear hO1 hk1 ho1
        try go_wp2_with fail
        refine hK.out _ _ ?_ (fun hHeld => ?_)
        · exact ⟨y0, y1, y2, y3, y4, b0⟩
        clear hK
        try simp only [Act.put, List.setIfInBounds_toArray, List.set_cons_zero, List.set_cons_succ]
        refine AnyT.ready (rs := [12]) (by kernel_rfl) (by simp) ?_
        refine AllT.cons (by simp only [List.getElem?_toArray, List.getElem?_cons_succ, List.getElem?_cons_zero]; rfl) (fun K hK => ?_) AllT.nil
        go_simp
        refine (ixv_any dg do' dc D.length D r.v ⟨1, kp, kl, vp, vl⟩ R w0 _ HD.out rfl hdc (HC3.out hdel).1 (HC3.out hdel).2 hdl).mono ?_
        rintro e w2 ⟨A2, c2, rfl, hk2, hkc2, ho2⟩
        have hO2 := HO1.out.only0 ho2
        clear y0 y1 y2 y3 y4 yl b0 bl
        obtain ⟨y0, y1, y2, y3, y4, yl⟩ := ix_hdr hO2
        have b0 : w2.cell? ⟨b, 0, none⟩ = some (.slice (some ⟨dg, do', none⟩) D.length dc) := hO2.cell 1 rfl 0 rfl (by simp)
        have bl : b < w2.heap.size := (hO2.at_ 1 rfl).lt
        have HO2 := hid hO2
        have HK2 := hid hk2
        clear hO2 hk2 ho2
        try go_wp2_with fail
        refine hK.out _ _ ?_ (fun hHeld => ?_)
        · exact ⟨y0, y1, y2, y3, y4, b0⟩
        clear hK
        try simp only [Act.put, List.setIfInBounds_toArray, List.set_cons_zero, List.set_cons_succ]
        refine AnyT.ready (rs := [16]) (by kernel_rfl) (by simp) ?_
        refine AllT.cons (by simp only [List.getElem?_toArray, List.getElem?_cons_succ, List.getElem?_cons_zero]; rfl) (fun K hK => ?_) AllT.nil
        go_simp
        refine (rep_put rp c1 c2 r.k.length r.v.length A1 A2 ops r Fx F (fw g 71 [.int .u64 1, .int .i64 (kp : Int), .int .i64 (kl : Int), .int .i64 (vp : Int), .int .i64 (vl : Int)] :: fw b 54 [.slice (some ⟨dg, do', none⟩) D.length dc, .slice (some ⟨ig, io, none⟩) l.length ic, .int .i64 il] :: (Fi ++ R)) w0 w2 hF.out (HO2.out.perm (perm_of fun _ _ z => by simp only [List.count_append, List.count_cons, List.cons_append, List.count_nil, List.nil_append, List.append_nil]; omega)) (HK1.out.mono (fun x hx => by simp [hx])) (HK2.out.mono (fun x hx => by simp [hx])) rfl rfl hdel (by have := hrok.1; omega) (by have := hrok.2; omega) (by have := HLN.out; omega)).mono ?_
        rintro e w5 ⟨y5, hy5, rfl, Fx5, F5, hF5, hO5⟩
        have hO6 := hO5.perm (L' := fw g 71 [.int .u64 1, .int .i64 (kp : Int), .int .i64 (kl : Int), .int .i64 (vp : Int), .int .i64 (vl : Int)] :: fw b 54 [.slice (some ⟨dg, do', none⟩) D.length dc, .slice (some ⟨ig, io, none⟩) l.length ic, .int .i64 il] :: (Fi ++ R ++ F5)) (perm_of fun _ _ z => by simp only [List.count_append, List.count_cons, List.cons_append, List.count_nil, List.nil_append, List.append_nil]; omega)
        clear y0 y1 y2 y3 y4 yl b0 bl
        obtain ⟨y0, y1, y2, y3, y4, yl⟩ := ix_hdr hO6
        have b0 : w5.cell? ⟨b, 0, none⟩ = some (.slice (some ⟨dg, do', none⟩) D.length dc) := hO6.cell 1 rfl 0 rfl (by simp)
        have HO6 := hid hO6.drop
        have HF5 := hid hF5
        have HY5 := hid hy5
        clear hO5 hO6 hF5 hy5
        try go_wp2_with fail
        refine hK.out _ _ ?_ (fun hHeld => ?_)
        · exact ⟨y0, y1, y2, y3, y4, b0⟩
        clear hK
        try simp only [Act.put, List.setIfInBounds_toArray, List.set_cons_zero, List.set_cons_succ]
        refine AnyT.done (by kernel_rfl) ?_ _
        go_wp2_with fail
        exact ⟨⟨k + 1, ops ++ [y5], Fx5, F5, rfl, h4, hid (by rw [HTK.out]; exact hA.out.snoc HY5.out), HF5, hid (HO6.out.perm (L' := F5 ++ (fw b 54 [.slice (some ⟨dg, do', none⟩) D.length dc, .slice (some ⟨ig, io, none⟩) l.length ic, .int .i64 il] :: (Fi ++ R))) (perm_of fun _ _ z => by simp only [List.count_append, List.count_cons, List.cons_append, List.count_nil, List.nil_append, List.append_nil]; omega))⟩, by simp [intOf]; omega⟩
      | true =>
        have hkt : x.kt = 0 := by rw [← HX.out, ixOf, hdel]; rfl
        have hkp : 0 < x.kp := by rw [← HX.out, ixOf, hdel]; simp only [if_true, Bool.false_eq_true, if_false]; omega
        obtain ⟨cut1, cut2, cut3⟩ := HC.out
        obtain ⟨dg, do', rfl, _, _⟩ := BsAt.addr (hO.out.st HD.out (fun x hx => by simp [hx])) (by omega)
        have HX2 := HX
        obtain ⟨kt, kp, kl, vp, vl⟩ := x
        simp only at hkt hkp cut1 cut2 cut3 z0 z1 z2 z3 z4
        subst hkt
        have HC1 := hid cut1
        have HC3 := hid (cut3)
        clear cut1 cut3
        go_wp2_with fail
        obtain ⟨g, hg⟩ : ∃ g, wr.heap.size = g := ⟨_, rfl⟩
        have hO9 : Own (fw g 71 [.int .u64 0, .int .i64 (kp : Int), .int .i64 (kl : Int), .int .i64 (vp : Int), .int .i64 (vl : Int)] :: fw b 54 [.slice (some ⟨dg, do', none⟩) D.length dc, .slice (some ⟨ig, io, none⟩) l.length ic, .int .i64 il] :: (Fi ++ R) ++ F) w0 (wr.alloc (.cells #[.int .u64 0, .int .i64 (kp : Int), .int .i64 (kl : Int), .int .i64 (vp : Int), .int .i64 (vl : Int)] 71)) := (hO.out.alloc' hg 71 [.int .u64 0, .int .i64 (kp : Int), .int .i64 (kl : Int), .int .i64 (vp : Int), .int .i64 (vl : Int)]).perm (perm_of fun _ _ z => by simp only [List.count_append, List.count_cons, List.cons_append, List.count_nil, List.nil_append, List.append_nil]; omega)
        try rw [hg]
        clear z0 z1 z2 z3 z4 hg
        generalize wr.alloc _ = W at hO9 ⊢
        obtain ⟨y0, y1, y2, y3, y4, yl⟩ := ix_hdr hO9
        have b0 : W.cell? ⟨b, 0, none⟩ = some (.slice (some ⟨dg, do', none⟩) D.length dc) := hO9.cell 1 rfl 0 rfl (by simp)
        have bl : b < W.heap.size := (hO9.at_ 1 rfl).lt
        have HO9 := hid hO9
        clear hO9 hO
        refine AnyT.start (S := fun w' => w'.cell? ⟨g, 0, none⟩ = some (.int .u64 0) ∧ w'.cell? ⟨g, 1, none⟩ = some (.int .i64 (kp : Int)) ∧ w'.cell? ⟨g, 2, none⟩ = some (.int .i64 (kl : Int)) ∧ w'.cell? ⟨g, 3, none⟩ = some (.int .i64 (vp : Int)) ∧ w'.cell? ⟨g, 4, none⟩ = some (.int .i64 (vl : Int)) ∧ w'.cell? ⟨b, 0, none⟩ = some (.slice (some ⟨dg, do', none⟩) D.length dc)) (T := []) (by kernel_rfl) (⟨y0, y1, y2, y3, y4, b0⟩) (fun hHeld => ?_)
        refine AnyT.take (i := 0) (v := ?_) (by simp only [List.getElem?_toArray, List.getElem?_cons_succ, List.getElem?_cons_zero]; rfl) (by kernel_rfl) (by kernel_rfl) (by kernel_rfl) (by kernel_rfl) (by intro _ _ _ h; exact h) (Or.inl ⟨by rfl, fun w hSw => ?_⟩) hHeld ?_
        rotate_left
        · ((try dsimp only at hSw); go_simp; first | done | with_reducible rfl | rfl)
        try simp only [Act.put, List.setIfInBounds_toArray, List.set_cons_zero, List.set_cons_succ]
        refine AnyT.take (i := 1) (v := ?_) (by simp only [List.getElem?_toArray, List.getElem?_cons_succ, List.getElem?_cons_zero]; rfl) (by kernel_rfl) (by kernel_rfl) (by kernel_rfl) (by kernel_rfl) (by intro _ _ _ h; exact h) (Or.inl ⟨by rfl, fun w hSw => ?_⟩) hHeld ?_
        rotate_left
        · ((try dsimp only at hSw); go_simp; first | done | with_reducible rfl | rfl)
        try simp only [Act.put, List.setIfInBounds_toArray, List.set_cons_zero, List.set_cons_succ]
        refine AnyT.take (i := 2) (v := ?_) (by simp only [List.getElem?_toArray, List.getElem?_cons_succ, List.getElem?_cons_zero]; rfl) (by kernel_rfl) (by kernel_rfl) (by kernel_rfl) (by kernel_rfl) (by intro _ _ _ h; exact h) (Or.inl ⟨by rfl, fun w hSw => ?_⟩) hHeld ?_
        rotate_left
        · ((try dsimp only at hSw); go_simp; first | done | with_reducible rfl | rfl)
        try simp only [Act.put, List.setIfInBounds_toArray, List.set_cons_zero, List.set_cons_succ]
        refine AnyT.take (i := 3) (v := ?_) (by simp only [List.getElem?_toArray, List.getElem?_cons_succ, List.getElem?_cons_zero]; rfl) (by kernel_rfl) (by kernel_rfl) (by kernel_rfl) (by kernel_rfl) (by intro _ _ _ h; exact h) (Or.inl ⟨by rfl, fun w hSw => ?_⟩) hHeld ?_
        rotate_left
        · ((try dsimp only at hSw); go_simp; first | done | with_reducible rfl | rfl)
        try simp only [Act.put, List.setIfInBounds_toArray, List.set_cons_zero, List.set_cons_succ]
        refine AnyT.take (i := 4) (v := ?_) (by simp only [List.getElem?_toArray, List.getElem?_cons_succ, List.getElem?_cons_zero]; rfl) (by kernel_rfl) (by kernel_rfl) (by kernel_rfl) (by kernel_rfl) (by intro _ _ _ h; exact h) (Or.inl ⟨by rfl, fun w hSw => ?_⟩) hHeld ?_
        rotate_left
        · ((try dsimp only at hSw); go_simp; first | done | with_reducible rfl | rfl)
        try simp only [Act.put, List.setIfInBounds_toArray, List.set_cons_zero, List.set_cons_succ]
        refine AnyT.take (i := 5) (v := ?_) (by simp only [List.getElem?_toArray, List.getElem?_cons_succ, List.getElem?_cons_zero]; rfl) (by kernel_rfl) (by kernel_rfl) (by kernel_rfl) (by kernel_rfl) (by intro _ _ _ h; exact h) (Or.inl ⟨by rfl, fun w hSw => ?_⟩) hHeld ?_
        rotate_left
        · ((try dsimp only at hSw); go_simp; first | done | with_reducible rfl | rfl)
        try simp only [Act.put, List.setIfInBounds_toArray, List.set_cons_zero, List.set_cons_succ]
        refine AnyT.take (i := 7) (v := ?_) (by simp only [List.getElem?_toArray, List.getElem?_cons_succ, List.getElem?_cons_zero]; rfl) (by kernel_rfl) (by kernel_rfl) (by kernel_rfl) (by kernel_rfl) (by intro _ _ _ h; exact h) (Or.inl ⟨by rfl, fun w hSw => ?_⟩) hHeld ?_
        rotate_left
        · ((try dsimp only at hSw); go_simp; first | done | with_reducible rfl | rfl)
        try simp only [Act.put, List.setIfInBounds_toArray, List.set_cons_zero, List.set_cons_succ]
        refine AnyT.take (i := 8) (v := ?_) (by simp only [List.getElem?_toArray, List.getElem?_cons_succ, List.getElem?_cons_zero]; rfl) (by kernel_rfl) (by kernel_rfl) (by kernel_rfl) (by kernel_rfl) (by intro _ _ _ h; exact h) (Or.inl ⟨by rfl, fun w hSw => ?_⟩) hHeld ?_
        rotate_left
        · ((try dsimp only at hSw); go_simp; first | done | with_reducible rfl | rfl)
        try simp only [Act.put, List.setIfInBounds_toArray, List.set_cons_zero, List.set_cons_succ]
        refine AnyT.take (i := 9) (v := ?_) (by simp only [List.getElem?_toArray, List.getElem?_cons_succ, List.getElem?_cons_zero]; rfl) (by kernel_rfl) (by kernel_rfl) (by kernel_rfl) (by kernel_rfl) (by intro _ _ _ h; exact h) (Or.inl ⟨by rfl, fun w hSw => ?_⟩) hHeld ?_
        rotate_left
        · ((try dsimp only at hSw); go_simp; first | done | with_reducible rfl | rfl)
        try simp only [Act.put, List.setIfInBounds_toArray, List.set_cons_zero, List.set_cons_succ]
        refine AnyT.ready (rs := [6]) (by kernel_rfl) (by simp) ?_
        refine AllT.cons (by simp only [List.getElem?_toArray, List.getElem?_cons_succ, List.getElem?_cons_zero]; rfl) (fun K hK => ?_) AllT.nil
        go_simp
        refine (ixk_any dg do' dc D.length D r.k ⟨0, kp, kl, vp, vl⟩ R w0 _ HD.out rfl hdc HC1.out cut2 hdl).mono ?_
        rintro e w1 ⟨A1, c1, rfl, hk1, hkc1, ho1⟩
        have hO1 := HO9.out.drew.only0 ho1
        clear y0 y1 y2 y3 y4 yl b0 bl
        obtain ⟨y0, y1, y2, y3, y4, yl⟩ := ix_hdr hO1
        have b0 : w1.cell? ⟨b, 0, none⟩ = some (.slice (some ⟨dg, do', none⟩) D.length dc) := hO1.cell 1 rfl 0 rfl (by simp)
        have bl : b < w1.heap.size := (hO1.at_ 1 rfl).lt
        have HO1 := hid hO1
        have HK1 := hid hk1
        clear hO1 hk1 ho1
        try go_wp2_with fail
        refine hK.out _ _ ?_ (fun hHeld => ?_)
        · exact ⟨y0, y1, y2, y3, y4, b0⟩
        clear hK
        try simp only [Act.put, List.setIfInBounds_toArray, List.set_cons_zero, List.set_cons_succ]
        refine AnyT.ready (rs := [10]) (by kernel_rfl) (by simp) ?_
        refine AllT.cons (by simp only [List.getElem?_toArray, List.getElem?_cons_succ, List.getElem?_cons_zero]; rfl) (fun K hK => ?_) AllT.nil
        go_simp
        refine (rep_del rp c1 r.k.length A1 ops r Fx F (fw g 71 [.int .u64 0, .int .i64 (kp : Int), .int .i64 (kl : Int), .int .i64 (vp : Int), .int .i64 (vl : Int)] :: fw b 54 [.slice (some ⟨dg, do', none⟩) D.length dc, .slice (some ⟨ig, io, none⟩) l.length ic, .int .i64 il] :: (Fi ++ R)) w0 w1 hF.out (HO1.out.perm (perm_of fun _ _ z => by simp only [List.count_append, List.count_cons, List.cons_append, List.count_nil, List.nil_append, List.append_nil]; omega)) (HK1.out.mono (fun x hx => by simp [hx])) rfl hdel (by have := hrok.1; omega) (by have := HLN.out; omega)).mono ?_
        rintro e w5 ⟨y5, hy5, rfl, Fx5, F5, hF5, hO5⟩
        have hO6 := hO5.perm (L' := fw g 71 [.int .u64 0, .int .i64 (kp : Int), .int .i64 (kl : Int), .int .i64 (vp : Int), .int .i64 (vl : Int)] :: fw b 54 [.slice (some ⟨dg, do', none⟩) D.length dc, .slice (some ⟨ig, io, none⟩) l.length ic, .int .i64 il] :: (Fi ++ R ++ F5)) (perm_of fun _ _ z => by simp only [List.count_append, List.count_cons, List.cons_append, List.count_nil, List.nil_append, List.append_nil]; omega)
        clear y0 y1 y2 y3 y4 yl b0 bl
        obtain ⟨y0, y1, y2, y3, y4, yl⟩ := ix_hdr hO6
        have b0 : w5.cell? ⟨b, 0, none⟩ = some (.slice (some ⟨dg, do', none⟩) D.length dc) := hO6.cell 1 rfl 0 rfl (by simp)
        have HO6 := hid hO6.drop
        have HF5 := hid hF5
        have HY5 := hid hy5
        clear hO5 hO6 hF5 hy5
        try go_wp2_with fail
        refine hK.out _ _ ?_ (fun hHeld => ?_)
        · exact ⟨y0, y1, y2, y3, y4, b0⟩
        clear hK
        try simp only [Act.put, List.setIfInBounds_toArray, List.set_cons_zero, List.set_cons_succ]
        refine AnyT.done (by kernel_rfl) ?_ _
        go_wp2_with fail
        exact ⟨⟨k + 1, ops ++ [y5], Fx5, F5, rfl, h4, hid (by rw [HTK.out]; exact hA.out.snoc HY5.out), HF5, hid (HO6.out.perm (L' := F5 ++ (fw b 54 [.slice (some ⟨dg, do', none⟩) D.length dc, .slice (some ⟨ig, io, none⟩) l.length ic, .int .i64 il] :: (Fi ++ R))) (perm_of fun _ _ z => by simp only [List.count_append, List.count_cons, List.cons_append, List.count_nil, List.nil_append, List.append_nil]; omega))⟩, by simp [intOf]; omega⟩
    · have h4' : ¬ (k : Int) < (l.length : Int) := by omega
      have hA2 := hA.out
      rw [List.take_of_length_le (by omega)] at hA2
      have HA2 := hid hA2
      clear hA2
      go_wp2_with fail
      go_ret
      exact ⟨rfl, ops, Fx, F, HA2.out, hF.out, hO.out⟩
end Go.Proofs.Ytloflmcgbbbnjaa
