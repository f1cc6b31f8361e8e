/-
  mergedIterator: Prev where it goes forward.
-/
import Derived.Test.YtloflmcgbbbnjaaDoorMrgM8
namespace Go.Proofs.YtloflmcgbbbnjaaDoor
open Go.RowKit Plain
set_option linter.all false

def posBack (key : List UInt8) (it : It) : Int := if it.l.length = 0 then 0 else ((mAt Pr.k it.l key : Nat) : Int) - 1
/-- The first x have been moved, but for x0. -/
structure BkAt (x0 : Nat) (key : List UInt8) (its : List It) (x : Nat) (st : List It) : Prop where
  len : st.length = its.length
  at_ : ∀ (i : Nat) it, its[i]? = some it → st[i]? = some (if i < x ∧ i ≠ x0 then it.to (posBack key it) else it)
theorem BkAt.zero (x0 : Nat) (key : List UInt8) (its : List It) : BkAt x0 key its 0 its := ⟨rfl, fun i it hi => by rw [if_neg (by omega)]; exact hi⟩
theorem BkAt.skip {x0 : Nat} {key : List UInt8} {its st : List It} (h : BkAt x0 key its x0 st) : BkAt x0 key its (x0 + 1) st := ⟨h.len, fun i it hi => by
  rw [h.at_ i it hi]
  by_cases hc : i < x0 ∧ i ≠ x0
  · rw [if_pos hc, if_pos ⟨by omega, hc.2⟩]
  · rw [if_neg hc, if_neg (by omega)]⟩
theorem BkAt.next {x0 x : Nat} {key : List UInt8} {its st : List It} {it : It} (h : BkAt x0 key its x st) (hne : x ≠ x0) (hx : its[x]? = some it) : BkAt x0 key its (x + 1) (st.set x (it.to (posBack key it))) := ⟨by rw [List.length_set, h.len], fun i it' hi => by
  have hxl := (List.getElem?_eq_some_iff.1 hx).1
  by_cases hix : i = x
  · subst hix
    rw [List.getElem?_set_self (by rw [h.len]; exact hxl)]
    rw [hx] at hi
    rw [if_pos ⟨by omega, hne⟩, Option.some.inj hi]
  · rw [List.getElem?_set_ne (by omega), h.at_ i it' hi]
    by_cases hc : i < x ∧ i ≠ x0
    · rw [if_pos hc, if_pos ⟨by omega, hc.2⟩]
    · rw [if_neg hc, if_neg (by omega)]⟩
theorem BkAt.here {x0 x : Nat} {key : List UInt8} {its st : List It} {it : It} (h : BkAt x0 key its x st) (hx : its[x]? = some it) : st[x]? = some it := by
  rw [h.at_ x it hx, if_neg (by omega)]
theorem BkAt.own {x0 x : Nat} {key : List UInt8} {its st : List It} {it : It} (h : BkAt x0 key its x st) (hx : its[x0]? = some it) : st[x0]? = some it := by
  rw [h.at_ x0 it hx, if_neg (by omega)]
theorem BkAt.map {β : Type} {x0 x : Nat} {key : List UInt8} {its st : List It} (h : BkAt x0 key its x st) (f : It → β) (hf : ∀ it p, f (it.to p) = f it) : st.map f = its.map f := by
  apply List.ext_getElem?
  intro i
  rw [List.getElem?_map, List.getElem?_map]
  cases hi : its[i]? with
  | none => rw [List.getElem?_eq_none (by rw [h.len]; exact List.getElem?_eq_none_iff.1 hi)]
  | some it =>
    rw [h.at_ i it hi]
    split
    · exact congrArg some (hf it _)
    · rfl
theorem BkAt.data {x0 x : Nat} {key : List UInt8} {its st : List It} (h : BkAt x0 key its x st) {w : World} (hd : MData its w) : MData st w := by
  intro y hy
  obtain ⟨i, hi, rfl⟩ := List.getElem_of_mem hy
  have hil : i < its.length := by rw [← h.len]; exact hi
  have h1 := h.at_ i its[i] (List.getElem?_eq_getElem hil)
  rw [List.getElem?_eq_getElem hi] at h1
  rw [Option.some.inj h1]
  have h2 := hd its[i] (List.getElem_mem hil)
  split
  · exact h2
  · exact h2
set_option maxHeartbeats 6400000 in
set_option maxRecDepth 100000 in
theorem mPrevF (mp : Nat) (iA : Option Addr) (KN ic kg x0 : Nat) (its : List It) (it0 : It) (r : Pr) (Fi R : List Fr) (w0 w : World) (hO : Own (mFr mp iA KN ic kg (x0 : Int) 3 :: fw kg 25 (its.map It.kv) :: (Fi ++ (its.map It.fr ++ R))) w0 w) (hx : its[x0]? = some it0) (hc : it0.cur = some r) (hrow : Row 106 1 iA KN ic (its.map It.iv) Fi) (hD : St R w0 (MData its)) (hK : KN = its.length) (hKl : KN ≤ 2147483647)
    (hll : ∀ it ∈ its, it.l.length ≤ 1099511627776) (hkl : r.k.length ≤ 2147483647) (hpl : Plc it0.l.length it0.pos) :
    Calls Tryd.prog 201 #[.pointer (some ⟨mp, 0, none⟩)] w fun e w' => ∃ st, BkAt x0 r.k its KN st ∧ MOutP mp iA KN ic kg (st.set x0 (it0.to (max (it0.pos - 1) (-1)))) (Fi ++ ((st.set x0 (it0.to (max (it0.pos - 1) (-1)))).map It.fr ++ R)) w0 e w' := by
  obtain ⟨c0, c1, c2, c3, c4, c5, c6, f4, f5⟩ := mFr_cells hO
  have k0 := key_cell hO hx
  rw [hc] at k0
  unfold kvO at k0
  have hxs0 : x0 < its.length := (List.getElem?_eq_some_iff.1 hx).1
  have t1 : (x0 : Int) < (KN : Int) := by omega
  have hmm := List.mem_of_getElem? hx
  have hrm := It.cur_mem hc
  have hrk : St R w0 (fun w => BsAt w r.ka r.k) := hD.imp fun w hm => ((hm it0 hmm).1.ok r hrm).hk
  have hlx0 := hll it0 hmm
  have HO := hid hO
  have HRK := hid hrk
  have HROW := hid hrow
  have HDD := hid hD
  have HK := hid hK
  have HLL := hid hll
  have HSX0 := hid hx
  have HCUR := hid hc
  have HPL := hid hpl
  have m1 := m_aSeek
  have m2 := m_aKey
  have m3 := m_aPrev
  have m4 := m_aLast
  obtain ⟨p0, hp0⟩ : ∃ p0, max (it0.pos - 1) (-1) = p0 := ⟨_, rfl⟩
  rw [hp0]
  have HP0 := hid hp0
  clear hO hx hc hrow hD hK hll hrk hmm hrm hpl hp0
  go_enter Tryd.func201, Tryd.ntmps201
  go_wp2_with fail
  refine AnyT.start (S := fun w' => w'.cell? ⟨mp, 3, none⟩ = some (.slice (some ⟨kg, 0, none⟩) KN KN) ∧ w'.cell? ⟨mp, 4, none⟩ = some (.int .i64 (x0 : Int)) ∧ w'.cell? ⟨kg, x0, none⟩ = some (.slice r.ka r.k.length r.kc)) (T := []) (by kernel_rfl) (⟨c3, c4, k0⟩) (fun hHeld => ?_)
  refine AnyT.take (i := 1) (v := ?_) (by simp only [List.getElem?_toArray, List.getElem?_cons_succ, List.getElem?_cons_zero]; rfl) (by kernel_rfl) (by kernel_rfl) (by kernel_rfl) (by kernel_rfl) (by intro _ _ _ h; exact h) (Or.inl ⟨by rfl, fun w hSw => ?_⟩) hHeld ?_
  rotate_left
  · ((try dsimp only at hSw); go_simp; first | done | with_reducible rfl | rfl)
  try simp only [Act.put, List.setIfInBounds_toArray, List.set_cons_zero, List.set_cons_succ]
  refine AnyT.take (i := 2) (v := ?_) (by simp only [List.getElem?_toArray, List.getElem?_cons_succ, List.getElem?_cons_zero]; rfl) (by kernel_rfl) (by kernel_rfl) (by kernel_rfl) (by kernel_rfl) (by intro _ _ _ h; exact h) (Or.inl ⟨by rfl, fun w hSw => ?_⟩) hHeld ?_
  rotate_left
  · ((try dsimp only at hSw); go_simp; first | done | with_reducible rfl | rfl)
  try simp only [Act.put, List.setIfInBounds_toArray, List.set_cons_zero, List.set_cons_succ]
  refine AnyT.take (i := 3) (v := ?_) (by simp only [List.getElem?_toArray, List.getElem?_cons_succ, List.getElem?_cons_zero]; rfl) (by kernel_rfl) (by kernel_rfl) (by kernel_rfl) (by kernel_rfl) (by intro _ _ _ h; exact h) (Or.inl ⟨by rfl, fun w hSw => ?_⟩) hHeld ?_
  rotate_left
  · ((try dsimp only at hSw); go_simp; first | done | with_reducible rfl | rfl)
  try simp only [Act.put, List.setIfInBounds_toArray, List.set_cons_zero, List.set_cons_succ]
  refine AnyT.take (i := 4) (v := ?_) (by simp only [List.getElem?_toArray, List.getElem?_cons_succ, List.getElem?_cons_zero]; rfl) (by kernel_rfl) (by kernel_rfl) (by kernel_rfl) (by kernel_rfl) (by intro _ _ _ h; exact h) (Or.inl ⟨by rfl, fun w hSw => ?_⟩) hHeld ?_
  rotate_left
  · ((try dsimp only at hSw); go_simp; first | done | with_reducible rfl | rfl)
  try simp only [Act.put, List.setIfInBounds_toArray, List.set_cons_zero, List.set_cons_succ]
  refine AnyT.take (i := 5) (v := ?_) (by simp only [List.getElem?_toArray, List.getElem?_cons_succ, List.getElem?_cons_zero]; rfl) (by kernel_rfl) (by kernel_rfl) (by kernel_rfl) (by kernel_rfl) (by intro _ _ _ h; exact h) (Or.inl ⟨by rfl, fun w hSw => ?_⟩) hHeld ?_
  rotate_left
  · ((try dsimp only at hSw); go_simp; first | done | with_reducible rfl | rfl)
  try simp only [Act.put, List.setIfInBounds_toArray, List.set_cons_zero, List.set_cons_succ]
  refine AnyT.take (i := 6) (v := ?_) (by simp only [List.getElem?_toArray, List.getElem?_cons_succ, List.getElem?_cons_zero]; rfl) (by kernel_rfl) (by kernel_rfl) (by kernel_rfl) (by kernel_rfl) (by intro _ _ _ h; exact h) (Or.inl ⟨by rfl, fun w hSw => ?_⟩) hHeld ?_
  rotate_left
  · ((try dsimp only at hSw); go_simp; first | done | with_reducible rfl | rfl)
  try simp only [Act.put, List.setIfInBounds_toArray, List.set_cons_zero, List.set_cons_succ]
  refine AnyT.take (i := 7) (v := ?_) (by simp only [List.getElem?_toArray, List.getElem?_cons_succ, List.getElem?_cons_zero]; rfl) (by kernel_rfl) (by kernel_rfl) (by kernel_rfl) (by kernel_rfl) (by intro _ _ _ h; exact h) (Or.inl ⟨by rfl, fun w hSw => ?_⟩) hHeld ?_
  rotate_left
  · ((try dsimp only at hSw); go_simp; first | done | with_reducible rfl | rfl)
  try simp only [Act.put, List.setIfInBounds_toArray, List.set_cons_zero, List.set_cons_succ]
  refine AnyT.take (i := 8) (v := ?_) (by simp only [List.getElem?_toArray, List.getElem?_cons_succ, List.getElem?_cons_zero]; rfl) (by kernel_rfl) (by kernel_rfl) (by kernel_rfl) (by kernel_rfl) (by intro _ _ _ h; exact h) (Or.inl ⟨by rfl, fun w hSw => ?_⟩) hHeld ?_
  rotate_left
  · ((try dsimp only at hSw); go_simp; first | done | with_reducible rfl | rfl)
  try simp only [Act.put, List.setIfInBounds_toArray, List.set_cons_zero, List.set_cons_succ]
  refine AnyT.take (i := 9) (v := ?_) (by simp only [List.getElem?_toArray, List.getElem?_cons_succ, List.getElem?_cons_zero]; rfl) (by kernel_rfl) (by kernel_rfl) (by kernel_rfl) (by kernel_rfl) (by intro _ _ _ h; exact h) (Or.inl ⟨by rfl, fun w hSw => ?_⟩) hHeld ?_
  rotate_left
  · ((try dsimp only at hSw); go_simp; first | done | with_reducible rfl | rfl)
  try simp only [Act.put, List.setIfInBounds_toArray, List.set_cons_zero, List.set_cons_succ]
  refine AnyT.take (i := 10) (v := ?_) (by simp only [List.getElem?_toArray, List.getElem?_cons_succ, List.getElem?_cons_zero]; rfl) (by kernel_rfl) (by kernel_rfl) (by kernel_rfl) (by kernel_rfl) (by intro _ _ _ h; exact h) (Or.inl ⟨by rfl, fun w hSw => ?_⟩) hHeld ?_
  rotate_left
  · ((try dsimp only at hSw); go_simp; first | done | with_reducible rfl | rfl)
  try simp only [Act.put, List.setIfInBounds_toArray, List.set_cons_zero, List.set_cons_succ]
  refine AnyT.ready (rs := [0]) (by kernel_rfl) (by simp) ?_
  refine AllT.cons (by simp only [List.getElem?_toArray, List.getElem?_cons_succ, List.getElem?_cons_zero]; rfl) (fun K hK => ?_) AllT.nil
  go_simp
  obtain ⟨eb, heb⟩ : ∃ eb, w.heap.size = eb := ⟨_, rfl⟩
  rw [heb]
  have hO4 := (HO.out.alloc' heb 5 []).drew
  clear heb
  have hO4m := hO4.perm (L' := mFr mp iA KN ic kg (x0 : Int) 3 :: fw kg 25 (its.map It.kv) :: (fw eb 5 [] :: (Fi ++ (its.map It.fr ++ R)))) (perm_of fun _ _ z => by simp only [List.count_append, List.count_cons, List.cons_append, List.count_nil, List.nil_append, List.append_nil]; omega)
  have d3 := (mFr_cells hO4m).c3
  have d4 := (mFr_cells hO4m).c4
  have dk : (w.alloc (.cells [].toArray 5)).drew.cell? ⟨kg, x0, none⟩ = some (.slice r.ka r.k.length r.kc) := by
    have h1 : w.cell? ⟨kg, x0, none⟩ = some (.slice r.ka r.k.length r.kc) := k0
    exact ((((Only.refl [] w).alloc _).drew).cell (p := ⟨kg, x0, none⟩) (cell_lt h1) (by simp)).trans h1
  refine hK.out _ _ ?_ (fun hHeld => ?_)
  · exact ⟨d3, d4, dk⟩
  clear hK
  try simp only [Act.put, List.setIfInBounds_toArray, List.set_cons_zero, List.set_cons_succ]
  generalize World.drew _ = w4 at hO4 hHeld ⊢
  have HO4 := hid hO4
  have hk4 := hO4.st HRK.out (fun y hy => by simp [hy])
  have HK4 := hid hk4
  clear hO4 hO4m d3 d4 dk hk4 c0 c1 c2 c3 c4 c5 c6 f4 f5 k0
  refine AnyT.ready (rs := [11]) (by kernel_rfl) (by simp) ?_
  refine AllT.cons (by simp only [List.getElem?_toArray, List.getElem?_cons_succ, List.getElem?_cons_zero]; rfl) (fun K hK => ?_) AllT.nil
  refine own_step_append rfl (.tmp 40) (.tmp 50) 25 rfl 5 (.int .u8 0) 1 1 Tryd.underlying25 Tryd.info_u8 rfl (by decide) (some ⟨eb, 0, none⟩) 0 0 [] [fw eb 5 []] rfl ⟨by simp, .inr ⟨_, [], rfl, rfl, by omega, by simp [maxLen], by simp, by simp⟩⟩ (R := mFr mp iA KN ic kg (x0 : Int) 3 :: fw kg 25 (its.map It.kv) :: (Fi ++ (its.map It.fr ++ R))) HO4.out r.ka r.k.length r.kc (bc r.k) rfl (by rw [bc_length]; omega) HK4.out.cs (bc_one _) (by simp [maxLen]; omega) (by omega) ?_
  intro A1 c1' F1 w5 hr1 hO5 _
  have HR1 := hid hr1
  have HO5 := hid (hO5.perm (L' := mFr mp iA KN ic kg (x0 : Int) 3 :: fw kg 25 (its.map It.kv) :: (Fi ++ (its.map It.fr ++ (F1 ++ R)))) (perm_of fun _ _ z => by simp only [List.count_append, List.count_cons, List.cons_append, List.count_nil, List.nil_append, List.append_nil]; omega))
  have d3 := (mFr_cells HO5.out).c3
  have d4 := (mFr_cells HO5.out).c4
  have dk := key_cell HO5.out HSX0.out
  rw [HCUR.out] at dk
  unfold kvO at dk
  clear hr1 hO5 HO4 HK4
  refine hK.out _ _ ?_ (fun hHeld => ?_)
  · exact ⟨d3, d4, dk⟩
  clear hK
  try simp only [Act.put, List.setIfInBounds_toArray, List.set_cons_zero, List.set_cons_succ]
  refine AnyT.take (i := 12) (v := ?_) (by simp only [List.getElem?_toArray, List.getElem?_cons_succ, List.getElem?_cons_zero]; rfl) (by kernel_rfl) (by kernel_rfl) (by kernel_rfl) (by kernel_rfl) (by intro _ _ _ h; exact h) (Or.inl ⟨by rfl, fun w hSw => ?_⟩) hHeld ?_
  rotate_left
  · ((try dsimp only at hSw); go_simp; first | done | with_reducible rfl | rfl)
  try simp only [Act.put, List.setIfInBounds_toArray, List.set_cons_zero, List.set_cons_succ]
  refine AnyT.done (by kernel_rfl) ?_ _
  clear hHeld d3 d4 dk
  have hrl : Rd (F1 ++ R) w0 A1 r.k := by
    have h1 := HR1.out
    rw [List.nil_append] at h1
    exact (h1.rd w0).left R
  have hdx : St (F1 ++ R) w0 (MData its) := HDD.out.right F1
  obtain ⟨RX, hRX⟩ : ∃ RX, F1 ++ R = RX := ⟨_, rfl⟩
  rw [hRX] at HO5 hrl hdx
  have HRX := hid hRX.symm
  have HRL := hid hrl
  have HDX0 := hid hdx
  obtain ⟨kn, hkn⟩ : ∃ kn, 0 + r.k.length = kn := ⟨_, rfl⟩
  have hkn2 : kn = r.k.length := by omega
  have HKN := hid hkn2
  obtain ⟨d0, d1, d2, d3, d4, d5, d6, g4, g5⟩ := mFr_cells HO5.out
  clear hrl hdx hRX HR1 hkn2
  try rw [hkn]
  clear hkn
  go_wp2_with fail
  go_loopw [57] (fun i wr => ∃ (x : Nat) (st : List It), i = .int .i64 x ∧ x ≤ KN ∧ Hid (BkAt x0 r.k its x st) ∧ Hid (Own (mFr mp iA KN ic kg (x0 : Int) 3 :: fw kg 25 (st.map It.kv) :: (Fi ++ (st.map It.fr ++ RX))) w0 wr)) (fun i _ => KN - (intOf i).toNat)
  case atStart => exact ⟨0, its, rfl, Nat.zero_le _, hid (BkAt.zero x0 r.k its), HO5⟩
  case round =>
    clear HO5 HO d0 d1 d2 d3 d4 d5 d6 g4 g5
    obtain ⟨x, st, rfl, hx, HB, HO⟩ := hrel
    obtain ⟨w2, rfl⟩ : ∃ w2, w2 = wr := ⟨_, rfl⟩
    obtain ⟨c0, c1, c2, c3, c4, c5, c6, f4, f5⟩ := mFr_cells HO.out
    have hics : CsAt w2 iA (its.map It.iv) := HROW.out.cs fun y hy => HO.out.ins y (by simp [hy])
    have HSL := hid HB.out.len
    by_cases h4 : x < KN
    · have h4' : (x : Int) < (KN : Int) := by omega
      have hxl : x < its.length := by rw [← HK.out]; exact h4
      have hxi : its[x]? = some its[x] := List.getElem?_eq_getElem hxl
      have hxm : its[x] ∈ its := List.getElem_mem hxl
      generalize its[x] = it at hxi hxm
      obtain ⟨ig, io, rfl, k0⟩ := hics x (by simpa using hxl)
      rw [List.getElem?_map, hxi] at k0
      have k1 : w2.cell? ⟨ig, io + x, none⟩ = some (.iface 187 (.pointer (some ⟨it.q, 0, none⟩))) := k0
      clear k0
      by_cases hxx : x = x0
      · subst hxx
        have t2 : ((x : Int) == (x : Int)) = true := by simp
        clear hics hxi hxm
        go_wp2_with fail
        go_roundw
        case rel => exact ⟨x + 1, st, by go_num, by omega, hid HB.out.skip, HO⟩
        case measure => simp [intOf]; omega
      · have t2 : ((x : Int) == (x0 : Int)) = false := by rw [beq_eq_false_iff_ne]; omega
        have HSX := hid (HB.out.here hxi)
        have hBN := HB.out.next hxx hxi
        have hO1 := HO.out.perm (L' := it.fr :: (mFr mp (some ⟨ig, io, none⟩) KN ic kg (x0 : Int) 3 :: fw kg 25 (st.map It.kv) :: (Fi ++ ((st.eraseIdx x).map It.fr ++ RX)))) (((its_out HSX.out).append_right RX |>.append_left Fi |>.cons _ |>.cons _).trans (perm_of fun _ _ z => by simp only [List.count_append, List.count_cons, List.cons_append, List.count_nil, List.nil_append, List.append_nil]; omega))
        have HO1 := hid hO1
        have hd1 := HDX0.out.imp fun w hm => hm it hxm
        have HNE := hid ((hO1.st hd1 (fun y hy => by simp [hy])).2)
        have HPX := hid (hd1.imp fun w hm => hm.1)
        have hlx := HLL.out it hxm
        obtain ⟨p, hp⟩ : ∃ p, posBack r.k it = p := ⟨_, rfl⟩
        rw [hp] at hBN
        have HBN := hid hBN
        have HP := hid hp
        have hle := mAt_le Pr.k it.l r.k
        obtain ⟨sk, hsk⟩ : ∃ sk, mAt Pr.k it.l r.k = sk := ⟨_, rfl⟩
        have HSK := hid hsk
        rw [hsk] at hle
        have hxs : x < st.length := by rw [HSL.out]; exact hxl
        clear hics hxi hxm hd1 hBN hp hsk hO1
        go_wp2_with fail
        refine (aSeek it.q it.A A1 it.l.length it.c _ _ it.pos it.apos (aKey it.l it.apos) (aVal it.l it.apos) it.l r.k _ w0 _ HO1.out ((((HPX.out.right ((st.eraseIdx x).map It.fr)).right Fi).cons _).cons _) ((((HRL.out.right ((st.eraseIdx x).map It.fr)).right Fi).cons _).cons _) rfl (by first | rfl | omega) hlx).mono ?_
        rintro e w3 ⟨rfl, hO3⟩
        rw [HSK.out] at hO3 ⊢
        have HO3 := hid hO3
        clear hO3 c0 c1 c2 c3 c4 c5 c6 f4 f5 k1
        cases hb1 : wval it.l.length ((sk : Nat) : Int) with
        | true =>
          have hs1 := (wval_iff.1 hb1).2
          go_wp2_with fail
          refine (aPrev it.q it.A it.l.length it.c (sk : Int) it.apos (aKey it.l it.apos) (aVal it.l it.apos) _ w0 _ HO3.out hlx ⟨by omega, by omega⟩).mono ?_
          rintro e w3 ⟨rfl, hO3⟩
          have hpe : max ((sk : Int) - 1) (-1) = p := by
            rw [← HP.out, ← HSK.out]
            unfold posBack
            rw [HSK.out, if_neg (by omega)]; omega
          have hO3 : Own ((it.mv p).fr :: (mFr mp (some ⟨ig, io, none⟩) KN ic kg (x0 : Int) 3 :: fw kg 25 (st.map It.kv) :: (Fi ++ ((st.eraseIdx x).map It.fr ++ RX)))) w0 w3 := by rw [← hpe]; exact hO3
          have hbq : decide ((0 : Int) ≤ (sk : Int) - 1) = wval it.l.length p := by
            rw [← hpe]
            by_cases h3 : (0 : Int) ≤ (sk : Int) - 1
            · rw [decide_eq_true h3, wval_iff.2 ⟨by omega, by omega⟩]
            · rw [decide_eq_false h3, wval_not.2 (.inl (by omega))]
          rw [hbq]
          clear hbq hpe
          cases hb : wval it.l.length p with
          | true =>
            obtain ⟨r, hr, hrm, hkv⟩ := aKey_valid hb
            have hps := hO3.st HPX.out (fun y hy => by simp [hy])
            have hnn := bs_some (hps.ok r hrm).hk (HNE.out r hrm)
            have hO3m := hO3.perm (L' := mFr mp (some ⟨ig, io, none⟩) KN ic kg (x0 : Int) 3 :: ((it.mv p).fr :: fw kg 25 (st.map It.kv) :: (Fi ++ ((st.eraseIdx x).map It.fr ++ RX)))) (perm_of fun _ _ z => by simp only [List.count_append, List.count_cons, List.cons_append, List.count_nil, List.nil_append, List.append_nil]; omega)
            have d3 : w3.cell? ⟨mp, 3, none⟩ = some (.slice (some ⟨kg, 0, none⟩) KN KN) := (mFr_cells hO3m).c3
            have hto : (it.to p).fr = aFr it.q (arrV it.A it.l.length it.c) p p (aKey it.l p) (aVal it.l p) := by unfold It.to It.fr; simp only [hb, if_true]
            have htk : (it.to p).kv = .slice r.ka r.k.length r.kc := hkv
            have HTO := hid hto
            have HTK := hid htk
            have HKV := hid hkv
            have HO3 := hid hO3
            clear hps hr hrm hO3m hO3 hto htk hkv
            go_wp2_with fail
            refine AnyT.start (S := fun w' => w'.cell? ⟨mp, 3, none⟩ = some (.slice (some ⟨kg, 0, none⟩) KN KN)) (T := []) (by kernel_rfl) (d3) (fun hHeld => ?_)
            refine AnyT.take (i := 0) (v := ?_) (by simp only [List.getElem?_toArray, List.getElem?_cons_succ, List.getElem?_cons_zero]; rfl) (by kernel_rfl) (by kernel_rfl) (by kernel_rfl) (by kernel_rfl) (by intro _ _ _ h; exact h) (Or.inl ⟨by rfl, fun w hSw => ?_⟩) hHeld ?_
            rotate_left
            · ((try dsimp only at hSw); go_simp; first | done | with_reducible rfl | rfl)
            try simp only [Act.put, List.setIfInBounds_toArray, List.set_cons_zero, List.set_cons_succ]
            refine AnyT.take (i := 1) (v := ?_) (by simp only [List.getElem?_toArray, List.getElem?_cons_succ, List.getElem?_cons_zero]; rfl) (by kernel_rfl) (by kernel_rfl) (by kernel_rfl) (by kernel_rfl) (by intro _ _ _ h; exact h) (Or.inl ⟨by rfl, fun w hSw => ?_⟩) hHeld ?_
            rotate_left
            · ((try dsimp only at hSw); go_simp; first | done | with_reducible rfl | rfl)
            try simp only [Act.put, List.setIfInBounds_toArray, List.set_cons_zero, List.set_cons_succ]
            refine AnyT.take (i := 2) (v := ?_) (by simp only [List.getElem?_toArray, List.getElem?_cons_succ, List.getElem?_cons_zero]; rfl) (by kernel_rfl) (by kernel_rfl) (by kernel_rfl) (by kernel_rfl) (by intro _ _ _ h; exact h) (Or.inl ⟨by rfl, fun w hSw => ?_⟩) hHeld ?_
            rotate_left
            · ((try dsimp only at hSw); go_simp; first | done | with_reducible rfl | rfl)
            try simp only [Act.put, List.setIfInBounds_toArray, List.set_cons_zero, List.set_cons_succ]
            refine AnyT.take (i := 3) (v := ?_) (by simp only [List.getElem?_toArray, List.getElem?_cons_succ, List.getElem?_cons_zero]; rfl) (by kernel_rfl) (by kernel_rfl) (by kernel_rfl) (by kernel_rfl) (by intro _ _ _ h; exact h) (Or.inl ⟨by rfl, fun w hSw => ?_⟩) hHeld ?_
            rotate_left
            · ((try dsimp only at hSw); go_simp; first | done | with_reducible rfl | rfl)
            try simp only [Act.put, List.setIfInBounds_toArray, List.set_cons_zero, List.set_cons_succ]
            refine AnyT.take (i := 4) (v := ?_) (by simp only [List.getElem?_toArray, List.getElem?_cons_succ, List.getElem?_cons_zero]; rfl) (by kernel_rfl) (by kernel_rfl) (by kernel_rfl) (by kernel_rfl) (by intro _ _ _ h; exact h) (Or.inl ⟨by rfl, fun w hSw => ?_⟩) hHeld ?_
            rotate_left
            · ((try dsimp only at hSw); go_simp; first | done | with_reducible rfl | rfl)
            try simp only [Act.put, List.setIfInBounds_toArray, List.set_cons_zero, List.set_cons_succ]
            refine AnyT.take (i := 5) (v := ?_) (by simp only [List.getElem?_toArray, List.getElem?_cons_succ, List.getElem?_cons_zero]; rfl) (by kernel_rfl) (by kernel_rfl) (by kernel_rfl) (by kernel_rfl) (by intro _ _ _ h; exact h) (Or.inl ⟨by rfl, fun w hSw => ?_⟩) hHeld ?_
            rotate_left
            · ((try dsimp only at hSw); go_simp; first | done | with_reducible rfl | rfl)
            try simp only [Act.put, List.setIfInBounds_toArray, List.set_cons_zero, List.set_cons_succ]
            refine AnyT.ready (rs := [6]) (by kernel_rfl) (by simp) ?_
            refine AllT.cons (by simp only [List.getElem?_toArray, List.getElem?_cons_succ, List.getElem?_cons_zero]; rfl) (fun K hK => ?_) AllT.nil
            go_simp
            refine (aKeyM it.q it.A it.l.length it.c p it.apos _ _ it.l _ w0 w3.drew HO3.out.drew ((((HPX.out.right ((st.eraseIdx x).map It.fr)).right Fi).cons _).cons _) rfl ⟨rfl, rfl⟩).mono ?_
            rintro e w4 ⟨rfl, hO4⟩
            rw [← HTO.out] at hO4
            rw [HKV.out]
            have hO5 := hO4.perm (L' := mFr mp (some ⟨ig, io, none⟩) KN ic kg (x0 : Int) 3 :: fw kg 25 (st.map It.kv) :: ((it.to p).fr :: (Fi ++ ((st.eraseIdx x).map It.fr ++ RX)))) (perm_of fun _ _ z => by simp only [List.count_append, List.count_cons, List.cons_append, List.count_nil, List.nil_append, List.append_nil]; omega)
            have e3 : w4.cell? ⟨mp, 3, none⟩ = some (.slice (some ⟨kg, 0, none⟩) KN KN) := (mFr_cells hO5).c3
            have ek : ∃ y, w4.cell? ⟨kg, x, none⟩ = some y := ⟨_, key_cell hO5 HSX.out⟩
            obtain ⟨yv, ek⟩ := ek
            have ef : w4.frozen? ⟨kg, x, none⟩ = false := keys_frozen hO5
            have hO6 := keys_set hO5 hxs (.slice r.ka r.k.length r.kc)
            have e3' : (w4.setCell ⟨kg, x, none⟩ (.slice r.ka r.k.length r.kc)).cell? ⟨mp, 3, none⟩ = some (.slice (some ⟨kg, 0, none⟩) KN KN) := (mFr_cells hO6).c3
            have HO6 := hid hO6
            clear hO4 hO5 hO6 HO3 HKV
            try go_wp2_with fail
            refine hK.out _ _ ?_ (fun hHeld => ?_)
            · exact e3
            clear hK
            try simp only [Act.put, List.setIfInBounds_toArray, List.set_cons_zero, List.set_cons_succ]
            refine AnyT.ready (rs := [7]) (by kernel_rfl) (by simp) ?_
            refine AllT.cons (by simp only [List.getElem?_toArray, List.getElem?_cons_succ, List.getElem?_cons_zero]; rfl) (fun K hK => ?_) AllT.nil
            go_simp
            refine (mAssert r.ka _ _ _ hnn).mono ?_
            rintro e w5 ⟨rfl, rfl⟩
            try go_wp2_with fail
            refine hK.out _ _ ?_ (fun hHeld => ?_)
            · exact e3
            clear hK
            try simp only [Act.put, List.setIfInBounds_toArray, List.set_cons_zero, List.set_cons_succ]
            refine AnyT.take (i := 8) (v := ?_) (by simp only [List.getElem?_toArray, List.getElem?_cons_succ, List.getElem?_cons_zero]; rfl) (by kernel_rfl) (by kernel_rfl) (by kernel_rfl) (by kernel_rfl) (by intro _ _ _ h; exact h) (Or.inl ⟨by rfl, fun w hSw => ?_⟩) hHeld ?_
            rotate_left
            · ((try dsimp only at hSw); go_simp; first | done | with_reducible rfl | rfl)
            try simp only [Act.put, List.setIfInBounds_toArray, List.set_cons_zero, List.set_cons_succ]
            refine AnyT.ready (rs := [9]) (by kernel_rfl) (by simp) ?_
            refine AllT.cons (by simp only [List.getElem?_toArray, List.getElem?_cons_succ, List.getElem?_cons_zero]; rfl) (fun K hK => ?_) AllT.nil
            go_simp
            refine hK.out _ _ ?_ (fun hHeld => ?_)
            · exact e3'
            clear hK
            try simp only [Act.put, List.setIfInBounds_toArray, List.set_cons_zero, List.set_cons_succ]
            refine AnyT.done (by kernel_rfl) ?_ _
            clear hHeld e3 ek ef e3' d3
            go_wp2_with fail
            go_roundw
            case rel =>
              refine ⟨x + 1, st.set x (it.to p), by go_num, by omega, HBN, hid ?_⟩
              rw [List.map_set, HTK.out]
              exact HO6.out.perm ((((its_in HSX.out (it.to p)).append_right RX |>.append_left Fi |>.cons _ |>.cons _).symm.trans (perm_of fun _ _ z => by simp only [List.count_append, List.count_cons, List.cons_append, List.count_nil, List.nil_append, List.append_nil]; omega)).symm)
            case measure => simp [intOf]; omega
          | false =>
            have htf : (it.to p).fr = (it.mv p).fr := by unfold It.to It.mv It.fr; simp only [hb]; rfl
            have htk : (it.to p).kv = .slice none 0 0 := aKey_not hb
            have d4 : w3.cell? ⟨it.q, 4, none⟩ = some .nilIface := (aFr_cells hO3).c4
            rw [← htf] at hO3
            have hO5 := hO3.perm (L' := mFr mp (some ⟨ig, io, none⟩) KN ic kg (x0 : Int) 3 :: fw kg 25 (st.map It.kv) :: ((it.to p).fr :: (Fi ++ ((st.eraseIdx x).map It.fr ++ RX)))) (perm_of fun _ _ z => by simp only [List.count_append, List.count_cons, List.cons_append, List.count_nil, List.nil_append, List.append_nil]; omega)
            have e3 : w3.cell? ⟨mp, 3, none⟩ = some (.slice (some ⟨kg, 0, none⟩) KN KN) := (mFr_cells hO5).c3
            obtain ⟨yv, ek⟩ : ∃ y, w3.cell? ⟨kg, x, none⟩ = some y := ⟨_, key_cell hO5 HSX.out⟩
            have ef : w3.frozen? ⟨kg, x, none⟩ = false := keys_frozen hO5
            have HO6 := hid (keys_set hO5 hxs (.slice none 0 0))
            have HTK := hid htk
            clear hO3 hO5 htf htk
            go_wp2_with fail
            refine (mIterErr mp it.q _ d4).mono ?_
            rintro e w4 ⟨rfl, rfl⟩
            go_wp2_with fail
            go_roundw
            case rel =>
              refine ⟨x + 1, st.set x (it.to p), by go_num, by omega, HBN, hid ?_⟩
              rw [List.map_set, HTK.out]
              exact HO6.out.perm ((((its_in HSX.out (it.to p)).append_right RX |>.append_left Fi |>.cons _ |>.cons _).symm.trans (perm_of fun _ _ z => by simp only [List.count_append, List.count_cons, List.cons_append, List.count_nil, List.nil_append, List.append_nil]; omega)).symm)
            case measure => simp [intOf]; omega
        | false =>
          have hs1 := wval_not.1 hb1
          go_wp2_with fail
          refine (aLast it.q it.A it.l.length it.c (sk : Int) it.apos (aKey it.l it.apos) (aVal it.l it.apos) _ w0 _ HO3.out hlx).mono ?_
          rintro e w3 ⟨rfl, hO3⟩
          have hpe : (if it.l.length = 0 then (0 : Int) else (it.l.length : Int) - 1) = p := by
            rw [← HP.out]
            unfold posBack
            rw [HSK.out]
            have : (sk : Int) = (it.l.length : Int) := by omega
            rw [this]
          have hO3 : Own ((it.mv p).fr :: (mFr mp (some ⟨ig, io, none⟩) KN ic kg (x0 : Int) 3 :: fw kg 25 (st.map It.kv) :: (Fi ++ ((st.eraseIdx x).map It.fr ++ RX)))) w0 w3 := by rw [← hpe]; exact hO3
          have hbq : decide (0 < it.l.length) = wval it.l.length p := by
            rw [← hpe]
            by_cases h0 : it.l.length = 0
            · rw [if_pos h0, h0]; rfl
            · rw [if_neg h0, decide_eq_true (by omega), wval_iff.2 ⟨by omega, by omega⟩]
          rw [hbq]
          clear hbq hpe
          cases hb : wval it.l.length p with
          | true =>
            obtain ⟨r, hr, hrm, hkv⟩ := aKey_valid hb
            have hps := hO3.st HPX.out (fun y hy => by simp [hy])
            have hnn := bs_some (hps.ok r hrm).hk (HNE.out r hrm)
            have hO3m := hO3.perm (L' := mFr mp (some ⟨ig, io, none⟩) KN ic kg (x0 : Int) 3 :: ((it.mv p).fr :: fw kg 25 (st.map It.kv) :: (Fi ++ ((st.eraseIdx x).map It.fr ++ RX)))) (perm_of fun _ _ z => by simp only [List.count_append, List.count_cons, List.cons_append, List.count_nil, List.nil_append, List.append_nil]; omega)
            have d3 : w3.cell? ⟨mp, 3, none⟩ = some (.slice (some ⟨kg, 0, none⟩) KN KN) := (mFr_cells hO3m).c3
            have hto : (it.to p).fr = aFr it.q (arrV it.A it.l.length it.c) p p (aKey it.l p) (aVal it.l p) := by unfold It.to It.fr; simp only [hb, if_true]
            have htk : (it.to p).kv = .slice r.ka r.k.length r.kc := hkv
            have HTO := hid hto
            have HTK := hid htk
            have HKV := hid hkv
            have HO3 := hid hO3
            clear hps hr hrm hO3m hO3 hto htk hkv
            go_wp2_with fail
            refine AnyT.start (S := fun w' => w'.cell? ⟨mp, 3, none⟩ = some (.slice (some ⟨kg, 0, none⟩) KN KN)) (T := []) (by kernel_rfl) (d3) (fun hHeld => ?_)
            refine AnyT.take (i := 0) (v := ?_) (by simp only [List.getElem?_toArray, List.getElem?_cons_succ, List.getElem?_cons_zero]; rfl) (by kernel_rfl) (by kernel_rfl) (by kernel_rfl) (by kernel_rfl) (by intro _ _ _ h; exact h) (Or.inl ⟨by rfl, fun w hSw => ?_⟩) hHeld ?_
            rotate_left
            · ((try dsimp only at hSw); go_simp; first | done | with_reducible rfl | rfl)
            try simp only [Act.put, List.setIfInBounds_toArray, List.set_cons_zero, List.set_cons_succ]
            refine AnyT.take (i := 1) (v := ?_) (by simp only [List.getElem?_toArray, List.getElem?_cons_succ, List.getElem?_cons_zero]; rfl) (by kernel_rfl) (by kernel_rfl) (by kernel_rfl) (by kernel_rfl) (by intro _ _ _ h; exact h) (Or.inl ⟨by rfl, fun w hSw => ?_⟩) hHeld ?_
            rotate_left
            · ((try dsimp only at hSw); go_simp; first | done | with_reducible rfl | rfl)
            try simp only [Act.put, List.setIfInBounds_toArray, List.set_cons_zero, List.set_cons_succ]
            refine AnyT.take (i := 2) (v := ?_) (by simp only [List.getElem?_toArray, List.getElem?_cons_succ, List.getElem?_cons_zero]; rfl) (by kernel_rfl) (by kernel_rfl) (by kernel_rfl) (by kernel_rfl) (by intro _ _ _ h; exact h) (Or.inl ⟨by rfl, fun w hSw => ?_⟩) hHeld ?_
            rotate_left
            · ((try dsimp only at hSw); go_simp; first | done | with_reducible rfl | rfl)
            try simp only [Act.put, List.setIfInBounds_toArray, List.set_cons_zero, List.set_cons_succ]
            refine AnyT.take (i := 3) (v := ?_) (by simp only [List.getElem?_toArray, List.getElem?_cons_succ, List.getElem?_cons_zero]; rfl) (by kernel_rfl) (by kernel_rfl) (by kernel_rfl) (by kernel_rfl) (by intro _ _ _ h; exact h) (Or.inl ⟨by rfl, fun w hSw => ?_⟩) hHeld ?_
            rotate_left
            · ((try dsimp only at hSw); go_simp; first | done | with_reducible rfl | rfl)
            try simp only [Act.put, List.setIfInBounds_toArray, List.set_cons_zero, List.set_cons_succ]
            refine AnyT.take (i := 4) (v := ?_) (by simp only [List.getElem?_toArray, List.getElem?_cons_succ, List.getElem?_cons_zero]; rfl) (by kernel_rfl) (by kernel_rfl) (by kernel_rfl) (by kernel_rfl) (by intro _ _ _ h; exact h) (Or.inl ⟨by rfl, fun w hSw => ?_⟩) hHeld ?_
            rotate_left
            · ((try dsimp only at hSw); go_simp; first | done | with_reducible rfl | rfl)
            try simp only [Act.put, List.setIfInBounds_toArray, List.set_cons_zero, List.set_cons_succ]
            refine AnyT.take (i := 5) (v := ?_) (by simp only [List.getElem?_toArray, List.getElem?_cons_succ, List.getElem?_cons_zero]; rfl) (by kernel_rfl) (by kernel_rfl) (by kernel_rfl) (by kernel_rfl) (by intro _ _ _ h; exact h) (Or.inl ⟨by rfl, fun w hSw => ?_⟩) hHeld ?_
            rotate_left
            · ((try dsimp only at hSw); go_simp; first | done | with_reducible rfl | rfl)
            try simp only [Act.put, List.setIfInBounds_toArray, List.set_cons_zero, List.set_cons_succ]
            refine AnyT.ready (rs := [6]) (by kernel_rfl) (by simp) ?_
            refine AllT.cons (by simp only [List.getElem?_toArray, List.getElem?_cons_succ, List.getElem?_cons_zero]; rfl) (fun K hK => ?_) AllT.nil
            go_simp
            refine (aKeyM it.q it.A it.l.length it.c p it.apos _ _ it.l _ w0 w3.drew HO3.out.drew ((((HPX.out.right ((st.eraseIdx x).map It.fr)).right Fi).cons _).cons _) rfl ⟨rfl, rfl⟩).mono ?_
            rintro e w4 ⟨rfl, hO4⟩
            rw [← HTO.out] at hO4
            rw [HKV.out]
            have hO5 := hO4.perm (L' := mFr mp (some ⟨ig, io, none⟩) KN ic kg (x0 : Int) 3 :: fw kg 25 (st.map It.kv) :: ((it.to p).fr :: (Fi ++ ((st.eraseIdx x).map It.fr ++ RX)))) (perm_of fun _ _ z => by simp only [List.count_append, List.count_cons, List.cons_append, List.count_nil, List.nil_append, List.append_nil]; omega)
            have e3 : w4.cell? ⟨mp, 3, none⟩ = some (.slice (some ⟨kg, 0, none⟩) KN KN) := (mFr_cells hO5).c3
            have ek : ∃ y, w4.cell? ⟨kg, x, none⟩ = some y := ⟨_, key_cell hO5 HSX.out⟩
            obtain ⟨yv, ek⟩ := ek
            have ef : w4.frozen? ⟨kg, x, none⟩ = false := keys_frozen hO5
            have hO6 := keys_set hO5 hxs (.slice r.ka r.k.length r.kc)
            have e3' : (w4.setCell ⟨kg, x, none⟩ (.slice r.ka r.k.length r.kc)).cell? ⟨mp, 3, none⟩ = some (.slice (some ⟨kg, 0, none⟩) KN KN) := (mFr_cells hO6).c3
            have HO6 := hid hO6
            clear hO4 hO5 hO6 HO3 HKV
            try go_wp2_with fail
            refine hK.out _ _ ?_ (fun hHeld => ?_)
            · exact e3
            clear hK
            try simp only [Act.put, List.setIfInBounds_toArray, List.set_cons_zero, List.set_cons_succ]
            refine AnyT.ready (rs := [7]) (by kernel_rfl) (by simp) ?_
            refine AllT.cons (by simp only [List.getElem?_toArray, List.getElem?_cons_succ, List.getElem?_cons_zero]; rfl) (fun K hK => ?_) AllT.nil
            go_simp
            refine (mAssert r.ka _ _ _ hnn).mono ?_
            rintro e w5 ⟨rfl, rfl⟩
            try go_wp2_with fail
            refine hK.out _ _ ?_ (fun hHeld => ?_)
            · exact e3
            clear hK
            try simp only [Act.put, List.setIfInBounds_toArray, List.set_cons_zero, List.set_cons_succ]
            refine AnyT.take (i := 8) (v := ?_) (by simp only [List.getElem?_toArray, List.getElem?_cons_succ, List.getElem?_cons_zero]; rfl) (by kernel_rfl) (by kernel_rfl) (by kernel_rfl) (by kernel_rfl) (by intro _ _ _ h; exact h) (Or.inl ⟨by rfl, fun w hSw => ?_⟩) hHeld ?_
            rotate_left
            · ((try dsimp only at hSw); go_simp; first | done | with_reducible rfl | rfl)
            try simp only [Act.put, List.setIfInBounds_toArray, List.set_cons_zero, List.set_cons_succ]
            refine AnyT.ready (rs := [9]) (by kernel_rfl) (by simp) ?_
            refine AllT.cons (by simp only [List.getElem?_toArray, List.getElem?_cons_succ, List.getElem?_cons_zero]; rfl) (fun K hK => ?_) AllT.nil
            go_simp
            refine hK.out _ _ ?_ (fun hHeld => ?_)
            · exact e3'
            clear hK
            try simp only [Act.put, List.setIfInBounds_toArray, List.set_cons_zero, List.set_cons_succ]
            refine AnyT.done (by kernel_rfl) ?_ _
            clear hHeld e3 ek ef e3' d3
            go_wp2_with fail
            go_roundw
            case rel =>
              refine ⟨x + 1, st.set x (it.to p), by go_num, by omega, HBN, hid ?_⟩
              rw [List.map_set, HTK.out]
              exact HO6.out.perm ((((its_in HSX.out (it.to p)).append_right RX |>.append_left Fi |>.cons _ |>.cons _).symm.trans (perm_of fun _ _ z => by simp only [List.count_append, List.count_cons, List.cons_append, List.count_nil, List.nil_append, List.append_nil]; omega)).symm)
            case measure => simp [intOf]; omega
          | false =>
            have htf : (it.to p).fr = (it.mv p).fr := by unfold It.to It.mv It.fr; simp only [hb]; rfl
            have htk : (it.to p).kv = .slice none 0 0 := aKey_not hb
            have d4 : w3.cell? ⟨it.q, 4, none⟩ = some .nilIface := (aFr_cells hO3).c4
            rw [← htf] at hO3
            have hO5 := hO3.perm (L' := mFr mp (some ⟨ig, io, none⟩) KN ic kg (x0 : Int) 3 :: fw kg 25 (st.map It.kv) :: ((it.to p).fr :: (Fi ++ ((st.eraseIdx x).map It.fr ++ RX)))) (perm_of fun _ _ z => by simp only [List.count_append, List.count_cons, List.cons_append, List.count_nil, List.nil_append, List.append_nil]; omega)
            have e3 : w3.cell? ⟨mp, 3, none⟩ = some (.slice (some ⟨kg, 0, none⟩) KN KN) := (mFr_cells hO5).c3
            obtain ⟨yv, ek⟩ : ∃ y, w3.cell? ⟨kg, x, none⟩ = some y := ⟨_, key_cell hO5 HSX.out⟩
            have ef : w3.frozen? ⟨kg, x, none⟩ = false := keys_frozen hO5
            have HO6 := hid (keys_set hO5 hxs (.slice none 0 0))
            have HTK := hid htk
            clear hO3 hO5 htf htk
            go_wp2_with fail
            refine (mIterErr mp it.q _ d4).mono ?_
            rintro e w4 ⟨rfl, rfl⟩
            go_wp2_with fail
            go_roundw
            case rel =>
              refine ⟨x + 1, st.set x (it.to p), by go_num, by omega, HBN, hid ?_⟩
              rw [List.map_set, HTK.out]
              exact HO6.out.perm ((((its_in HSX.out (it.to p)).append_right RX |>.append_left Fi |>.cons _ |>.cons _).symm.trans (perm_of fun _ _ z => by simp only [List.count_append, List.count_cons, List.cons_append, List.count_nil, List.nil_append, List.append_nil]; omega)).symm)
            case measure => simp [intOf]; omega
    · have h4' : ¬ (x : Int) < (KN : Int) := by omega
      obtain rfl : KN = x := by omega
      have HSX := hid (HB.out.own HSX0.out)
      have hxs : x0 < st.length := by rw [HSL.out]; exact hxs0
      obtain ⟨ig, io, rfl, k0⟩ := hics x0 (by simpa using hxs0)
      rw [List.getElem?_map, HSX0.out] at k0
      have k1 : w2.cell? ⟨ig, io + x0, none⟩ = some (.iface 187 (.pointer (some ⟨it0.q, 0, none⟩))) := k0
      have hO1 := HO.out.perm (L' := it0.fr :: (mFr mp (some ⟨ig, io, none⟩) KN ic kg (x0 : Int) 3 :: fw kg 25 (st.map It.kv) :: (Fi ++ ((st.eraseIdx x0).map It.fr ++ RX)))) (((its_out HSX.out).append_right RX |>.append_left Fi |>.cons _ |>.cons _).trans (perm_of fun _ _ z => by simp only [List.count_append, List.count_cons, List.cons_append, List.count_nil, List.nil_append, List.append_nil]; omega))
      have HO1 := hid hO1
      have hd1 := HDX0.out.imp fun w hm => hm it0 (List.mem_of_getElem? HSX0.out)
      have HNE := hid ((hO1.st hd1 (fun y hy => by simp [hy])).2)
      have HPX := hid (hd1.imp fun w hm => hm.1)
      have HDX := hid (HDX0.out.imp fun w hm => HB.out.data hm)
      have HK' := hid (show KN = st.length by rw [HSL.out]; exact HK.out)
      have HBL := HB
      clear k0 hics hd1 hO1
      go_wp2_with fail
      refine (aPrev it0.q it0.A it0.l.length it0.c it0.pos it0.apos (aKey it0.l it0.apos) (aVal it0.l it0.apos) _ w0 _ HO1.out hlx0 HPL.out).mono ?_
      rintro e w3 ⟨rfl, hO3⟩
      have hO3 : Own ((it0.mv p0).fr :: (mFr mp (some ⟨ig, io, none⟩) KN ic kg (x0 : Int) 3 :: fw kg 25 (st.map It.kv) :: (Fi ++ ((st.eraseIdx x0).map It.fr ++ RX)))) w0 w3 := by rw [← HP0.out]; exact hO3
      have hbq : decide (0 ≤ it0.pos - 1) = wval it0.l.length p0 := by
        rw [← HP0.out]
        obtain ⟨h1, h2⟩ := HPL.out
        by_cases h3 : 0 ≤ it0.pos - 1
        · rw [decide_eq_true h3, wval_iff.2 ⟨by omega, by omega⟩]
        · rw [decide_eq_false h3, wval_not.2 (.inl (by omega))]
      rw [hbq]
      clear hbq k1 c0 c1 c2 c3 c4 c5 c6 f4 f5
      cases hb : wval it0.l.length p0 with
      | true =>
        obtain ⟨r, hr, hrm, hkv⟩ := aKey_valid hb
        have hps := hO3.st HPX.out (fun y hy => by simp [hy])
        have hnn := bs_some (hps.ok r hrm).hk (HNE.out r hrm)
        have hO3m := hO3.perm (L' := mFr mp (some ⟨ig, io, none⟩) KN ic kg (x0 : Int) 3 :: ((it0.mv p0).fr :: fw kg 25 (st.map It.kv) :: (Fi ++ ((st.eraseIdx x0).map It.fr ++ RX)))) (perm_of fun _ _ z => by simp only [List.count_append, List.count_cons, List.cons_append, List.count_nil, List.nil_append, List.append_nil]; omega)
        have d3 : w3.cell? ⟨mp, 3, none⟩ = some (.slice (some ⟨kg, 0, none⟩) KN KN) := (mFr_cells hO3m).c3
        have hto : (it0.to p0).fr = aFr it0.q (arrV it0.A it0.l.length it0.c) p0 p0 (aKey it0.l p0) (aVal it0.l p0) := by unfold It.to It.fr; simp only [hb, if_true]
        have htk : (it0.to p0).kv = .slice r.ka r.k.length r.kc := hkv
        have HTO := hid hto
        have HTK := hid htk
        have HKV := hid hkv
        have HO3 := hid hO3
        clear hps hr hrm hO3m hO3 hto htk hkv
        go_wp2_with fail
        refine AnyT.start (S := fun w' => w'.cell? ⟨mp, 3, none⟩ = some (.slice (some ⟨kg, 0, none⟩) KN KN)) (T := []) (by kernel_rfl) (d3) (fun hHeld => ?_)
        refine AnyT.take (i := 0) (v := ?_) (by simp only [List.getElem?_toArray, List.getElem?_cons_succ, List.getElem?_cons_zero]; rfl) (by kernel_rfl) (by kernel_rfl) (by kernel_rfl) (by kernel_rfl) (by intro _ _ _ h; exact h) (Or.inl ⟨by rfl, fun w hSw => ?_⟩) hHeld ?_
        rotate_left
        · ((try dsimp only at hSw); go_simp; first | done | with_reducible rfl | rfl)
        try simp only [Act.put, List.setIfInBounds_toArray, List.set_cons_zero, List.set_cons_succ]
        refine AnyT.take (i := 1) (v := ?_) (by simp only [List.getElem?_toArray, List.getElem?_cons_succ, List.getElem?_cons_zero]; rfl) (by kernel_rfl) (by kernel_rfl) (by kernel_rfl) (by kernel_rfl) (by intro _ _ _ h; exact h) (Or.inl ⟨by rfl, fun w hSw => ?_⟩) hHeld ?_
        rotate_left
        · ((try dsimp only at hSw); go_simp; first | done | with_reducible rfl | rfl)
        try simp only [Act.put, List.setIfInBounds_toArray, List.set_cons_zero, List.set_cons_succ]
        refine AnyT.take (i := 2) (v := ?_) (by simp only [List.getElem?_toArray, List.getElem?_cons_succ, List.getElem?_cons_zero]; rfl) (by kernel_rfl) (by kernel_rfl) (by kernel_rfl) (by kernel_rfl) (by intro _ _ _ h; exact h) (Or.inl ⟨by rfl, fun w hSw => ?_⟩) hHeld ?_
        rotate_left
        · ((try dsimp only at hSw); go_simp; first | done | with_reducible rfl | rfl)
        try simp only [Act.put, List.setIfInBounds_toArray, List.set_cons_zero, List.set_cons_succ]
        refine AnyT.take (i := 3) (v := ?_) (by simp only [List.getElem?_toArray, List.getElem?_cons_succ, List.getElem?_cons_zero]; rfl) (by kernel_rfl) (by kernel_rfl) (by kernel_rfl) (by kernel_rfl) (by intro _ _ _ h; exact h) (Or.inl ⟨by rfl, fun w hSw => ?_⟩) hHeld ?_
        rotate_left
        · ((try dsimp only at hSw); go_simp; first | done | with_reducible rfl | rfl)
        try simp only [Act.put, List.setIfInBounds_toArray, List.set_cons_zero, List.set_cons_succ]
        refine AnyT.take (i := 4) (v := ?_) (by simp only [List.getElem?_toArray, List.getElem?_cons_succ, List.getElem?_cons_zero]; rfl) (by kernel_rfl) (by kernel_rfl) (by kernel_rfl) (by kernel_rfl) (by intro _ _ _ h; exact h) (Or.inl ⟨by rfl, fun w hSw => ?_⟩) hHeld ?_
        rotate_left
        · ((try dsimp only at hSw); go_simp; first | done | with_reducible rfl | rfl)
        try simp only [Act.put, List.setIfInBounds_toArray, List.set_cons_zero, List.set_cons_succ]
        refine AnyT.take (i := 5) (v := ?_) (by simp only [List.getElem?_toArray, List.getElem?_cons_succ, List.getElem?_cons_zero]; rfl) (by kernel_rfl) (by kernel_rfl) (by kernel_rfl) (by kernel_rfl) (by intro _ _ _ h; exact h) (Or.inl ⟨by rfl, fun w hSw => ?_⟩) hHeld ?_
        rotate_left
        · ((try dsimp only at hSw); go_simp; first | done | with_reducible rfl | rfl)
        try simp only [Act.put, List.setIfInBounds_toArray, List.set_cons_zero, List.set_cons_succ]
        refine AnyT.ready (rs := [6]) (by kernel_rfl) (by simp) ?_
        refine AllT.cons (by simp only [List.getElem?_toArray, List.getElem?_cons_succ, List.getElem?_cons_zero]; rfl) (fun K hK => ?_) AllT.nil
        go_simp
        refine (aKeyM it0.q it0.A it0.l.length it0.c p0 it0.apos _ _ it0.l _ w0 w3.drew HO3.out.drew ((((HPX.out.right ((st.eraseIdx x0).map It.fr)).right Fi).cons _).cons _) rfl ⟨rfl, rfl⟩).mono ?_
        rintro e w4 ⟨rfl, hO4⟩
        rw [← HTO.out] at hO4
        rw [HKV.out]
        have hO5 := hO4.perm (L' := mFr mp (some ⟨ig, io, none⟩) KN ic kg (x0 : Int) 3 :: fw kg 25 (st.map It.kv) :: ((it0.to p0).fr :: (Fi ++ ((st.eraseIdx x0).map It.fr ++ RX)))) (perm_of fun _ _ z => by simp only [List.count_append, List.count_cons, List.cons_append, List.count_nil, List.nil_append, List.append_nil]; omega)
        have e3 : w4.cell? ⟨mp, 3, none⟩ = some (.slice (some ⟨kg, 0, none⟩) KN KN) := (mFr_cells hO5).c3
        have ek : ∃ y, w4.cell? ⟨kg, x0, none⟩ = some y := ⟨_, key_cell hO5 HSX.out⟩
        obtain ⟨yv, ek⟩ := ek
        have ef : w4.frozen? ⟨kg, x0, none⟩ = false := keys_frozen hO5
        have hO6 := keys_set hO5 hxs (.slice r.ka r.k.length r.kc)
        have e3' : (w4.setCell ⟨kg, x0, none⟩ (.slice r.ka r.k.length r.kc)).cell? ⟨mp, 3, none⟩ = some (.slice (some ⟨kg, 0, none⟩) KN KN) := (mFr_cells hO6).c3
        have HO6 := hid hO6
        clear hO4 hO5 hO6 HO3 HKV
        try go_wp2_with fail
        refine hK.out _ _ ?_ (fun hHeld => ?_)
        · exact e3
        clear hK
        try simp only [Act.put, List.setIfInBounds_toArray, List.set_cons_zero, List.set_cons_succ]
        refine AnyT.ready (rs := [7]) (by kernel_rfl) (by simp) ?_
        refine AllT.cons (by simp only [List.getElem?_toArray, List.getElem?_cons_succ, List.getElem?_cons_zero]; rfl) (fun K hK => ?_) AllT.nil
        go_simp
        refine (mAssert r.ka _ _ _ hnn).mono ?_
        rintro e w5 ⟨rfl, rfl⟩
        try go_wp2_with fail
        refine hK.out _ _ ?_ (fun hHeld => ?_)
        · exact e3
        clear hK
        try simp only [Act.put, List.setIfInBounds_toArray, List.set_cons_zero, List.set_cons_succ]
        refine AnyT.take (i := 8) (v := ?_) (by simp only [List.getElem?_toArray, List.getElem?_cons_succ, List.getElem?_cons_zero]; rfl) (by kernel_rfl) (by kernel_rfl) (by kernel_rfl) (by kernel_rfl) (by intro _ _ _ h; exact h) (Or.inl ⟨by rfl, fun w hSw => ?_⟩) hHeld ?_
        rotate_left
        · ((try dsimp only at hSw); go_simp; first | done | with_reducible rfl | rfl)
        try simp only [Act.put, List.setIfInBounds_toArray, List.set_cons_zero, List.set_cons_succ]
        refine AnyT.ready (rs := [9]) (by kernel_rfl) (by simp) ?_
        refine AllT.cons (by simp only [List.getElem?_toArray, List.getElem?_cons_succ, List.getElem?_cons_zero]; rfl) (fun K hK => ?_) AllT.nil
        go_simp
        refine hK.out _ _ ?_ (fun hHeld => ?_)
        · exact e3'
        clear hK
        try simp only [Act.put, List.setIfInBounds_toArray, List.set_cons_zero, List.set_cons_succ]
        refine AnyT.done (by kernel_rfl) ?_ _
        clear hHeld e3 ek ef e3' d3
        go_wp2_with fail
        have HO7 := hid (show Own (mFr mp (some ⟨ig, io, none⟩) KN ic kg (x0 : Int) 3 :: fw kg 25 ((st.set x0 (it0.to p0)).map It.kv) :: (Fi ++ ((st.set x0 (it0.to p0)).map It.fr ++ RX))) w0 _ from by
          rw [List.map_set, HTK.out]
          exact HO6.out.perm ((((its_in HSX.out (it0.to p0)).append_right RX |>.append_left Fi |>.cons _ |>.cons _).symm.trans (perm_of fun _ _ z => by simp only [List.count_append, List.count_cons, List.cons_append, List.count_nil, List.nil_append, List.append_nil]; omega)).symm))
        generalize World.setCell _ _ _ = w7 at HO7 ⊢
        refine (mPrev mp (some ⟨ig, io, none⟩) KN ic kg (x0 : Int) 3 (st.set x0 (it0.to p0)) (Fi ++ ((st.set x0 (it0.to p0)).map It.fr ++ RX)) w0 _ HO7.out ?_ (by rw [List.length_set]; exact HK'.out) hKl (fun h => absurd h (by decide))).mono ?_
        · exact ((HDX.out.right _).right Fi).imp fun w hm => mdata_set HSX.out p0 hm
        rintro e w8 (⟨j, itj, r2, a1, a2, a3, rfl, hO8⟩ | ⟨a1, rfl, ix, hO8⟩)
        · have HA := hid (show _ ∧ _ ∧ _ ∧ _ from ⟨a1, a2, a3, hO8⟩)
          clear a1 a2 a3 hO8
          go_wp2_with fail
          go_ret
          refine ⟨st, HBL.out, ?_⟩
          rw [HRX.out] at HA
          exact MOutP.sub (R1 := Fi ++ ((st.set x0 (it0.to p0)).map It.fr ++ (F1 ++ R))) ((List.Sublist.refl Fi).append ((List.Sublist.refl _).append (List.sublist_append_right F1 R))) (.inl ⟨j, itj, r2, HA.out.1, HA.out.2.1, HA.out.2.2.1, rfl, HA.out.2.2.2⟩)
        · have HA := hid (show _ ∧ _ from ⟨a1, hO8⟩)
          clear a1 hO8
          go_wp2_with fail
          go_ret
          refine ⟨st, HBL.out, ?_⟩
          rw [HRX.out] at HA
          exact MOutP.sub (R1 := Fi ++ ((st.set x0 (it0.to p0)).map It.fr ++ (F1 ++ R))) ((List.Sublist.refl Fi).append ((List.Sublist.refl _).append (List.sublist_append_right F1 R))) (.inr ⟨HA.out.1, rfl, ix, HA.out.2⟩)
      | false =>
        have htf : (it0.to p0).fr = (it0.mv p0).fr := by unfold It.to It.mv It.fr; simp only [hb]; rfl
        have htk : (it0.to p0).kv = .slice none 0 0 := aKey_not hb
        have d4 : w3.cell? ⟨it0.q, 4, none⟩ = some .nilIface := (aFr_cells hO3).c4
        rw [← htf] at hO3
        have hO5 := hO3.perm (L' := mFr mp (some ⟨ig, io, none⟩) KN ic kg (x0 : Int) 3 :: fw kg 25 (st.map It.kv) :: ((it0.to p0).fr :: (Fi ++ ((st.eraseIdx x0).map It.fr ++ RX)))) (perm_of fun _ _ z => by simp only [List.count_append, List.count_cons, List.cons_append, List.count_nil, List.nil_append, List.append_nil]; omega)
        have e3 : w3.cell? ⟨mp, 3, none⟩ = some (.slice (some ⟨kg, 0, none⟩) KN KN) := (mFr_cells hO5).c3
        obtain ⟨yv, ek⟩ : ∃ y, w3.cell? ⟨kg, x0, none⟩ = some y := ⟨_, key_cell hO5 HSX.out⟩
        have ef : w3.frozen? ⟨kg, x0, none⟩ = false := keys_frozen hO5
        have HO6 := hid (keys_set hO5 hxs (.slice none 0 0))
        have HTK := hid htk
        clear hO3 hO5 htf htk
        go_wp2_with fail
        refine (mIterErr mp it0.q _ d4).mono ?_
        rintro e w4 ⟨rfl, rfl⟩
        go_wp2_with fail
        have HO7 := hid (show Own (mFr mp (some ⟨ig, io, none⟩) KN ic kg (x0 : Int) 3 :: fw kg 25 ((st.set x0 (it0.to p0)).map It.kv) :: (Fi ++ ((st.set x0 (it0.to p0)).map It.fr ++ RX))) w0 _ from by
          rw [List.map_set, HTK.out]
          exact HO6.out.perm ((((its_in HSX.out (it0.to p0)).append_right RX |>.append_left Fi |>.cons _ |>.cons _).symm.trans (perm_of fun _ _ z => by simp only [List.count_append, List.count_cons, List.cons_append, List.count_nil, List.nil_append, List.append_nil]; omega)).symm))
        generalize World.setCell _ _ _ = w7 at HO7 ⊢
        refine (mPrev mp (some ⟨ig, io, none⟩) KN ic kg (x0 : Int) 3 (st.set x0 (it0.to p0)) (Fi ++ ((st.set x0 (it0.to p0)).map It.fr ++ RX)) w0 _ HO7.out ?_ (by rw [List.length_set]; exact HK'.out) hKl (fun h => absurd h (by decide))).mono ?_
        · exact ((HDX.out.right _).right Fi).imp fun w hm => mdata_set HSX.out p0 hm
        rintro e w8 (⟨j, itj, r2, a1, a2, a3, rfl, hO8⟩ | ⟨a1, rfl, ix, hO8⟩)
        · have HA := hid (show _ ∧ _ ∧ _ ∧ _ from ⟨a1, a2, a3, hO8⟩)
          clear a1 a2 a3 hO8
          go_wp2_with fail
          go_ret
          refine ⟨st, HBL.out, ?_⟩
          rw [HRX.out] at HA
          exact MOutP.sub (R1 := Fi ++ ((st.set x0 (it0.to p0)).map It.fr ++ (F1 ++ R))) ((List.Sublist.refl Fi).append ((List.Sublist.refl _).append (List.sublist_append_right F1 R))) (.inl ⟨j, itj, r2, HA.out.1, HA.out.2.1, HA.out.2.2.1, rfl, HA.out.2.2.2⟩)
        · have HA := hid (show _ ∧ _ from ⟨a1, hO8⟩)
          clear a1 hO8
          go_wp2_with fail
          go_ret
          refine ⟨st, HBL.out, ?_⟩
          rw [HRX.out] at HA
          exact MOutP.sub (R1 := Fi ++ ((st.set x0 (it0.to p0)).map It.fr ++ (F1 ++ R))) ((List.Sublist.refl Fi).append ((List.Sublist.refl _).append (List.sublist_append_right F1 R))) (.inr ⟨HA.out.1, rfl, ix, HA.out.2⟩)
end Go.Proofs.YtloflmcgbbbnjaaDoor
