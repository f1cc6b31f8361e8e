/-
  spec.Map.Delete.
  laws.read: what a database must tell, it is held to.
-/
import Derived.Test.YtloflmcgbbbnjaaDoorMemM12
import Derived.Test.YtloflmcgbbbnjaaDoorMemM10
namespace Go.Proofs.YtloflmcgbbbnjaaDoor
open Go.RowKit Plain
set_option linter.all false

theorem csTake {w : World} {A : Option Addr} {cs : List Value} (h : CsAt w A cs) (k : Nat) : CsAt w A (cs.take k) := fun j hj => by
  rw [List.length_take] at hj
  obtain ⟨g, o, e, hc⟩ := h j (by omega)
  exact ⟨g, o, e, by rw [hc, List.getElem?_take, if_pos (by omega)]⟩
theorem csCut {w : World} {A : Option Addr} {cs : List Value} (h : CsAt w A cs) (c i : Nat) (hne : i * 2 < cs.length → c ≠ i) : CsAt w (if c = i then A else Option.map (fun x => x.add (i * 2)) A) (cs.drop (i * 2)) := fun j hj => by
  rw [List.length_drop] at hj
  obtain ⟨g, o, rfl, hc⟩ := h (i * 2 + j) (by omega)
  rw [if_neg (hne (by omega))]
  exact ⟨g, o + i * 2, by simp [add_none], by rw [show o + i * 2 + j = o + (i * 2 + j) by omega, hc, List.getElem?_drop]⟩
/-- A map that is read. -/
def PRet (l : List Pr) (w : World) (e : Ending) (w' : World) : Prop := ∃ A c n, e = .returned (.slice A n c) ∧ n = l.length ∧ n ≤ c ∧ Hid (Prs w' A l) ∧ Hid (Only [] w w')
set_option maxHeartbeats 3200000 in
set_option maxRecDepth 100000 in
theorem specDel (A kA : Option Addr) (c n kn kc : Nat) (m : List Pr) (key : List UInt8) (w : World) (hp : Prs w A m) (hk : BsAt w kA key) (hn : n = m.length) (hkn : kn = key.length) (hkl : kn ≤ 2147483647) (hml : ∀ r ∈ m, r.k.length ≤ 2147483647) (hnl : n ≤ 1073741824) (hnc : n ≤ c) :
    Calls Tryd.prog 33 #[.slice A n c, .slice kA kn kc] w (PRet (mDel Pr.k m key) w) := by
  have hma := mapAt A kA c kc m key w hp hk (by omega) (fun r hr => by have := hml r hr; omega) (by omega)
  rw [← hn, ← hkn] at hma
  have HMA := hid hma
  have HP := hid hp
  have HN := hid hn
  have hle := mAt_le Pr.k m key
  obtain ⟨i, hi⟩ : ∃ i, mAt Pr.k m key = i := ⟨_, rfl⟩
  rw [hi] at HMA hle
  have HI := hid hi
  cases hz : mIs Pr.k m key with
  | false =>
    rw [hz] at HMA
    have HZ := hid hz
    clear hma hp hk hn hkn hml hz hi
    go_enter Tryd.func33, Tryd.ntmps33
    go_wp2_with fail
    refine HMA.out.mono ?_
    rintro e w2 ⟨rfl, hd⟩
    have HD := hid hd
    clear hd
    go_wp2_with fail
    go_ret
    have e1 : mDel Pr.k m key = m := by unfold mDel; rw [HZ.out]; rfl
    rw [e1]
    exact ⟨A, c, n, rfl, HN.out, hnc, hid (HP.out.keep0 HD.out.only), hid HD.out.only⟩
  | true =>
    rw [hz] at HMA
    have hlt : i < n := by
      unfold mIs at hz
      rw [hi] at hz
      cases hx : m[i]? with
      | none => rw [hx] at hz; cases hz
      | some x => have := (List.getElem?_eq_some_iff.1 hx).1; omega
    have HZ := hid hz
    have s1 : IntKind.i64.wrap ((i : Int) + 1) = ((i + 1 : Nat) : Int) := wrap_add i 1 (by omega)
    obtain ⟨i1, hi1⟩ : ∃ i1, i + 1 = i1 := ⟨_, rfl⟩
    rw [hi1] at s1
    have g1 : (i : Int) ≤ (c : Int) := by omega
    have g2 : (i1 : Int) ≤ (n : Int) := by omega
    have HI1 := hid hi1
    have HLT := hid hlt
    clear hma hp hk hn hkn hml hz hi hi1
    go_enter Tryd.func33, Tryd.ntmps33
    go_wp2_with fail
    refine HMA.out.mono ?_
    rintro e w2 ⟨rfl, hd⟩
    have HD := hid hd
    clear hd
    go_wp2_with fail
    have hO0 := (Own.start w).only0 HD.out.only
    have hrow := (HP.out.keep0 HD.out.only).row
    have hfl := pr_flat_len m
    have HT1 := hid (csTake hrow (i * 2))
    have hne : i1 * 2 < (m.flatMap Pr.cells).length → c ≠ i1 := by rw [hfl]; have := HN.out; omega
    have HCT := hid (fun (w' : World) (ho : Only [] w w') => csCut (HP.out.keep0 ho).row c i1 hne)
    clear hne
    rw [← HN.out] at hfl
    have HFL := hid hfl
    have HO0 := hid hO0
    clear hO0 hrow hfl
    refine AnyT.start (S := fun w' => True) (T := []) (by kernel_rfl) (trivial) (fun hHeld => ?_)
    refine AnyT.take (i := 0) (v := ?_) (by simp only [List.getElem?_toArray, List.getElem?_cons_succ, List.getElem?_cons_zero]; rfl) (by kernel_rfl) (by kernel_rfl) (by kernel_rfl) (by kernel_rfl) (by intro _ _ _ h; exact h) (Or.inl ⟨by rfl, fun w hSw => ?_⟩) hHeld ?_
    rotate_left
    · ((try dsimp only at hSw); go_simp; first | done | with_reducible rfl | rfl)
    try simp only [Act.put, List.setIfInBounds_toArray, List.set_cons_zero, List.set_cons_succ]
    refine AnyT.take (i := 1) (v := ?_) (by simp only [List.getElem?_toArray, List.getElem?_cons_succ, List.getElem?_cons_zero]; rfl) (by kernel_rfl) (by kernel_rfl) (by kernel_rfl) (by kernel_rfl) (by intro _ _ _ h; exact h) (Or.inl ⟨by rfl, fun w hSw => ?_⟩) hHeld ?_
    rotate_left
    · ((try dsimp only at hSw); go_simp; first | done | with_reducible rfl | rfl)
    try simp only [Act.put, List.setIfInBounds_toArray, List.set_cons_zero, List.set_cons_succ]
    refine AnyT.take (i := 2) (v := ?_) (by simp only [List.getElem?_toArray, List.getElem?_cons_succ, List.getElem?_cons_zero]; rfl) (by kernel_rfl) (by kernel_rfl) (by kernel_rfl) (by kernel_rfl) (by intro _ _ _ h; exact h) (Or.inl ⟨by rfl, fun w hSw => ?_⟩) hHeld ?_
    rotate_left
    · ((try dsimp only at hSw); go_simp; first | done | with_reducible rfl | rfl)
    try simp only [Act.put, List.setIfInBounds_toArray, List.set_cons_zero, List.set_cons_succ]
    refine AnyT.take (i := 4) (v := ?_) (by simp only [List.getElem?_toArray, List.getElem?_cons_succ, List.getElem?_cons_zero]; rfl) (by kernel_rfl) (by kernel_rfl) (by kernel_rfl) (by kernel_rfl) (by intro _ _ _ h; exact h) (Or.inl ⟨by rfl, fun w hSw => ?_⟩) hHeld ?_
    rotate_left
    · ((try dsimp only at hSw); go_simp; first | done | with_reducible rfl | rfl)
    try simp only [Act.put, List.setIfInBounds_toArray, List.set_cons_zero, List.set_cons_succ]
    refine AnyT.take (i := 5) (v := ?_) (by simp only [List.getElem?_toArray, List.getElem?_cons_succ, List.getElem?_cons_zero]; rfl) (by kernel_rfl) (by kernel_rfl) (by kernel_rfl) (by kernel_rfl) (by intro _ _ _ h; exact h) (Or.inl ⟨by rfl, fun w hSw => ?_⟩) hHeld ?_
    rotate_left
    · ((try dsimp only at hSw); go_simp; first | done | with_reducible rfl | rfl)
    try simp only [Act.put, List.setIfInBounds_toArray, List.set_cons_zero, List.set_cons_succ]
    refine AnyT.take (i := 6) (v := ?_) (by simp only [List.getElem?_toArray, List.getElem?_cons_succ, List.getElem?_cons_zero]; rfl) (by kernel_rfl) (by kernel_rfl) (by kernel_rfl) (by kernel_rfl) (by intro _ _ _ h; exact h) (Or.inl ⟨by rfl, fun w hSw => ?_⟩) hHeld ?_
    rotate_left
    · ((try dsimp only at hSw); go_simp; first | done | with_reducible rfl | rfl)
    try simp only [Act.put, List.setIfInBounds_toArray, List.set_cons_zero, List.set_cons_succ]
    refine AnyT.take (i := 7) (v := ?_) (by simp only [List.getElem?_toArray, List.getElem?_cons_succ, List.getElem?_cons_zero]; rfl) (by kernel_rfl) (by kernel_rfl) (by kernel_rfl) (by kernel_rfl) (by intro _ _ _ h; exact h) (Or.inl ⟨by rfl, fun w hSw => ?_⟩) hHeld ?_
    rotate_left
    · ((try dsimp only at hSw); go_simp; first | done | with_reducible rfl | rfl)
    try simp only [Act.put, List.setIfInBounds_toArray, List.set_cons_zero, List.set_cons_succ]
    generalize (if c = i1 then A else Option.map (fun x => x.add (i1 * 2)) A) = A3 at HCT ⊢
    refine AnyT.ready (rs := [3]) (by kernel_rfl) (by simp) ?_
    refine AllT.cons (by simp only [List.getElem?_toArray, List.getElem?_cons_succ, List.getElem?_cons_zero]; rfl) (fun K hK => ?_) AllT.nil
    refine own_step_append rfl (.const (.slice none 0 0)) (.tmp 18) 34 rfl 38 (.agg #[.slice none 0 0, .slice none 0 0]) 2 48 Tryd.underlying34 Tryd.info_pair rfl (by decide) none 0 0 [] [] rfl (Row.nil _ _) (R := []) (HO0.out.drew) A i c ((m.flatMap Pr.cells).take (i * 2)) rfl (by rw [List.length_take, HFL.out]; omega) (HT1.out.drew) (fun u hu => pr_one u (List.mem_of_mem_take hu)) (by simp [maxLen]; omega) (by omega) ?_
    intro A4 c4 F4 w4 hr4 hO4 _
    have HR4 := hid hr4
    have HO4 := hid hO4
    have ho4 : Only [] w w4 := by have := hO4; rw [List.append_nil] at this; exact this.only
    have HC5 := hid (HCT.out w4 ho4)
    have HOW := hid ho4
    clear hr4 hO4 HO0 HT1 ho4
    refine hK.out _ _ ?_ (fun hHeld => ?_)
    · trivial
    clear hK
    try simp only [Act.put, List.setIfInBounds_toArray, List.set_cons_zero, List.set_cons_succ]
    refine AnyT.ready (rs := [8]) (by kernel_rfl) (by simp) ?_
    refine AllT.cons (by simp only [List.getElem?_toArray, List.getElem?_cons_succ, List.getElem?_cons_zero]; rfl) (fun K hK => ?_) AllT.nil
    refine own_step_append rfl (.tmp 19) (.tmp 23) 34 rfl 38 (.agg #[.slice none 0 0, .slice none 0 0]) 2 48 Tryd.underlying34 Tryd.info_pair rfl (by decide) A4 (0 + i) c4 _ F4 rfl HR4.out (R := []) HO4.out A3 (n - i1) (c - i1) ((m.flatMap Pr.cells).drop (i1 * 2)) rfl (by rw [List.length_drop, HFL.out]; omega) HC5.out (fun u hu => pr_one u (List.mem_of_mem_drop hu)) (by simp [maxLen]; omega) (by omega) ?_
    intro A5 c5 F5 w5 hr5 hO5 _
    have HR5 := hid hr5
    have HO5 := hid hO5
    clear hr5 hO5 HO4 HR4 HC5
    refine hK.out _ _ ?_ (fun hHeld => ?_)
    · trivial
    clear hK
    try simp only [Act.put, List.setIfInBounds_toArray, List.set_cons_zero, List.set_cons_succ]
    refine AnyT.take (i := 9) (v := ?_) (by simp only [List.getElem?_toArray, List.getElem?_cons_succ, List.getElem?_cons_zero]; rfl) (by kernel_rfl) (by kernel_rfl) (by kernel_rfl) (by kernel_rfl) (by intro _ _ _ h; exact h) (Or.inl ⟨by rfl, fun w hSw => ?_⟩) hHeld ?_
    rotate_left
    · ((try dsimp only at hSw); go_simp; first | done | with_reducible rfl | rfl)
    try simp only [Act.put, List.setIfInBounds_toArray, List.set_cons_zero, List.set_cons_succ]
    refine AnyT.done (by kernel_rfl) ?_ _
    clear hHeld
    go_wp2_with fail
    go_ret
    have hO6 := HO5.out
    rw [List.append_nil] at hO6
    have hd : mDel Pr.k m key = m.take i ++ m.drop i1 := by
      unfold mDel
      rw [HZ.out, if_pos rfl, HI.out, HI1.out]
    have hn := HN.out
    have hlt := HLT.out
    have hi1 := HI1.out
    rw [hd]
    refine ⟨A5, c5, i + (n - i1), rfl, by rw [List.length_append, List.length_take, List.length_drop]; omega, by have := HR5.out.le; omega, hid ⟨?_, fun r hr => ?_⟩, hid hO6.only⟩
    · have h7 := HR5.out.csO (by rw [List.append_nil]; exact hO6 : Own (F5 ++ []) w w5)
      rw [List.flatMap_append, pr_flat_take, pr_flat_drop]
      simpa using h7
    · have hm : r ∈ m := by
        rcases List.mem_append.1 hr with h | h
        · exact List.mem_of_mem_take h
        · exact List.mem_of_mem_drop h
      exact (HP.out.keep0 hO6.only).ok r hm
end Go.Proofs.YtloflmcgbbbnjaaDoor
namespace Go.Proofs.YtloflmcgbbbnjaaDoor
open Go.RowKit Plain
set_option linter.all false

/-- What a reading call is held to. -/
structure RdIn (a : MAn) (m : List Pr) (r : MO) (mA : Option Addr) (n mc ln vl kn vn : Nat) (w : World) : Prop where
  hm : Prs w mA m
  ha : a.Ok w
  hr : r.Ok w
  n1 : n = m.length
  n2 : ln = a.l.length
  n3 : vl = a.vs.length
  n4 : kn = r.k.length
  n5 : vn = r.v.length
  b1 : n ≤ 1000
  b2 : kn ≤ 2147483647
  b3 : vn ≤ 2147483647
  b4 : ∀ x ∈ m, x.k.length ≤ 2147483647
  t : TellsOk (kvs m) r.kind r.k r.v a.told
theorem kvs_get {m : List Pr} {i : Nat} {x : Pr} (h : m[i]? = some x) : (kvs m)[i]? = some (x.k, x.v) := by simp [kvs, h]
theorem mAt_kvs' (m : List Pr) (k : List UInt8) : mAt Prod.fst (kvs m) k = mAt Pr.k m k := by
  induction m with
  | nil => rfl
  | cons x m ih => 
    show mAt Prod.fst ((x.k, x.v) :: kvs m) k = _
    rw [mAt, mAt, ih]
theorem mIs_kvs' (m : List Pr) (k : List UInt8) : mIs Prod.fst (kvs m) k = mIs Pr.k m k := by
  unfold mIs
  rw [mAt_kvs']
  cases h : m[mAt Pr.k m k]? with
  | none => rw [show (kvs m)[mAt Pr.k m k]? = none by simp [kvs, h]]
  | some x => rw [kvs_get h]
theorem kvs_one {l : List Pr} {p : KV} (h : kvs l = [p]) : ∃ y, l = [y] ∧ y.k = p.1 ∧ y.v = p.2 := by
  cases l with
  | nil => simp [kvs] at h
  | cons y l =>
    simp [kvs] at h
    obtain ⟨h1, h2⟩ := h
    subst h2
    exact ⟨y, rfl, by rw [← h1], by rw [← h1]⟩
theorem at_any (A : Option Addr) (c n i : Nat) (m : List Pr) (w : World) (hp : Prs w A m) (hn : n = m.length) :
    Calls Tryd.prog 60 #[.slice A n c, .int .i64 i] w fun e w' => ∃ p0 p1, e = .returned (.agg #[p0, p1]) ∧ (∃ x y z, p0 = .slice x y z) ∧ (∃ x y z, p1 = .slice x y z) ∧ (∀ x, m[i]? = some x → p0 = .slice x.ka x.k.length x.kc ∧ p1 = .slice x.va x.v.length x.vc) ∧ Only [] w w' := by
  cases hx : m[i]? with
  | none =>
    refine (at_none A c n i w (by rw [hn]; exact List.getElem?_eq_none_iff.1 hx)).mono ?_
    rintro e w' ⟨rfl, ho⟩
    exact ⟨_, _, rfl, ⟨_, _, _, rfl⟩, ⟨_, _, _, rfl⟩, (fun x h => by cases h), ho⟩
  | some r =>
    refine (at_some A c n i m r w hp hn hx).mono ?_
    rintro e w' ⟨rfl, ho⟩
    exact ⟨_, _, rfl, ⟨_, _, _, rfl⟩, ⟨_, _, _, rfl⟩, (fun x h => by cases h; exact ⟨rfl, rfl⟩), ho⟩
end Go.Proofs.YtloflmcgbbbnjaaDoor
