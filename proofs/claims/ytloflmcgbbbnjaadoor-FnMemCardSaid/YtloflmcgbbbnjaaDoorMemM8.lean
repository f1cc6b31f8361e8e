/-
  memdb: findGE as a reader and as a writer of prevNode; findLT; findLast.
  memdb: the heights of new nodes.
  memdb.DB: the whole of what it is made of.
-/
import Derived.Test.YtloflmcgbbbnjaaDoorMemM7
import Derived.Test.YtloflmcgbbbnjaaDoorMemM1
import Derived.Test.YtloflmcgbbbnjaaDoorMemM5
namespace Go.Proofs.YtloflmcgbbbnjaaDoor
open Go.RowKit Plain
set_option linter.all false
theorem findGE_r (g : Nat) (A kA : Option Addr) (n1 c1 b n2 c2 mh kn kc : Nat) (kv : List UInt8) (nd : List Nat) (es : List En) (key : List UInt8) (w : World)
    (ok : DbOk kv nd mh es) (hr : DbR w g A n1 c1 b n2 c2 mh kv nd) (hk : BsAt w kA key) (hkn : kn = key.length) :
    Calls Tryd.prog 100 #[.pointer (some ⟨g, 0, none⟩), .slice kA kn kc, .bool false] w fun e w' => e = .returned (.tuple #[.int .i64 (nodeOf es (mAt En.k es key) : Nat), .bool (mIs En.k es key)]) ∧ Only [] w w' := by
  refine (findGE_any g A kA n1 c1 b n2 c2 mh kn kc kv nd es key false (fun _ w' => Only [] w w') w ok (fun h w' ho => ⟨hr.keep0 ho, hk.keep0 ho⟩) (fun h w' w'' ho ho' => ho.trans ho') (fun h => by cases h) (fun _ _ _ _ h => h) (Only.refl _ _) hkn).mono ?_
  rintro e w' ⟨h1, _, h2, _⟩
  exact ⟨h1, h2⟩
/-- Levels from h on are recorded. -/
def Rec (es : List En) (m mh h : Nat) (pv' : List Nat) : Prop := pv'.length = 12 ∧ ∀ i, h ≤ i → i < mh → pv'[i]? = some (pv i (front es m) 0)
theorem findGE_p (g x : Nat) (A kA : Option Addr) (n1 c1 b n2 c2 mh n sz kn kc : Nat) (pv0 : List Nat) (kv : List UInt8) (nd : List Nat) (es : List En) (key : List UInt8) (R : List Fr) (w0 w : World)
    (ok : DbOk kv nd mh es) (hp : pv0.length = 12) (hO : Own (dFr g x A n1 c1 b n2 c2 pv0 mh n sz :: R) w0 w) (hA : St R w0 fun w => BsAt w A kv) (hN : St R w0 fun w => NdAt w b nd n2) (hk : Rd R w0 kA key) (h1 : n1 = kv.length) (hle : n1 ≤ c1) (hfit : n1 ≤ 2147483647) (hkn : kn = key.length) :
    Calls Tryd.prog 100 #[.pointer (some ⟨g, 0, none⟩), .slice kA kn kc, .bool true] w fun e w' => e = .returned (.tuple #[.int .i64 (nodeOf es (mAt En.k es key) : Nat), .bool (mIs En.k es key)]) ∧ ∃ pv', Rec es (mAt En.k es key) mh 0 pv' ∧ Own (dFr g x A n1 c1 b n2 c2 pv' mh n sz :: R) w0 w' := by
  refine (findGE_any g A kA n1 c1 b n2 c2 mh kn kc kv nd es key true (fun h w' => ∃ pv', Rec es (mAt En.k es key) mh h pv' ∧ Own (dFr g x A n1 c1 b n2 c2 pv' mh n sz :: R) w0 w') w ok ?_ ?_ ?_ (fun h => by cases h) ⟨pv0, ⟨hp, fun i h2 h3 => absurd h2 (by omega)⟩, hO⟩ hkn).mono ?_
  · rintro h w' ⟨pv', ⟨hl, _⟩, hO'⟩
    have hc := dFr_cells hl hO'
    exact ⟨⟨hc.q0, hc.q2, hc.q3, hc.cm, hO'.st hA (fun _ hx => by simp [hx]), hO'.st hN (fun _ hx => by simp [hx]), h1, hle, hfit⟩, hO'.st hk (fun _ hx => by simp [hx])⟩
  · rintro h w' w'' ⟨pv', hr, hO'⟩ ho
    exact ⟨pv', hr, hO'.only0 ho⟩
  · rintro - h w' ⟨pv', ⟨hl, hr⟩, hO'⟩ hh
    have hm2 := ok.skip.m2
    have hh12 : h < 12 := by omega
    refine ⟨(dFr_cells hl hO').fz _, ⟨_, dFr_pvc hl hO' (i := h) (List.getElem?_eq_getElem (by omega))⟩, pv'.set h (pv h (front es (mAt En.k es key)) 0), ⟨by simp [hl], fun i h2 h3 => ?_⟩, dFr_pv hl hO' h _ hh12⟩
    by_cases hi : i = h
    · subst hi
      rw [List.getElem?_set_self (by omega)]
    · rw [List.getElem?_set_ne (by omega)]
      exact hr i (by omega) h3
  · rintro e w' ⟨h1, h, h2, h3⟩
    obtain rfl := h3 rfl
    exact ⟨h1, h2⟩
/-- The node ahead of a place. -/
def prevOf (es : List En) (m : Nat) : Nat := if m = 0 then 0 else nodeOf es (m - 1)
set_option maxHeartbeats 6400000 in
set_option maxRecDepth 100000 in
theorem findLast_any (g : Nat) (A : Option Addr) (n1 c1 b n2 c2 mh : Nat) (kv : List UInt8) (nd : List Nat) (es : List En) (w : World)
    (ok : DbOk kv nd mh es) (hr : DbR w g A n1 c1 b n2 c2 mh kv nd) :
    Calls Tryd.prog 238 #[.pointer (some ⟨g, 0, none⟩)] w fun e w' => e = .returned (.int .i64 (prevOf es es.length : Nat)) ∧ Only [] w w' := by
  have HOK := hid ok
  have HR := hid hr
  have m1 := ok.skip.m1
  have m2 := ok.skip.m2
  obtain ⟨N, hN⟩ : ∃ N, prevOf es es.length = N := ⟨_, rfl⟩
  obtain ⟨L, hL⟩ : ∃ L, es.length = L := ⟨_, rfl⟩
  rw [hN]
  rw [hL] at hN
  have HN := hid hN
  have HL := hid hL
  have cm := hr.cm
  have s0 : IntKind.i64.wrap ((mh : Int) - 1) = ((mh - 1 : Nat) : Int) := by rw [IntWalk.i64_in _ (by omega)]; omega
  obtain ⟨h0, hh0⟩ : ∃ h0, mh - 1 = h0 := ⟨_, rfl⟩
  rw [hh0] at s0
  have hlt : h0 < mh := by omega
  clear ok hr hN hL
  go_enter Tryd.func238, Tryd.ntmps238
  go_wp2_with fail
  go_loopw [3, 4] (fun s3 s4 wr => ∃ (P Q : List Nd) (x : Nd) (h xp : Nat), s3 = .int .i64 xp ∧ s4 = .int .i64 h ∧ h < mh ∧ Hid (x.p = xp ∧ front es L = P ++ x :: Q ∧ h < x.h) ∧ Hid (Only [] w wr)) (fun s3 s4 _ => (intOf s4).toNat * (L + 2) + (L + 1 - fIdx es L (intOf s3).toNat))
  case atStart =>
    refine ⟨[], (es.take L).map En.nd, hdN, h0, 0, rfl, rfl, hlt, hid ⟨rfl, rfl, ?_⟩, hid (Only.refl _ _)⟩
    show h0 < 12; omega
  case round =>
    obtain ⟨P, Q, x, h, xp, rfl, rfl, hh, HS, HO⟩ := hrel
    obtain ⟨w2, rfl⟩ : ∃ w2, w2 = wr := ⟨_, rfl⟩
    clear cm s0 hlt
    have hr := HR.out.keep0 HO.out
    obtain ⟨v, hv, hcase⟩ := HOK.out.step HS.out.2.1 HS.out.2.2
    rw [HS.out.1] at hv
    have q3 := hr.q3
    obtain ⟨cv, lv⟩ := hr.bn.cell _ _ hv
    have hf := hr.bn.fit
    have s1 : IntKind.i64.wrap ((xp : Int) + 4) = ((xp + 4 : Nat) : Int) := wrap_add xp 4 (by omega)
    have s2 : IntKind.i64.wrap (((xp + 4 : Nat) : Int) + (h : Int)) = ((xp + 4 + h : Nat) : Int) := wrap_add (xp + 4) h (by omega)
    obtain ⟨i1, hi1⟩ : ∃ i1, xp + 4 = i1 := ⟨_, rfl⟩
    rw [hi1] at s1 s2 cv lv
    obtain ⟨i2, hi2⟩ : ∃ i2, i1 + h = i2 := ⟨_, rfl⟩
    rw [hi2] at s2 cv lv
    have lv' : (i2 : Int) < (n2 : Int) := by omega
    clear hr hv hi1
    rcases hcase with ⟨hv0, e, he, hep, P', Q', hs, hhy, hpl⟩ | ⟨hst, hlast, hnx⟩
    · have d0 : decide (v = 0) = false := decide_eq_false hv0
      have hv0' : ¬ (v : Int) = 0 := by omega
      have d0' : decide ((v : Int) = 0) = false := decide_eq_false hv0'
      clear hi2
      have HSS := hid hs
      have HEP := hid hep
      clear hs he hep hv0
      go_wp2_with fail
      go_roundw
      case rel => exact ⟨P', Q', e.nd, h, v, rfl, rfl, hh, hid ⟨HEP.out, HSS.out, hhy⟩, HO⟩
      case measure =>
        have hM1 := HOK.out.fIdx HS.out.2.1
        have hM2 := HOK.out.fIdx HSS.out
        rw [HS.out.1] at hM1
        rw [HEP.out] at hM2
        have hM3 := front_len es L
        rw [HSS.out, List.length_append, List.length_cons, HL.out] at hM3
        have e1 : (intOf (.int .i64 (xp : Int))).toNat = xp := by simp [intOf]
        have e2 : (intOf (.int .i64 (v : Int))).toNat = v := by simp [intOf]
        rw [e1, e2, hM1, hM2]
        omega
    · have hv0 : v = 0 := by
        rcases hnx with h1 | ⟨_, i, e, h1, _⟩
        · exact h1
        · have := (List.getElem?_eq_some_iff.1 h1).1
          have := HL.out
          omega
      have HLAST := hid hlast
      clear hst hlast hnx
      subst hv0
      by_cases hz : h = 0
      · have HQ := hid (HLAST.out hz).2
        subst hz
        obtain rfl : i1 = i2 := by omega
        have s3 : IntKind.i64.wrap (i1 : Int) = (i1 : Int) := IntWalk.i64_in _ (by omega)
        have s4 : RowKit.wrap64 (i1 : Int) = (i1 : Int) := by rw [← IntWalk.i64_left]; exact s3
        clear HLAST s2 hi2
        go_wp2_with fail
        go_ret
        refine ⟨?_, HO.out⟩
        have hs := HS.out.2.1
        rw [HQ.out] at hs
        have h1 := front_end hs (by rw [HL.out]; exact Nat.le_refl _)
        rw [HS.out.1] at h1
        rw [← HN.out]
        unfold prevOf
        rw [← h1]
        try rfl
      · obtain ⟨h', hh'⟩ : ∃ h', h = h' + 1 := ⟨h - 1, by omega⟩
        have hsf : IntKind.i64.wrap ((h : Int) - 1) = (h' : Int) := by rw [IntWalk.i64_in _ (by omega)]; omega
        have hz' : ¬ (h : Int) = 0 := by omega
        have dz : decide ((h : Int) = 0) = false := decide_eq_false hz'
        have dz' : decide (h = 0) = false := decide_eq_false hz
        have HH' := hid hh'
        clear hh' HLAST hi2
        go_wp2_with fail
        go_roundw
        case rel =>
          have h5 := HS.out.2.2
          have h6 := HH'.out
          exact ⟨P, Q, x, h', xp, rfl, rfl, by omega, hid ⟨HS.out.1, HS.out.2.1, by omega⟩, HO⟩
        case measure =>
          have h6 := HH'.out
          have e1 : (intOf (.int .i64 (h : Int))).toNat = h := by simp [intOf]
          have e2 : (intOf (.int .i64 (h' : Int))).toNat = h' := by simp [intOf]
          rw [e1, e2, h6, Nat.add_mul, Nat.one_mul]
          omega
structure LT (es : List En) (m h v : Nat) (P Q : List Nd) (z : Bool) : Prop where
  fwd : z = false → ∃ y P' Q', y.p = v ∧ front es m = P' ++ y :: Q' ∧ h < y.h ∧ P.length < P'.length
  stop : z = true → h = 0 → Q = []
set_option maxHeartbeats 6400000 in
set_option maxRecDepth 100000 in
theorem findLT_any (g : Nat) (A kA : Option Addr) (n1 c1 b n2 c2 mh kn kc : Nat) (kv : List UInt8) (nd : List Nat) (es : List En) (key : List UInt8) (w : World)
    (ok : DbOk kv nd mh es) (hr : DbR w g A n1 c1 b n2 c2 mh kv nd) (hk : BsAt w kA key) (hkn : kn = key.length) :
    Calls Tryd.prog 237 #[.pointer (some ⟨g, 0, none⟩), .slice kA kn kc] w fun e w' => e = .returned (.int .i64 (prevOf es (mAt En.k es key) : Nat)) ∧ Only [] w w' := by
  have HOK := hid ok
  have HR := hid hr
  have HK := hid hk
  have HKN := hid hkn
  have m1 := ok.skip.m1
  have m2 := ok.skip.m2
  have hm := method_cmp
  obtain ⟨m, hM⟩ : ∃ m, mAt En.k es key = m := ⟨_, rfl⟩
  obtain ⟨N, hN⟩ : ∃ N, prevOf es m = N := ⟨_, rfl⟩
  obtain ⟨L, hL⟩ : ∃ L, es.length = L := ⟨_, rfl⟩
  have hml := mAt_le En.k es key
  rw [hM] at hml
  rw [hM, hN]
  have HM := hid hM
  have HN := hid hN
  have HL := hid hL
  have HML := hid hml
  have cm := hr.cm
  have s0 : IntKind.i64.wrap ((mh : Int) - 1) = ((mh - 1 : Nat) : Int) := by rw [IntWalk.i64_in _ (by omega)]; omega
  obtain ⟨h0, hh0⟩ : ∃ h0, mh - 1 = h0 := ⟨_, rfl⟩
  rw [hh0] at s0
  have hlt : h0 < mh := by omega
  clear ok hr hk hkn hM hN hL hml
  go_enter Tryd.func237, Tryd.ntmps237
  go_wp2_with fail
  go_loopw [5, 6] (fun s3 s4 wr => ∃ (P Q : List Nd) (x : Nd) (h xp : Nat), s3 = .int .i64 xp ∧ s4 = .int .i64 h ∧ h < mh ∧ Hid (x.p = xp ∧ front es m = P ++ x :: Q ∧ h < x.h) ∧ Hid (Only [] w wr)) (fun s3 s4 _ => (intOf s4).toNat * (L + 2) + (L + 1 - fIdx es m (intOf s3).toNat))
  case atStart =>
    refine ⟨[], (es.take m).map En.nd, hdN, h0, 0, rfl, rfl, hlt, hid ⟨rfl, rfl, ?_⟩, hid (Only.refl _ _)⟩
    show h0 < 12; omega
  case round =>
    obtain ⟨P, Q, x, h, xp, rfl, rfl, hh, HS, HO⟩ := hrel
    obtain ⟨w2, rfl⟩ : ∃ w2, w2 = wr := ⟨_, rfl⟩
    clear cm s0 hlt
    have hr := HR.out.keep0 HO.out
    obtain ⟨v, hv, hcase⟩ := HOK.out.step HS.out.2.1 HS.out.2.2
    rw [HS.out.1] at hv
    have q0 := hr.q0
    have q2 := hr.q2
    have q3 := hr.q3
    obtain ⟨cv, lv⟩ := hr.bn.cell _ _ hv
    have hf := hr.bn.fit
    have s1 : IntKind.i64.wrap ((xp : Int) + 4) = ((xp + 4 : Nat) : Int) := wrap_add xp 4 (by omega)
    have s2 : IntKind.i64.wrap (((xp + 4 : Nat) : Int) + (h : Int)) = ((xp + 4 + h : Nat) : Int) := wrap_add (xp + 4) h (by omega)
    obtain ⟨i1, hi1⟩ : ∃ i1, xp + 4 = i1 := ⟨_, rfl⟩
    rw [hi1] at s1 s2 cv lv
    obtain ⟨i2, hi2⟩ : ∃ i2, i1 + h = i2 := ⟨_, rfl⟩
    rw [hi2] at s2 cv lv
    have lv' : (i2 : Int) < (n2 : Int) := by omega
    have HRR := hid hr
    have hent : v = 0 ∨ v ≠ 0 ∧ ∃ e ∈ es, e.nd.p = v := by
      rcases hcase with ⟨h1, e, h2, h3, _⟩ | ⟨_, _, h1 | ⟨h0, i, e, h1, h2, _⟩⟩
      · exact .inr ⟨h1, e, List.mem_of_mem_take h2, h3⟩
      · exact .inl h1
      · exact .inr ⟨h0, e, List.mem_of_getElem? h1, h2⟩
    have hko : ∃ ko, nd[v]? = some ko := by
      rcases hent with rfl | ⟨_, e, h1, rfl⟩
      · exact ⟨0, HOK.out.hd⟩
      · exact ⟨_, (HOK.out.at_ h1).1⟩
    obtain ⟨ko, hko⟩ := hko
    obtain ⟨a0, l0⟩ := hr.bn.cell _ _ hko
    have l0' : (v : Int) < (n2 : Int) := by omega
    have HC := hid hcase
    have HENT := hid hent
    have HKO := hid hko
    clear hr hv hi1 hi2 hcase hent hko
    go_upto_region 5 with fail
    go_cut [59] (fun s59 wx => ∃ z : Bool, s59 = .bool z ∧ Hid (LT es m h v P Q z) ∧ Hid (Only [] w wx))
    case first =>
      have hk2 := HK.out.keep0 HO.out
      have HK2 := hid hk2
      clear hk2
      rcases HENT.out with rfl | ⟨hv0, e, hem, hep⟩
      · go_wp2_with fail
        refine AnyT.start (S := fun w' => True) (T := []) (by kernel_rfl) (trivial) (fun hHeld => ?_)
        refine AnyT.take (i := 0) (v := ?_) (by simp only [List.getElem?_toArray, List.getElem?_cons_succ, List.getElem?_cons_zero]; rfl) (by kernel_rfl) (by kernel_rfl) (by kernel_rfl) (by kernel_rfl) (by intro _ _ _ h; exact h) (Or.inl ⟨by rfl, fun w hSw => ?_⟩) hHeld ?_
        rotate_left
        · ((try dsimp only at hSw); go_simp; first | done | with_reducible rfl | rfl)
        try simp only [Act.put, List.setIfInBounds_toArray, List.set_cons_zero, List.set_cons_succ]
        refine AnyT.take (i := 1) (v := ?_) (by simp only [List.getElem?_toArray, List.getElem?_cons_succ, List.getElem?_cons_zero]; rfl) (by kernel_rfl) (by kernel_rfl) (by kernel_rfl) (by kernel_rfl) (by intro _ _ _ h; exact h) (Or.inl ⟨by rfl, fun w hSw => ?_⟩) hHeld ?_
        rotate_left
        · ((try dsimp only at hSw); go_simp; first | done | with_reducible rfl | rfl)
        try simp only [Act.put, List.setIfInBounds_toArray, List.set_cons_zero, List.set_cons_succ]
        refine AnyT.take (i := 2) (v := ?_) (by simp only [List.getElem?_toArray, List.getElem?_cons_succ, List.getElem?_cons_zero]; rfl) (by kernel_rfl) (by kernel_rfl) (by kernel_rfl) (by kernel_rfl) (by intro _ _ _ h; exact h) (Or.inl ⟨by rfl, fun w hSw => ?_⟩) hHeld ?_
        rotate_left
        · ((try dsimp only at hSw); go_simp; first | done | with_reducible rfl | rfl)
        try simp only [Act.put, List.setIfInBounds_toArray, List.set_cons_zero, List.set_cons_succ]
        refine AnyT.take (i := 3) (v := undef) (by simp only [List.getElem?_toArray, List.getElem?_cons_succ, List.getElem?_cons_zero]; rfl) (by kernel_rfl) (by kernel_rfl) (by kernel_rfl) (by kernel_rfl) (by intro _ _ _ h; exact h) (Or.inr ⟨by rfl, rfl⟩) hHeld ?_
        try simp only [Act.put, List.setIfInBounds_toArray, List.set_cons_zero, List.set_cons_succ]
        refine AnyT.take (i := 4) (v := undef) (by simp only [List.getElem?_toArray, List.getElem?_cons_succ, List.getElem?_cons_zero]; rfl) (by kernel_rfl) (by kernel_rfl) (by kernel_rfl) (by kernel_rfl) (by intro _ _ _ h; exact h) (Or.inr ⟨by rfl, rfl⟩) hHeld ?_
        try simp only [Act.put, List.setIfInBounds_toArray, List.set_cons_zero, List.set_cons_succ]
        refine AnyT.take (i := 5) (v := undef) (by simp only [List.getElem?_toArray, List.getElem?_cons_succ, List.getElem?_cons_zero]; rfl) (by kernel_rfl) (by kernel_rfl) (by kernel_rfl) (by kernel_rfl) (by intro _ _ _ h; exact h) (Or.inr ⟨by rfl, rfl⟩) hHeld ?_
        try simp only [Act.put, List.setIfInBounds_toArray, List.set_cons_zero, List.set_cons_succ]
        refine AnyT.take (i := 6) (v := undef) (by simp only [List.getElem?_toArray, List.getElem?_cons_succ, List.getElem?_cons_zero]; rfl) (by kernel_rfl) (by kernel_rfl) (by kernel_rfl) (by kernel_rfl) (by intro _ _ _ h; exact h) (Or.inr ⟨by rfl, rfl⟩) hHeld ?_
        try simp only [Act.put, List.setIfInBounds_toArray, List.set_cons_zero, List.set_cons_succ]
        refine AnyT.take (i := 7) (v := undef) (by simp only [List.getElem?_toArray, List.getElem?_cons_succ, List.getElem?_cons_zero]; rfl) (by kernel_rfl) (by kernel_rfl) (by kernel_rfl) (by kernel_rfl) (by intro _ _ _ h; exact h) (Or.inr ⟨by rfl, rfl⟩) hHeld ?_
        try simp only [Act.put, List.setIfInBounds_toArray, List.set_cons_zero, List.set_cons_succ]
        refine AnyT.take (i := 8) (v := undef) (by simp only [List.getElem?_toArray, List.getElem?_cons_succ, List.getElem?_cons_zero]; rfl) (by kernel_rfl) (by kernel_rfl) (by kernel_rfl) (by kernel_rfl) (by intro _ _ _ h; exact h) (Or.inr ⟨by rfl, rfl⟩) hHeld ?_
        try simp only [Act.put, List.setIfInBounds_toArray, List.set_cons_zero, List.set_cons_succ]
        refine AnyT.take (i := 9) (v := undef) (by simp only [List.getElem?_toArray, List.getElem?_cons_succ, List.getElem?_cons_zero]; rfl) (by kernel_rfl) (by kernel_rfl) (by kernel_rfl) (by kernel_rfl) (by intro _ _ _ h; exact h) (Or.inr ⟨by rfl, rfl⟩) hHeld ?_
        try simp only [Act.put, List.setIfInBounds_toArray, List.set_cons_zero, List.set_cons_succ]
        refine AnyT.take (i := 10) (v := undef) (by simp only [List.getElem?_toArray, List.getElem?_cons_succ, List.getElem?_cons_zero]; rfl) (by kernel_rfl) (by kernel_rfl) (by kernel_rfl) (by kernel_rfl) (by intro _ _ _ h; exact h) (Or.inr ⟨by rfl, rfl⟩) hHeld ?_
        try simp only [Act.put, List.setIfInBounds_toArray, List.set_cons_zero, List.set_cons_succ]
        refine AnyT.take (i := 11) (v := undef) (by simp only [List.getElem?_toArray, List.getElem?_cons_succ, List.getElem?_cons_zero]; rfl) (by kernel_rfl) (by kernel_rfl) (by kernel_rfl) (by kernel_rfl) (by intro _ _ _ h; exact h) (Or.inr ⟨by rfl, rfl⟩) hHeld ?_
        try simp only [Act.put, List.setIfInBounds_toArray, List.set_cons_zero, List.set_cons_succ]
        refine AnyT.take (i := 12) (v := undef) (by simp only [List.getElem?_toArray, List.getElem?_cons_succ, List.getElem?_cons_zero]; rfl) (by kernel_rfl) (by kernel_rfl) (by kernel_rfl) (by kernel_rfl) (by intro _ _ _ h; exact h) (Or.inr ⟨by rfl, rfl⟩) hHeld ?_
        try simp only [Act.put, List.setIfInBounds_toArray, List.set_cons_zero, List.set_cons_succ]
        refine AnyT.take (i := 13) (v := undef) (by simp only [List.getElem?_toArray, List.getElem?_cons_succ, List.getElem?_cons_zero]; rfl) (by kernel_rfl) (by kernel_rfl) (by kernel_rfl) (by kernel_rfl) (by intro _ _ _ h; exact h) (Or.inr ⟨by rfl, rfl⟩) hHeld ?_
        try simp only [Act.put, List.setIfInBounds_toArray, List.set_cons_zero, List.set_cons_succ]
        refine AnyT.take (i := 14) (v := undef) (by simp only [List.getElem?_toArray, List.getElem?_cons_succ, List.getElem?_cons_zero]; rfl) (by kernel_rfl) (by kernel_rfl) (by kernel_rfl) (by kernel_rfl) (by intro _ _ _ h; exact h) (Or.inr ⟨by rfl, rfl⟩) hHeld ?_
        try simp only [Act.put, List.setIfInBounds_toArray, List.set_cons_zero, List.set_cons_succ]
        refine AnyT.take (i := 15) (v := undef) (by simp only [List.getElem?_toArray, List.getElem?_cons_succ, List.getElem?_cons_zero]; rfl) (by kernel_rfl) (by kernel_rfl) (by kernel_rfl) (by kernel_rfl) (by intro _ _ _ h; exact h) (Or.inr ⟨by rfl, rfl⟩) hHeld ?_
        try simp only [Act.put, List.setIfInBounds_toArray, List.set_cons_zero, List.set_cons_succ]
        refine AnyT.take (i := 16) (v := undef) (by simp only [List.getElem?_toArray, List.getElem?_cons_succ, List.getElem?_cons_zero]; rfl) (by kernel_rfl) (by kernel_rfl) (by kernel_rfl) (by kernel_rfl) (by intro _ _ _ h; exact h) (Or.inr ⟨by rfl, rfl⟩) hHeld ?_
        try simp only [Act.put, List.setIfInBounds_toArray, List.set_cons_zero, List.set_cons_succ]
        refine AnyT.take (i := 17) (v := undef) (by simp only [List.getElem?_toArray, List.getElem?_cons_succ, List.getElem?_cons_zero]; rfl) (by kernel_rfl) (by kernel_rfl) (by kernel_rfl) (by kernel_rfl) (by intro _ _ _ h; exact h) (Or.inr ⟨by rfl, rfl⟩) hHeld ?_
        try simp only [Act.put, List.setIfInBounds_toArray, List.set_cons_zero, List.set_cons_succ]
        refine AnyT.take (i := 18) (v := undef) (by simp only [List.getElem?_toArray, List.getElem?_cons_succ, List.getElem?_cons_zero]; rfl) (by kernel_rfl) (by kernel_rfl) (by kernel_rfl) (by kernel_rfl) (by intro _ _ _ h; exact h) (Or.inr ⟨by rfl, rfl⟩) hHeld ?_
        try simp only [Act.put, List.setIfInBounds_toArray, List.set_cons_zero, List.set_cons_succ]
        refine AnyT.take (i := 19) (v := undef) (by simp only [List.getElem?_toArray, List.getElem?_cons_succ, List.getElem?_cons_zero]; rfl) (by kernel_rfl) (by kernel_rfl) (by kernel_rfl) (by kernel_rfl) (by intro _ _ _ h; exact h) (Or.inr ⟨by rfl, rfl⟩) hHeld ?_
        try simp only [Act.put, List.setIfInBounds_toArray, List.set_cons_zero, List.set_cons_succ]
        refine AnyT.take (i := 20) (v := undef) (by simp only [List.getElem?_toArray, List.getElem?_cons_succ, List.getElem?_cons_zero]; rfl) (by kernel_rfl) (by kernel_rfl) (by kernel_rfl) (by kernel_rfl) (by intro _ _ _ h; exact h) (Or.inr ⟨by rfl, rfl⟩) hHeld ?_
        try simp only [Act.put, List.setIfInBounds_toArray, List.set_cons_zero, List.set_cons_succ]
        refine AnyT.take (i := 21) (v := undef) (by simp only [List.getElem?_toArray, List.getElem?_cons_succ, List.getElem?_cons_zero]; rfl) (by kernel_rfl) (by kernel_rfl) (by kernel_rfl) (by kernel_rfl) (by intro _ _ _ h; exact h) (Or.inr ⟨by rfl, rfl⟩) hHeld ?_
        try simp only [Act.put, List.setIfInBounds_toArray, List.set_cons_zero, List.set_cons_succ]
        refine AnyT.take (i := 22) (v := undef) (by simp only [List.getElem?_toArray, List.getElem?_cons_succ, List.getElem?_cons_zero]; rfl) (by kernel_rfl) (by kernel_rfl) (by kernel_rfl) (by kernel_rfl) (by intro _ _ _ h; exact h) (Or.inr ⟨by rfl, rfl⟩) hHeld ?_
        try simp only [Act.put, List.setIfInBounds_toArray, List.set_cons_zero, List.set_cons_succ]
        refine AnyT.take (i := 23) (v := undef) (by simp only [List.getElem?_toArray, List.getElem?_cons_succ, List.getElem?_cons_zero]; rfl) (by kernel_rfl) (by kernel_rfl) (by kernel_rfl) (by kernel_rfl) (by intro _ _ _ h; exact h) (Or.inr ⟨by rfl, rfl⟩) hHeld ?_
        try simp only [Act.put, List.setIfInBounds_toArray, List.set_cons_zero, List.set_cons_succ]
        refine AnyT.take (i := 24) (v := undef) (by simp only [List.getElem?_toArray, List.getElem?_cons_succ, List.getElem?_cons_zero]; rfl) (by kernel_rfl) (by kernel_rfl) (by kernel_rfl) (by kernel_rfl) (by intro _ _ _ h; exact h) (Or.inr ⟨by rfl, rfl⟩) hHeld ?_
        try simp only [Act.put, List.setIfInBounds_toArray, List.set_cons_zero, List.set_cons_succ]
        refine AnyT.take (i := 25) (v := undef) (by simp only [List.getElem?_toArray, List.getElem?_cons_succ, List.getElem?_cons_zero]; rfl) (by kernel_rfl) (by kernel_rfl) (by kernel_rfl) (by kernel_rfl) (by intro _ _ _ h; exact h) (Or.inr ⟨by rfl, rfl⟩) hHeld ?_
        try simp only [Act.put, List.setIfInBounds_toArray, List.set_cons_zero, List.set_cons_succ]
        refine AnyT.take (i := 26) (v := undef) (by simp only [List.getElem?_toArray, List.getElem?_cons_succ, List.getElem?_cons_zero]; rfl) (by kernel_rfl) (by kernel_rfl) (by kernel_rfl) (by kernel_rfl) (by intro _ _ _ h; exact h) (Or.inr ⟨by rfl, rfl⟩) hHeld ?_
        try simp only [Act.put, List.setIfInBounds_toArray, List.set_cons_zero, List.set_cons_succ]
        refine AnyT.take (i := 27) (v := undef) (by simp only [List.getElem?_toArray, List.getElem?_cons_succ, List.getElem?_cons_zero]; rfl) (by kernel_rfl) (by kernel_rfl) (by kernel_rfl) (by kernel_rfl) (by intro _ _ _ h; exact h) (Or.inr ⟨by rfl, rfl⟩) hHeld ?_
        try simp only [Act.put, List.setIfInBounds_toArray, List.set_cons_zero, List.set_cons_succ]
        refine AnyT.take (i := 28) (v := ?_) (by simp only [List.getElem?_toArray, List.getElem?_cons_succ, List.getElem?_cons_zero]; rfl) (by kernel_rfl) (by kernel_rfl) (by kernel_rfl) (by kernel_rfl) (by intro _ _ _ h; exact h) (Or.inl ⟨by rfl, fun w hSw => ?_⟩) hHeld ?_
        rotate_left
        · ((try dsimp only at hSw); go_simp; first | done | with_reducible rfl | rfl)
        try simp only [Act.put, List.setIfInBounds_toArray, List.set_cons_zero, List.set_cons_succ]
        refine AnyT.done (by kernel_rfl) ?_ _
        clear hHeld
        go_wp2_with fail
        go_meet
        refine ⟨true, rfl, hid ⟨(fun h => by cases h), fun _ hz => ?_⟩, hid HO.out.drew⟩
        rcases HC.out with ⟨h1, _⟩ | ⟨_, h2, _⟩
        · exact absurd rfl h1
        · exact (h2 hz).2
      · have hat := HOK.out.at_ hem
        rw [hep] at hat
        have hkoe : ko = e.nd.ko := by
          have h1 := HKO.out
          rw [hat.1] at h1
          exact (Option.some.inj h1).symm
        obtain ⟨a1, l1⟩ := HRR.out.bn.cell _ _ hat.2.1
        have hfit := HOK.out.fit e hem
        have hkey := (HOK.out.key e hem).2
        have hkl := (HOK.out.key e hem).1
        have hln := HRR.out.ln
        have hle := HRR.out.le
        have hfi := HRR.out.fit
        rw [← hkoe] at hfit hkey
        have hbs := piece_at HRR.out.bk ko e.nd.kl c1 (by omega) hkey
        obtain ⟨kl, hkl2⟩ : ∃ kl, e.nd.kl = kl := ⟨_, rfl⟩
        rw [hkl2] at hfit
        rw [hkl2] at a1 hkl
        have hf2 := HRR.out.bn.fit
        have s3 : IntKind.i64.wrap ((v : Int) + 1) = ((v + 1 : Nat) : Int) := wrap_add v 1 (by omega)
        have hA1 := hat.2.1
        rw [hkl2] at hA1
        obtain ⟨v1, hv1⟩ : ∃ v1, v + 1 = v1 := ⟨_, rfl⟩
        rw [hv1] at s3 a1 l1 hA1
        have s4 : IntKind.i64.wrap ((ko : Int) + (kl : Int)) = ((ko + kl : Nat) : Int) := wrap_add ko kl (by omega)
        obtain ⟨ke, hke⟩ : ∃ ke, ko + kl = ke := ⟨_, rfl⟩
        rw [hke] at s4
        have g1 : (v : Int) < (n2 : Int) := by omega
        have g2 : (v1 : Int) < (n2 : Int) := by omega
        have g3 : (ko : Int) ≤ (ke : Int) := by omega
        have g4 : (ke : Int) ≤ (c1 : Int) := by omega
        have g5 : ke - ko = kl := by omega
        have d0 : decide (v = 0) = false := decide_eq_false hv0
        have hv0' : ¬ (v : Int) = 0 := by omega
        have d0' : decide ((v : Int) = 0) = false := decide_eq_false hv0'
        have d0'' : ((v : Int) == 0) = false := by simpa using hv0
        have HBS := hid hbs
        have HE := hid (And.intro hem hep)
        have HA1 := hid hA1
        have HKL := hid hkl
        have HLT : Hid (LT es m h v P Q (decide (0 ≤ bcmp e.k key))) := by
          refine hid ⟨fun hz => ?_, fun hz hz2 => ?_⟩
          · have hlt := of_decide_eq_false hz
            have hsp := bcmp_spec e.k key
            rcases HC.out with ⟨_, e', h1, h2, P', Q', h3, h4, h5⟩ | ⟨h1, h2, h0 | ⟨_, i, e', h3, h4, h5⟩⟩
            · exact ⟨e'.nd, P', Q', h2, h3, h4, h5⟩
            · exact absurd h0 hv0
            · have hee : e' = e := HOK.out.same (List.mem_of_getElem? h3) hem (h4.trans hep.symm)
              subst hee
              rw [← HM.out] at h3
              have hb : 0 ≤ cmpI e'.k key := HOK.out.above key h3
              omega
          · have hge := of_decide_eq_true hz
            have hsp := bcmp_spec e.k key
            rcases HC.out with ⟨_, e', h1, h2, P', Q', h3, h4, h5⟩ | ⟨h1, h2, _⟩
            · have hee : e' = e := HOK.out.same (List.mem_of_mem_take h1) hem (h2.trans hep.symm)
              subst hee
              have hb : cmpI e'.k key < 0 := HOK.out.below key (by rw [HM.out]; exact h1)
              omega
            · exact (h2 hz2).2
        obtain ⟨cmp, hcmp⟩ : ∃ cmp, bcmp e.k key = cmp := ⟨_, rfl⟩
        rw [hcmp] at HLT
        have HCMP := hid hcmp
        clear hem hep hat hkey hkl hbs hfit hln hle hfi hkl2 hke hv1 hf2 cv hA1 hcmp hkoe
        go_wp2_with fail
        refine AnyT.start (S := fun w' => w'.cell? ⟨g, 0, none⟩ = some (.iface 112 (.agg #[])) ∧ w'.cell? ⟨g, 2, none⟩ = some (.slice A n1 c1) ∧ w'.cell? ⟨g, 3, none⟩ = some (.slice (some ⟨b, 0, none⟩) n2 c2) ∧ w'.cell? ⟨b, v1, none⟩ = some (.int .i64 (kl : Int))) (T := []) (by kernel_rfl) (⟨q0, q2, q3, a1⟩) (fun hHeld => ?_)
        refine AnyT.take (i := 0) (v := ?_) (by simp only [List.getElem?_toArray, List.getElem?_cons_succ, List.getElem?_cons_zero]; rfl) (by kernel_rfl) (by kernel_rfl) (by kernel_rfl) (by kernel_rfl) (by intro _ _ _ h; exact h) (Or.inl ⟨by rfl, fun w hSw => ?_⟩) hHeld ?_
        rotate_left
        · ((try dsimp only at hSw); go_simp; first | done | with_reducible rfl | rfl)
        try simp only [Act.put, List.setIfInBounds_toArray, List.set_cons_zero, List.set_cons_succ]
        refine AnyT.take (i := 1) (v := ?_) (by simp only [List.getElem?_toArray, List.getElem?_cons_succ, List.getElem?_cons_zero]; rfl) (by kernel_rfl) (by kernel_rfl) (by kernel_rfl) (by kernel_rfl) (by intro _ _ _ h; exact h) (Or.inl ⟨by rfl, fun w hSw => ?_⟩) hHeld ?_
        rotate_left
        · ((try dsimp only at hSw); go_simp; first | done | with_reducible rfl | rfl)
        try simp only [Act.put, List.setIfInBounds_toArray, List.set_cons_zero, List.set_cons_succ]
        refine AnyT.take (i := 2) (v := ?_) (by simp only [List.getElem?_toArray, List.getElem?_cons_succ, List.getElem?_cons_zero]; rfl) (by kernel_rfl) (by kernel_rfl) (by kernel_rfl) (by kernel_rfl) (by intro _ _ _ h; exact h) (Or.inl ⟨by rfl, fun w hSw => ?_⟩) hHeld ?_
        rotate_left
        · ((try dsimp only at hSw); go_simp; first | done | with_reducible rfl | rfl)
        try simp only [Act.put, List.setIfInBounds_toArray, List.set_cons_zero, List.set_cons_succ]
        refine AnyT.take (i := 3) (v := ?_) (by simp only [List.getElem?_toArray, List.getElem?_cons_succ, List.getElem?_cons_zero]; rfl) (by kernel_rfl) (by kernel_rfl) (by kernel_rfl) (by kernel_rfl) (by intro _ _ _ h; exact h) (Or.inl ⟨by rfl, fun w hSw => ?_⟩) hHeld ?_
        rotate_left
        · ((try dsimp only at hSw); go_simp; first | done | with_reducible rfl | rfl)
        try simp only [Act.put, List.setIfInBounds_toArray, List.set_cons_zero, List.set_cons_succ]
        refine AnyT.take (i := 4) (v := ?_) (by simp only [List.getElem?_toArray, List.getElem?_cons_succ, List.getElem?_cons_zero]; rfl) (by kernel_rfl) (by kernel_rfl) (by kernel_rfl) (by kernel_rfl) (by intro _ _ _ h; exact h) (Or.inl ⟨by rfl, fun w hSw => ?_⟩) hHeld ?_
        rotate_left
        · ((try dsimp only at hSw); go_simp; first | done | with_reducible rfl | rfl)
        try simp only [Act.put, List.setIfInBounds_toArray, List.set_cons_zero, List.set_cons_succ]
        refine AnyT.take (i := 5) (v := ?_) (by simp only [List.getElem?_toArray, List.getElem?_cons_succ, List.getElem?_cons_zero]; rfl) (by kernel_rfl) (by kernel_rfl) (by kernel_rfl) (by kernel_rfl) (by intro _ _ _ h; exact h) (Or.inl ⟨by rfl, fun w hSw => ?_⟩) hHeld ?_
        rotate_left
        · ((try dsimp only at hSw); go_simp; first | done | with_reducible rfl | rfl)
        try simp only [Act.put, List.setIfInBounds_toArray, List.set_cons_zero, List.set_cons_succ]
        refine AnyT.take (i := 6) (v := ?_) (by simp only [List.getElem?_toArray, List.getElem?_cons_succ, List.getElem?_cons_zero]; rfl) (by kernel_rfl) (by kernel_rfl) (by kernel_rfl) (by kernel_rfl) (by intro _ _ _ h; exact h) (Or.inl ⟨by rfl, fun w hSw => ?_⟩) hHeld ?_
        rotate_left
        · ((try dsimp only at hSw); go_simp; first | done | with_reducible rfl | rfl)
        try simp only [Act.put, List.setIfInBounds_toArray, List.set_cons_zero, List.set_cons_succ]
        refine AnyT.take (i := 7) (v := ?_) (by simp only [List.getElem?_toArray, List.getElem?_cons_succ, List.getElem?_cons_zero]; rfl) (by kernel_rfl) (by kernel_rfl) (by kernel_rfl) (by kernel_rfl) (by intro _ _ _ h; exact h) (Or.inl ⟨by rfl, fun w hSw => ?_⟩) hHeld ?_
        rotate_left
        · ((try dsimp only at hSw); go_simp; first | done | with_reducible rfl | rfl)
        try simp only [Act.put, List.setIfInBounds_toArray, List.set_cons_zero, List.set_cons_succ]
        refine AnyT.take (i := 8) (v := ?_) (by simp only [List.getElem?_toArray, List.getElem?_cons_succ, List.getElem?_cons_zero]; rfl) (by kernel_rfl) (by kernel_rfl) (by kernel_rfl) (by kernel_rfl) (by intro _ _ _ h; exact h) (Or.inl ⟨by rfl, fun w hSw => ?_⟩) hHeld ?_
        rotate_left
        · ((try dsimp only at hSw); go_simp; first | done | with_reducible rfl | rfl)
        try simp only [Act.put, List.setIfInBounds_toArray, List.set_cons_zero, List.set_cons_succ]
        refine AnyT.take (i := 9) (v := ?_) (by simp only [List.getElem?_toArray, List.getElem?_cons_succ, List.getElem?_cons_zero]; rfl) (by kernel_rfl) (by kernel_rfl) (by kernel_rfl) (by kernel_rfl) (by intro _ _ _ h; exact h) (Or.inl ⟨by rfl, fun w hSw => ?_⟩) hHeld ?_
        rotate_left
        · ((try dsimp only at hSw); go_simp; first | done | with_reducible rfl | rfl)
        try simp only [Act.put, List.setIfInBounds_toArray, List.set_cons_zero, List.set_cons_succ]
        refine AnyT.take (i := 10) (v := ?_) (by simp only [List.getElem?_toArray, List.getElem?_cons_succ, List.getElem?_cons_zero]; rfl) (by kernel_rfl) (by kernel_rfl) (by kernel_rfl) (by kernel_rfl) (by intro _ _ _ h; exact h) (Or.inl ⟨by rfl, fun w hSw => ?_⟩) hHeld ?_
        rotate_left
        · ((try dsimp only at hSw); go_simp; first | done | with_reducible rfl | rfl)
        try simp only [Act.put, List.setIfInBounds_toArray, List.set_cons_zero, List.set_cons_succ]
        refine AnyT.take (i := 11) (v := ?_) (by simp only [List.getElem?_toArray, List.getElem?_cons_succ, List.getElem?_cons_zero]; rfl) (by kernel_rfl) (by kernel_rfl) (by kernel_rfl) (by kernel_rfl) (by intro _ _ _ h; exact h) (Or.inl ⟨by rfl, fun w hSw => ?_⟩) hHeld ?_
        rotate_left
        · ((try dsimp only at hSw); go_simp; first | done | with_reducible rfl | rfl)
        try simp only [Act.put, List.setIfInBounds_toArray, List.set_cons_zero, List.set_cons_succ]
        refine AnyT.take (i := 12) (v := ?_) (by simp only [List.getElem?_toArray, List.getElem?_cons_succ, List.getElem?_cons_zero]; rfl) (by kernel_rfl) (by kernel_rfl) (by kernel_rfl) (by kernel_rfl) (by intro _ _ _ h; exact h) (Or.inl ⟨by rfl, fun w hSw => ?_⟩) hHeld ?_
        rotate_left
        · ((try dsimp only at hSw); go_simp; first | done | with_reducible rfl | rfl)
        try simp only [Act.put, List.setIfInBounds_toArray, List.set_cons_zero, List.set_cons_succ]
        refine AnyT.take (i := 13) (v := ?_) (by simp only [List.getElem?_toArray, List.getElem?_cons_succ, List.getElem?_cons_zero]; rfl) (by kernel_rfl) (by kernel_rfl) (by kernel_rfl) (by kernel_rfl) (by intro _ _ _ h; exact h) (Or.inl ⟨by rfl, fun w hSw => ?_⟩) hHeld ?_
        rotate_left
        · ((try dsimp only at hSw); go_simp; first | done | with_reducible rfl | rfl)
        try simp only [Act.put, List.setIfInBounds_toArray, List.set_cons_zero, List.set_cons_succ]
        refine AnyT.take (i := 14) (v := ?_) (by simp only [List.getElem?_toArray, List.getElem?_cons_succ, List.getElem?_cons_zero]; rfl) (by kernel_rfl) (by kernel_rfl) (by kernel_rfl) (by kernel_rfl) (by intro _ _ _ h; exact h) (Or.inl ⟨by rfl, fun w hSw => ?_⟩) hHeld ?_
        rotate_left
        · ((try dsimp only at hSw); go_simp; first | done | with_reducible rfl | rfl)
        try simp only [Act.put, List.setIfInBounds_toArray, List.set_cons_zero, List.set_cons_succ]
        refine AnyT.take (i := 15) (v := ?_) (by simp only [List.getElem?_toArray, List.getElem?_cons_succ, List.getElem?_cons_zero]; rfl) (by kernel_rfl) (by kernel_rfl) (by kernel_rfl) (by kernel_rfl) (by intro _ _ _ h; exact h) (Or.inl ⟨by rfl, fun w hSw => ?_⟩) hHeld ?_
        rotate_left
        · ((try dsimp only at hSw); go_simp; first | done | with_reducible rfl | rfl)
        try simp only [Act.put, List.setIfInBounds_toArray, List.set_cons_zero, List.set_cons_succ]
        refine AnyT.take (i := 16) (v := ?_) (by simp only [List.getElem?_toArray, List.getElem?_cons_succ, List.getElem?_cons_zero]; rfl) (by kernel_rfl) (by kernel_rfl) (by kernel_rfl) (by kernel_rfl) (by intro _ _ _ h; exact h) (Or.inl ⟨by rfl, fun w hSw => ?_⟩) hHeld ?_
        rotate_left
        · ((try dsimp only at hSw); go_simp; first | done | with_reducible rfl | rfl)
        try simp only [Act.put, List.setIfInBounds_toArray, List.set_cons_zero, List.set_cons_succ]
        refine AnyT.take (i := 17) (v := ?_) (by simp only [List.getElem?_toArray, List.getElem?_cons_succ, List.getElem?_cons_zero]; rfl) (by kernel_rfl) (by kernel_rfl) (by kernel_rfl) (by kernel_rfl) (by intro _ _ _ h; exact h) (Or.inl ⟨by rfl, fun w hSw => ?_⟩) hHeld ?_
        rotate_left
        · ((try dsimp only at hSw); go_simp; first | done | with_reducible rfl | rfl)
        try simp only [Act.put, List.setIfInBounds_toArray, List.set_cons_zero, List.set_cons_succ]
        refine AnyT.take (i := 18) (v := ?_) (by simp only [List.getElem?_toArray, List.getElem?_cons_succ, List.getElem?_cons_zero]; rfl) (by kernel_rfl) (by kernel_rfl) (by kernel_rfl) (by kernel_rfl) (by intro _ _ _ h; exact h) (Or.inl ⟨by rfl, fun w hSw => ?_⟩) hHeld ?_
        rotate_left
        · ((try dsimp only at hSw); go_simp; first | done | with_reducible rfl | rfl)
        try simp only [Act.put, List.setIfInBounds_toArray, List.set_cons_zero, List.set_cons_succ]
        refine AnyT.take (i := 19) (v := ?_) (by simp only [List.getElem?_toArray, List.getElem?_cons_succ, List.getElem?_cons_zero]; rfl) (by kernel_rfl) (by kernel_rfl) (by kernel_rfl) (by kernel_rfl) (by intro _ _ _ h; exact h) (Or.inl ⟨by rfl, fun w hSw => ?_⟩) hHeld ?_
        rotate_left
        · ((try dsimp only at hSw); go_simp; first | done | with_reducible rfl | rfl)
        try simp only [Act.put, List.setIfInBounds_toArray, List.set_cons_zero, List.set_cons_succ]
        refine AnyT.take (i := 20) (v := ?_) (by simp only [List.getElem?_toArray, List.getElem?_cons_succ, List.getElem?_cons_zero]; rfl) (by kernel_rfl) (by kernel_rfl) (by kernel_rfl) (by kernel_rfl) (by intro _ _ _ h; exact h) (Or.inl ⟨by rfl, fun w hSw => ?_⟩) hHeld ?_
        rotate_left
        · ((try dsimp only at hSw); go_simp; first | done | with_reducible rfl | rfl)
        try simp only [Act.put, List.setIfInBounds_toArray, List.set_cons_zero, List.set_cons_succ]
        refine AnyT.take (i := 21) (v := ?_) (by simp only [List.getElem?_toArray, List.getElem?_cons_succ, List.getElem?_cons_zero]; rfl) (by kernel_rfl) (by kernel_rfl) (by kernel_rfl) (by kernel_rfl) (by intro _ _ _ h; exact h) (Or.inl ⟨by rfl, fun w hSw => ?_⟩) hHeld ?_
        rotate_left
        · ((try dsimp only at hSw); go_simp; first | done | with_reducible rfl | rfl)
        try simp only [Act.put, List.setIfInBounds_toArray, List.set_cons_zero, List.set_cons_succ]
        refine AnyT.take (i := 22) (v := ?_) (by simp only [List.getElem?_toArray, List.getElem?_cons_succ, List.getElem?_cons_zero]; rfl) (by kernel_rfl) (by kernel_rfl) (by kernel_rfl) (by kernel_rfl) (by intro _ _ _ h; exact h) (Or.inl ⟨by rfl, fun w hSw => ?_⟩) hHeld ?_
        rotate_left
        · ((try dsimp only at hSw); go_simp; first | done | with_reducible rfl | rfl)
        try simp only [Act.put, List.setIfInBounds_toArray, List.set_cons_zero, List.set_cons_succ]
        refine AnyT.take (i := 23) (v := ?_) (by simp only [List.getElem?_toArray, List.getElem?_cons_succ, List.getElem?_cons_zero]; rfl) (by kernel_rfl) (by kernel_rfl) (by kernel_rfl) (by kernel_rfl) (by intro _ _ _ h; exact h) (Or.inl ⟨by rfl, fun w hSw => ?_⟩) hHeld ?_
        rotate_left
        · ((try dsimp only at hSw); go_simp; first | done | with_reducible rfl | rfl)
        try simp only [Act.put, List.setIfInBounds_toArray, List.set_cons_zero, List.set_cons_succ]
        refine AnyT.take (i := 24) (v := ?_) (by simp only [List.getElem?_toArray, List.getElem?_cons_succ, List.getElem?_cons_zero]; rfl) (by kernel_rfl) (by kernel_rfl) (by kernel_rfl) (by kernel_rfl) (by intro _ _ _ h; exact h) (Or.inl ⟨by rfl, fun w hSw => ?_⟩) hHeld ?_
        rotate_left
        · ((try dsimp only at hSw); go_simp; first | done | with_reducible rfl | rfl)
        try simp only [Act.put, List.setIfInBounds_toArray, List.set_cons_zero, List.set_cons_succ]
        refine AnyT.take (i := 25) (v := ?_) (by simp only [List.getElem?_toArray, List.getElem?_cons_succ, List.getElem?_cons_zero]; rfl) (by kernel_rfl) (by kernel_rfl) (by kernel_rfl) (by kernel_rfl) (by intro _ _ _ h; exact h) (Or.inl ⟨by rfl, fun w hSw => ?_⟩) hHeld ?_
        rotate_left
        · ((try dsimp only at hSw); go_simp; first | done | with_reducible rfl | rfl)
        try simp only [Act.put, List.setIfInBounds_toArray, List.set_cons_zero, List.set_cons_succ]
        refine AnyT.ready (rs := [26]) (by kernel_rfl) (by simp) ?_
        refine AllT.cons (by simp only [List.getElem?_toArray, List.getElem?_cons_succ, List.getElem?_cons_zero]; rfl) (fun K hK => ?_) AllT.nil
        go_simp
        generalize (if c1 = ko then A else Option.map (fun x => x.add ko) A) = A3 at HBS ⊢
        refine (cmpCompare_any _ _ _ _ _ _ e.k key _ (HBS.out.keep0 (Only.refl _ _).drew) (HK2.out.keep0 (Only.refl _ _).drew) HKL.out HKN.out).mono ?_
        rintro e3 w3 ⟨rfl, ho3⟩
        rw [HCMP.out]
        have ho4 := HO.out.drew.trans ho3
        have hr3 := HR.out.keep0 ho4
        have HO4 := hid ho4
        clear ho4
        try go_wp2_with fail
        refine hK.out _ _ ?_ (fun hHeld => ?_)
        · exact ⟨hr3.q0, hr3.q2, hr3.q3, (hr3.bn.cell _ _ HA1.out).1⟩
        clear hK
        try simp only [Act.put, List.setIfInBounds_toArray, List.set_cons_zero, List.set_cons_succ]
        refine AnyT.take (i := 27) (v := ?_) (by simp only [List.getElem?_toArray, List.getElem?_cons_succ, List.getElem?_cons_zero]; rfl) (by kernel_rfl) (by kernel_rfl) (by kernel_rfl) (by kernel_rfl) (by intro _ _ _ h; exact h) (Or.inl ⟨by rfl, fun w hSw => ?_⟩) hHeld ?_
        rotate_left
        · ((try dsimp only at hSw); go_simp; first | done | with_reducible rfl | rfl)
        try simp only [Act.put, List.setIfInBounds_toArray, List.set_cons_zero, List.set_cons_succ]
        refine AnyT.take (i := 28) (v := ?_) (by simp only [List.getElem?_toArray, List.getElem?_cons_succ, List.getElem?_cons_zero]; rfl) (by kernel_rfl) (by kernel_rfl) (by kernel_rfl) (by kernel_rfl) (by intro _ _ _ h; exact h) (Or.inl ⟨by rfl, fun w hSw => ?_⟩) hHeld ?_
        rotate_left
        · ((try dsimp only at hSw); go_simp; first | done | with_reducible rfl | rfl)
        try simp only [Act.put, List.setIfInBounds_toArray, List.set_cons_zero, List.set_cons_succ]
        refine AnyT.done (by kernel_rfl) ?_ _
        clear hHeld hr3
        go_wp2_with fail
        go_meet
        exact ⟨_, rfl, HLT, HO4⟩
    case rest =>
      obtain ⟨z, rfl, HLT, HO3⟩ := hcut
      clear HO HC HENT HKO HRR q0 q2 q3 cv lv lv' s1 s2 hf a0 l0 l0'
      cases z with
      | false =>
        obtain ⟨y, P', Q', hy, hs, hhy, hpl⟩ := HLT.out.fwd rfl
        go_wp2_with fail
        go_roundw
        case rel => exact ⟨P', Q', y, h, v, rfl, rfl, hh, hid ⟨hy, hs, hhy⟩, HO3⟩
        case measure =>
          have hM1 := HOK.out.fIdx HS.out.2.1
          have hM2 := HOK.out.fIdx hs
          rw [HS.out.1] at hM1
          rw [hy] at hM2
          have hM3 := front_len es m
          rw [hs, List.length_append, List.length_cons, HL.out] at hM3
          have e1 : (intOf (.int .i64 (xp : Int))).toNat = xp := by simp [intOf]
          have e2 : (intOf (.int .i64 (v : Int))).toNat = v := by simp [intOf]
          rw [e1, e2, hM1, hM2]
          omega
      | true =>
        by_cases hz : h = 0
        · have HQ := hid (HLT.out.stop rfl hz)
          subst hz
          clear HLT
          go_wp2_with fail
          go_ret
          refine ⟨?_, HO3.out⟩
          have hs := HS.out.2.1
          rw [HQ.out] at hs
          have h1 := front_end hs (by rw [HL.out]; exact HL.out ▸ HML.out)
          rw [HS.out.1] at h1
          rw [← HN.out]
          unfold prevOf
          rw [← h1]
          try rfl
        · obtain ⟨h', hh'⟩ : ∃ h', h = h' + 1 := ⟨h - 1, by omega⟩
          have hsf : IntKind.i64.wrap ((h : Int) - 1) = (h' : Int) := by rw [IntWalk.i64_in _ (by omega)]; omega
          have hz' : ¬ (h : Int) = 0 := by omega
          have dz : decide ((h : Int) = 0) = false := decide_eq_false hz'
          have dz' : decide (h = 0) = false := decide_eq_false hz
          have HH' := hid hh'
          clear hh' HLT
          go_wp2_with fail
          go_roundw
          case rel =>
            have h5 := HS.out.2.2
            have h6 := HH'.out
            exact ⟨P, Q, x, h', xp, rfl, rfl, by omega, hid ⟨HS.out.1, HS.out.2.1, by omega⟩, HO3⟩
          case measure =>
            have h6 := HH'.out
            have e1 : (intOf (.int .i64 (h : Int))).toNat = h := by simp [intOf]
            have e2 : (intOf (.int .i64 (h' : Int))).toNat = h' := by simp [intOf]
            rw [e1, e2, h6, Nat.add_mul, Nat.one_mul]
            omega
end Go.Proofs.YtloflmcgbbbnjaaDoor
namespace Go.Proofs.YtloflmcgbbbnjaaDoor
open Go.RowKit Plain
set_option linter.all false
theorem u64_nat (z : Int) : ∃ y : Nat, IntKind.u64.wrap z = (y : Int) ∧ y < 18446744073709551616 := by
  refine ⟨(IntKind.u64.wrap z).toNat, ?_, ?_⟩ <;> simp [IntKind.wrap, IntKind.bits, IntKind.signed] <;> omega
theorem nextRand (g x : Nat) (A : Option Addr) (n1 c1 b n2 c2 mh n sz : Nat) (pv0 : List Nat) (R : List Fr) (w0 w : World) (hp : pv0.length = 12) (hO : Own (dFr g x A n1 c1 b n2 c2 pv0 mh n sz :: R) w0 w) :
    Calls Tryd.prog 119 #[.pointer (some ⟨g, 1, none⟩)] w fun e w' => ∃ (y x' : Nat), e = .returned (.int .i64 y) ∧ y < 2147483648 ∧ Own (dFr g x' A n1 c1 b n2 c2 pv0 mh n sz :: R) w0 w' := by
  obtain ⟨q0, q1, q2, q3, qm, qn, qz, fz⟩ := dFr_cells hp hO
  obtain ⟨y, hy, _⟩ := u64_nat ((x : Int) * 6364136223846793005)
  obtain ⟨z, hz, hz2⟩ := u64_nat ((y : Int) + 1442695040888963407)
  have hO2 := dFr_x hO z
  have hq := (dFr_cells hp hO2).q1
  have HO2 := hid hO2
  clear hO hO2 q0 q2 q3 qm qn qz
  go_enter Tryd.func119, Tryd.ntmps119
  go_wp2_with fail
  go_ret
  refine ⟨z / 8589934592, z, ?_, ?_, HO2.out⟩
  · simp
  · omega
def RandOut (g : Nat) (A : Option Addr) (n1 c1 b n2 c2 mh n sz : Nat) (pv0 : List Nat) (R : List Fr) (w0 : World) (e : Ending) (w' : World) : Prop :=
  ∃ (h x' : Nat), e = .returned (.int .i64 h) ∧ 1 ≤ h ∧ h ≤ 12 ∧ Own (dFr g x' A n1 c1 b n2 c2 pv0 mh n sz :: R) w0 w'
set_option maxHeartbeats 1600000 in
set_option maxRecDepth 100000 in
theorem randHeight_any (g x : Nat) (A : Option Addr) (n1 c1 b n2 c2 mh n sz : Nat) (pv0 : List Nat) (R : List Fr) (w0 w : World) (hp : pv0.length = 12) (hO : Own (dFr g x A n1 c1 b n2 c2 pv0 mh n sz :: R) w0 w) :
    Calls Tryd.prog 101 #[.pointer (some ⟨g, 0, none⟩)] w (RandOut g A n1 c1 b n2 c2 mh n sz pv0 R w0) := by
  have HO := hid hO
  have HP := hid hp
  clear hO hp
  go_enter Tryd.func101, Tryd.ntmps101
  go_wp2_with fail
  go_loopw [2] (fun s2 wr => ∃ (h x' : Nat), s2 = .int .i64 h ∧ 1 ≤ h ∧ h ≤ 12 ∧ Hid (Own (dFr g x' A n1 c1 b n2 c2 pv0 mh n sz :: R) w0 wr)) (fun s2 _ => 12 - (intOf s2).toNat)
  case atStart => exact ⟨1, x, rfl, by omega, by omega, HO⟩
  case round =>
    obtain ⟨h, x', rfl, h1, h2, HO2⟩ := hrel
    obtain ⟨w2, rfl⟩ : ∃ w2, w2 = wr := ⟨_, rfl⟩
    by_cases hh : h < 12
    · have hh' : (h : Int) < 12 := by omega
      go_wp2_with fail
      refine (nextRand g x' A n1 c1 b n2 c2 mh n sz pv0 R w0 _ HP.out HO2.out).mono ?_
      rintro e w3 ⟨y, x3, rfl, hy, hO3⟩
      have HO3 := hid hO3
      clear hO3
      by_cases hy4 : y % 4 = 0
      · have i1 : (y : Int) % 4 = 0 := by omega
        have i2 : (y : Int).tmod 4 = 0 := by rw [Int.tmod_eq_emod_of_nonneg (by omega)]; exact i1
        go_wp2_with fail
        go_roundw
        case rel => exact ⟨h + 1, x3, by go_num, by omega, by omega, HO3⟩
        case measure => simp [intOf]; omega
      · have i1 : ¬ (y : Int) % 4 = 0 := by omega
        have i2 : ¬ (y : Int).tmod 4 = 0 := by rw [Int.tmod_eq_emod_of_nonneg (by omega)]; exact i1
        go_wp2_with fail
        go_ret
        exact ⟨h, x3, rfl, h1, h2, HO3.out⟩
    · have hh' : ¬ (h : Int) < 12 := by omega
      go_wp2_with fail
      go_ret
      exact ⟨h, x', rfl, h1, h2, HO2.out⟩
end Go.Proofs.YtloflmcgbbbnjaaDoor
namespace Go.Proofs.YtloflmcgbbbnjaaDoor
open Go.RowKit Plain
set_option linter.all false

theorem Tryd.info_int' : (Tryd.prog.info? 3).map (fun i => (i.zero, i.size, i.bytes)) = some (some (.int .i64 0), 1, 8) := by kernel_rfl
structure DbS (es : List En) (K N : Nat) (A : Option Addr) (n1 c1 b n2 c2 : Nat) (pv : List Nat) (mh : Nat) (kv : List UInt8) (nd : List Nat) (F G : List Fr) : Prop where
  hp : pv.length = 12
  ok : DbOk kv nd mh es
  rk : Row 5 1 A n1 c1 (bc kv) F
  rn : Row 3 1 (some ⟨b, 0, none⟩) n2 c2 (ni nd) G
  bk : kv.length ≤ K
  bn : nd.length ≤ 16 + 16 * N
def DbSt (g : Nat) (es : List En) (K N : Nat) (R : List Fr) (w0 w : World) : Prop :=
  ∃ x A n1 c1 b n2 c2 pv mh kv nd F G, DbS es K N A n1 c1 b n2 c2 pv mh kv nd F G ∧ Own (dFr g x A n1 c1 b n2 c2 pv mh es.length (szKv (es.map En.kv)) :: (F ++ (G ++ R))) w0 w
section
variable {es : List En} {K N g x : Nat} {A : Option Addr} {n1 c1 b n2 c2 : Nat} {pv : List Nat} {mh : Nat} {kv : List UInt8} {nd : List Nat} {F G R : List Fr} {w0 w : World}
theorem DbS.n1l (h : DbS es K N A n1 c1 b n2 c2 pv mh kv nd F G) : n1 = kv.length := h.rk.len
theorem DbS.n2l (h : DbS es K N A n1 c1 b n2 c2 pv mh kv nd F G) : n2 = nd.length := by have := h.rn.1; rw [ni_length] at this; omega
theorem DbS.rd (h : DbS es K N A n1 c1 b n2 c2 pv mh kv nd F G) {L : List Fr} (hF : ∀ y ∈ F, y ∈ L) : St L w0 fun w => BsAt w A kv := (h.rk.rd w0).mono hF
theorem DbS.nst (h : DbS es K N A n1 c1 b n2 c2 pv mh kv nd F G) (hN : N ≤ 1048576) {L : List Fr} (hG : ∀ y ∈ G, y ∈ L) : St L w0 fun w => NdAt w b nd n2 :=
  ((h.rn.st w0).imp fun w hw => NdAt.of hw h.n2l (by have := h.bn; have := h.n2l; omega)).mono hG
/-- What is read of it, whatever else turns. -/
theorem DbS.st (h : DbS es K N A n1 c1 b n2 c2 pv mh kv nd F G) (hK : K ≤ 1073741824) (hN : N ≤ 1048576) {n sz : Nat} {L : List Fr} (hD : dFr g x A n1 c1 b n2 c2 pv mh n sz ∈ L) (hF : ∀ y ∈ F, y ∈ L) (hG : ∀ y ∈ G, y ∈ L) : St L w0 fun w => DbR w g A n1 c1 b n2 c2 mh kv nd := fun w ho hb => by
  have hl := dFr_len (g := g) (x := x) (A := A) (n1 := n1) (c1 := c1) (b := b) (n2 := n2) (c2 := c2) (mh := mh) (n := n) (sz := sz) h.hp
  have hc : ∀ i, i < 19 → w.cell? ⟨g, i, none⟩ = (dFr g x A n1 c1 b n2 c2 pv mh n sz).cs[i]? := fun i hi => (hb _ hD).cell (k := i) (i := i) (by simp [dFr]) (by omega)
  have h1 := h.bk
  have h2 := h.n1l
  refine ⟨hc 0 (by omega), hc 2 (by omega), hc 3 (by omega), ?_, h.rd (w0 := w0) hF w ho hb, h.nst (w0 := w0) hN hG w ho hb, h2, h.rk.le, by omega⟩
  rw [hc 16 (by omega)]
  exact tail_get h.hp 0 _
theorem DbS.r (h : DbS es K N A n1 c1 b n2 c2 pv mh kv nd F G) (hK : K ≤ 1073741824) (hN : N ≤ 1048576) {n sz : Nat} (hO : Own (dFr g x A n1 c1 b n2 c2 pv mh n sz :: (F ++ (G ++ R))) w0 w) : DbR w g A n1 c1 b n2 c2 mh kv nd :=
  hO.st (h.st (w0 := w0) (g := g) (x := x) (n := n) (sz := sz) hK hN (L := dFr g x A n1 c1 b n2 c2 pv mh n sz :: (F ++ (G ++ R))) (by simp) (fun y hy => by simp [hy]) (fun y hy => by simp [hy])) fun y hy => hy
theorem DbSt.mono (h : DbSt g es K N R w0 w) {K' N' : Nat} (hK : K ≤ K') (hN : N ≤ N') : DbSt g es K' N' R w0 w := by
  obtain ⟨x, A, n1, c1, b, n2, c2, pv, mh, kv, nd, F, G, hs, hO⟩ := h
  exact ⟨x, A, n1, c1, b, n2, c2, pv, mh, kv, nd, F, G, ⟨hs.hp, hs.ok, hs.rk, hs.rn, Nat.le_trans hs.bk hK, by have := hs.bn; omega⟩, hO⟩
theorem DbSt.only0 {w' : World} (h : DbSt g es K N R w0 w) (ho : Only [] w w') : DbSt g es K N R w0 w' := by
  obtain ⟨x, A, n1, c1, b, n2, c2, pv, mh, kv, nd, F, G, hs, hO⟩ := h
  exact ⟨x, A, n1, c1, b, n2, c2, pv, mh, kv, nd, F, G, hs, hO.only0 ho⟩
theorem DbSt.perm {R' : List Fr} (h : DbSt g es K N R w0 w) (hR : R.Perm R') : DbSt g es K N R' w0 w := by
  obtain ⟨x, A, n1, c1, b, n2, c2, pv, mh, kv, nd, F, G, hs, hO⟩ := h
  exact ⟨x, A, n1, c1, b, n2, c2, pv, mh, kv, nd, F, G, hs, hO.perm (by
    refine List.Perm.cons _ (List.Perm.append_left _ (List.Perm.append_left _ hR)))⟩
/-- What stays of the rest. -/
theorem DbSt.rest {p : World → Prop} (h : DbSt g es K N R w0 w) (hp : St R w0 p) : p w := by
  obtain ⟨x, A, n1, c1, b, n2, c2, pv, mh, kv, nd, F, G, hs, hO⟩ := h
  exact hO.st hp fun y hy => by simp [hy]
end
end Go.Proofs.YtloflmcgbbbnjaaDoor
