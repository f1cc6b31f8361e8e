/-
  memdb: the iterator's other methods: Last, Prev, Seek; Valid, Key, Value, Error, Release.
  memdb: its iterator as an iterator of pairs; over a range, one that goes on.
  memdb.NewIterator; impl.slice.
  memdb's calls over the whole of a database; its map through calls.
-/
import Derived.Test.YtloflmcgbbbnjaaDoorMemM18
import Derived.Test.YtloflmcgbbbnjaaDoorMemM10
import Derived.Test.YtloflmcgbbbnjaaDoorMemM15
namespace Go.Proofs.YtloflmcgbbbnjaaDoor
open Go.RowKit Plain
set_option linter.all false

/-- fill on the way back. -/
theorem fill_back {g : Nat} {A : Option Addr} {n1 c1 b n2 c2 mh : Nat} {kv : List UInt8} {nd : List Nat} {es : List En} {R : List Fr} {w0 w : World} (hD : DbD g A n1 c1 b n2 c2 mh kv nd es R w0) (q : Nat) (m : Nat) (kv0 vv0 : Value) (hm : m ≤ es.length) (node : Nat) (hO : Own (iFr q g (.pointer none) node false kv0 vv0 :: R) w0 w) (hn : node = prevOf es m) :
    Calls Tryd.prog 236 #[.pointer (some ⟨q, 0, none⟩), .bool true, .bool false] w (ItBool es.length (II q g A c1 (.pointer none) es 0 es.length) ((m : Int) - 1) R w0) := by
  subst hn
  rcases Nat.eq_zero_or_pos m with rfl | h0
  · have hz : prevOf es 0 = 0 := by unfold prevOf; rw [if_pos rfl]
    rw [hz] at hO
    refine (fill_none q g A c1 (.pointer none) false true false kv0 vv0 es 0 0 R w0 w hO (Nat.le_refl _)).mono ?_
    rintro e w' (⟨h1, _⟩ | ⟨_, rfl, hx⟩)
    · omega
    · exact ⟨by rw [wval_not.2 (.inl (by omega))], _, ⟨_, _, _, _, rfl, .inr ⟨.inl ⟨by omega, rfl⟩, rfl, rfl, rfl⟩⟩, hx⟩
  · have he : es[m - 1]? = some es[m - 1] := List.getElem?_eq_getElem (by omega)
    have hz : prevOf es m = es[m - 1].nd.p := by unfold prevOf; rw [if_neg (by omega), nodeOf_get he]
    rw [hz] at hO
    refine (fill_n q g A n1 c1 b n2 c2 mh false true false kv0 vv0 kv nd es _ (m - 1) es.length R w0 w hD.ok hD.r hD.cap he hO (by omega)).mono ?_
    rintro e w' (⟨h1, rfl, en, he', hx⟩ | ⟨h1, _⟩)
    · rw [show (m : Int) - 1 = ((m - 1 : Nat) : Int) by omega]
      exact ⟨by rw [wval_iff.2 ⟨by omega, by omega⟩], _, ⟨_, _, _, _, rfl, .inl ⟨m - 1, en, rfl, by omega, by rw [Nat.zero_add]; exact he', rfl, rfl, rfl⟩⟩, hx⟩
    · omega
set_option maxHeartbeats 3200000 in
set_option maxRecDepth 100000 in
theorem itLast {g : Nat} {A : Option Addr} {n1 c1 b n2 c2 mh : Nat} {kv : List UInt8} {nd : List Nat} {es : List En} {R : List Fr} {w0 w : World} (hD : DbD g A n1 c1 b n2 c2 mh kv nd es R w0) (q : Nat) (node : Nat) (fwd : Bool) (kv0 vv0 : Value) (hO : Own (iFr q g (.pointer none) node fwd kv0 vv0 :: R) w0 w) :
    Calls Tryd.prog 229 #[.pointer (some ⟨q, 0, none⟩)] w (ItBool es.length (II q g A c1 (.pointer none) es 0 es.length) ((es.length : Int) - 1) R w0) := by
  have HD := hid hD
  obtain ⟨i1, i2, i3, i4, i5, i6, i7, i8, fz⟩ := iFr_cells hO
  have HO1 := hid (iFr_fwd hO false)
  obtain ⟨n, hn⟩ : ∃ n, es.length = n := ⟨_, rfl⟩
  have HN := hid hn
  clear hD hO i6 i7 i8 hn
  go_enter Tryd.func229, Tryd.ntmps229
  go_wp2_with fail
  refine (released q w i1).mono ?_
  rintro e w1 ⟨rfl, rfl⟩
  go_upto_region 5 with fail
  generalize (World.setCell _ _ _) = W at HO1 ⊢
  clear i1 i2 i3 i4 i5 fz
  obtain ⟨i1, i2, i3, i4, i5, i6, i7, i8, fz⟩ := iFr_cells HO1.out
  clear i1 i5 i6 i7 i8
  go_wp2_with fail
  refine (findLast_any g A n1 c1 b n2 c2 mh kv nd es _ HD.out.ok (HO1.out.st HD.out.r (fun y hy => by simp [hy]))).mono ?_
  rintro e w3 ⟨rfl, ho3⟩
  obtain ⟨p, hp⟩ : ∃ p, prevOf es es.length = p := ⟨_, rfl⟩
  rw [hp]
  have HP := hid hp
  have HO2 := hid (HO1.out.only0 ho3)
  clear hp ho3 i2 i3 i4 fz
  obtain ⟨i1, i2, i3, i4, i5, i6, i7, i8, fz⟩ := iFr_cells HO2.out
  have HO3 := hid (iFr_node HO2.out p)
  clear i1 i2 i3 i5 i6 i7 i8
  go_wp2_with fail
  refine (fill_back HD.out q es.length _ _ (Nat.le_refl _) p HO3.out HP.out.symm).mono ?_
  rintro e w4 ⟨rfl, F', hI', hO'⟩
  have HF := hid (And.intro hI' hO')
  clear hI' hO'
  go_wp2_with fail
  go_ret
  exact ⟨rfl, F', HF.out.1, HF.out.2⟩
set_option maxHeartbeats 3200000 in
set_option maxRecDepth 100000 in
theorem itPrev {g : Nat} {A : Option Addr} {n1 c1 b n2 c2 mh : Nat} {kv : List UInt8} {nd : List Nat} {es : List En} {R : List Fr} {w0 w : World} (hD : DbD g A n1 c1 b n2 c2 mh kv nd es R w0) (q : Nat) (p : Int) (F : List Fr) (hI : II q g A c1 (.pointer none) es 0 es.length p F) (hp : -1 ≤ p ∧ p ≤ (es.length : Int)) (hO : Own (F ++ R) w0 w) :
    Calls Tryd.prog 231 #[.pointer (some ⟨q, 0, none⟩)] w (ItBool es.length (II q g A c1 (.pointer none) es 0 es.length) (max (p - 1) (-1)) R w0) := by
  obtain ⟨node, fwd, kv0, vv0, rfl, hat⟩ := hI
  have HD := hid hD
  obtain ⟨i1, i2, i3, i4, i5, i6, i7, i8, fz⟩ := iFr_cells hO
  rcases hat with ⟨i, en, rfl, hlt, he, rfl, rfl, rfl⟩ | ⟨hx, rfl, rfl, rfl⟩
  · rw [Nat.zero_add] at he
    have hp16 := hD.ok.p16 (List.mem_of_getElem? he)
    have hmin : max ((i : Int) - 1) (-1) = (i : Int) - 1 := by omega
    rw [hmin]
    obtain ⟨en0, hen0⟩ : ∃ en0, en.nd.p = en0 := ⟨_, rfl⟩
    rw [hen0] at i4 hp16 hO
    have n0 : ((en0 : Int) == 0) = false := by rw [beq_eq_false_iff_ne]; omega
    have n0' : ¬ (en0 : Int) = 0 := by omega
    have n0'' : ¬ en0 = 0 := by omega
    have hself := mAt_self hD.ok he
    have HS := hid (And.intro hself he)
    have HO1 := hid (iFr_fwd hO false)
    have HLT := hid hlt
    obtain ⟨vz, hvz⟩ : ∃ v, vSl A c1 en = v := ⟨_, rfl⟩
    rw [hvz] at HO1
    clear hD hO hmin hen0 he hlt hp hp16 i6 i7 i8 i2 i3 hself hvz
    go_enter Tryd.func231, Tryd.ntmps231
    go_wp2_with fail
    refine (released q w i1).mono ?_
    rintro e w1 ⟨rfl, rfl⟩
    go_upto_region 9 with fail
    generalize (World.setCell _ _ _) = W at HO1 ⊢
    clear i1 i4 i5 fz
    obtain ⟨i1, i2, i3, i4, i5, i6, i7, i8, fz⟩ := iFr_cells HO1.out
    have hr := HO1.out.drew.st HD.out.r (fun y hy => by simp [hy])
    obtain ⟨p1, p2, p3, ke, ve, hF, hb1, -, hl1, -⟩ := hr.en HD.out.ok (List.mem_of_getElem? HS.out.2)
    have HB := hid (show BsAt _ (pAd A c1 en.nd.ko) en.k from hb1)
    have HL := hid hl1
    unfold kSl at i6 HO1
    generalize pAd A c1 en.nd.ko = A3 at i6 HB HO1
    generalize en.nd.kl = kl at i6 HL HO1
    generalize c1 - en.nd.ko = cc at i6 HO1
    clear hr i1 i3 i4 i5 i7 i8 hF hb1 hl1
    go_wp2_with fail
    refine AnyT.start (S := fun w' => w'.cell? ⟨q, 2, none⟩ = some (.pointer (some ⟨g, 0, none⟩)) ∧ w'.cell? ⟨q, 6, none⟩ = some (.slice A3 kl cc)) (T := []) (by kernel_rfl) (⟨i2, i6⟩) (fun hHeld => ?_)
    refine AnyT.take (i := 0) (v := ?_) (by simp only [List.getElem?_toArray, List.getElem?_cons_succ, List.getElem?_cons_zero]; rfl) (by kernel_rfl) (by kernel_rfl) (by kernel_rfl) (by kernel_rfl) (by intro _ _ _ h; exact h) (Or.inl ⟨by rfl, fun w hSw => ?_⟩) hHeld ?_
    rotate_left
    · ((try dsimp only at hSw); go_simp; first | done | with_reducible rfl | rfl)
    try simp only [Act.put, List.setIfInBounds_toArray, List.set_cons_zero, List.set_cons_succ]
    refine AnyT.take (i := 1) (v := ?_) (by simp only [List.getElem?_toArray, List.getElem?_cons_succ, List.getElem?_cons_zero]; rfl) (by kernel_rfl) (by kernel_rfl) (by kernel_rfl) (by kernel_rfl) (by intro _ _ _ h; exact h) (Or.inl ⟨by rfl, fun w hSw => ?_⟩) hHeld ?_
    rotate_left
    · ((try dsimp only at hSw); go_simp; first | done | with_reducible rfl | rfl)
    try simp only [Act.put, List.setIfInBounds_toArray, List.set_cons_zero, List.set_cons_succ]
    refine AnyT.take (i := 2) (v := ?_) (by simp only [List.getElem?_toArray, List.getElem?_cons_succ, List.getElem?_cons_zero]; rfl) (by kernel_rfl) (by kernel_rfl) (by kernel_rfl) (by kernel_rfl) (by intro _ _ _ h; exact h) (Or.inl ⟨by rfl, fun w hSw => ?_⟩) hHeld ?_
    rotate_left
    · ((try dsimp only at hSw); go_simp; first | done | with_reducible rfl | rfl)
    try simp only [Act.put, List.setIfInBounds_toArray, List.set_cons_zero, List.set_cons_succ]
    refine AnyT.take (i := 3) (v := ?_) (by simp only [List.getElem?_toArray, List.getElem?_cons_succ, List.getElem?_cons_zero]; rfl) (by kernel_rfl) (by kernel_rfl) (by kernel_rfl) (by kernel_rfl) (by intro _ _ _ h; exact h) (Or.inl ⟨by rfl, fun w hSw => ?_⟩) hHeld ?_
    rotate_left
    · ((try dsimp only at hSw); go_simp; first | done | with_reducible rfl | rfl)
    try simp only [Act.put, List.setIfInBounds_toArray, List.set_cons_zero, List.set_cons_succ]
    refine AnyT.take (i := 4) (v := ?_) (by simp only [List.getElem?_toArray, List.getElem?_cons_succ, List.getElem?_cons_zero]; rfl) (by kernel_rfl) (by kernel_rfl) (by kernel_rfl) (by kernel_rfl) (by intro _ _ _ h; exact h) (Or.inl ⟨by rfl, fun w hSw => ?_⟩) hHeld ?_
    rotate_left
    · ((try dsimp only at hSw); go_simp; first | done | with_reducible rfl | rfl)
    try simp only [Act.put, List.setIfInBounds_toArray, List.set_cons_zero, List.set_cons_succ]
    refine AnyT.take (i := 5) (v := ?_) (by simp only [List.getElem?_toArray, List.getElem?_cons_succ, List.getElem?_cons_zero]; rfl) (by kernel_rfl) (by kernel_rfl) (by kernel_rfl) (by kernel_rfl) (by intro _ _ _ h; exact h) (Or.inl ⟨by rfl, fun w hSw => ?_⟩) hHeld ?_
    rotate_left
    · ((try dsimp only at hSw); go_simp; first | done | with_reducible rfl | rfl)
    try simp only [Act.put, List.setIfInBounds_toArray, List.set_cons_zero, List.set_cons_succ]
    refine AnyT.take (i := 6) (v := ?_) (by simp only [List.getElem?_toArray, List.getElem?_cons_succ, List.getElem?_cons_zero]; rfl) (by kernel_rfl) (by kernel_rfl) (by kernel_rfl) (by kernel_rfl) (by intro _ _ _ h; exact h) (Or.inl ⟨by rfl, fun w hSw => ?_⟩) hHeld ?_
    rotate_left
    · ((try dsimp only at hSw); go_simp; first | done | with_reducible rfl | rfl)
    try simp only [Act.put, List.setIfInBounds_toArray, List.set_cons_zero, List.set_cons_succ]
    refine AnyT.take (i := 7) (v := ?_) (by simp only [List.getElem?_toArray, List.getElem?_cons_succ, List.getElem?_cons_zero]; rfl) (by kernel_rfl) (by kernel_rfl) (by kernel_rfl) (by kernel_rfl) (by intro _ _ _ h; exact h) (Or.inl ⟨by rfl, fun w hSw => ?_⟩) hHeld ?_
    rotate_left
    · ((try dsimp only at hSw); go_simp; first | done | with_reducible rfl | rfl)
    try simp only [Act.put, List.setIfInBounds_toArray, List.set_cons_zero, List.set_cons_succ]
    refine AnyT.take (i := 8) (v := ?_) (by simp only [List.getElem?_toArray, List.getElem?_cons_succ, List.getElem?_cons_zero]; rfl) (by kernel_rfl) (by kernel_rfl) (by kernel_rfl) (by kernel_rfl) (by intro _ _ _ h; exact h) (Or.inl ⟨by rfl, fun w hSw => ?_⟩) hHeld ?_
    rotate_left
    · ((try dsimp only at hSw); go_simp; first | done | with_reducible rfl | rfl)
    try simp only [Act.put, List.setIfInBounds_toArray, List.set_cons_zero, List.set_cons_succ]
    refine AnyT.ready (rs := [9]) (by kernel_rfl) (by simp) ?_
    refine AllT.cons (by simp only [List.getElem?_toArray, List.getElem?_cons_succ, List.getElem?_cons_zero]; rfl) (fun K hK => ?_) AllT.nil
    go_simp
    refine (findLT_any g A A3 n1 c1 b n2 c2 mh kl cc kv nd es en.k _ HD.out.ok (HO1.out.drew.st HD.out.r (fun y hy => by simp [hy])) HB.out HL.out).mono ?_
    rintro e w3 ⟨rfl, ho3⟩
    rw [HS.out.1]
    obtain ⟨pp, hpp⟩ : ∃ pp, prevOf es i = pp := ⟨_, rfl⟩
    rw [hpp]
    have HP := hid hpp
    have HO2 := hid (HO1.out.drew.only0 ho3)
    have j2 := keepc ((Only.refl [] _).drew.trans ho3) i2
    have j6 := keepc ((Only.refl [] _).drew.trans ho3) i6
    clear hpp ho3 i2 i6 fz HO1
    have fz := (iFr_cells HO2.out).fz
    have j4 := (iFr_cells HO2.out).i4
    have HO3 := hid (iFr_node HO2.out pp)
    try go_wp2_with fail
    refine hK.out _ _ ?_ (fun hHeld => ?_)
    · exact ⟨j2, j6⟩
    clear hK
    try simp only [Act.put, List.setIfInBounds_toArray, List.set_cons_zero, List.set_cons_succ]
    refine AnyT.take (i := 10) (v := ?_) (by simp only [List.getElem?_toArray, List.getElem?_cons_succ, List.getElem?_cons_zero]; rfl) (by kernel_rfl) (by kernel_rfl) (by kernel_rfl) (by kernel_rfl) (by intro _ _ _ h; exact h) (Or.inl ⟨by rfl, fun w hSw => ?_⟩) hHeld ?_
    rotate_left
    · ((try dsimp only at hSw); go_simp; first | done | with_reducible rfl | rfl)
    try simp only [Act.put, List.setIfInBounds_toArray, List.set_cons_zero, List.set_cons_succ]
    refine AnyT.take (i := 11) (v := ?_) (by simp only [List.getElem?_toArray, List.getElem?_cons_succ, List.getElem?_cons_zero]; rfl) (by kernel_rfl) (by kernel_rfl) (by kernel_rfl) (by kernel_rfl) (by intro _ _ _ h; exact h) (Or.inl ⟨by rfl, fun w hSw => ?_⟩) hHeld ?_
    rotate_left
    · ((try dsimp only at hSw); go_simp; first | done | with_reducible rfl | rfl)
    try simp only [Act.put, List.setIfInBounds_toArray, List.set_cons_zero, List.set_cons_succ]
    refine AnyT.ready (rs := [12]) (by kernel_rfl) (by simp) ?_
    refine AllT.cons (by simp only [List.getElem?_toArray, List.getElem?_cons_succ, List.getElem?_cons_zero]; rfl) (fun K hK => ?_) AllT.nil
    have k2 := (iFr_cells HO3.out).i2
    have k6 := (iFr_cells HO3.out).i6
    go_simp
    refine hK.out _ _ ?_ (fun hHeld => ?_)
    · exact ⟨k2, k6⟩
    clear hK
    try simp only [Act.put, List.setIfInBounds_toArray, List.set_cons_zero, List.set_cons_succ]
    refine AnyT.done (by kernel_rfl) ?_ _
    clear hHeld j2 j6 j4 fz k2 k6
    go_wp2_with fail
    refine (fill_back HD.out q i _ _ (by have := HLT.out; omega) pp HO3.out HP.out.symm).mono ?_
    rintro e w4 ⟨rfl, F', hI', hO'⟩
    have HF := hid (And.intro hI' hO')
    clear hI' hO'
    go_wp2_with fail
    go_ret
    exact ⟨rfl, F', HF.out.1, HF.out.2⟩
  · rcases hx with ⟨h1, rfl⟩ | ⟨h1, h2, rfl⟩
    · obtain rfl : p = -1 := by omega
      rw [show max ((-1 : Int) - 1) (-1) = -1 by omega]
      have HO := hid hO
      clear hD hO i2 i3 i6 i7 i8 fz hp h1
      go_enter Tryd.func231, Tryd.ntmps231
      go_wp2_with fail
      refine (released q w i1).mono ?_
      rintro e w1 ⟨rfl, rfl⟩
      go_wp2_with fail
      go_ret
      exact ⟨by rw [wval_not.2 (.inl (by omega))]; rfl, _, ⟨0, false, _, _, rfl, .inr ⟨.inl ⟨by omega, rfl⟩, rfl, rfl, rfl⟩⟩, HO.out⟩
    · obtain rfl : p = (es.length : Int) := by omega
      rw [show max ((es.length : Int) - 1) (-1) = (es.length : Int) - 1 by omega]
      have HO := hid hO
      clear hD hO i2 i3 i6 i7 i8 fz hp h1 h2
      go_enter Tryd.func231, Tryd.ntmps231
      go_wp2_with fail
      refine (released q w i1).mono ?_
      rintro e w1 ⟨rfl, rfl⟩
      go_wp2_with fail
      refine (itLast HD.out q 0 true _ _ HO.out).mono ?_
      rintro e w4 ⟨rfl, F', hI', hO'⟩
      have HF := hid (And.intro hI' hO')
      clear hI' hO'
      go_wp2_with fail
      go_ret
      exact ⟨rfl, F', HF.out.1, HF.out.2⟩
set_option maxHeartbeats 3200000 in
set_option maxRecDepth 100000 in
theorem itSeek {g : Nat} {A : Option Addr} {n1 c1 b n2 c2 mh : Nat} {kv : List UInt8} {nd : List Nat} {es : List En} {R : List Fr} {w0 w : World} (hD : DbD g A n1 c1 b n2 c2 mh kv nd es R w0) (q : Nat) (node : Nat) (fwd : Bool) (kv0 vv0 : Value) (kA : Option Addr) (kn kc : Nat) (key : List UInt8) (hO : Own (iFr q g (.pointer none) node fwd kv0 vv0 :: R) w0 w) (hk : Rd R w0 kA key) (hkn : kn = key.length) :
    Calls Tryd.prog 233 #[.pointer (some ⟨q, 0, none⟩), .slice kA kn kc] w (ItBool es.length (II q g A c1 (.pointer none) es 0 es.length) (mAt En.k es key : Nat) R w0) := by
  have HD := hid hD
  have HK := hid (And.intro hk hkn)
  obtain ⟨i1, i2, i3, i4, i5, i6, i7, i8, fz⟩ := iFr_cells hO
  have HO1 := hid (iFr_fwd hO true)
  clear hD hO i6 i7 i8 hk hkn
  go_enter Tryd.func233, Tryd.ntmps233
  go_wp2_with fail
  refine (released q w i1).mono ?_
  rintro e w1 ⟨rfl, rfl⟩
  go_upto_region 5 with fail
  generalize (World.setCell _ _ _) = W at HO1 ⊢
  clear i1 i2 i3 i4 i5 fz
  obtain ⟨i1, i2, i3, i4, i5, i6, i7, i8, fz⟩ := iFr_cells HO1.out
  clear i1 i2 i4 i5 i6 i7 i8 fz
  go_wp2_with fail
  refine AnyT.start (S := fun w' => w'.cell? ⟨q, 3, none⟩ = some (.pointer none)) (T := []) (by kernel_rfl) (i3) (fun hHeld => ?_)
  refine AnyT.take (i := 0) (v := ?_) (by simp only [List.getElem?_toArray, List.getElem?_cons_succ, List.getElem?_cons_zero]; rfl) (by kernel_rfl) (by kernel_rfl) (by kernel_rfl) (by kernel_rfl) (by intro _ _ _ h; exact h) (Or.inl ⟨by rfl, fun w hSw => ?_⟩) hHeld ?_
  rotate_left
  · ((try dsimp only at hSw); go_simp; first | done | with_reducible rfl | rfl)
  try simp only [Act.put, List.setIfInBounds_toArray, List.set_cons_zero, List.set_cons_succ]
  refine AnyT.take (i := 1) (v := ?_) (by simp only [List.getElem?_toArray, List.getElem?_cons_succ, List.getElem?_cons_zero]; rfl) (by kernel_rfl) (by kernel_rfl) (by kernel_rfl) (by kernel_rfl) (by intro _ _ _ h; exact h) (Or.inl ⟨by rfl, fun w hSw => ?_⟩) hHeld ?_
  rotate_left
  · ((try dsimp only at hSw); go_simp; first | done | with_reducible rfl | rfl)
  try simp only [Act.put, List.setIfInBounds_toArray, List.set_cons_zero, List.set_cons_succ]
  refine AnyT.take (i := 2) (v := ?_) (by simp only [List.getElem?_toArray, List.getElem?_cons_succ, List.getElem?_cons_zero]; rfl) (by kernel_rfl) (by kernel_rfl) (by kernel_rfl) (by kernel_rfl) (by intro _ _ _ h; exact h) (Or.inl ⟨by rfl, fun w hSw => ?_⟩) hHeld ?_
  rotate_left
  · ((try dsimp only at hSw); go_simp; first | done | with_reducible rfl | rfl)
  try simp only [Act.put, List.setIfInBounds_toArray, List.set_cons_zero, List.set_cons_succ]
  refine AnyT.take (i := 3) (v := ?_) (by simp only [List.getElem?_toArray, List.getElem?_cons_succ, List.getElem?_cons_zero]; rfl) (by kernel_rfl) (by kernel_rfl) (by kernel_rfl) (by kernel_rfl) (by intro _ _ _ h; exact h) (Or.inl ⟨by rfl, fun w hSw => ?_⟩) hHeld ?_
  rotate_left
  · ((try dsimp only at hSw); go_simp; first | done | with_reducible rfl | rfl)
  try simp only [Act.put, List.setIfInBounds_toArray, List.set_cons_zero, List.set_cons_succ]
  refine AnyT.take (i := 4) (v := ?_) (by simp only [List.getElem?_toArray, List.getElem?_cons_succ, List.getElem?_cons_zero]; rfl) (by kernel_rfl) (by kernel_rfl) (by kernel_rfl) (by kernel_rfl) (by intro _ _ _ h; exact h) (Or.inl ⟨by rfl, fun w hSw => ?_⟩) hHeld ?_
  rotate_left
  · ((try dsimp only at hSw); go_simp; first | done | with_reducible rfl | rfl)
  try simp only [Act.put, List.setIfInBounds_toArray, List.set_cons_zero, List.set_cons_succ]
  refine AnyT.take (i := 5) (v := ?_) (by simp only [List.getElem?_toArray, List.getElem?_cons_succ, List.getElem?_cons_zero]; rfl) (by kernel_rfl) (by kernel_rfl) (by kernel_rfl) (by kernel_rfl) (by intro _ _ _ h; exact h) (Or.inl ⟨by rfl, fun w hSw => ?_⟩) hHeld ?_
  rotate_left
  · ((try dsimp only at hSw); go_simp; first | done | with_reducible rfl | rfl)
  try simp only [Act.put, List.setIfInBounds_toArray, List.set_cons_zero, List.set_cons_succ]
  refine AnyT.take (i := 6) (v := undef) (by simp only [List.getElem?_toArray, List.getElem?_cons_succ, List.getElem?_cons_zero]; rfl) (by kernel_rfl) (by kernel_rfl) (by kernel_rfl) (by kernel_rfl) (by intro _ _ _ h; exact h) (Or.inr ⟨by rfl, rfl⟩) hHeld ?_
  try simp only [Act.put, List.setIfInBounds_toArray, List.set_cons_zero, List.set_cons_succ]
  refine AnyT.take (i := 7) (v := undef) (by simp only [List.getElem?_toArray, List.getElem?_cons_succ, List.getElem?_cons_zero]; rfl) (by kernel_rfl) (by kernel_rfl) (by kernel_rfl) (by kernel_rfl) (by intro _ _ _ h; exact h) (Or.inr ⟨by rfl, rfl⟩) hHeld ?_
  try simp only [Act.put, List.setIfInBounds_toArray, List.set_cons_zero, List.set_cons_succ]
  refine AnyT.take (i := 8) (v := undef) (by simp only [List.getElem?_toArray, List.getElem?_cons_succ, List.getElem?_cons_zero]; rfl) (by kernel_rfl) (by kernel_rfl) (by kernel_rfl) (by kernel_rfl) (by intro _ _ _ h; exact h) (Or.inr ⟨by rfl, rfl⟩) hHeld ?_
  try simp only [Act.put, List.setIfInBounds_toArray, List.set_cons_zero, List.set_cons_succ]
  refine AnyT.take (i := 9) (v := undef) (by simp only [List.getElem?_toArray, List.getElem?_cons_succ, List.getElem?_cons_zero]; rfl) (by kernel_rfl) (by kernel_rfl) (by kernel_rfl) (by kernel_rfl) (by intro _ _ _ h; exact h) (Or.inr ⟨by rfl, rfl⟩) hHeld ?_
  try simp only [Act.put, List.setIfInBounds_toArray, List.set_cons_zero, List.set_cons_succ]
  refine AnyT.take (i := 10) (v := undef) (by simp only [List.getElem?_toArray, List.getElem?_cons_succ, List.getElem?_cons_zero]; rfl) (by kernel_rfl) (by kernel_rfl) (by kernel_rfl) (by kernel_rfl) (by intro _ _ _ h; exact h) (Or.inr ⟨by rfl, rfl⟩) hHeld ?_
  try simp only [Act.put, List.setIfInBounds_toArray, List.set_cons_zero, List.set_cons_succ]
  refine AnyT.take (i := 11) (v := undef) (by simp only [List.getElem?_toArray, List.getElem?_cons_succ, List.getElem?_cons_zero]; rfl) (by kernel_rfl) (by kernel_rfl) (by kernel_rfl) (by kernel_rfl) (by intro _ _ _ h; exact h) (Or.inr ⟨by rfl, rfl⟩) hHeld ?_
  try simp only [Act.put, List.setIfInBounds_toArray, List.set_cons_zero, List.set_cons_succ]
  refine AnyT.take (i := 12) (v := undef) (by simp only [List.getElem?_toArray, List.getElem?_cons_succ, List.getElem?_cons_zero]; rfl) (by kernel_rfl) (by kernel_rfl) (by kernel_rfl) (by kernel_rfl) (by intro _ _ _ h; exact h) (Or.inr ⟨by rfl, rfl⟩) hHeld ?_
  try simp only [Act.put, List.setIfInBounds_toArray, List.set_cons_zero, List.set_cons_succ]
  refine AnyT.take (i := 13) (v := undef) (by simp only [List.getElem?_toArray, List.getElem?_cons_succ, List.getElem?_cons_zero]; rfl) (by kernel_rfl) (by kernel_rfl) (by kernel_rfl) (by kernel_rfl) (by intro _ _ _ h; exact h) (Or.inr ⟨by rfl, rfl⟩) hHeld ?_
  try simp only [Act.put, List.setIfInBounds_toArray, List.set_cons_zero, List.set_cons_succ]
  refine AnyT.take (i := 14) (v := ?_) (by simp only [List.getElem?_toArray, List.getElem?_cons_succ, List.getElem?_cons_zero]; rfl) (by kernel_rfl) (by kernel_rfl) (by kernel_rfl) (by kernel_rfl) (by intro _ _ _ h; exact h) (Or.inl ⟨by rfl, fun w hSw => ?_⟩) hHeld ?_
  rotate_left
  · ((try dsimp only at hSw); go_simp; first | done | with_reducible rfl | rfl)
  try simp only [Act.put, List.setIfInBounds_toArray, List.set_cons_zero, List.set_cons_succ]
  refine AnyT.take (i := 15) (v := ?_) (by simp only [List.getElem?_toArray, List.getElem?_cons_succ, List.getElem?_cons_zero]; rfl) (by kernel_rfl) (by kernel_rfl) (by kernel_rfl) (by kernel_rfl) (by intro _ _ _ h; exact h) (Or.inl ⟨by rfl, fun w hSw => ?_⟩) hHeld ?_
  rotate_left
  · ((try dsimp only at hSw); go_simp; first | done | with_reducible rfl | rfl)
  try simp only [Act.put, List.setIfInBounds_toArray, List.set_cons_zero, List.set_cons_succ]
  refine AnyT.take (i := 16) (v := undef) (by simp only [List.getElem?_toArray, List.getElem?_cons_succ, List.getElem?_cons_zero]; rfl) (by kernel_rfl) (by kernel_rfl) (by kernel_rfl) (by kernel_rfl) (by intro _ _ _ h; exact h) (Or.inr ⟨by rfl, rfl⟩) hHeld ?_
  try simp only [Act.put, List.setIfInBounds_toArray, List.set_cons_zero, List.set_cons_succ]
  refine AnyT.take (i := 17) (v := undef) (by simp only [List.getElem?_toArray, List.getElem?_cons_succ, List.getElem?_cons_zero]; rfl) (by kernel_rfl) (by kernel_rfl) (by kernel_rfl) (by kernel_rfl) (by intro _ _ _ h; exact h) (Or.inr ⟨by rfl, rfl⟩) hHeld ?_
  try simp only [Act.put, List.setIfInBounds_toArray, List.set_cons_zero, List.set_cons_succ]
  refine AnyT.take (i := 18) (v := undef) (by simp only [List.getElem?_toArray, List.getElem?_cons_succ, List.getElem?_cons_zero]; rfl) (by kernel_rfl) (by kernel_rfl) (by kernel_rfl) (by kernel_rfl) (by intro _ _ _ h; exact h) (Or.inr ⟨by rfl, rfl⟩) hHeld ?_
  try simp only [Act.put, List.setIfInBounds_toArray, List.set_cons_zero, List.set_cons_succ]
  refine AnyT.take (i := 19) (v := undef) (by simp only [List.getElem?_toArray, List.getElem?_cons_succ, List.getElem?_cons_zero]; rfl) (by kernel_rfl) (by kernel_rfl) (by kernel_rfl) (by kernel_rfl) (by intro _ _ _ h; exact h) (Or.inr ⟨by rfl, rfl⟩) hHeld ?_
  try simp only [Act.put, List.setIfInBounds_toArray, List.set_cons_zero, List.set_cons_succ]
  refine AnyT.take (i := 20) (v := undef) (by simp only [List.getElem?_toArray, List.getElem?_cons_succ, List.getElem?_cons_zero]; rfl) (by kernel_rfl) (by kernel_rfl) (by kernel_rfl) (by kernel_rfl) (by intro _ _ _ h; exact h) (Or.inr ⟨by rfl, rfl⟩) hHeld ?_
  try simp only [Act.put, List.setIfInBounds_toArray, List.set_cons_zero, List.set_cons_succ]
  refine AnyT.take (i := 21) (v := undef) (by simp only [List.getElem?_toArray, List.getElem?_cons_succ, List.getElem?_cons_zero]; rfl) (by kernel_rfl) (by kernel_rfl) (by kernel_rfl) (by kernel_rfl) (by intro _ _ _ h; exact h) (Or.inr ⟨by rfl, rfl⟩) hHeld ?_
  try simp only [Act.put, List.setIfInBounds_toArray, List.set_cons_zero, List.set_cons_succ]
  refine AnyT.take (i := 22) (v := undef) (by simp only [List.getElem?_toArray, List.getElem?_cons_succ, List.getElem?_cons_zero]; rfl) (by kernel_rfl) (by kernel_rfl) (by kernel_rfl) (by kernel_rfl) (by intro _ _ _ h; exact h) (Or.inr ⟨by rfl, rfl⟩) hHeld ?_
  try simp only [Act.put, List.setIfInBounds_toArray, List.set_cons_zero, List.set_cons_succ]
  refine AnyT.take (i := 23) (v := undef) (by simp only [List.getElem?_toArray, List.getElem?_cons_succ, List.getElem?_cons_zero]; rfl) (by kernel_rfl) (by kernel_rfl) (by kernel_rfl) (by kernel_rfl) (by intro _ _ _ h; exact h) (Or.inr ⟨by rfl, rfl⟩) hHeld ?_
  try simp only [Act.put, List.setIfInBounds_toArray, List.set_cons_zero, List.set_cons_succ]
  refine AnyT.take (i := 24) (v := undef) (by simp only [List.getElem?_toArray, List.getElem?_cons_succ, List.getElem?_cons_zero]; rfl) (by kernel_rfl) (by kernel_rfl) (by kernel_rfl) (by kernel_rfl) (by intro _ _ _ h; exact h) (Or.inr ⟨by rfl, rfl⟩) hHeld ?_
  try simp only [Act.put, List.setIfInBounds_toArray, List.set_cons_zero, List.set_cons_succ]
  refine AnyT.take (i := 25) (v := undef) (by simp only [List.getElem?_toArray, List.getElem?_cons_succ, List.getElem?_cons_zero]; rfl) (by kernel_rfl) (by kernel_rfl) (by kernel_rfl) (by kernel_rfl) (by intro _ _ _ h; exact h) (Or.inr ⟨by rfl, rfl⟩) hHeld ?_
  try simp only [Act.put, List.setIfInBounds_toArray, List.set_cons_zero, List.set_cons_succ]
  refine AnyT.take (i := 26) (v := undef) (by simp only [List.getElem?_toArray, List.getElem?_cons_succ, List.getElem?_cons_zero]; rfl) (by kernel_rfl) (by kernel_rfl) (by kernel_rfl) (by kernel_rfl) (by intro _ _ _ h; exact h) (Or.inr ⟨by rfl, rfl⟩) hHeld ?_
  try simp only [Act.put, List.setIfInBounds_toArray, List.set_cons_zero, List.set_cons_succ]
  refine AnyT.take (i := 27) (v := undef) (by simp only [List.getElem?_toArray, List.getElem?_cons_succ, List.getElem?_cons_zero]; rfl) (by kernel_rfl) (by kernel_rfl) (by kernel_rfl) (by kernel_rfl) (by intro _ _ _ h; exact h) (Or.inr ⟨by rfl, rfl⟩) hHeld ?_
  try simp only [Act.put, List.setIfInBounds_toArray, List.set_cons_zero, List.set_cons_succ]
  refine AnyT.take (i := 28) (v := undef) (by simp only [List.getElem?_toArray, List.getElem?_cons_succ, List.getElem?_cons_zero]; rfl) (by kernel_rfl) (by kernel_rfl) (by kernel_rfl) (by kernel_rfl) (by intro _ _ _ h; exact h) (Or.inr ⟨by rfl, rfl⟩) hHeld ?_
  try simp only [Act.put, List.setIfInBounds_toArray, List.set_cons_zero, List.set_cons_succ]
  refine AnyT.take (i := 29) (v := undef) (by simp only [List.getElem?_toArray, List.getElem?_cons_succ, List.getElem?_cons_zero]; rfl) (by kernel_rfl) (by kernel_rfl) (by kernel_rfl) (by kernel_rfl) (by intro _ _ _ h; exact h) (Or.inr ⟨by rfl, rfl⟩) hHeld ?_
  try simp only [Act.put, List.setIfInBounds_toArray, List.set_cons_zero, List.set_cons_succ]
  refine AnyT.take (i := 30) (v := undef) (by simp only [List.getElem?_toArray, List.getElem?_cons_succ, List.getElem?_cons_zero]; rfl) (by kernel_rfl) (by kernel_rfl) (by kernel_rfl) (by kernel_rfl) (by intro _ _ _ h; exact h) (Or.inr ⟨by rfl, rfl⟩) hHeld ?_
  try simp only [Act.put, List.setIfInBounds_toArray, List.set_cons_zero, List.set_cons_succ]
  refine AnyT.take (i := 31) (v := undef) (by simp only [List.getElem?_toArray, List.getElem?_cons_succ, List.getElem?_cons_zero]; rfl) (by kernel_rfl) (by kernel_rfl) (by kernel_rfl) (by kernel_rfl) (by intro _ _ _ h; exact h) (Or.inr ⟨by rfl, rfl⟩) hHeld ?_
  try simp only [Act.put, List.setIfInBounds_toArray, List.set_cons_zero, List.set_cons_succ]
  refine AnyT.take (i := 32) (v := undef) (by simp only [List.getElem?_toArray, List.getElem?_cons_succ, List.getElem?_cons_zero]; rfl) (by kernel_rfl) (by kernel_rfl) (by kernel_rfl) (by kernel_rfl) (by intro _ _ _ h; exact h) (Or.inr ⟨by rfl, rfl⟩) hHeld ?_
  try simp only [Act.put, List.setIfInBounds_toArray, List.set_cons_zero, List.set_cons_succ]
  refine AnyT.take (i := 33) (v := undef) (by simp only [List.getElem?_toArray, List.getElem?_cons_succ, List.getElem?_cons_zero]; rfl) (by kernel_rfl) (by kernel_rfl) (by kernel_rfl) (by kernel_rfl) (by intro _ _ _ h; exact h) (Or.inr ⟨by rfl, rfl⟩) hHeld ?_
  try simp only [Act.put, List.setIfInBounds_toArray, List.set_cons_zero, List.set_cons_succ]
  refine AnyT.take (i := 34) (v := undef) (by simp only [List.getElem?_toArray, List.getElem?_cons_succ, List.getElem?_cons_zero]; rfl) (by kernel_rfl) (by kernel_rfl) (by kernel_rfl) (by kernel_rfl) (by intro _ _ _ h; exact h) (Or.inr ⟨by rfl, rfl⟩) hHeld ?_
  try simp only [Act.put, List.setIfInBounds_toArray, List.set_cons_zero, List.set_cons_succ]
  refine AnyT.take (i := 35) (v := ?_) (by simp only [List.getElem?_toArray, List.getElem?_cons_succ, List.getElem?_cons_zero]; rfl) (by kernel_rfl) (by kernel_rfl) (by kernel_rfl) (by kernel_rfl) (by intro _ _ _ h; exact h) (Or.inl ⟨by rfl, fun w hSw => ?_⟩) hHeld ?_
  rotate_left
  · ((try dsimp only at hSw); go_simp; first | done | with_reducible rfl | rfl)
  try simp only [Act.put, List.setIfInBounds_toArray, List.set_cons_zero, List.set_cons_succ]
  refine AnyT.done (by kernel_rfl) ?_ _
  clear hHeld i3
  have HO2 := hid HO1.out.drew
  obtain ⟨i1, i2, i3, i4, i5, i6, i7, i8, fz⟩ := iFr_cells HO2.out
  clear i1 i3 i4 i5 i6 i7 i8 fz HO1
  go_wp2_with fail
  refine (findGE_r g A kA n1 c1 b n2 c2 mh kn kc kv nd es key _ HD.out.ok (HO2.out.st HD.out.r (fun y hy => by simp [hy])) (HO2.out.st HK.out.1 (fun y hy => by simp [hy])) HK.out.2).mono ?_
  rintro e w3 ⟨rfl, ho3⟩
  obtain ⟨pp, hpp⟩ : ∃ pp, nodeOf es (mAt En.k es key) = pp := ⟨_, rfl⟩
  rw [hpp]
  have HP := hid hpp
  have HO3 := hid (HO2.out.only0 ho3)
  clear hpp ho3 i2 HO2
  obtain ⟨i1, i2, i3, i4, i5, i6, i7, i8, fz⟩ := iFr_cells HO3.out
  have HO4 := hid (iFr_node HO3.out pp)
  clear i1 i2 i3 i5 i6 i7 i8
  go_wp2_with fail
  refine (fill_fwd HD.out q (.pointer none) [] [] true _ _ (0 + mAt En.k es key) pp (.inl ⟨rfl, rfl, rfl⟩) HO4.out (by rw [← HP.out, Nat.zero_add])).mono ?_
  rintro e w4 hout
  have hout2 := fill_to hout
  rw [show rHi es [] = es.length from by unfold rHi; rw [if_pos rfl], Nat.sub_zero] at hout2
  obtain ⟨rfl, F', hI', hO'⟩ := hout2
  have HF := hid (And.intro hI' hO')
  clear hI' hO' hout
  go_wp2_with fail
  go_ret
  exact ⟨rfl, F', HF.out.1, HF.out.2⟩
def ISl (l : List UInt8) (F R : List Fr) (w0 : World) (e : Ending) (w' : World) : Prop := ∃ A c n, e = .returned (.slice A n c) ∧ n = l.length ∧ n ≤ c ∧ c ≤ maxLen ∧ Own (F ++ R) w0 w' ∧ BsAt w' A l
set_option maxHeartbeats 800000 in
theorem itKey {g : Nat} {A : Option Addr} {n1 c1 b n2 c2 mh : Nat} {kv : List UInt8} {nd : List Nat} {es : List En} {R : List Fr} {w0 w : World} (hD : DbD g A n1 c1 b n2 c2 mh kv nd es R w0) (q : Nat) (sv : Value) (node : Nat) (fwd : Bool) (vv0 : Value) (en : En) (hem : en ∈ es) (hO : Own (iFr q g sv node fwd (kSl A c1 en) vv0 :: R) w0 w) :
    Calls Tryd.prog 228 #[.pointer (some ⟨q, 0, none⟩)] w (ISl en.k [iFr q g sv node fwd (kSl A c1 en) vv0] R w0) := by
  have i6 := (iFr_cells hO).i6
  have hr := hO.st hD.r (fun y hy => by simp [hy])
  obtain ⟨p1, p2, p3, ke, ve, hF, hb1, hb2, hl1, hl2⟩ := hr.en hD.ok hem
  have HB := hid hb1
  have HF := hid (And.intro hF.g1 (And.intro hF.g2 hF.k1))
  have HL := hid hl1
  have HC := hid hD.cap
  have HO := hid hO
  clear hr hF hb1 hb2 hl1 hl2 hO hD hem
  unfold kSl at i6
  go_enter Tryd.func228, Tryd.ntmps228
  go_wp2_with fail
  go_ret
  have h1 := HF.out
  have h2 := HC.out
  exact ⟨_, _, _, rfl, HL.out, by omega, by omega, HO.out, HB.out⟩
set_option maxHeartbeats 800000 in
theorem itVal {g : Nat} {A : Option Addr} {n1 c1 b n2 c2 mh : Nat} {kv : List UInt8} {nd : List Nat} {es : List En} {R : List Fr} {w0 w : World} (hD : DbD g A n1 c1 b n2 c2 mh kv nd es R w0) (q : Nat) (sv : Value) (node : Nat) (fwd : Bool) (kv0 : Value) (en : En) (hem : en ∈ es) (hO : Own (iFr q g sv node fwd kv0 (vSl A c1 en) :: R) w0 w) :
    Calls Tryd.prog 235 #[.pointer (some ⟨q, 0, none⟩)] w (ISl en.v [iFr q g sv node fwd kv0 (vSl A c1 en)] R w0) := by
  have i7 := (iFr_cells hO).i7
  have hr := hO.st hD.r (fun y hy => by simp [hy])
  obtain ⟨p1, p2, p3, ke, ve, hF, hb1, hb2, hl1, hl2⟩ := hr.en hD.ok hem
  have hke : ke = en.nd.ko + en.nd.kl := by have := hF.k1; have := hF.g1; omega
  have HF := hid (And.intro hF.g3 (And.intro hF.g4 hF.k2))
  rw [hke] at hb2 HF
  have HB := hid hb2
  have HL := hid hl2
  have HC := hid hD.cap
  have HO := hid hO
  clear hr hF hb1 hb2 hl1 hl2 hO hD hem hke
  unfold vSl at i7
  go_enter Tryd.func235, Tryd.ntmps235
  go_wp2_with fail
  go_ret
  have h1 := HF.out
  have h2 := HC.out
  exact ⟨_, _, _, rfl, HL.out, by omega, by omega, HO.out, HB.out⟩
theorem itValid (q node : Nat) (w : World) (h : w.cell? ⟨q, 4, none⟩ = some (.int .i64 (node : Int))) :
    Calls Tryd.prog 234 #[.pointer (some ⟨q, 0, none⟩)] w fun e w' => e = .returned (.bool (decide (node ≠ 0))) ∧ w = w' := by
  by_cases h0 : node = 0
  · subst h0
    go_enter Tryd.func234, Tryd.ntmps234
    go_wp2_with fail
    go_ret
    exact ⟨rfl, rfl⟩
  · have n0 : ((node : Int) != 0) = true := by simpa using h0
    have HR := hid (show true = decide (node ≠ 0) by simp [h0])
    go_enter Tryd.func234, Tryd.ntmps234
    go_wp2_with fail
    go_ret
    rw [← HR.out]
    exact ⟨by first | rfl | rw [n0], rfl⟩
theorem itError (q : Nat) (w : World) (h : w.cell? ⟨q, 8, none⟩ = some .nilIface) :
    Calls Tryd.prog 226 #[.pointer (some ⟨q, 0, none⟩)] w fun e w' => e = .returned .nilIface ∧ w = w' := by
  go_enter Tryd.func226, Tryd.ntmps226
  go_wp2_with fail
  go_ret
  exact ⟨rfl, rfl⟩
theorem relRel (q : Nat) (cs : List Value) (R : List Fr) (w0 w : World) (hO : Own (fw q 234 (.nilIface :: .bool false :: cs) :: R) w0 w) :
    Calls Tryd.prog 189 #[.pointer (some ⟨q, 0, none⟩)] w fun e w' => e = .returned (.tuple #[]) ∧ Own (fw q 234 (.nilIface :: .bool true :: cs) :: R) w0 w' := by
  have i0 : w.cell? ⟨q, 0, none⟩ = some .nilIface := hO.cell 0 rfl (k := 0) 0 rfl (by simp)
  have i1 : w.cell? ⟨q, 1, none⟩ = some (.bool false) := hO.cell 0 rfl (k := 1) 1 rfl (by simp)
  have fz := hO.frozen 0 rfl 1
  have HO := hid (hO.set (k := 1) 1 rfl (by simp) (.bool true))
  clear hO
  go_enter Tryd.func189, Tryd.ntmps189
  go_wp2_with fail
  go_end0
  exact ⟨rfl, HO.out⟩
set_option maxHeartbeats 1600000 in
theorem itRelease (q g node : Nat) (sv kv0 vv0 : Value) (fwd : Bool) (R : List Fr) (w0 w : World) (hO : Own (iFr q g sv node fwd kv0 vv0 :: R) w0 w) :
    Calls Tryd.prog 232 #[.pointer (some ⟨q, 0, none⟩)] w fun e w' => e = .returned (.tuple #[]) ∧ ∃ F', Own (F' ++ R) w0 w' := by
  obtain ⟨i1, i2, i3, i4, i5, i6, i7, i8, fz⟩ := iFr_cells hO
  have h1 : Own (fw q 234 [.nilIface, .bool false, .pointer none, sv, .int .i64 (node : Int), .bool fwd, kv0, vv0, .nilIface] :: R) w0 (w.setCell ⟨q, 2, none⟩ (.pointer none)) := hO.set (k := 2) 2 rfl (by simp [iFr]) (.pointer none)
  have h2 : Own (fw q 234 [.nilIface, .bool false, .pointer none, sv, .int .i64 0, .bool fwd, kv0, vv0, .nilIface] :: R) w0 _ := h1.set (k := 4) 4 rfl (by simp) (.int .i64 0)
  have h3 : Own (fw q 234 [.nilIface, .bool false, .pointer none, sv, .int .i64 0, .bool fwd, .slice none 0 0, vv0, .nilIface] :: R) w0 _ := h2.set (k := 6) 6 rfl (by simp) (.slice none 0 0)
  have h4 : Own (fw q 234 [.nilIface, .bool false, .pointer none, sv, .int .i64 0, .bool fwd, .slice none 0 0, .slice none 0 0, .nilIface] :: R) w0 _ := h3.set (k := 7) 7 rfl (by simp) (.slice none 0 0)
  have HO := hid h4
  clear hO h1 h2 h3 h4
  go_enter Tryd.func232, Tryd.ntmps232
  go_wp2_with fail
  refine (released q w i1).mono ?_
  rintro e w1 ⟨rfl, rfl⟩
  go_wp2_with fail
  refine (relRel q _ R w0 _ HO.out).mono ?_
  rintro e w2 ⟨rfl, hO2⟩
  have HO2 := hid hO2
  clear hO2
  go_wp2_with fail
  go_end0
  exact ⟨rfl, [_], HO2.out⟩
end Go.Proofs.YtloflmcgbbbnjaaDoor
namespace Go.Proofs.YtloflmcgbbbnjaaDoor
open Go.RowKit Plain
set_option linter.all false

def dItM (q : Nat) : ItM where
  fi := (227, .pointer (some ⟨q, 0, none⟩))
  la := (229, .pointer (some ⟨q, 0, none⟩))
  ne := (230, .pointer (some ⟨q, 0, none⟩))
  pr := (231, .pointer (some ⟨q, 0, none⟩))
  se := (233, .pointer (some ⟨q, 0, none⟩))
  va := (234, .pointer (some ⟨q, 0, none⟩))
  ke := (228, .pointer (some ⟨q, 0, none⟩))
  vl := (235, .pointer (some ⟨q, 0, none⟩))
theorem fits_en {kv : List UInt8} {nd : List Nat} {mh : Nat} {es : List En} (ok : DbOk kv nd mh es) (hK : kv.length ≤ 2147483647) {e : En} (he : e ∈ es) : e.k.length ≤ 2147483647 ∧ e.v.length ≤ 2147483647 := by
  have h1 := (ok.key e he).1
  have h2 := (ok.val e he).1
  have h3 := ok.fit e he
  omega
theorem key_en (es : List En) (j : Nat) : (∃ e ∈ es, Plain.key (es.map En.kv) j = e.k ∧ Plain.val (es.map En.kv) j = e.v) ∨ (Plain.key (es.map En.kv) j = [] ∧ Plain.val (es.map En.kv) j = []) := by
  unfold Plain.key Plain.val
  rw [List.getD_eq_getElem?_getD, List.getElem?_map]
  cases h : es[j]? with
  | none => exact .inr ⟨rfl, rfl⟩
  | some e => exact .inl ⟨e, List.mem_of_getElem? h, rfl, rfl⟩
theorem key_at {es : List En} {j : Nat} {e : En} (h : es[j]? = some e) : Plain.key (es.map En.kv) j = e.k ∧ Plain.val (es.map En.kv) j = e.v := by
  unfold Plain.key Plain.val
  rw [List.getD_eq_getElem?_getD, List.getElem?_map, h]
  exact ⟨rfl, rfl⟩
def DbDD (g : Nat) (A : Option Addr) (n1 c1 b n2 c2 mh : Nat) (kv : List UInt8) (nd : List Nat) (es : List En) (R : List Fr) (w0 : World) : Prop := St R w0 fun w => DbR w g A n1 c1 b n2 c2 mh kv nd
/-- The iterator over all of it. -/
theorem dbIter (q g : Nat) (A : Option Addr) (n1 c1 b n2 c2 mh : Nat) (kv : List UInt8) (nd : List Nat) (es : List En) (ok : DbOk kv nd mh es) (cap : c1 ≤ maxLen) (hK : kv.length ≤ 2147483647) :
    Iter 232 (.pointer (some ⟨q, 0, none⟩)) (dItM q) (es.map En.kv) (II q g A c1 (.pointer none) es 0 es.length) (fun R w0 => St R w0 fun w => DbR w g A n1 c1 b n2 c2 mh kv nd) where
  mono := fun R R' w0 h hd => hd.mono h
  mfi := fun d w => by kernel_rfl
  cfi := fun args w => by kernel_rfl
  mla := fun d w => by kernel_rfl
  cla := fun args w => by kernel_rfl
  mne := fun d w => by kernel_rfl
  cne := fun args w => by kernel_rfl
  mpr := fun d w => by kernel_rfl
  cpr := fun args w => by kernel_rfl
  mse := fun d w => by kernel_rfl
  cse := fun args w => by kernel_rfl
  mva := fun d w => by kernel_rfl
  cva := fun args w => by kernel_rfl
  mke := fun d w => by kernel_rfl
  cke := fun args w => by kernel_rfl
  mvl := fun d w => by kernel_rfl
  cvl := fun args w => by kernel_rfl
  first := fun p F R w0 w hp hI hd hO => by
    obtain ⟨node, fwd, kv0, vv0, rfl, hat⟩ := hI
    refine (itFirst ⟨ok, hd, cap⟩ q (.pointer none) [] [] fwd node kv0 vv0 (.inl ⟨rfl, rfl, rfl⟩) hO).mono fun e w' h => ?_
    rw [show rLo es [] = 0 from by unfold rLo; rw [if_pos rfl], show rHi es [] = es.length from by unfold rHi; rw [if_pos rfl]] at h
    have := fill_to (lo := 0) (j := 0) h
    rw [List.length_map]
    exact this
  last := fun p F R w0 w hp hI hd hO => by
    obtain ⟨node, fwd, kv0, vv0, rfl, hat⟩ := hI
    rw [List.length_map]
    exact itLast ⟨ok, hd, cap⟩ q node fwd kv0 vv0 hO
  next := fun p F R w0 w hp hI hd hO => by
    rw [List.length_map] at hp ⊢
    have e1 : rLo es [] = 0 := by unfold rLo; rw [if_pos rfl]
    have e2 : rHi es [] = es.length := by unfold rHi; rw [if_pos rfl]
    have := itNext ⟨ok, hd, cap⟩ q (.pointer none) [] [] p F (.inl ⟨rfl, rfl, rfl⟩) (by rw [e1, e2]; exact hI) (by rw [e1, e2]; exact hp) hO
    rw [e1, e2] at this
    exact this
  prev := fun p F R w0 w hp hI hd hO => by
    rw [List.length_map] at hp ⊢
    exact itPrev ⟨ok, hd, cap⟩ q p F hI hp hO
  seek := fun p F R w0 w A' n c key hp hI hd hO hk hn hc hl => by
    obtain ⟨node, fwd, kv0, vv0, rfl, hat⟩ := hI
    rw [List.length_map, mAt_map]
    exact itSeek ⟨ok, hd, cap⟩ q node fwd kv0 vv0 A' n c key hO hk hn
  valid := fun p F R w0 w hp hI hd hO => by
    rw [List.length_map] at hp ⊢
    obtain ⟨node, fwd, kv0, vv0, rfl, hat⟩ := hI
    refine (itValid q node w (iFr_cells hO).i4).mono ?_
    rintro e w' ⟨rfl, rfl⟩
    refine ⟨?_, _, ⟨node, fwd, kv0, vv0, rfl, hat⟩, hO⟩
    rcases hat with ⟨i, en, rfl, hlt, he, rfl, _⟩ | ⟨hx, rfl, _⟩
    · have := ok.p16 (List.mem_of_getElem? he)
      rw [decide_eq_true (by omega), wval_iff.2 ⟨by omega, by omega⟩]
    · rw [decide_eq_false (by omega)]
      rcases hx with ⟨h1, _⟩ | ⟨_, h2, _⟩
      · rw [wval_not.2 (.inl h1)]
      · rw [wval_not.2 (.inr (by omega))]
  key := fun p F R w0 w hp hI hd hO => by
    rw [List.length_map] at hp
    have hp' := wval_iff.1 hp
    obtain ⟨node, fwd, kv0, vv0, rfl, hat⟩ := hI
    rcases hat with ⟨i, en, rfl, hlt, he, rfl, rfl, rfl⟩ | ⟨hx, _⟩
    · rw [Nat.zero_add] at he
      refine (itKey ⟨ok, hd, cap⟩ q _ _ fwd _ en (List.mem_of_getElem? he) hO).mono ?_
      rintro e w' ⟨A', c, n, rfl, h1, h2, h3, h4, h5⟩
      rw [show ((i : Int)).toNat = i by omega, (key_at he).1]
      exact ⟨A', c, n, _, rfl, h1, h2, h3, ⟨_, fwd, _, _, rfl, .inl ⟨i, en, rfl, hlt, by rw [Nat.zero_add]; exact he, rfl, rfl, rfl⟩⟩, h4, h5⟩
    · rcases hx with ⟨h1, _⟩ | ⟨_, h2, _⟩ <;> omega
  val := fun p F R w0 w hp hI hd hO => by
    rw [List.length_map] at hp
    have hp' := wval_iff.1 hp
    obtain ⟨node, fwd, kv0, vv0, rfl, hat⟩ := hI
    rcases hat with ⟨i, en, rfl, hlt, he, rfl, rfl, rfl⟩ | ⟨hx, _⟩
    · rw [Nat.zero_add] at he
      refine (itVal ⟨ok, hd, cap⟩ q _ _ fwd _ en (List.mem_of_getElem? he) hO).mono ?_
      rintro e w' ⟨A', c, n, rfl, h1, h2, h3, h4, h5⟩
      rw [show ((i : Int)).toNat = i by omega, (key_at he).2]
      exact ⟨A', c, n, _, rfl, h1, h2, h3, ⟨_, fwd, _, _, rfl, .inl ⟨i, en, rfl, hlt, by rw [Nat.zero_add]; exact he, rfl, rfl, rfl⟩⟩, h4, h5⟩
    · rcases hx with ⟨h1, _⟩ | ⟨_, h2, _⟩ <;> omega
  len := fun j => by
    rcases key_en es j with ⟨e, he, h1, h2⟩ | ⟨h1, h2⟩
    · rw [h1, h2]; exact fits_en ok hK he
    · rw [h1, h2]; simp
theorem rng_length (es : List En) (s e : List UInt8) : ((rng es s e).map En.kv).length = rHi es e - rLo es s := by
  unfold rng
  have := rHi_le es e
  rw [List.length_map, List.length_drop, List.length_take]; omega
theorem rng_get {es : List En} {s e : List UInt8} {i : Nat} {en : En} (h : es[rLo es s + i]? = some en) (hl : rLo es s + i < rHi es e) : (rng es s e)[i]? = some en := by
  unfold rng
  rw [List.getElem?_drop, List.getElem?_take, if_pos hl]; exact h
/-- The iterator over a range. -/
theorem dbIterR (q g : Nat) (A : Option Addr) (n1 c1 b n2 c2 mh : Nat) (kv : List UInt8) (nd : List Nat) (es : List En) (ok : DbOk kv nd mh es) (cap : c1 ≤ maxLen) (hK : kv.length ≤ 2147483647) (sv : Value) (s lim : List UInt8) :
    ItF 232 (.pointer (some ⟨q, 0, none⟩)) (dItM q) ((rng es s lim).map En.kv) (II q g A c1 sv es (rLo es s) (rHi es lim)) (fun R w0 => (St R w0 fun w => DbR w g A n1 c1 b n2 c2 mh kv nd) ∧ RgS R w0 sv s lim) where
  mono := fun R R' w0 h hd => ⟨hd.1.mono h, by
    rcases hd.2 with h1 | ⟨sg, v1, v2, h1, ⟨h2, h3, h4⟩⟩
    · exact .inl h1
    · refine .inr ⟨sg, v1, v2, h1, ⟨h2.mono h, ?_, ?_⟩⟩
      · rcases h3 with h3 | ⟨h5, x, y, z, h6, h7, h8, h9⟩
        · exact .inl h3
        · exact .inr ⟨h5, x, y, z, h6, h7, h8, h9.mono h⟩
      · rcases h4 with h3 | ⟨h5, x, y, z, h6, h7, h8, h9⟩
        · exact .inl h3
        · exact .inr ⟨h5, x, y, z, h6, h7, h8, h9.mono h⟩⟩
  mfi := fun d w => by kernel_rfl
  cfi := fun args w => by kernel_rfl
  mne := fun d w => by kernel_rfl
  cne := fun args w => by kernel_rfl
  mke := fun d w => by kernel_rfl
  cke := fun args w => by kernel_rfl
  mvl := fun d w => by kernel_rfl
  cvl := fun args w => by kernel_rfl
  first := fun p F R w0 w hp hI hd hO => by
    obtain ⟨node, fwd, kv0, vv0, rfl, hat⟩ := hI
    rw [rng_length]
    exact (itFirst ⟨ok, hd.1, cap⟩ q sv s lim fwd node kv0 vv0 hd.2 hO).mono fun e w' h => fill_to (j := 0) h
  next := fun p F R w0 w hp hI hd hO => by
    rw [rng_length] at hp ⊢
    have hp' := wval_iff.1 hp
    have := itNext ⟨ok, hd.1, cap⟩ q sv s lim p F hd.2 hI (by omega) hO
    rwa [show min (p + 1) ((rHi es lim - rLo es s : Nat) : Int) = p + 1 by omega] at this
  key := fun p F R w0 w hp hI hd hO => by
    rw [rng_length] at hp
    have hp' := wval_iff.1 hp
    obtain ⟨node, fwd, kv0, vv0, rfl, hat⟩ := hI
    rcases hat with ⟨i, en, rfl, hlt, he, rfl, rfl, rfl⟩ | ⟨hx, _⟩
    · refine (itKey ⟨ok, hd.1, cap⟩ q _ _ fwd _ en (List.mem_of_getElem? he) hO).mono ?_
      rintro e w' ⟨A', c, n, rfl, h1, h2, h3, h4, h5⟩
      rw [show ((i : Int)).toNat = i by omega, (key_at (rng_get he hlt)).1]
      exact ⟨A', c, n, _, rfl, h1, h2, h3, ⟨_, fwd, _, _, rfl, .inl ⟨i, en, rfl, hlt, he, rfl, rfl, rfl⟩⟩, h4, h5⟩
    · rcases hx with ⟨h1, _⟩ | ⟨_, h2, _⟩ <;> omega
  val := fun p F R w0 w hp hI hd hO => by
    rw [rng_length] at hp
    have hp' := wval_iff.1 hp
    obtain ⟨node, fwd, kv0, vv0, rfl, hat⟩ := hI
    rcases hat with ⟨i, en, rfl, hlt, he, rfl, rfl, rfl⟩ | ⟨hx, _⟩
    · refine (itVal ⟨ok, hd.1, cap⟩ q _ _ fwd _ en (List.mem_of_getElem? he) hO).mono ?_
      rintro e w' ⟨A', c, n, rfl, h1, h2, h3, h4, h5⟩
      rw [show ((i : Int)).toNat = i by omega, (key_at (rng_get he hlt)).2]
      exact ⟨A', c, n, _, rfl, h1, h2, h3, ⟨_, fwd, _, _, rfl, .inl ⟨i, en, rfl, hlt, he, rfl, rfl, rfl⟩⟩, h4, h5⟩
    · rcases hx with ⟨h1, _⟩ | ⟨_, h2, _⟩ <;> omega
  len := fun j => by
    rcases key_en (rng es s lim) j with ⟨e, he, h1, h2⟩ | ⟨h1, h2⟩
    · rw [h1, h2]
      refine fits_en ok hK ?_
      unfold rng at he
      exact List.mem_of_mem_take (List.mem_of_mem_drop he)
    · rw [h1, h2]; simp
/-- Its end. -/
theorem dbIterE (q g : Nat) (A : Option Addr) (c1 : Nat) (es : List En) (sv : Value) (lo hi n : Nat) (D : List Fr → World → Prop) :
    ItE 232 (.pointer (some ⟨q, 0, none⟩)) (226, .pointer (some ⟨q, 0, none⟩)) (232, .pointer (some ⟨q, 0, none⟩)) n (II q g A c1 sv es lo hi) D where
  mer := fun d w => by kernel_rfl
  cer := fun args w => by kernel_rfl
  mre := fun d w => by kernel_rfl
  cre := fun args w => by kernel_rfl
  err := fun p F R w0 w hp hI hd hO => by
    obtain ⟨node, fwd, kv0, vv0, rfl, hat⟩ := hI
    exact itError q w (iFr_cells hO).i8
  rel := fun p F R w0 w hp hI hd hO => by
    obtain ⟨node, fwd, kv0, vv0, rfl, hat⟩ := hI
    exact itRelease q g node sv kv0 vv0 fwd R w0 w hO
end Go.Proofs.YtloflmcgbbbnjaaDoor
namespace Go.Proofs.YtloflmcgbbbnjaaDoor
open Go.RowKit Plain
set_option linter.all false

def NItOut (g : Nat) (sv : Value) (R : List Fr) (w0 : World) (e : Ending) (w' : World) : Prop :=
  ∃ q, e = .returned (.iface 232 (.pointer (some ⟨q, 0, none⟩))) ∧ Own (iFr q g sv 0 false (.slice none 0 0) (.slice none 0 0) :: R) w0 w'
set_option maxHeartbeats 800000 in
theorem newIterator (g : Nat) (sv : Value) (x : Option Addr) (hsv : sv = .pointer x) (R : List Fr) (w0 w : World) (hO : Own R w0 w) :
    Calls Tryd.prog 72 #[.pointer (some ⟨g, 0, none⟩), sv] w (NItOut g sv R w0) := by
  subst hsv
  have hO1 : Own (iFr w.heap.size g (.pointer x) 0 false (.slice none 0 0) (.slice none 0 0) :: R) w0 (w.alloc (.cells #[.nilIface, .bool false, .pointer (some ⟨g, 0, none⟩), .pointer x, .int .i64 0, .bool false, .slice none 0 0, .slice none 0 0, .nilIface] 234)) := hO.alloc 234 [.nilIface, .bool false, .pointer (some ⟨g, 0, none⟩), .pointer x, .int .i64 0, .bool false, .slice none 0 0, .slice none 0 0, .nilIface]
  have HO1 := hid hO1
  clear hO hO1
  go_enter Tryd.func72, Tryd.ntmps72
  go_wp2_with fail
  go_ret
  exact ⟨w.heap.size, rfl, HO1.out⟩
def SlcOut (r : MO) (R : List Fr) (w0 : World) (e : Ending) (w' : World) : Prop :=
  ∃ (x : Option Addr) (F : List Fr), e = .returned (.pointer x) ∧ (r.kind ≠ 9 → x = none) ∧ (∀ R', (∀ y ∈ F, y ∈ R') → Rd R' w0 r.ka r.k → Rd R' w0 r.va r.v → r.kind = 9 → RgS R' w0 (.pointer x) r.k r.v) ∧ Own (F ++ R) w0 w'
theorem rgV_mk {R : List Fr} {w0 : World} {A : Option Addr} {c : Nat} {l : List UInt8} (h : Rd R w0 A l) (hw : ∃ w, BsAt w A l) (hl : l ≠ []) (hc : l.length ≤ c) (hm : l.length ≤ 2147483647) : RgV R w0 (.slice A l.length c) l := by
  obtain ⟨w, hw⟩ := hw
  obtain ⟨g, o, rfl, _, _⟩ := hw.addr (List.length_pos_iff.2 hl)
  exact .inr ⟨hl, g, o, c, rfl, hc, hm, h⟩
theorem rgd_mk {rb : Nat} {sv lv : Value} {R : List Fr} {w0 : World} (h : fw rb 222 [sv, lv] ∈ R) : St R w0 fun w => w.cell? ⟨rb, 0, none⟩ = some sv ∧ w.cell? ⟨rb, 1, none⟩ = some lv := fun w _ hb =>
  ⟨(hb _ h).cell (k := 0) (i := 0) rfl (by simp), (hb _ h).cell (k := 1) (i := 1) rfl (by simp)⟩
set_option maxHeartbeats 6400000 in
set_option maxRecDepth 100000 in
theorem slice_any (r : MO) (kn vn : Nat) (R : List Fr) (w0 w : World) (hO : Own R w0 w) (hk : Rd R w0 r.ka r.k) (hv : Rd R w0 r.va r.v) (hkn : kn = r.k.length) (hvn : vn = r.v.length) (hkc : r.k.length ≤ r.kc) (hvc : r.v.length ≤ r.vc) (hkb : kn ≤ 2147483647) (hvb : vn ≤ 2147483647) :
    Calls Tryd.prog 57 #[.agg #[.int .i64 r.kind, .slice r.ka kn r.kc, .slice r.va vn r.vc, .int .i64 r.n]] w (SlcOut r R w0) := by
  have HOK := hid (show _ ∧ _ ∧ _ ∧ _ from ⟨hO.st hk (fun _ h => h), hO.st hv (fun _ h => h), hkc, hvc⟩)
  have HRK := hid (And.intro hk hv)
  have HN := hid (And.intro hkn hvn)
  have hO1 : Own (fw w.heap.size 67 r.cells :: R) w0 (w.alloc (.cells r.cells.toArray 67)) := hO.alloc 67 r.cells
  have hO2 : Own (fw (w.heap.size + 1) 222 [.slice none 0 0, .slice none 0 0] :: fw w.heap.size 67 r.cells :: R) w0 ((w.alloc (.cells r.cells.toArray 67)).alloc (.cells #[.slice none 0 0, .slice none 0 0] 222)) := hO1.alloc' (g := w.heap.size + 1) (by simp) 222 [.slice none 0 0, .slice none 0 0]
  have HO1 := hid hO1
  have HO2 := hid hO2
  unfold MO.cells at HO1 HO2
  rw [← hkn, ← hvn] at HO1 HO2
  by_cases h9 : r.kind = 9
  · have HKD := hid h9
    have t0 : (r.kind != 9) = false := by simp [h9]
    clear h9
    clear hO hO1 hO2 hk hv hkn hvn hkc hvc
    rcases Nat.eq_zero_or_pos kn with hk0 | hk0 <;> rcases Nat.eq_zero_or_pos vn with hv0 | hv0
    · have t1 : decide ((kn : Int) > 0) = false := decide_eq_false (by omega)
      have t1' : decide (0 < kn) = false := decide_eq_false (by omega)
      have t2 : decide ((vn : Int) > 0) = false := decide_eq_false (by omega)
      have t2' : decide (0 < vn) = false := decide_eq_false (by omega)
      have HKV := hid (show _ ∧ _ from ⟨hk0, hv0⟩)
      have hO4 := HO1.out.alloc' (g := w.heap.size + 1) (by simp) 222 [.slice none 0 0, .slice none 0 0]
      have c0 : (w.alloc (.cells r.cells.toArray 67)).heap.size = w.heap.size + 1 := by simp
      have HO4 := hid hO4
      clear hk0 hv0 hO4 c0
      go_enter Tryd.func57, Tryd.ntmps57
      go_wp2_with fail
      go_ret
      refine ⟨some ⟨w.heap.size + 1, 0, none⟩, [fw (w.heap.size + 1) 222 [.slice none 0 0, .slice none 0 0], fw w.heap.size 67 [.int .i64 r.kind, .slice r.ka kn r.kc, .slice r.va vn r.vc, .int .i64 r.n]], rfl, fun h => absurd HKD.out h, fun R' hR' hrk hrv _ => ?_, HO4.out⟩
      refine .inr ⟨w.heap.size + 1, .slice none 0 0, .slice none 0 0, rfl, ⟨rgd_mk (hR' _ (by simp)), .inl ⟨List.eq_nil_of_length_eq_zero (by have := HKV.out.1; rw [← HN.out.1]; omega), rfl⟩, .inl ⟨List.eq_nil_of_length_eq_zero (by have := HKV.out.2; rw [← HN.out.2]; omega), rfl⟩⟩⟩
    · have t1 : decide ((kn : Int) > 0) = false := decide_eq_false (by omega)
      have t1' : decide (0 < kn) = false := decide_eq_false (by omega)
      have t2 : decide ((vn : Int) > 0) = true := decide_eq_true (by omega)
      have t2' : decide (0 < vn) = true := decide_eq_true (by omega)
      have HKV := hid (show _ ∧ _ from ⟨hk0, hv0⟩)
      have hO4 := HO1.out.alloc' (g := w.heap.size + 1) (by simp) 222 [.slice none 0 0, .slice r.va vn r.vc]
      have c0 : (w.alloc (.cells r.cells.toArray 67)).heap.size = w.heap.size + 1 := by simp
      have HO4 := hid hO4
      clear hk0 hv0 hO4 c0
      go_enter Tryd.func57, Tryd.ntmps57
      go_wp2_with fail
      go_ret
      refine ⟨some ⟨w.heap.size + 1, 0, none⟩, [fw (w.heap.size + 1) 222 [.slice none 0 0, .slice r.va vn r.vc], fw w.heap.size 67 [.int .i64 r.kind, .slice r.ka kn r.kc, .slice r.va vn r.vc, .int .i64 r.n]], rfl, fun h => absurd HKD.out h, fun R' hR' hrk hrv _ => ?_, HO4.out⟩
      refine .inr ⟨w.heap.size + 1, .slice none 0 0, .slice r.va vn r.vc, rfl, ⟨rgd_mk (hR' _ (by simp)), .inl ⟨List.eq_nil_of_length_eq_zero (by have := HKV.out.1; rw [← HN.out.1]; omega), rfl⟩, by rw [HN.out.2]; exact rgV_mk hrv ⟨w, HOK.out.2.1⟩ (by intro e; have := HKV.out.2; rw [HN.out.2, e] at this; simp at this) HOK.out.2.2.2 (by have := HN.out.2; omega)⟩⟩
    · have t1 : decide ((kn : Int) > 0) = true := decide_eq_true (by omega)
      have t1' : decide (0 < kn) = true := decide_eq_true (by omega)
      have t2 : decide ((vn : Int) > 0) = false := decide_eq_false (by omega)
      have t2' : decide (0 < vn) = false := decide_eq_false (by omega)
      have HKV := hid (show _ ∧ _ from ⟨hk0, hv0⟩)
      have hO4 := HO1.out.alloc' (g := w.heap.size + 1) (by simp) 222 [.slice r.ka kn r.kc, .slice none 0 0]
      have c0 : (w.alloc (.cells r.cells.toArray 67)).heap.size = w.heap.size + 1 := by simp
      have HO4 := hid hO4
      clear hk0 hv0 hO4 c0
      go_enter Tryd.func57, Tryd.ntmps57
      go_wp2_with fail
      go_ret
      refine ⟨some ⟨w.heap.size + 1, 0, none⟩, [fw (w.heap.size + 1) 222 [.slice r.ka kn r.kc, .slice none 0 0], fw w.heap.size 67 [.int .i64 r.kind, .slice r.ka kn r.kc, .slice r.va vn r.vc, .int .i64 r.n]], rfl, fun h => absurd HKD.out h, fun R' hR' hrk hrv _ => ?_, HO4.out⟩
      refine .inr ⟨w.heap.size + 1, .slice r.ka kn r.kc, .slice none 0 0, rfl, ⟨rgd_mk (hR' _ (by simp)), by rw [HN.out.1]; exact rgV_mk hrk ⟨w, HOK.out.1⟩ (by intro e; have := HKV.out.1; rw [HN.out.1, e] at this; simp at this) HOK.out.2.2.1 (by have := HN.out.1; omega), .inl ⟨List.eq_nil_of_length_eq_zero (by have := HKV.out.2; rw [← HN.out.2]; omega), rfl⟩⟩⟩
    · have t1 : decide ((kn : Int) > 0) = true := decide_eq_true (by omega)
      have t1' : decide (0 < kn) = true := decide_eq_true (by omega)
      have t2 : decide ((vn : Int) > 0) = true := decide_eq_true (by omega)
      have t2' : decide (0 < vn) = true := decide_eq_true (by omega)
      have HKV := hid (show _ ∧ _ from ⟨hk0, hv0⟩)
      have hO4 := HO1.out.alloc' (g := w.heap.size + 1) (by simp) 222 [.slice r.ka kn r.kc, .slice r.va vn r.vc]
      have c0 : (w.alloc (.cells r.cells.toArray 67)).heap.size = w.heap.size + 1 := by simp
      have HO4 := hid hO4
      clear hk0 hv0 hO4 c0
      go_enter Tryd.func57, Tryd.ntmps57
      go_wp2_with fail
      go_ret
      refine ⟨some ⟨w.heap.size + 1, 0, none⟩, [fw (w.heap.size + 1) 222 [.slice r.ka kn r.kc, .slice r.va vn r.vc], fw w.heap.size 67 [.int .i64 r.kind, .slice r.ka kn r.kc, .slice r.va vn r.vc, .int .i64 r.n]], rfl, fun h => absurd HKD.out h, fun R' hR' hrk hrv _ => ?_, HO4.out⟩
      refine .inr ⟨w.heap.size + 1, .slice r.ka kn r.kc, .slice r.va vn r.vc, rfl, ⟨rgd_mk (hR' _ (by simp)), by rw [HN.out.1]; exact rgV_mk hrk ⟨w, HOK.out.1⟩ (by intro e; have := HKV.out.1; rw [HN.out.1, e] at this; simp at this) HOK.out.2.2.1 (by have := HN.out.1; omega), by rw [HN.out.2]; exact rgV_mk hrv ⟨w, HOK.out.2.1⟩ (by intro e; have := HKV.out.2; rw [HN.out.2, e] at this; simp at this) HOK.out.2.2.2 (by have := HN.out.2; omega)⟩⟩
  · have HKD := hid h9
    have t0 : (r.kind != 9) = true := by simpa using h9
    clear hO hO1 hO2 hk hv hkn hvn hkc hvc HO2
    go_enter Tryd.func57, Tryd.ntmps57
    go_wp2_with fail
    go_ret
    exact ⟨none, [fw w.heap.size 67 [.int .i64 r.kind, .slice r.ka kn r.kc, .slice r.va vn r.vc, .int .i64 r.n]], rfl, fun _ => rfl, fun R' _ _ _ h => absurd h HKD.out, HO1.out⟩
end Go.Proofs.YtloflmcgbbbnjaaDoor
namespace Go.Proofs.YtloflmcgbbbnjaaDoor
open Go.RowKit Plain
set_option linter.all false

section
variable {g : Nat} {es : List En} {K N : Nat} {R : List Fr} {w0 w : World}
theorem DbSt.alloc (h : DbSt g es K N R w0 w) {q : Nat} (hq : w.heap.size = q) (t : TypeId) (cs : List Value) : DbSt g es K N (fw q t cs :: R) w0 (w.alloc (.cells cs.toArray t)) := by
  obtain ⟨x, A, n1, c1, b, n2, c2, pv, mh, kv, nd, F, G, hs, hO⟩ := h
  exact ⟨x, A, n1, c1, b, n2, c2, pv, mh, kv, nd, F, G, hs, (hO.alloc' hq t cs).perm (perm_of fun _ _ z => by simp only [List.count_append, List.count_cons, List.cons_append, List.count_nil, List.nil_append, List.append_nil]; omega)⟩
theorem DbSt.setR {q : Nat} {t : TypeId} {cs : List Value} (h : DbSt g es K N (fw q t cs :: R) w0 w) {i : Nat} (hi : i < cs.length) (u : Value) : DbSt g es K N (fw q t (cs.set i u) :: R) w0 (w.setCell ⟨q, i, none⟩ u) := by
  obtain ⟨x, A, n1, c1, b, n2, c2, pv, mh, kv, nd, F, G, hs, hO⟩ := h
  have h1 := (hO.perm (L' := fw q t cs :: (dFr g x A n1 c1 b n2 c2 pv mh es.length (szKv (es.map En.kv)) :: (F ++ (G ++ R)))) (perm_of fun _ _ z => by simp only [List.count_append, List.count_cons, List.cons_append, List.count_nil, List.nil_append, List.append_nil]; omega)).set (k := i) i (by simp) hi u
  have h2 : Own (fw q t (cs.set i u) :: (dFr g x A n1 c1 b n2 c2 pv mh es.length (szKv (es.map En.kv)) :: (F ++ (G ++ R)))) w0 (w.setCell ⟨q, i, none⟩ u) := h1
  exact ⟨x, A, n1, c1, b, n2, c2, pv, mh, kv, nd, F, G, hs, h2.perm (perm_of fun _ _ z => by simp only [List.count_append, List.count_cons, List.cons_append, List.count_nil, List.nil_append, List.append_nil]; omega)⟩
theorem DbSt.cellR {q : Nat} {t : TypeId} {cs : List Value} (h : DbSt g es K N (fw q t cs :: R) w0 w) {i : Nat} (hi : i < cs.length) : w.cell? ⟨q, i, none⟩ = cs[i]? := by
  obtain ⟨x, A, n1, c1, b, n2, c2, pv, mh, kv, nd, F, G, hs, hO⟩ := h
  exact (hO.perm (L' := fw q t cs :: (dFr g x A n1 c1 b n2 c2 pv mh es.length (szKv (es.map En.kv)) :: (F ++ (G ++ R)))) (perm_of fun _ _ z => by simp only [List.count_append, List.count_cons, List.cons_append, List.count_nil, List.nil_append, List.append_nil]; omega)).cell 0 rfl (k := i) i (by simp) hi
theorem DbSt.frozenR {q : Nat} {t : TypeId} {cs : List Value} (h : DbSt g es K N (fw q t cs :: R) w0 w) (i : Nat) : w.frozen? ⟨q, i, none⟩ = false := by
  obtain ⟨x, A, n1, c1, b, n2, c2, pv, mh, kv, nd, F, G, hs, hO⟩ := h
  exact (hO.perm (L' := fw q t cs :: (dFr g x A n1 c1 b n2 c2 pv mh es.length (szKv (es.map En.kv)) :: (F ++ (G ++ R)))) (perm_of fun _ _ z => by simp only [List.count_append, List.count_cons, List.cons_append, List.count_nil, List.nil_append, List.append_nil]; omega)).frozen 0 rfl i
/-- A call that owns its own: what it makes comes to the rest. -/
theorem DbSt.own (h : DbSt g es K N R w0 w) : ∃ D, Own (D ++ R) w0 w ∧ ∀ {R' : List Fr} {w' : World}, Own (D ++ R') w0 w' → DbSt g es K N R' w0 w' := by
  obtain ⟨x, A, n1, c1, b, n2, c2, pv, mh, kv, nd, F, G, hs, hO⟩ := h
  exact ⟨dFr g x A n1 c1 b n2 c2 pv mh es.length (szKv (es.map En.kv)) :: (F ++ G), hO.perm (perm_of fun _ _ z => by simp only [List.count_append, List.count_cons, List.cons_append, List.count_nil, List.nil_append, List.append_nil]; omega), fun h => ⟨x, A, n1, c1, b, n2, c2, pv, mh, kv, nd, F, G, hs, h.perm (perm_of fun _ _ z => by simp only [List.count_append, List.count_cons, List.cons_append, List.count_nil, List.nil_append, List.append_nil]; omega)⟩⟩
theorem stPut (h : DbSt g es K N R w0 w) (kA vA : Option Addr) (kn kc vn vc : Nat) (key val : List UInt8) (hk : Rd R w0 kA key) (hv : Rd R w0 vA val) (hkn : kn = key.length) (hvn : vn = val.length) (hK : K + kn + vn ≤ 1073741824) (hN : N + 1 ≤ 1048576) (hsz : szKv (es.map En.kv) ≤ K) (hel : es.length ≤ N) :
    Calls Tryd.prog 65 #[.pointer (some ⟨g, 0, none⟩), .slice kA kn kc, .slice vA vn vc] w (PutOut g es key val (K + kn + vn) (N + 1) R w0) := by
  obtain ⟨x, A, n1, c1, b, n2, c2, pv, mh, kv, nd, F, G, hs, hO⟩ := h
  cases hi : mIs En.k es key with
  | true => exact put_old_any g x A kA vA n1 c1 b n2 c2 mh kn kc vn vc K N pv kv nd F G es key val R w0 w hs hO hi hk hv hkn hvn hK (by omega) hsz
  | false => exact put_new_any g x A kA vA n1 c1 b n2 c2 mh kn kc vn vc K N pv kv nd F G es key val R w0 w hs hO hi hk hv hkn hvn hK hN hsz hel
theorem stDel (h : DbSt g es K N R w0 w) (kA : Option Addr) (kn kc : Nat) (key : List UInt8) (hk : Rd R w0 kA key) (hkn : kn = key.length) (hK : K ≤ 1073741824) (hN : N ≤ 1048576) (hsz : szKv (es.map En.kv) ≤ K) (hel : es.length ≤ N) :
    Calls Tryd.prog 66 #[.pointer (some ⟨g, 0, none⟩), .slice kA kn kc] w (DelOut g es key K N R w0) := by
  obtain ⟨x, A, n1, c1, b, n2, c2, pv, mh, kv, nd, F, G, hs, hO⟩ := h
  cases hi : mIs En.k es key with
  | true => exact del_is_any g x A kA n1 c1 b n2 c2 mh kn kc K N pv kv nd F G es key R w0 w hs hO hi hk hkn hK hN hsz hel
  | false => exact del_none g x A kA n1 c1 b n2 c2 mh kn kc K N pv kv nd F G es key R w0 w hs hO hi hk hkn hK hN
theorem stGet (h : DbSt g es K N R w0 w) (kA : Option Addr) (kn kc : Nat) (key : List UInt8) (hk : Rd R w0 kA key) (hkn : kn = key.length) (hK : K ≤ 1073741824) (hN : N ≤ 1048576) :
    Calls Tryd.prog 67 #[.pointer (some ⟨g, 0, none⟩), .slice kA kn kc] w (GetOut es key w) := by
  obtain ⟨x, A, n1, c1, b, n2, c2, pv, mh, kv, nd, F, G, hs, hO⟩ := h
  exact get_any g A kA n1 c1 b n2 c2 mh kn kc kv nd es key w hs.ok (hs.r hK hN hO) (hO.st hk fun y hy => by simp [hy]) hkn
theorem stFind (h : DbSt g es K N R w0 w) (kA : Option Addr) (kn kc : Nat) (key : List UInt8) (hk : Rd R w0 kA key) (hkn : kn = key.length) (hK : K ≤ 1073741824) (hN : N ≤ 1048576) :
    Calls Tryd.prog 68 #[.pointer (some ⟨g, 0, none⟩), .slice kA kn kc] w (FindOut es key w) := by
  obtain ⟨x, A, n1, c1, b, n2, c2, pv, mh, kv, nd, F, G, hs, hO⟩ := h
  exact find_any g A kA n1 c1 b n2 c2 mh kn kc kv nd es key w hs.ok (hs.r hK hN hO) (hO.st hk fun y hy => by simp [hy]) hkn
theorem stContains (h : DbSt g es K N R w0 w) (kA : Option Addr) (kn kc : Nat) (key : List UInt8) (hk : Rd R w0 kA key) (hkn : kn = key.length) (hK : K ≤ 1073741824) (hN : N ≤ 1048576) :
    Calls Tryd.prog 69 #[.pointer (some ⟨g, 0, none⟩), .slice kA kn kc] w fun e w' => e = .returned (.bool (mIs En.k es key)) ∧ Only [] w w' := by
  obtain ⟨x, A, n1, c1, b, n2, c2, pv, mh, kv, nd, F, G, hs, hO⟩ := h
  exact contains_any g A kA n1 c1 b n2 c2 mh kn kc kv nd es key w hs.ok (hs.r hK hN hO) (hO.st hk fun y hy => by simp [hy]) hkn
theorem stLen (h : DbSt g es K N R w0 w) : Calls Tryd.prog 70 #[.pointer (some ⟨g, 0, none⟩)] w fun e w' => e = .returned (.int .i64 (es.length : Int)) ∧ w = w' := by
  obtain ⟨x, A, n1, c1, b, n2, c2, pv, mh, kv, nd, F, G, hs, hO⟩ := h
  exact len_any g _ w (dFr_cells hs.hp hO).cn
theorem stSize (h : DbSt g es K N R w0 w) : Calls Tryd.prog 71 #[.pointer (some ⟨g, 0, none⟩)] w fun e w' => e = .returned (.int .i64 (szKv (es.map En.kv) : Int)) ∧ w = w' := by
  obtain ⟨x, A, n1, c1, b, n2, c2, pv, mh, kv, nd, F, G, hs, hO⟩ := h
  exact size_any g _ w (dFr_cells hs.hp hO).cz
theorem stFree (h : DbSt g es K N R w0 w) : Calls Tryd.prog 74 #[.pointer (some ⟨g, 0, none⟩)] w fun e w' => (∃ n, e = .returned (.int .i64 n)) ∧ Only [] w w' := by
  obtain ⟨x, A, n1, c1, b, n2, c2, pv, mh, kv, nd, F, G, hs, hO⟩ := h
  exact free_any g A n1 c1 w (dFr_cells hs.hp hO).q2
theorem stCap (h : DbSt g es K N R w0 w) : Calls Tryd.prog 75 #[.pointer (some ⟨g, 0, none⟩)] w fun e w' => (∃ n, e = .returned (.int .i64 n)) ∧ Only [] w w' := by
  obtain ⟨x, A, n1, c1, b, n2, c2, pv, mh, kv, nd, F, G, hs, hO⟩ := h
  exact capacity_any g A n1 c1 w (dFr_cells hs.hp hO).q2
/-- An iterator is made, and walked along. -/
def ItdOut (g : Nat) (es : List En) (K N : Nat) (ps : List KV) (vs : List Bool) (R : List Fr) (w0 : World) (e : Ending) (w' : World) : Prop :=
  ∃ (a : MAn) (kn vn : Nat) (G : List Fr), e = .returned (.agg #[.slice a.pA kn a.pc, .slice a.vA vn a.vc, .int .i64 a.n, .bool a.ok]) ∧ Hid (kn = a.l.length ∧ vn = a.vs.length) ∧ Hid (kvs a.l = ps ∧ a.vs = vs ∧ a.ok = true ∧ a.n = 0) ∧ Hid (∀ wb, St G wb fun w => a.Ok w) ∧ Hid (DbSt g es K N (G ++ R) w0 w')
def tps (m : List KV) (r : MO) : List KV := if r.kind = 8 then m.reverse else if r.kind = 9 then mRange Prod.fst m r.k (bnd r.v) else if r.kind = 10 then (wpl m.length (mAt Prod.fst m r.k : Nat) r.v (-1)).map (wkv m) else m
def tvs (m : List KV) (r : MO) : List Bool := if r.kind = 10 then (wpl m.length (mAt Prod.fst m r.k : Nat) r.v (-1)).map (wval m.length) else []
theorem stIterd (q g : Nat) (es : List En) (K N : Nat) (sv : Value) (r : MO) (kn vn : Nat) (R : List Fr) (w0 w : World) (x : Nat) (A : Option Addr) (n1 c1 b n2 c2 : Nat) (pv : List Nat) (mh : Nat) (kv : List UInt8) (nd : List Nat) (F G : List Fr)
    (hs : DbS es K N A n1 c1 b n2 c2 pv mh kv nd F G) (hO : Own (iFr q g sv 0 false (.slice none 0 0) (.slice none 0 0) :: (dFr g x A n1 c1 b n2 c2 pv mh es.length (szKv (es.map En.kv)) :: (F ++ (G ++ R)))) w0 w)
    (hkd : r.kind = 7 ∨ r.kind = 8 ∨ r.kind = 9 ∨ r.kind = 10) (h7 : r.kind ≠ 9 → sv = .pointer none) (h9 : ∀ R', (∀ y ∈ R, y ∈ R') → r.kind = 9 → RgS R' w0 sv r.k r.v) (hk : Rd R w0 r.ka r.k) (hv : Rd R w0 r.va r.v) (hkn : kn = r.k.length) (hvn : vn = r.v.length) (hkc : kn ≤ r.kc) (hkl : kn ≤ 2147483647) (hvl : vn ≤ 2147483647) (hK : K ≤ 1073741824) (hN : N ≤ 1048576) (hel : es.length ≤ N) :
    Calls Tryd.prog 58 #[.iface 232 (.pointer (some ⟨q, 0, none⟩)), .agg #[.int .i64 r.kind, .slice r.ka kn r.kc, .slice r.va vn r.vc, .int .i64 r.n]] w (ItdOut g es K N (tps (es.map En.kv) r) (tvs (es.map En.kv) r) R w0) := by
  have hfin : ∀ ps vs e w', ps = tps (es.map En.kv) r → vs = tvs (es.map En.kv) r → IdOut ps vs (dFr g x A n1 c1 b n2 c2 pv mh es.length (szKv (es.map En.kv)) :: (F ++ (G ++ R))) w0 e w' → ItdOut g es K N (tps (es.map En.kv) r) (tvs (es.map En.kv) r) R w0 e w' := by
    rintro ps vs e w' rfl rfl ⟨a, kn', vn', G', rfl, h1, h2, h3, h4⟩
    exact ⟨a, kn', vn', G', rfl, h1, h2, h3, hid ⟨x, A, n1, c1, b, n2, c2, pv, mh, kv, nd, F, G, hs, h4.out.perm (perm_of fun _ _ z => by simp only [List.count_append, List.count_cons, List.cons_append, List.count_nil, List.nil_append, List.append_nil]; omega)⟩⟩
  have hd : St (dFr g x A n1 c1 b n2 c2 pv mh es.length (szKv (es.map En.kv)) :: (F ++ (G ++ R))) w0 fun w => DbR w g A n1 c1 b n2 c2 mh kv nd := hs.st (w0 := w0) (g := g) (x := x) (n := es.length) (sz := szKv (es.map En.kv)) hK hN (by simp) (fun y hy => by simp [hy]) (fun y hy => by simp [hy])
  have hcap : c1 ≤ maxLen := hs.rk.cap
  have hkv : kv.length ≤ 2147483647 := by have := hs.bk; omega
  have hlen : (es.map En.kv).length ≤ 1073741824 := by rw [List.length_map]; omega
  have hup : ∀ y ∈ R, y ∈ dFr g x A n1 c1 b n2 c2 pv mh es.length (szKv (es.map En.kv)) :: (F ++ (G ++ R)) := fun y hy => by simp [hy]
  have hI : ∀ (lo hi : Nat), II q g A c1 sv es lo hi (-1) [iFr q g sv 0 false (.slice none 0 0) (.slice none 0 0)] := fun lo hi => ⟨0, false, _, _, rfl, .inr ⟨.inl ⟨by omega, rfl⟩, rfl, rfl, rfl⟩⟩
  rcases hkd with h | h | h | h
  · obtain rfl := h7 (by omega)
    have it := dbIter q g A n1 c1 b n2 c2 mh kv nd es hs.ok hcap hkv
    refine (iterd_on it.f (dbIterE q g A c1 es (.pointer none) 0 es.length _ _) (-1) _ _ w0 w ⟨by omega, by omega⟩ (hI 0 es.length) hd hO r.kind r.n (.inl h) r.ka r.va kn r.kc vn r.vc hlen).mono (hfin _ _ · · ?_ ?_)
    · simp [tps, h]
    · simp [tvs, h]
  · obtain rfl := h7 (by omega)
    have it := dbIter q g A n1 c1 b n2 c2 mh kv nd es hs.ok hcap hkv
    refine (iterd_back it (dbIterE q g A c1 es (.pointer none) 0 es.length _ _) (-1) _ _ w0 w ⟨by omega, by omega⟩ (hI 0 es.length) hd hO r.kind r.n h r.ka r.va kn r.kc vn r.vc hlen).mono (hfin _ _ · · ?_ ?_)
    · simp [tps, h]
    · simp [tvs, h]
  · have it := dbIterR q g A n1 c1 b n2 c2 mh kv nd es hs.ok hcap hkv sv r.k r.v
    have hrl : ((rng es r.k r.v).map En.kv).length ≤ 1073741824 := by
      rw [rng_length]
      have := rHi_le es r.v
      omega
    refine (iterd_on it (dbIterE q g A c1 es sv _ _ _ _) (-1) _ _ w0 w ⟨by omega, by omega⟩ (hI _ _) ⟨hd, h9 _ hup h⟩ hO r.kind r.n (.inr h) r.ka r.va kn r.kc vn r.vc hrl).mono (hfin _ _ · · ?_ ?_)
    · rw [rng_range hs.ok.asc]; simp [tps, h]
    · simp [tvs, h]
  · obtain rfl := h7 (by omega)
    have it := dbIter q g A n1 c1 b n2 c2 mh kv nd es hs.ok hcap hkv
    refine (iterd_script it (dbIterE q g A c1 es (.pointer none) 0 es.length _ _) _ _ w0 w (hI 0 es.length) hd hO r.kind r.n h r.ka r.va kn r.kc vn r.vc r.k r.v (hk.mono hup) (hv.mono hup) hkn hvn hkc hkl hvl hlen).mono (hfin _ _ · · ?_ ?_)
    · simp [tps, h]
    · simp [tvs, h]
end
end Go.Proofs.YtloflmcgbbbnjaaDoor
