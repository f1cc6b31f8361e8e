/-
  mergedIterator: where it stands, told by its iterators.
  mergedIterator: Next, but for going on forward; Key, Value, Valid.
-/
import Derived.Test.YtloflmcgbbbnjaaDoorMrgM7
import Derived.Test.YtloflmcgbbbnjaaDoorMrgM3
namespace Go.Proofs.YtloflmcgbbbnjaaDoor
open Go.RowKit Plain
set_option linter.all false

theorem cur_at {it : It} {c : Nat} {r : Pr} (h : it.l[c]? = some r) (hp : it.pos = (c : Int)) : it.cur = some r := by
  have hl := (List.getElem?_eq_some_iff.1 h).1
  unfold It.cur
  rw [if_pos (wval_iff.2 ⟨by omega, by omega⟩), hp]
  simpa using h
theorem cur_pos {it : It} {r : Pr} (h : it.cur = some r) : ∃ c : Nat, it.pos = (c : Int) ∧ it.l[c]? = some r := by
  unfold It.cur at h
  split at h
  · rename_i hv
    obtain ⟨h1, h2⟩ := wval_iff.1 hv
    exact ⟨it.pos.toNat, by omega, h⟩
  · cases h
theorem Plain.Mgd.step {Ls : List (List Pr)} {m : List Pr} (h : Mgd Pr.k Ls m) {P c : Nat} {x : Pr} (hx : m[P]? = some x) {L : List Pr} (hL : L ∈ Ls) (hc : L[c]? = some x) : cut Pr.k m P L = c ∧ cut Pr.k m (P + 1) L = c + 1 := by
  have hl := (List.getElem?_eq_some_iff.1 hc).1
  constructor
  · refine nat_cut (cut_le _ _ _) (by omega) fun i hi => ?_
    have hy := List.getElem?_eq_getElem hi
    obtain ⟨k, hk⟩ := h.at_ hL hy
    rw [h.cut_iff hL P hy hk, ← asc_lt h.asc hk hx, asc_lt (h.ls L hL) hy hc]
  · refine nat_cut (cut_le _ _ _) (by omega) fun i hi => ?_
    have hy := List.getElem?_eq_getElem hi
    obtain ⟨k, hk⟩ := h.at_ hL hy
    rw [h.cut_iff hL (P + 1) hy hk]
    have h1 := asc_lt h.asc hx hk
    have h2 := asc_lt (h.ls L hL) hc hy
    omega
/-- All stand at the pair of place Q, or at what follows next. -/
def PosF (m : List Pr) (its : List It) (Q : Nat) : Prop := ∀ (i : Nat) it, its[i]? = some it → it.l = [] ∨ it.pos = (cut Pr.k m Q it.l : Nat)
/-- All stand ahead of place Q. -/
def PosB (m : List Pr) (its : List It) (Q : Nat) : Prop := ∀ (i : Nat) it, its[i]? = some it → it.l = [] ∨ it.pos = (cut Pr.k m Q it.l : Nat) - 1
structure MSt (Ls : List (List Pr)) (m : List Pr) (its : List It) (idx dir p : Int) : Prop where
  ls : its.map It.l = Ls
  plc : ∀ it ∈ its, Plc it.l.length it.pos
  at_ : (dir = 0 ∧ p = -1) ∨ (dir = 1 ∧ p = (m.length : Int)) ∨
    (dir = 3 ∧ ∃ (P x : Nat) (it : It) (r : Pr), p = (P : Int) ∧ m[P]? = some r ∧ idx = (x : Int) ∧ its[x]? = some it ∧ it.cur = some r ∧ PosF m its P) ∨
    (dir = 2 ∧ ∃ (P x : Nat) (it : It) (r : Pr), p = (P : Int) ∧ m[P]? = some r ∧ idx = (x : Int) ∧ its[x]? = some it ∧ it.cur = some r ∧ PosB m its (P + 1))
theorem ls_mem {its : List It} {Ls : List (List Pr)} (h : its.map It.l = Ls) {i : Nat} {it : It} (hi : its[i]? = some it) : Ls[i]? = some it.l ∧ it.l ∈ Ls := by
  rw [← h]
  exact ⟨by rw [List.getElem?_map, hi]; rfl, List.mem_map.2 ⟨it, List.mem_of_getElem? hi, rfl⟩⟩
theorem ls_at {its : List It} {Ls : List (List Pr)} (h : its.map It.l = Ls) {i : Nat} {L : List Pr} (hi : Ls[i]? = some L) : ∃ it, its[i]? = some it ∧ it.l = L := by
  rw [← h, List.getElem?_map] at hi
  cases hx : its[i]? with
  | none => rw [hx] at hi; cases hi
  | some it => rw [hx] at hi; exact ⟨it, rfl, Option.some.inj hi⟩
/-- What next has found. -/
theorem next_done {Ls : List (List Pr)} {m : List Pr} (h : Mgd Pr.k Ls m) {its : List It} (hls : its.map It.l = Ls) {Q : Nat} (hQ : Q ≤ m.length) (hF : PosF m its Q) :
    (∀ (j : Nat) it r, its[j]? = some it → it.cur = some r → (∀ it' ∈ its, ∀ r', it'.cur = some r' → cmpI r.k r'.k ≤ 0) → m[Q]? = some r) ∧ ((∀ it ∈ its, it.cur = none) → Q = m.length) ∧ (∀ (j : Nat) it r, its[j]? = some it → it.cur = some r → Q < m.length) := by
  have hex : ∀ x, m[Q]? = some x → ∃ (j : Nat) (it : It), its[j]? = some it ∧ it.cur = some x := fun x hx => by
    obtain ⟨j, L, hj, hL, _⟩ := h.own hx
    obtain ⟨it, hi, rfl⟩ := ls_at hls hj
    rcases hF j it hi with h1 | h1
    · rw [h1] at hL; simp at hL
    · exact ⟨j, it, hi, cur_at hL h1⟩
  have hlt : ∀ (j : Nat) it r, its[j]? = some it → it.cur = some r → Q < m.length := fun j it r hj hc => by
    obtain ⟨c, e1, e2⟩ := cur_pos hc
    rcases Nat.lt_or_ge Q m.length with h1 | h1
    · exact h1
    · rcases hF j it hj with h2 | h2
      · rw [h2] at e2; simp at e2
      · rw [cut_end h1] at h2
        have := (List.getElem?_eq_some_iff.1 e2).1
        omega
  refine ⟨fun j it r hj hc hmin => ?_, fun hn => ?_, hlt⟩
  · have h1 := hlt j it r hj hc
    have hx := List.getElem?_eq_getElem h1
    obtain ⟨j0, it0, hj0, hc0⟩ := hex _ hx
    have h2 := hmin it0 (List.mem_of_getElem? hj0) _ hc0
    obtain ⟨c, e1, e2⟩ := cur_pos hc
    have hLm := (ls_mem hls hj).2
    have h3 : cut Pr.k m Q it.l = c := by
      rcases hF j it hj with h4 | h4
      · rw [h4] at e2; simp at e2
      · omega
    have h5 := h.ge hx hLm (by rw [h3]; exact e2)
    obtain ⟨k, hk⟩ := h.at_ hLm e2
    have h6 : r.k = m[Q].k := by
      have : cmpI r.k m[Q].k = 0 := by
        have := cmpI_anti r.k m[Q].k
        omega
      exact cmpI_eq.1 this
    have h7 := asc_inj h.asc hk hx h6
    rw [← h7]; exact hk
  · rcases Nat.lt_or_ge Q m.length with h1 | h1
    · obtain ⟨j, it, hj, hc⟩ := hex _ (List.getElem?_eq_getElem h1)
      rw [hn it (List.mem_of_getElem? hj)] at hc; cases hc
    · omega
theorem prev_done {Ls : List (List Pr)} {m : List Pr} (h : Mgd Pr.k Ls m) {its : List It} (hls : its.map It.l = Ls) {Q : Nat} (hQ : Q ≤ m.length) (hB : PosB m its Q) :
    (∀ (j : Nat) it r, its[j]? = some it → it.cur = some r → (∀ it' ∈ its, ∀ r', it'.cur = some r' → 0 ≤ cmpI r.k r'.k) → ∃ P, Q = P + 1 ∧ m[P]? = some r) ∧ ((∀ it ∈ its, it.cur = none) → Q = 0) ∧ (∀ (j : Nat) it r, its[j]? = some it → it.cur = some r → 0 < Q) := by
  have hex : ∀ P x, Q = P + 1 → m[P]? = some x → ∃ (j : Nat) (it : It), its[j]? = some it ∧ it.cur = some x := fun P x hP hx => by
    obtain ⟨j, L, hj, hL, hc⟩ := h.own hx
    obtain ⟨it, hi, rfl⟩ := ls_at hls hj
    rcases hB j it hi with h1 | h1
    · rw [h1] at hL; simp at hL
    · rw [hP, hc] at h1
      exact ⟨j, it, hi, cur_at hL (by omega)⟩
  have hlt : ∀ (j : Nat) it r, its[j]? = some it → it.cur = some r → 0 < Q := fun j it r hj hc => by
    obtain ⟨c, e1, e2⟩ := cur_pos hc
    rcases Nat.eq_zero_or_pos Q with h1 | h1
    · subst h1
      rcases hB j it hj with h2 | h2
      · rw [h2] at e2; simp at e2
      · rw [h.cut0 (ls_mem hls hj).2] at h2; omega
    · exact h1
  refine ⟨fun j it r hj hc hmax => ?_, fun hn => ?_, hlt⟩
  · have h1 := hlt j it r hj hc
    obtain ⟨P, rfl⟩ : ∃ P, Q = P + 1 := ⟨Q - 1, by omega⟩
    have hPl : P < m.length := by omega
    have hx := List.getElem?_eq_getElem hPl
    obtain ⟨j0, it0, hj0, hc0⟩ := hex P _ rfl hx
    have h2 := hmax it0 (List.mem_of_getElem? hj0) _ hc0
    obtain ⟨c, e1, e2⟩ := cur_pos hc
    have hLm := (ls_mem hls hj).2
    have h3 : cut Pr.k m (P + 1) it.l = c + 1 := by
      rcases hB j it hj with h4 | h4
      · rw [h4] at e2; simp at e2
      · omega
    have h5 := h.le hx hLm h3 e2
    obtain ⟨k, hk⟩ := h.at_ hLm e2
    have h6 : r.k = m[P].k := cmpI_eq.1 (by omega)
    have h7 := asc_inj h.asc hk hx h6
    exact ⟨P, rfl, by rw [← h7]; exact hk⟩
  · rcases Nat.eq_zero_or_pos Q with h1 | h1
    · exact h1
    · have hPl : Q - 1 < m.length := by omega
      obtain ⟨j, it, hj, hc⟩ := hex (Q - 1) _ (by omega) (List.getElem?_eq_getElem hPl)
      rw [hn it (List.mem_of_getElem? hj)] at hc; cases hc
/-- One more, forward. -/
theorem posF_step {Ls : List (List Pr)} {m : List Pr} (h : Mgd Pr.k Ls m) {its : List It} (hls : its.map It.l = Ls) {P x : Nat} {it : It} {r : Pr} (hF : PosF m its P) (hx : m[P]? = some r) (hi : its[x]? = some it) (hc : it.cur = some r) :
    PosF m (its.set x (it.to (min (it.pos + 1) (it.l.length : Int)))) (P + 1) := by
  obtain ⟨c, e1, e2⟩ := cur_pos hc
  have hxl := (List.getElem?_eq_some_iff.1 hi).1
  have hcl := (List.getElem?_eq_some_iff.1 e2).1
  obtain ⟨s1, s2⟩ := h.step hx (ls_mem hls hi).2 e2
  intro i it' hi'
  by_cases hix : i = x
  · subst hix
    rw [List.getElem?_set_self hxl] at hi'
    rw [← Option.some.inj hi']
    right
    show min (it.pos + 1) (it.l.length : Int) = (cut Pr.k m (P + 1) it.l : Nat)
    rw [s2]; omega
  · rw [List.getElem?_set_ne (by omega)] at hi'
    rcases hF i it' hi' with h1 | h1
    · exact .inl h1
    · right
      rw [h.other hx (ls_mem hls hi).1 (List.mem_of_getElem? e2) (ls_mem hls hi').1 hix]
      exact h1
theorem posB_step {Ls : List (List Pr)} {m : List Pr} (h : Mgd Pr.k Ls m) {its : List It} (hls : its.map It.l = Ls) {P x : Nat} {it : It} {r : Pr} (hB : PosB m its (P + 1)) (hx : m[P]? = some r) (hi : its[x]? = some it) (hc : it.cur = some r) :
    PosB m (its.set x (it.to (max (it.pos - 1) (-1)))) P := by
  obtain ⟨c, e1, e2⟩ := cur_pos hc
  have hxl := (List.getElem?_eq_some_iff.1 hi).1
  obtain ⟨s1, s2⟩ := h.step hx (ls_mem hls hi).2 e2
  intro i it' hi'
  by_cases hix : i = x
  · subst hix
    rw [List.getElem?_set_self hxl] at hi'
    rw [← Option.some.inj hi']
    right
    show max (it.pos - 1) (-1) = ((cut Pr.k m P it.l : Nat) : Int) - 1
    rw [s1]; omega
  · rw [List.getElem?_set_ne (by omega)] at hi'
    rcases hB i it' hi' with h1 | h1
    · exact .inl h1
    · right
      rw [h.other hx (ls_mem hls hi).1 (List.mem_of_getElem? e2) (ls_mem hls hi').1 hix] at h1
      exact h1
theorem to_l (it : It) (p : Int) : (it.to p).l = it.l := rfl
theorem set_ls {its : List It} {x : Nat} {it : It} (hi : its[x]? = some it) (p : Int) : (its.set x (it.to p)).map It.l = its.map It.l := by
  have hxl := (List.getElem?_eq_some_iff.1 hi).1
  apply List.ext_getElem?
  intro i
  rw [List.getElem?_map, List.getElem?_map]
  by_cases hix : i = x
  · subst hix
    rw [List.getElem?_set_self hxl, hi]; rfl
  · rw [List.getElem?_set_ne (by omega)]
end Go.Proofs.YtloflmcgbbbnjaaDoor
namespace Go.Proofs.YtloflmcgbbbnjaaDoor
open Go.RowKit Plain
set_option linter.all false

theorem MOutN.sub {mp KN ic kg : Nat} {iA : Option Addr} {its : List It} {R1 R2 : List Fr} {w0 w : World} {e : Ending} (hs : R2.Sublist R1) (h : MOutN mp iA KN ic kg its R1 w0 e w) : MOutN mp iA KN ic kg its R2 w0 e w := by
  rcases h with ⟨j, it, r, a1, a2, a3, a4, a5⟩ | ⟨a1, a2, ix, a3⟩
  · exact .inl ⟨j, it, r, a1, a2, a3, a4, a5.sub ((hs.cons₂ _).cons₂ _)⟩
  · exact .inr ⟨a1, a2, ix, a3.sub ((hs.cons₂ _).cons₂ _)⟩
theorem MOutP.sub {mp KN ic kg : Nat} {iA : Option Addr} {its : List It} {R1 R2 : List Fr} {w0 w : World} {e : Ending} (hs : R2.Sublist R1) (h : MOutP mp iA KN ic kg its R1 w0 e w) : MOutP mp iA KN ic kg its R2 w0 e w := by
  rcases h with ⟨j, it, r, a1, a2, a3, a4, a5⟩ | ⟨a1, a2, ix, a3⟩
  · exact .inl ⟨j, it, r, a1, a2, a3, a4, a5.sub ((hs.cons₂ _).cons₂ _)⟩
  · exact .inr ⟨a1, a2, ix, a3.sub ((hs.cons₂ _).cons₂ _)⟩
set_option maxHeartbeats 1600000 in
set_option maxRecDepth 100000 in
theorem mNextEnd (mp : Nat) (iA : Option Addr) (KN ic kg : Nat) (idx : Int) (w : World) (hc : MCells mp iA KN ic kg idx 1 w) :
    Calls Tryd.prog 200 #[.pointer (some ⟨mp, 0, none⟩)] w fun e w' => e = .returned (.bool false) ∧ Dr w w' := by
  obtain ⟨c0, c1, c2, c3, c4, c5, c6, f4, f5⟩ := hc
  go_enter Tryd.func200, Tryd.ntmps200
  go_wp2_with fail
  go_ret
  exact ⟨rfl, Dr.refl w⟩
set_option maxHeartbeats 1600000 in
set_option maxRecDepth 100000 in
theorem mPrevEnd (mp : Nat) (iA : Option Addr) (KN ic kg : Nat) (idx : Int) (w : World) (hc : MCells mp iA KN ic kg idx 0 w) :
    Calls Tryd.prog 201 #[.pointer (some ⟨mp, 0, none⟩)] w fun e w' => e = .returned (.bool false) ∧ Dr w w' := by
  obtain ⟨c0, c1, c2, c3, c4, c5, c6, f4, f5⟩ := hc
  go_enter Tryd.func201, Tryd.ntmps201
  go_wp2_with fail
  go_ret
  exact ⟨rfl, Dr.refl w⟩
set_option maxHeartbeats 1600000 in
set_option maxRecDepth 100000 in
theorem mNextS (mp : Nat) (iA : Option Addr) (KN ic kg : Nat) (idx : Int) (its : List It) (Fi R : List Fr) (w0 w : World) (hO : Own (mFr mp iA KN ic kg idx 0 :: fw kg 25 (its.map It.kv) :: (Fi ++ (its.map It.fr ++ R))) w0 w) (hrow : Row 106 1 iA KN ic (its.map It.iv) Fi) (hD : St R w0 (MData its)) (hK : KN = its.length) (hKl : KN ≤ 2147483647)
    (hll : ∀ it ∈ its, it.l.length ≤ 1099511627776) :
    Calls Tryd.prog 200 #[.pointer (some ⟨mp, 0, none⟩)] w (MOutN mp iA KN ic kg (its.map fun it => it.to (posFirst it)) (Fi ++ ((its.map fun it => it.to (posFirst it)).map It.fr ++ R)) w0) := by
  have HF := hid (mFirst mp iA KN ic kg idx 0 its Fi R w0 w hO hrow hD hK hKl (by decide) hll)
  obtain ⟨c0, c1, c2, c3, c4, c5, c6, f4, f5⟩ := mFr_cells hO
  clear hO hrow hD hK hll
  obtain ⟨st, hst⟩ : ∃ st, (its.map fun it => it.to (posFirst it)) = st := ⟨_, rfl⟩
  rw [hst] at HF ⊢
  go_enter Tryd.func200, Tryd.ntmps200
  go_wp2_with fail
  refine HF.out.mono ?_
  rintro e w3 (⟨j, itj, r, a1, a2, a3, rfl, hO3⟩ | ⟨a1, rfl, ix, hO3⟩)
  · have HA := hid (show _ ∧ _ ∧ _ ∧ _ from ⟨a1, a2, a3, hO3⟩)
    clear a1 a2 a3 hO3
    go_wp2_with fail
    go_ret
    exact .inl ⟨j, itj, r, HA.out.1, HA.out.2.1, HA.out.2.2.1, rfl, HA.out.2.2.2⟩
  · have HA := hid (show _ ∧ _ from ⟨a1, hO3⟩)
    clear a1 hO3
    go_wp2_with fail
    go_ret
    exact .inr ⟨HA.out.1, rfl, ix, HA.out.2⟩
set_option maxHeartbeats 1600000 in
set_option maxRecDepth 100000 in
theorem mPrevE (mp : Nat) (iA : Option Addr) (KN ic kg : Nat) (idx : Int) (its : List It) (Fi R : List Fr) (w0 w : World) (hO : Own (mFr mp iA KN ic kg idx 1 :: fw kg 25 (its.map It.kv) :: (Fi ++ (its.map It.fr ++ R))) w0 w) (hrow : Row 106 1 iA KN ic (its.map It.iv) Fi) (hD : St R w0 (MData its)) (hK : KN = its.length) (hKl : KN ≤ 2147483647)
    (hll : ∀ it ∈ its, it.l.length ≤ 1099511627776) :
    Calls Tryd.prog 201 #[.pointer (some ⟨mp, 0, none⟩)] w (MOutP mp iA KN ic kg (its.map fun it => it.to (posLast it)) (Fi ++ ((its.map fun it => it.to (posLast it)).map It.fr ++ R)) w0) := by
  have HF := hid (mLast mp iA KN ic kg idx 1 its Fi R w0 w hO hrow hD hK hKl (by decide) hll)
  obtain ⟨c0, c1, c2, c3, c4, c5, c6, f4, f5⟩ := mFr_cells hO
  clear hO hrow hD hK hll
  obtain ⟨st, hst⟩ : ∃ st, (its.map fun it => it.to (posLast it)) = st := ⟨_, rfl⟩
  rw [hst] at HF ⊢
  go_enter Tryd.func201, Tryd.ntmps201
  go_wp2_with fail
  refine HF.out.mono ?_
  rintro e w3 (⟨j, itj, r, a1, a2, a3, rfl, hO3⟩ | ⟨a1, rfl, ix, hO3⟩)
  · have HA := hid (show _ ∧ _ ∧ _ ∧ _ from ⟨a1, a2, a3, hO3⟩)
    clear a1 a2 a3 hO3
    go_wp2_with fail
    go_ret
    exact .inl ⟨j, itj, r, HA.out.1, HA.out.2.1, HA.out.2.2.1, rfl, HA.out.2.2.2⟩
  · have HA := hid (show _ ∧ _ from ⟨a1, hO3⟩)
    clear a1 hO3
    go_wp2_with fail
    go_ret
    exact .inr ⟨HA.out.1, rfl, ix, HA.out.2⟩
set_option maxHeartbeats 1600000 in
set_option maxRecDepth 100000 in
theorem mValid (mp : Nat) (iA : Option Addr) (KN ic kg : Nat) (idx dir : Int) (w : World) (hc : MCells mp iA KN ic kg idx dir w) :
    Calls Tryd.prog 205 #[.pointer (some ⟨mp, 0, none⟩)] w fun e w' => e = .returned (.bool (decide (1 < dir))) ∧ Dr w w' := by
  obtain ⟨c0, c1, c2, c3, c4, c5, c6, f4, f5⟩ := hc
  go_enter Tryd.func205, Tryd.ntmps205
  go_wp2_with fail
  go_ret
  exact ⟨rfl, Dr.refl w⟩
set_option maxHeartbeats 1600000 in
set_option maxRecDepth 100000 in
theorem mKey (mp : Nat) (iA : Option Addr) (KN ic kg x : Nat) (dir : Int) (v : Value) (w : World) (hc : MCells mp iA KN ic kg (x : Int) dir w) (hd : 1 < dir) (hx : x < KN) (hk : w.cell? ⟨kg, x, none⟩ = some v) :
    Calls Tryd.prog 198 #[.pointer (some ⟨mp, 0, none⟩)] w fun e w' => e = .returned v ∧ Dr w w' := by
  obtain ⟨c0, c1, c2, c3, c4, c5, c6, f4, f5⟩ := hc
  have t0 : decide (dir ≤ 1) = false := decide_eq_false (by omega)
  have t1 : (x : Int) < (KN : Int) := by omega
  go_enter Tryd.func198, Tryd.ntmps198
  go_wp2_with fail
  refine AnyT.start (S := fun w' => w'.cell? ⟨mp, 3, none⟩ = some (.slice (some ⟨kg, 0, none⟩) KN KN) ∧ w'.cell? ⟨mp, 4, none⟩ = some (.int .i64 (x : Int)) ∧ w'.cell? ⟨kg, x, none⟩ = some v) (T := []) (by kernel_rfl) (⟨c3, c4, hk⟩) (fun hHeld => ?_)
  refine AnyT.take (i := 0) (v := ?_) (by simp only [List.getElem?_toArray, List.getElem?_cons_succ, List.getElem?_cons_zero]; rfl) (by kernel_rfl) (by kernel_rfl) (by kernel_rfl) (by kernel_rfl) (by intro _ _ _ h; exact h) (Or.inl ⟨by rfl, fun w hSw => ?_⟩) hHeld ?_
  rotate_left
  · ((try dsimp only at hSw); go_simp; first | done | with_reducible rfl | rfl)
  try simp only [Act.put, List.setIfInBounds_toArray, List.set_cons_zero, List.set_cons_succ]
  refine AnyT.take (i := 1) (v := ?_) (by simp only [List.getElem?_toArray, List.getElem?_cons_succ, List.getElem?_cons_zero]; rfl) (by kernel_rfl) (by kernel_rfl) (by kernel_rfl) (by kernel_rfl) (by intro _ _ _ h; exact h) (Or.inl ⟨by rfl, fun w hSw => ?_⟩) hHeld ?_
  rotate_left
  · ((try dsimp only at hSw); go_simp; first | done | with_reducible rfl | rfl)
  try simp only [Act.put, List.setIfInBounds_toArray, List.set_cons_zero, List.set_cons_succ]
  refine AnyT.take (i := 2) (v := ?_) (by simp only [List.getElem?_toArray, List.getElem?_cons_succ, List.getElem?_cons_zero]; rfl) (by kernel_rfl) (by kernel_rfl) (by kernel_rfl) (by kernel_rfl) (by intro _ _ _ h; exact h) (Or.inl ⟨by rfl, fun w hSw => ?_⟩) hHeld ?_
  rotate_left
  · ((try dsimp only at hSw); go_simp; first | done | with_reducible rfl | rfl)
  try simp only [Act.put, List.setIfInBounds_toArray, List.set_cons_zero, List.set_cons_succ]
  refine AnyT.take (i := 3) (v := ?_) (by simp only [List.getElem?_toArray, List.getElem?_cons_succ, List.getElem?_cons_zero]; rfl) (by kernel_rfl) (by kernel_rfl) (by kernel_rfl) (by kernel_rfl) (by intro _ _ _ h; exact h) (Or.inl ⟨by rfl, fun w hSw => ?_⟩) hHeld ?_
  rotate_left
  · ((try dsimp only at hSw); go_simp; first | done | with_reducible rfl | rfl)
  try simp only [Act.put, List.setIfInBounds_toArray, List.set_cons_zero, List.set_cons_succ]
  refine AnyT.take (i := 4) (v := ?_) (by simp only [List.getElem?_toArray, List.getElem?_cons_succ, List.getElem?_cons_zero]; rfl) (by kernel_rfl) (by kernel_rfl) (by kernel_rfl) (by kernel_rfl) (by intro _ _ _ h; exact h) (Or.inl ⟨by rfl, fun w hSw => ?_⟩) hHeld ?_
  rotate_left
  · ((try dsimp only at hSw); go_simp; first | done | with_reducible rfl | rfl)
  try simp only [Act.put, List.setIfInBounds_toArray, List.set_cons_zero, List.set_cons_succ]
  refine AnyT.take (i := 5) (v := ?_) (by simp only [List.getElem?_toArray, List.getElem?_cons_succ, List.getElem?_cons_zero]; rfl) (by kernel_rfl) (by kernel_rfl) (by kernel_rfl) (by kernel_rfl) (by intro _ _ _ h; exact h) (Or.inl ⟨by rfl, fun w hSw => ?_⟩) hHeld ?_
  rotate_left
  · ((try dsimp only at hSw); go_simp; first | done | with_reducible rfl | rfl)
  try simp only [Act.put, List.setIfInBounds_toArray, List.set_cons_zero, List.set_cons_succ]
  refine AnyT.take (i := 6) (v := ?_) (by simp only [List.getElem?_toArray, List.getElem?_cons_succ, List.getElem?_cons_zero]; rfl) (by kernel_rfl) (by kernel_rfl) (by kernel_rfl) (by kernel_rfl) (by intro _ _ _ h; exact h) (Or.inl ⟨by rfl, fun w hSw => ?_⟩) hHeld ?_
  rotate_left
  · ((try dsimp only at hSw); go_simp; first | done | with_reducible rfl | rfl)
  try simp only [Act.put, List.setIfInBounds_toArray, List.set_cons_zero, List.set_cons_succ]
  refine AnyT.take (i := 7) (v := ?_) (by simp only [List.getElem?_toArray, List.getElem?_cons_succ, List.getElem?_cons_zero]; rfl) (by kernel_rfl) (by kernel_rfl) (by kernel_rfl) (by kernel_rfl) (by intro _ _ _ h; exact h) (Or.inl ⟨by rfl, fun w hSw => ?_⟩) hHeld ?_
  rotate_left
  · ((try dsimp only at hSw); go_simp; first | done | with_reducible rfl | rfl)
  try simp only [Act.put, List.setIfInBounds_toArray, List.set_cons_zero, List.set_cons_succ]
  refine AnyT.take (i := 8) (v := ?_) (by simp only [List.getElem?_toArray, List.getElem?_cons_succ, List.getElem?_cons_zero]; rfl) (by kernel_rfl) (by kernel_rfl) (by kernel_rfl) (by kernel_rfl) (by intro _ _ _ h; exact h) (Or.inl ⟨by rfl, fun w hSw => ?_⟩) hHeld ?_
  rotate_left
  · ((try dsimp only at hSw); go_simp; first | done | with_reducible rfl | rfl)
  try simp only [Act.put, List.setIfInBounds_toArray, List.set_cons_zero, List.set_cons_succ]
  refine AnyT.take (i := 9) (v := ?_) (by simp only [List.getElem?_toArray, List.getElem?_cons_succ, List.getElem?_cons_zero]; rfl) (by kernel_rfl) (by kernel_rfl) (by kernel_rfl) (by kernel_rfl) (by intro _ _ _ h; exact h) (Or.inl ⟨by rfl, fun w hSw => ?_⟩) hHeld ?_
  rotate_left
  · ((try dsimp only at hSw); go_simp; first | done | with_reducible rfl | rfl)
  try simp only [Act.put, List.setIfInBounds_toArray, List.set_cons_zero, List.set_cons_succ]
  refine AnyT.take (i := 10) (v := ?_) (by simp only [List.getElem?_toArray, List.getElem?_cons_succ, List.getElem?_cons_zero]; rfl) (by kernel_rfl) (by kernel_rfl) (by kernel_rfl) (by kernel_rfl) (by intro _ _ _ h; exact h) (Or.inl ⟨by rfl, fun w hSw => ?_⟩) hHeld ?_
  rotate_left
  · ((try dsimp only at hSw); go_simp; first | done | with_reducible rfl | rfl)
  try simp only [Act.put, List.setIfInBounds_toArray, List.set_cons_zero, List.set_cons_succ]
  refine AnyT.done (by kernel_rfl) ?_ _
  clear hHeld
  go_wp2_with fail
  go_ret
  exact ⟨rfl, (Dr.refl w).drew⟩
def MVOut (mp : Nat) (iA : Option Addr) (KN ic kg x : Nat) (dir : Int) (its : List It) (it : It) (Fi R : List Fr) (w0 : World) (e : Ending) (w' : World) : Prop :=
  e = .returned (aVal it.l it.pos) ∧ Own (mFr mp iA KN ic kg (x : Int) dir :: fw kg 25 ((its.set x (it.to it.pos)).map It.kv) :: (Fi ++ ((its.set x (it.to it.pos)).map It.fr ++ R))) w0 w'
set_option maxHeartbeats 1600000 in
set_option maxRecDepth 100000 in
theorem mValue (mp : Nat) (iA : Option Addr) (KN ic kg x : Nat) (dir : Int) (its : List It) (it : It) (Fi R : List Fr) (w0 w : World) (hO : Own (mFr mp iA KN ic kg (x : Int) dir :: fw kg 25 (its.map It.kv) :: (Fi ++ (its.map It.fr ++ R))) w0 w) (hx : its[x]? = some it) (hv : wval it.l.length it.pos = true) (hrow : Row 106 1 iA KN ic (its.map It.iv) Fi) (hD : St R w0 (MData its)) (hK : KN = its.length) (hd : 1 < dir) :
    Calls Tryd.prog 206 #[.pointer (some ⟨mp, 0, none⟩)] w (MVOut mp iA KN ic kg x dir its it Fi R w0) := by
  obtain ⟨c0, c1, c2, c3, c4, c5, c6, f4, f5⟩ := mFr_cells hO
  have t0 : decide (dir ≤ 1) = false := decide_eq_false (by omega)
  have hxs : x < its.length := (List.getElem?_eq_some_iff.1 hx).1
  have t1 : (x : Int) < (KN : Int) := by omega
  have hics : CsAt w iA (its.map It.iv) := hrow.cs fun y hy => hO.ins y (by simp [hy])
  obtain ⟨ig, io, rfl, k0⟩ := hics x (by simpa using hxs)
  rw [List.getElem?_map, hx] at k0
  have k1 : w.cell? ⟨ig, io + x, none⟩ = some (.iface 187 (.pointer (some ⟨it.q, 0, none⟩))) := k0
  have hO1 := hO.perm (L' := it.fr :: (mFr mp (some ⟨ig, io, none⟩) KN ic kg (x : Int) dir :: fw kg 25 (its.map It.kv) :: (Fi ++ ((its.eraseIdx x).map It.fr ++ R)))) (((its_out hx).append_right R |>.append_left Fi |>.cons _ |>.cons _).trans (perm_of fun _ _ z => by simp only [List.count_append, List.count_cons, List.cons_append, List.count_nil, List.nil_append, List.append_nil]; omega))
  have hPX : St R w0 (fun w => Prs w it.A it.l) := hD.imp fun w hm => (hm it (List.mem_of_getElem? hx)).1
  have HV := hid (aValM it.q it.A it.l.length it.c it.pos it.apos (aKey it.l it.apos) (aVal it.l it.apos) it.l _ w0 w.drew hO1.drew ((((hPX.right ((its.eraseIdx x).map It.fr)).right Fi).cons _).cons _) rfl ⟨rfl, rfl⟩)
  have hto : (it.to it.pos).fr = aFr it.q (arrV it.A it.l.length it.c) it.pos it.pos (aKey it.l it.pos) (aVal it.l it.pos) := by unfold It.to It.fr; simp only [hv, if_true]
  have HTO := hid hto
  have HSX := hid hx
  have HROW := hid hrow
  have m1 := m_aValue
  clear hO hO1 hics hrow hD hPX k0 hto hK
  go_enter Tryd.func206, Tryd.ntmps206
  go_wp2_with fail
  refine AnyT.start (S := fun w' => w'.cell? ⟨mp, 1, none⟩ = some (.slice (some ⟨ig, io, none⟩) KN ic) ∧ w'.cell? ⟨mp, 4, none⟩ = some (.int .i64 (x : Int)) ∧ w'.cell? ⟨ig, io + x, none⟩ = some (.iface 187 (.pointer (some ⟨it.q, 0, none⟩)))) (T := []) (by kernel_rfl) (⟨c1, c4, k1⟩) (fun hHeld => ?_)
  refine AnyT.take (i := 0) (v := ?_) (by simp only [List.getElem?_toArray, List.getElem?_cons_succ, List.getElem?_cons_zero]; rfl) (by kernel_rfl) (by kernel_rfl) (by kernel_rfl) (by kernel_rfl) (by intro _ _ _ h; exact h) (Or.inl ⟨by rfl, fun w hSw => ?_⟩) hHeld ?_
  rotate_left
  · ((try dsimp only at hSw); go_simp; first | done | with_reducible rfl | rfl)
  try simp only [Act.put, List.setIfInBounds_toArray, List.set_cons_zero, List.set_cons_succ]
  refine AnyT.take (i := 1) (v := ?_) (by simp only [List.getElem?_toArray, List.getElem?_cons_succ, List.getElem?_cons_zero]; rfl) (by kernel_rfl) (by kernel_rfl) (by kernel_rfl) (by kernel_rfl) (by intro _ _ _ h; exact h) (Or.inl ⟨by rfl, fun w hSw => ?_⟩) hHeld ?_
  rotate_left
  · ((try dsimp only at hSw); go_simp; first | done | with_reducible rfl | rfl)
  try simp only [Act.put, List.setIfInBounds_toArray, List.set_cons_zero, List.set_cons_succ]
  refine AnyT.take (i := 2) (v := ?_) (by simp only [List.getElem?_toArray, List.getElem?_cons_succ, List.getElem?_cons_zero]; rfl) (by kernel_rfl) (by kernel_rfl) (by kernel_rfl) (by kernel_rfl) (by intro _ _ _ h; exact h) (Or.inl ⟨by rfl, fun w hSw => ?_⟩) hHeld ?_
  rotate_left
  · ((try dsimp only at hSw); go_simp; first | done | with_reducible rfl | rfl)
  try simp only [Act.put, List.setIfInBounds_toArray, List.set_cons_zero, List.set_cons_succ]
  refine AnyT.take (i := 3) (v := ?_) (by simp only [List.getElem?_toArray, List.getElem?_cons_succ, List.getElem?_cons_zero]; rfl) (by kernel_rfl) (by kernel_rfl) (by kernel_rfl) (by kernel_rfl) (by intro _ _ _ h; exact h) (Or.inl ⟨by rfl, fun w hSw => ?_⟩) hHeld ?_
  rotate_left
  · ((try dsimp only at hSw); go_simp; first | done | with_reducible rfl | rfl)
  try simp only [Act.put, List.setIfInBounds_toArray, List.set_cons_zero, List.set_cons_succ]
  refine AnyT.take (i := 4) (v := ?_) (by simp only [List.getElem?_toArray, List.getElem?_cons_succ, List.getElem?_cons_zero]; rfl) (by kernel_rfl) (by kernel_rfl) (by kernel_rfl) (by kernel_rfl) (by intro _ _ _ h; exact h) (Or.inl ⟨by rfl, fun w hSw => ?_⟩) hHeld ?_
  rotate_left
  · ((try dsimp only at hSw); go_simp; first | done | with_reducible rfl | rfl)
  try simp only [Act.put, List.setIfInBounds_toArray, List.set_cons_zero, List.set_cons_succ]
  refine AnyT.take (i := 5) (v := ?_) (by simp only [List.getElem?_toArray, List.getElem?_cons_succ, List.getElem?_cons_zero]; rfl) (by kernel_rfl) (by kernel_rfl) (by kernel_rfl) (by kernel_rfl) (by intro _ _ _ h; exact h) (Or.inl ⟨by rfl, fun w hSw => ?_⟩) hHeld ?_
  rotate_left
  · ((try dsimp only at hSw); go_simp; first | done | with_reducible rfl | rfl)
  try simp only [Act.put, List.setIfInBounds_toArray, List.set_cons_zero, List.set_cons_succ]
  refine AnyT.take (i := 6) (v := ?_) (by simp only [List.getElem?_toArray, List.getElem?_cons_succ, List.getElem?_cons_zero]; rfl) (by kernel_rfl) (by kernel_rfl) (by kernel_rfl) (by kernel_rfl) (by intro _ _ _ h; exact h) (Or.inl ⟨by rfl, fun w hSw => ?_⟩) hHeld ?_
  rotate_left
  · ((try dsimp only at hSw); go_simp; first | done | with_reducible rfl | rfl)
  try simp only [Act.put, List.setIfInBounds_toArray, List.set_cons_zero, List.set_cons_succ]
  refine AnyT.take (i := 7) (v := ?_) (by simp only [List.getElem?_toArray, List.getElem?_cons_succ, List.getElem?_cons_zero]; rfl) (by kernel_rfl) (by kernel_rfl) (by kernel_rfl) (by kernel_rfl) (by intro _ _ _ h; exact h) (Or.inl ⟨by rfl, fun w hSw => ?_⟩) hHeld ?_
  rotate_left
  · ((try dsimp only at hSw); go_simp; first | done | with_reducible rfl | rfl)
  try simp only [Act.put, List.setIfInBounds_toArray, List.set_cons_zero, List.set_cons_succ]
  refine AnyT.take (i := 8) (v := ?_) (by simp only [List.getElem?_toArray, List.getElem?_cons_succ, List.getElem?_cons_zero]; rfl) (by kernel_rfl) (by kernel_rfl) (by kernel_rfl) (by kernel_rfl) (by intro _ _ _ h; exact h) (Or.inl ⟨by rfl, fun w hSw => ?_⟩) hHeld ?_
  rotate_left
  · ((try dsimp only at hSw); go_simp; first | done | with_reducible rfl | rfl)
  try simp only [Act.put, List.setIfInBounds_toArray, List.set_cons_zero, List.set_cons_succ]
  refine AnyT.take (i := 9) (v := ?_) (by simp only [List.getElem?_toArray, List.getElem?_cons_succ, List.getElem?_cons_zero]; rfl) (by kernel_rfl) (by kernel_rfl) (by kernel_rfl) (by kernel_rfl) (by intro _ _ _ h; exact h) (Or.inl ⟨by rfl, fun w hSw => ?_⟩) hHeld ?_
  rotate_left
  · ((try dsimp only at hSw); go_simp; first | done | with_reducible rfl | rfl)
  try simp only [Act.put, List.setIfInBounds_toArray, List.set_cons_zero, List.set_cons_succ]
  refine AnyT.ready (rs := [10]) (by kernel_rfl) (by simp) ?_
  refine AllT.cons (by simp only [List.getElem?_toArray, List.getElem?_cons_succ, List.getElem?_cons_zero]; rfl) (fun K hK => ?_) AllT.nil
  go_simp
  refine HV.out.mono ?_
  rintro e w4 ⟨rfl, hO4⟩
  rw [← HTO.out] at hO4
  have hO5 := hO4.perm (L' := mFr mp (some ⟨ig, io, none⟩) KN ic kg (x : Int) dir :: fw kg 25 (its.map It.kv) :: ((it.to it.pos).fr :: (Fi ++ ((its.eraseIdx x).map It.fr ++ R)))) (perm_of fun _ _ z => by simp only [List.count_append, List.count_cons, List.cons_append, List.count_nil, List.nil_append, List.append_nil]; omega)
  obtain ⟨d0, d1, d2, d3, d4, d5, d6, g4, g5⟩ := mFr_cells hO5
  have k4 : w4.cell? ⟨ig, io + x, none⟩ = some (.iface 187 (.pointer (some ⟨it.q, 0, none⟩))) := by
    have h1 : CsAt w4 (some ⟨ig, io, none⟩) (its.map It.iv) := HROW.out.cs fun y hy => hO5.ins y (by simp [hy])
    obtain ⟨g2, o2, e2, k2⟩ := h1 x (by simpa using hxs)
    injection e2 with e2
    injection e2 with e3 e4
    subst e3; subst e4
    rw [List.getElem?_map, HSX.out] at k2
    exact k2
  have HO5 := hid hO5
  clear hO4 hO5
  try go_wp2_with fail
  refine hK.out _ _ ?_ (fun hHeld => ?_)
  · exact ⟨d1, d4, k4⟩
  clear hK
  try simp only [Act.put, List.setIfInBounds_toArray, List.set_cons_zero, List.set_cons_succ]
  refine AnyT.take (i := 11) (v := ?_) (by simp only [List.getElem?_toArray, List.getElem?_cons_succ, List.getElem?_cons_zero]; rfl) (by kernel_rfl) (by kernel_rfl) (by kernel_rfl) (by kernel_rfl) (by intro _ _ _ h; exact h) (Or.inl ⟨by rfl, fun w hSw => ?_⟩) hHeld ?_
  rotate_left
  · ((try dsimp only at hSw); go_simp; first | done | with_reducible rfl | rfl)
  try simp only [Act.put, List.setIfInBounds_toArray, List.set_cons_zero, List.set_cons_succ]
  refine AnyT.done (by kernel_rfl) ?_ _
  clear hHeld
  go_wp2_with fail
  go_ret
  refine ⟨rfl, ?_⟩
  have hkv : (it.to it.pos).kv = it.kv := rfl
  have hset : (its.set x (it.to it.pos)).map It.kv = its.map It.kv := by
    rw [List.map_set, hkv]
    have : (its.map It.kv)[x]? = some it.kv := by rw [List.getElem?_map, HSX.out]; rfl
    apply List.ext_getElem?
    intro i
    by_cases hix : i = x
    · subst hix
      rw [List.getElem?_set_self (by simpa using hxs), this]
    · rw [List.getElem?_set_ne (by omega)]
  rw [hset]
  exact HO5.out.perm ((((its_in HSX.out (it.to it.pos)).append_right R |>.append_left Fi |>.cons _ |>.cons _).symm.trans (perm_of fun _ _ z => by simp only [List.count_append, List.count_cons, List.cons_append, List.count_nil, List.nil_append, List.append_nil]; omega)).symm)
theorem map_iv (its : List It) (u : It → Int) : (its.map fun it => it.to (u it)).map It.iv = its.map It.iv := by rw [List.map_map]; rfl
theorem map_l (its : List It) (u : It → Int) : (its.map fun it => it.to (u it)).map It.l = its.map It.l := by rw [List.map_map]; rfl
theorem map_data {its : List It} (u : It → Int) {w : World} (h : MData its w) : MData (its.map fun it => it.to (u it)) w := by
  intro y hy
  obtain ⟨it, hit, rfl⟩ := List.mem_map.1 hy
  exact h it hit
theorem map_get {its : List It} {u : It → Int} {j : Nat} {it1 : It} (h : (its.map fun it => it.to (u it))[j]? = some it1) : ∃ it, its[j]? = some it ∧ it1 = it.to (u it) := by
  rw [List.getElem?_map] at h
  cases hx : its[j]? with
  | none => rw [hx] at h; cases h
  | some it => rw [hx] at h; exact ⟨it, rfl, (Option.some.inj h).symm⟩
/-- Which iterators have a pair behind a search. -/
def Found (its : List It) : Prop := ∃ it ∈ its, it.cur ≠ none
set_option maxHeartbeats 3200000 in
set_option maxRecDepth 100000 in
theorem mNextB (mp : Nat) (iA : Option Addr) (KN ic kg x : Nat) (its : List It) (it : It) (r : Pr) (Fi R : List Fr) (w0 w : World) (hO : Own (mFr mp iA KN ic kg (x : Int) 2 :: fw kg 25 (its.map It.kv) :: (Fi ++ (its.map It.fr ++ R))) w0 w) (hx : its[x]? = some it) (hc : it.cur = some r) (hrow : Row 106 1 iA KN ic (its.map It.iv) Fi) (hD : St R w0 (MData its)) (hK : KN = its.length) (hKl : KN ≤ 2147483647)
    (hll : ∀ it ∈ its, it.l.length ≤ 1099511627776) (hkl : r.k.length ≤ 2147483647) (hfound : Found (its.map fun it => it.to (posSeek r.k it))) :
    Calls Tryd.prog 200 #[.pointer (some ⟨mp, 0, none⟩)] w fun e w' => ∃ (j : Nat) (it1 : It) (r1 : Pr), (its.map fun it => it.to (posSeek r.k it))[j]? = some it1 ∧ it1.cur = some r1 ∧ (∀ it' ∈ (its.map fun it => it.to (posSeek r.k it)), ∀ r', it'.cur = some r' → cmpI r1.k r'.k ≤ 0) ∧
      MOutN mp iA KN ic kg ((its.map fun it => it.to (posSeek r.k it)).set j (it1.to (min (it1.pos + 1) (it1.l.length : Int)))) (Fi ++ (((its.map fun it => it.to (posSeek r.k it)).set j (it1.to (min (it1.pos + 1) (it1.l.length : Int)))).map It.fr ++ R)) w0 e w' := by
  obtain ⟨c0, c1, c2, c3, c4, c5, c6, f4, f5⟩ := mFr_cells hO
  have k0 := key_cell hO hx
  rw [hc] at k0
  unfold kvO at k0
  have hxs : x < its.length := (List.getElem?_eq_some_iff.1 hx).1
  have t1 : (x : Int) < (KN : Int) := by omega
  have hmm := List.mem_of_getElem? hx
  have hrm := It.cur_mem hc
  have hrk : St R w0 (fun w => BsAt w r.ka r.k) := hD.imp fun w hm => ((hm it hmm).1.ok r hrm).hk
  have HO := hid hO
  have HRK := hid hrk
  have HROW := hid hrow
  have HDD := hid hD
  have HK := hid hK
  have HLL := hid hll
  have HFO := hid hfound
  have HSX := hid hx
  have HCUR := hid hc
  obtain ⟨st, hst⟩ : ∃ st, (its.map fun it => it.to (posSeek r.k it)) = st := ⟨_, rfl⟩
  rw [hst] at HFO ⊢
  have HST := hid hst
  clear hO hx hc hrow hD hK hll hfound hrk hmm hrm hst
  go_enter Tryd.func200, Tryd.ntmps200
  go_wp2_with fail
  refine AnyT.start (S := fun w' => w'.cell? ⟨mp, 3, none⟩ = some (.slice (some ⟨kg, 0, none⟩) KN KN) ∧ w'.cell? ⟨mp, 4, none⟩ = some (.int .i64 (x : Int)) ∧ w'.cell? ⟨kg, x, none⟩ = some (.slice r.ka r.k.length r.kc)) (T := []) (by kernel_rfl) (⟨c3, c4, k0⟩) (fun hHeld => ?_)
  refine AnyT.take (i := 1) (v := ?_) (by simp only [List.getElem?_toArray, List.getElem?_cons_succ, List.getElem?_cons_zero]; rfl) (by kernel_rfl) (by kernel_rfl) (by kernel_rfl) (by kernel_rfl) (by intro _ _ _ h; exact h) (Or.inl ⟨by rfl, fun w hSw => ?_⟩) hHeld ?_
  rotate_left
  · ((try dsimp only at hSw); go_simp; first | done | with_reducible rfl | rfl)
  try simp only [Act.put, List.setIfInBounds_toArray, List.set_cons_zero, List.set_cons_succ]
  refine AnyT.take (i := 2) (v := ?_) (by simp only [List.getElem?_toArray, List.getElem?_cons_succ, List.getElem?_cons_zero]; rfl) (by kernel_rfl) (by kernel_rfl) (by kernel_rfl) (by kernel_rfl) (by intro _ _ _ h; exact h) (Or.inl ⟨by rfl, fun w hSw => ?_⟩) hHeld ?_
  rotate_left
  · ((try dsimp only at hSw); go_simp; first | done | with_reducible rfl | rfl)
  try simp only [Act.put, List.setIfInBounds_toArray, List.set_cons_zero, List.set_cons_succ]
  refine AnyT.take (i := 3) (v := ?_) (by simp only [List.getElem?_toArray, List.getElem?_cons_succ, List.getElem?_cons_zero]; rfl) (by kernel_rfl) (by kernel_rfl) (by kernel_rfl) (by kernel_rfl) (by intro _ _ _ h; exact h) (Or.inl ⟨by rfl, fun w hSw => ?_⟩) hHeld ?_
  rotate_left
  · ((try dsimp only at hSw); go_simp; first | done | with_reducible rfl | rfl)
  try simp only [Act.put, List.setIfInBounds_toArray, List.set_cons_zero, List.set_cons_succ]
  refine AnyT.take (i := 4) (v := ?_) (by simp only [List.getElem?_toArray, List.getElem?_cons_succ, List.getElem?_cons_zero]; rfl) (by kernel_rfl) (by kernel_rfl) (by kernel_rfl) (by kernel_rfl) (by intro _ _ _ h; exact h) (Or.inl ⟨by rfl, fun w hSw => ?_⟩) hHeld ?_
  rotate_left
  · ((try dsimp only at hSw); go_simp; first | done | with_reducible rfl | rfl)
  try simp only [Act.put, List.setIfInBounds_toArray, List.set_cons_zero, List.set_cons_succ]
  refine AnyT.take (i := 5) (v := ?_) (by simp only [List.getElem?_toArray, List.getElem?_cons_succ, List.getElem?_cons_zero]; rfl) (by kernel_rfl) (by kernel_rfl) (by kernel_rfl) (by kernel_rfl) (by intro _ _ _ h; exact h) (Or.inl ⟨by rfl, fun w hSw => ?_⟩) hHeld ?_
  rotate_left
  · ((try dsimp only at hSw); go_simp; first | done | with_reducible rfl | rfl)
  try simp only [Act.put, List.setIfInBounds_toArray, List.set_cons_zero, List.set_cons_succ]
  refine AnyT.take (i := 6) (v := ?_) (by simp only [List.getElem?_toArray, List.getElem?_cons_succ, List.getElem?_cons_zero]; rfl) (by kernel_rfl) (by kernel_rfl) (by kernel_rfl) (by kernel_rfl) (by intro _ _ _ h; exact h) (Or.inl ⟨by rfl, fun w hSw => ?_⟩) hHeld ?_
  rotate_left
  · ((try dsimp only at hSw); go_simp; first | done | with_reducible rfl | rfl)
  try simp only [Act.put, List.setIfInBounds_toArray, List.set_cons_zero, List.set_cons_succ]
  refine AnyT.take (i := 7) (v := ?_) (by simp only [List.getElem?_toArray, List.getElem?_cons_succ, List.getElem?_cons_zero]; rfl) (by kernel_rfl) (by kernel_rfl) (by kernel_rfl) (by kernel_rfl) (by intro _ _ _ h; exact h) (Or.inl ⟨by rfl, fun w hSw => ?_⟩) hHeld ?_
  rotate_left
  · ((try dsimp only at hSw); go_simp; first | done | with_reducible rfl | rfl)
  try simp only [Act.put, List.setIfInBounds_toArray, List.set_cons_zero, List.set_cons_succ]
  refine AnyT.take (i := 8) (v := ?_) (by simp only [List.getElem?_toArray, List.getElem?_cons_succ, List.getElem?_cons_zero]; rfl) (by kernel_rfl) (by kernel_rfl) (by kernel_rfl) (by kernel_rfl) (by intro _ _ _ h; exact h) (Or.inl ⟨by rfl, fun w hSw => ?_⟩) hHeld ?_
  rotate_left
  · ((try dsimp only at hSw); go_simp; first | done | with_reducible rfl | rfl)
  try simp only [Act.put, List.setIfInBounds_toArray, List.set_cons_zero, List.set_cons_succ]
  refine AnyT.take (i := 9) (v := ?_) (by simp only [List.getElem?_toArray, List.getElem?_cons_succ, List.getElem?_cons_zero]; rfl) (by kernel_rfl) (by kernel_rfl) (by kernel_rfl) (by kernel_rfl) (by intro _ _ _ h; exact h) (Or.inl ⟨by rfl, fun w hSw => ?_⟩) hHeld ?_
  rotate_left
  · ((try dsimp only at hSw); go_simp; first | done | with_reducible rfl | rfl)
  try simp only [Act.put, List.setIfInBounds_toArray, List.set_cons_zero, List.set_cons_succ]
  refine AnyT.take (i := 10) (v := ?_) (by simp only [List.getElem?_toArray, List.getElem?_cons_succ, List.getElem?_cons_zero]; rfl) (by kernel_rfl) (by kernel_rfl) (by kernel_rfl) (by kernel_rfl) (by intro _ _ _ h; exact h) (Or.inl ⟨by rfl, fun w hSw => ?_⟩) hHeld ?_
  rotate_left
  · ((try dsimp only at hSw); go_simp; first | done | with_reducible rfl | rfl)
  try simp only [Act.put, List.setIfInBounds_toArray, List.set_cons_zero, List.set_cons_succ]
  refine AnyT.ready (rs := [0]) (by kernel_rfl) (by simp) ?_
  refine AllT.cons (by simp only [List.getElem?_toArray, List.getElem?_cons_succ, List.getElem?_cons_zero]; rfl) (fun K hK => ?_) AllT.nil
  go_simp
  obtain ⟨eb, heb⟩ : ∃ eb, w.heap.size = eb := ⟨_, rfl⟩
  rw [heb]
  have hO4 := (HO.out.alloc' heb 5 []).drew
  clear heb
  have hO4m := hO4.perm (L' := mFr mp iA KN ic kg (x : Int) 2 :: fw kg 25 (its.map It.kv) :: (fw eb 5 [] :: (Fi ++ (its.map It.fr ++ R)))) (perm_of fun _ _ z => by simp only [List.count_append, List.count_cons, List.cons_append, List.count_nil, List.nil_append, List.append_nil]; omega)
  have d3 := (mFr_cells hO4m).c3
  have d4 := (mFr_cells hO4m).c4
  have dk : (w.alloc (.cells [].toArray 5)).drew.cell? ⟨kg, x, none⟩ = some (.slice r.ka r.k.length r.kc) := by
    have h1 : w.cell? ⟨kg, x, none⟩ = some (.slice r.ka r.k.length r.kc) := k0
    exact ((((Only.refl [] w).alloc _).drew).cell (p := ⟨kg, x, none⟩) (cell_lt h1) (by simp)).trans h1
  refine hK.out _ _ ?_ (fun hHeld => ?_)
  · exact ⟨d3, d4, dk⟩
  clear hK
  try simp only [Act.put, List.setIfInBounds_toArray, List.set_cons_zero, List.set_cons_succ]
  generalize World.drew _ = w4 at hO4 hHeld ⊢
  have HO4 := hid hO4
  have hk4 := hO4.st HRK.out (fun y hy => by simp [hy])
  have HK4 := hid hk4
  clear hO4 hO4m d3 d4 dk hk4 c0 c1 c2 c3 c4 c5 c6 f4 f5 k0
  refine AnyT.ready (rs := [11]) (by kernel_rfl) (by simp) ?_
  refine AllT.cons (by simp only [List.getElem?_toArray, List.getElem?_cons_succ, List.getElem?_cons_zero]; rfl) (fun K hK => ?_) AllT.nil
  refine own_step_append rfl (.tmp 37) (.tmp 47) 25 rfl 5 (.int .u8 0) 1 1 Tryd.underlying25 Tryd.info_u8 rfl (by decide) (some ⟨eb, 0, none⟩) 0 0 [] [fw eb 5 []] rfl ⟨by simp, .inr ⟨_, [], rfl, rfl, by omega, by simp [maxLen], by simp, by simp⟩⟩ (R := mFr mp iA KN ic kg (x : Int) 2 :: fw kg 25 (its.map It.kv) :: (Fi ++ (its.map It.fr ++ R))) HO4.out r.ka r.k.length r.kc (bc r.k) rfl (by rw [bc_length]; omega) HK4.out.cs (bc_one _) (by simp [maxLen]; omega) (by omega) ?_
  intro A1 c1' F1 w5 hr1 hO5 _
  have HR1 := hid hr1
  have HO5 := hid (hO5.perm (L' := mFr mp iA KN ic kg (x : Int) 2 :: fw kg 25 (its.map It.kv) :: (Fi ++ (its.map It.fr ++ (F1 ++ R)))) (perm_of fun _ _ z => by simp only [List.count_append, List.count_cons, List.cons_append, List.count_nil, List.nil_append, List.append_nil]; omega))
  have d3 := (mFr_cells HO5.out).c3
  have d4 := (mFr_cells HO5.out).c4
  have dk := key_cell HO5.out HSX.out
  rw [HCUR.out] at dk
  unfold kvO at dk
  clear hr1 hO5 HO4 HK4
  refine hK.out _ _ ?_ (fun hHeld => ?_)
  · exact ⟨d3, d4, dk⟩
  clear hK
  try simp only [Act.put, List.setIfInBounds_toArray, List.set_cons_zero, List.set_cons_succ]
  refine AnyT.take (i := 12) (v := ?_) (by simp only [List.getElem?_toArray, List.getElem?_cons_succ, List.getElem?_cons_zero]; rfl) (by kernel_rfl) (by kernel_rfl) (by kernel_rfl) (by kernel_rfl) (by intro _ _ _ h; exact h) (Or.inl ⟨by rfl, fun w hSw => ?_⟩) hHeld ?_
  rotate_left
  · ((try dsimp only at hSw); go_simp; first | done | with_reducible rfl | rfl)
  try simp only [Act.put, List.setIfInBounds_toArray, List.set_cons_zero, List.set_cons_succ]
  refine AnyT.done (by kernel_rfl) ?_ _
  clear hHeld d3 d4 dk
  have hrl : Rd (F1 ++ R) w0 A1 r.k := by
    have h1 := HR1.out
    rw [List.nil_append] at h1
    exact (h1.rd w0).left R
  have HRL := hid hrl
  have HCL := hid HR1.out.le
  clear hrl
  go_wp2_with fail
  refine (mSeek mp iA KN ic kg (x : Int) 2 its A1 _ c1' r.k Fi (F1 ++ R) w0 _ HO5.out HROW.out (HDD.out.right F1) HK.out hKl (by decide) HLL.out HRL.out (by omega)).mono ?_
  rw [HST.out]
  rintro e w6 (⟨j, it1, r1, a1, a2, a3, rfl, hO6⟩ | ⟨a1, rfl, ix, _⟩)
  · have hgt := a1
    rw [← HST.out] at hgt
    obtain ⟨it0, hi0, hit1⟩ := map_get hgt
    have hstl : st.length = its.length := by rw [← HST.out, List.length_map]
    have hN := mNextF mp iA KN ic kg j st it1 Fi (F1 ++ R) w0 w6 hO6 a1 (by rw [← HST.out, map_iv]; exact HROW.out) ((HDD.out.right F1).imp fun w hm => by rw [← HST.out]; exact map_data _ hm) (by rw [hstl]; exact HK.out) hKl
      (by rw [hit1]; exact HLL.out it0 (List.mem_of_getElem? hi0)) (by rw [hit1]; have := mAt_le Pr.k it0.l r.k; exact ⟨by show (-1 : Int) ≤ ((mAt Pr.k it0.l r.k : Nat) : Int); omega, by show ((mAt Pr.k it0.l r.k : Nat) : Int) ≤ (it0.l.length : Int); omega⟩)
    have HNX := hid hN
    have HA := hid (show _ ∧ _ ∧ _ from ⟨a1, a2, a3⟩)
    clear hN a1 a2 a3 hO6 hgt hi0 hit1 hstl
    obtain ⟨st2, hst2⟩ : ∃ st2, st.set j (it1.to (min (it1.pos + 1) (it1.l.length : Int))) = st2 := ⟨_, rfl⟩
    rw [hst2] at HNX
    have HST2 := hid hst2
    clear hst2
    go_wp2_with fail
    refine HNX.out.mono ?_
    rintro e w7 (⟨j2, itj, r2, b1, b2, b3, rfl, hO7⟩ | ⟨b1, rfl, ix, hO7⟩)
    · have HB := hid (show _ ∧ _ ∧ _ ∧ _ from ⟨b1, b2, b3, hO7⟩)
      clear b1 b2 b3 hO7
      go_wp2_with fail
      go_ret
      refine ⟨j, it1, r1, HA.out.1, HA.out.2.1, HA.out.2.2, ?_⟩
      rw [HST2.out]
      exact MOutN.sub (R1 := Fi ++ (st2.map It.fr ++ (F1 ++ R))) ((List.Sublist.refl Fi).append ((List.Sublist.refl _).append (List.sublist_append_right F1 R))) (.inl ⟨j2, itj, r2, HB.out.1, HB.out.2.1, HB.out.2.2.1, rfl, HB.out.2.2.2⟩)
    · have HB := hid (show _ ∧ _ from ⟨b1, hO7⟩)
      clear b1 hO7
      go_wp2_with fail
      go_ret
      refine ⟨j, it1, r1, HA.out.1, HA.out.2.1, HA.out.2.2, ?_⟩
      rw [HST2.out]
      exact MOutN.sub (R1 := Fi ++ (st2.map It.fr ++ (F1 ++ R))) ((List.Sublist.refl Fi).append ((List.Sublist.refl _).append (List.sublist_append_right F1 R))) (.inr ⟨HB.out.1, rfl, ix, HB.out.2⟩)
  · exfalso
    obtain ⟨it2, hi2, hn2⟩ := HFO.out
    exact hn2 (a1 it2 hi2)
end Go.Proofs.YtloflmcgbbbnjaaDoor
