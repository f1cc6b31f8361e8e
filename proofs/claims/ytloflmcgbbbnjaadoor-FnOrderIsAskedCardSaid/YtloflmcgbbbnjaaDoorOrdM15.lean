/-
  spec.Map: Put.
  FnOrderIsAsked: the walk.
  impl.TableOptions as an argument.
-/
import Derived.Test.YtloflmcgbbbnjaaDoorOrdM14
import Derived.Test.YtloflmcgbbbnjaaDoorOrdM13
import Derived.Test.YtloflmcgbbbnjaaDoorOrdM2
import Derived.Lib.SmallJoins
namespace Go.Proofs.YtloflmcgbbbnjaaDoor
open Go.RowKit Plain
set_option linter.all false

def kSl0 (r : Pr) : Value := .slice r.ka r.k.length r.kc
def vSl0 (r : Pr) : Value := .slice r.va r.v.length r.vc
theorem pr_flat_len (l : List Pr) : (l.flatMap Pr.cells).length = l.length * 2 := flat_length Pr.cells 2 Pr.cells_length l
theorem pr_flat_take (l : List Pr) (i : Nat) : (l.take i).flatMap Pr.cells = (l.flatMap Pr.cells).take (i * 2) := by
  induction l generalizing i with
  | nil => simp
  | cons x l ih =>
    cases i with
    | zero => simp
    | succ i => rw [List.take_succ_cons, List.flatMap_cons, List.flatMap_cons, ih, show (i + 1) * 2 = (i * 2 + 1) + 1 by omega]; simp [Pr.cells]
theorem pr_flat_drop (l : List Pr) (i : Nat) : (l.drop i).flatMap Pr.cells = (l.flatMap Pr.cells).drop (i * 2) := by
  induction l generalizing i with
  | nil => simp
  | cons x l ih =>
    cases i with
    | zero => simp
    | succ i => rw [List.drop_succ_cons, List.flatMap_cons, ih, show (i + 1) * 2 = (i * 2 + 1) + 1 by omega]; simp [Pr.cells]
theorem pr_flat_set (l : List Pr) (i : Nat) (x : Pr) (h : i < l.length) : (l.set i x).flatMap Pr.cells = ((l.flatMap Pr.cells).set (i * 2) (kSl0 x)).set (i * 2 + 1) (vSl0 x) := by
  induction l generalizing i with
  | nil => simp at h
  | cons y l ih =>
    cases i with
    | zero => simp [Pr.cells, kSl0, vSl0]
    | succ i =>
      rw [List.set_cons_succ, List.flatMap_cons, List.flatMap_cons, ih i (by simpa using h), show (i + 1) * 2 = (i * 2 + 1) + 1 by omega]
      simp [Pr.cells]
theorem put_cells {cur cs : List Value} {n i : Nat} {a b z : Value} (hcs : cs.length = n * 2) (hi : i ≤ n) (hc : cur.take ((n + 1) * 2) = cs ++ [z, z]) :
    (((splice cur ((i + 1) * 2) ((cur.drop (i * 2)).take ((n - i) * 2))).set (i * 2) a).set (i * 2 + 1) b).take ((n + 1) * 2) = cs.take (i * 2) ++ ([a, b] ++ cs.drop (i * 2)) := by
  have hl : (n + 1) * 2 ≤ cur.length := by
    have := congrArg List.length hc
    rw [List.length_take, List.length_append, hcs] at this
    simp at this; omega
  have hget : ∀ j, j < n * 2 → cur[j]? = cs[j]? := fun j hj => by
    have := congrArg (·[j]?) hc
    simp only [List.getElem?_take, if_pos (show j < (n + 1) * 2 by omega), List.getElem?_append_left (show j < cs.length by omega)] at this
    exact this
  have hml : ((cur.drop (i * 2)).take ((n - i) * 2)).length = (n - i) * 2 := by rw [List.length_take, List.length_drop]; omega
  have hsl : (splice cur ((i + 1) * 2) ((cur.drop (i * 2)).take ((n - i) * 2))).length = cur.length := length_splice _ _ _ (by rw [hml]; omega)
  apply List.ext_getElem?
  intro j
  rw [List.getElem?_take]
  by_cases hj : j < (n + 1) * 2
  · rw [if_pos hj]
    by_cases h1 : j < i * 2
    · rw [List.getElem?_set_ne (by omega), List.getElem?_set_ne (by omega), splice_get _ _ _ (by rw [hml]; omega), if_pos (.inl (by omega)), hget j (by omega), List.getElem?_append_left (by rw [List.length_take]; omega), List.getElem?_take, if_pos h1]
    · by_cases h2 : j = i * 2
      · subst h2
        rw [List.getElem?_set_ne (by omega), List.getElem?_set_self (by rw [hsl]; omega), List.getElem?_append_right (by rw [List.length_take]; omega)]
        rw [show i * 2 - (cs.take (i * 2)).length = 0 by rw [List.length_take]; omega]; rfl
      · by_cases h3 : j = i * 2 + 1
        · subst h3
          rw [List.getElem?_set_self (by rw [List.length_set, hsl]; omega), List.getElem?_append_right (by rw [List.length_take]; omega)]
          rw [show i * 2 + 1 - (cs.take (i * 2)).length = 1 by rw [List.length_take]; omega]; rfl
        · rw [List.getElem?_set_ne (by omega), List.getElem?_set_ne (by omega), splice_get _ _ _ (by rw [hml]; omega), hml, if_neg (by omega), List.getElem?_take, if_pos (by omega), List.getElem?_drop, hget _ (by omega),
            List.getElem?_append_right (by rw [List.length_take]; omega), List.getElem?_append_right (by rw [List.length_take]; simp; omega), List.getElem?_drop]
          congr 1
          rw [List.length_take]; simp; omega
  · rw [if_neg hj, List.getElem?_eq_none]
    rw [List.length_append, List.length_append, List.length_take, List.length_drop]; simp; omega
theorem Row.shape {e size n c : Nat} {A : Option Addr} {xs : List Value} {F : List Fr} (h : Row e size A n c xs F) (hn : 0 < n) : ∃ g cur, A = some ⟨g, 0, none⟩ ∧ F = [fw g e cur] ∧ n ≤ c ∧ c ≤ maxLen ∧ cur.length = c * size ∧ cur.take (n * size) = xs := by
  rcases h.2 with ⟨_, h1, _⟩ | h1
  · omega
  · exact h1
theorem mIs_lt {m : List Pr} {k : List UInt8} (h : mIs Pr.k m k = true) : mAt Pr.k m k < m.length := by
  unfold mIs at h
  rcases Nat.lt_or_ge (mAt Pr.k m k) m.length with h' | h'
  · exact h'
  · rw [List.getElem?_eq_none h'] at h; cases h
set_option maxHeartbeats 3200000 in
set_option maxRecDepth 100000 in
theorem mapPut (A : Option Addr) (c : Nat) (m : List Pr) (x : Pr) (R : List Fr) (w0 w : World) (hp : St R w0 fun w => Prs w A m) (hx : St R w0 fun w => x.Ok w) (hO : Own R w0 w) (hkl : x.k.length ≤ 140737488351232) (hml : ∀ r ∈ m, r.k.length ≤ 140737488351232) (hl : m.length ≤ 1073741824) :
    Calls Tryd.prog 18 #[.slice A m.length c, .slice x.ka x.k.length x.kc, .slice x.va x.v.length x.vc] w (RetP R w0 (mPut Pr.k m x)) := by
  have HP := hid hp
  have HX := hid hx
  have HO := hid hO
  have hps := hO.st hp (by simp)
  have hxs := hO.st hx (by simp)
  have hxk := hxs.hk
  clear hp hx hO hxs
  have hle := mAt_le Pr.k m x.k
  go_enter Tryd.func18, Tryd.ntmps18
  go_wp2_with fail
  refine (mapAt _ _ _ _ _ _ _ hps hxk hkl hml (by omega)).mono ?_
  rintro e w1 ⟨rfl, hd1⟩
  have hO1 := HO.out.dr hd1
  have hps1 := hO1.st HP.out (by simp)
  have HO1 := hid hO1
  clear hd1 hO1 hps hxk HO
  obtain ⟨i, hi⟩ : ∃ i, mAt Pr.k m x.k = i := ⟨_, rfl⟩
  obtain ⟨b, hb⟩ : ∃ b, mIs Pr.k m x.k = b := ⟨_, rfl⟩
  rw [hi] at hle ⊢
  rw [hb]
  have HI := hid (show _ ∧ _ from ⟨hi, hb⟩)
  have hcs := hps1.row
  obtain ⟨n, hn⟩ : ∃ n, m.length = n := ⟨_, rfl⟩
  have HN := hid hn
  have hfl := pr_flat_len m
  rw [hn] at hle hl hfl ⊢
  have hlt : b = true → i < n := fun h => by rw [← hb] at h; have := mIs_lt h; omega
  clear hi hb hps1 hn
  cases b with
  | true =>
    have hi0 := hlt rfl
    clear hlt
    go_wp2_with (at_builtin; refine own_append rfl (.const (.slice none 0 0)) (.tmp 16) 34 rfl 38 (.agg #[.slice none 0 0, .slice none 0 0]) 2 48 Tryd.underlying34 Tryd.info_pair rfl (by decide) none 0 0 [] [] rfl (Row.nil _ _) (R := R) HO1.out A n c (m.flatMap Pr.cells) rfl hfl hcs pr_one (by simp [maxLen]; omega) (by omega) ?_; intro A2 c2 F2 w2 hr2 hO2 hnil; simp only [Nat.zero_add, List.nil_append] at hr2; obtain ⟨g, cur, rfl, rfl, hnc, hcm, hcl, hct⟩ := hr2.shape (by omega); obtain ⟨v1, z1⟩ := hO2.cellE 0 rfl (k := i * 2) (i * 2) (by simp) (by simp only; omega); obtain ⟨v2, z2⟩ := hO2.cellE 0 rfl (k := i * 2 + 1) (i * 2 + 1) (by simp) (by simp only; omega); have f0 := fun k => hO2.frozen 0 rfl k; have HCT := hid (show _ ∧ _ from ⟨hcl, hct⟩); have HO2 := hid hO2; clear hr2 hO2 hnil hcs hfl HO1 hcl hct)
    go_ret
    obtain ⟨hcl, hct⟩ := HCT.out
    have hO3 := (HO2.out.set (k := i * 2) (i * 2) (by simp) (by simp only; omega) (kSl0 x)).set (k := i * 2 + 1) (i * 2 + 1) (by simp) (by simp only [List.length_set]; omega) (vSl0 x)
    have hm : mPut Pr.k m x = m.set i x := by unfold mPut; rw [HI.out.2, HI.out.1]; rfl
    have hml2 : (m.set i x).length = n := by rw [List.length_set, HN.out]
    rw [hm]
    refine ⟨some ⟨g, 0, none⟩, c2, [fw g 38 ((cur.set (i * 2) (kSl0 x)).set (i * 2 + 1) (vSl0 x))], by rw [hml2]; rfl, hid ?_, hid hO3⟩
    have hr := Row.made 38 (g := g) (n := n) (c := c2) (size := 2) (cur := (cur.set (i * 2) (kSl0 x)).set (i * 2 + 1) (vSl0 x)) hnc hcm (by rw [List.length_set, List.length_set, hcl])
    rw [hml2]
    rw [pr_flat_set m i x (by rw [HN.out]; exact hi0), ← hct, ← List.take_set, ← List.take_set]
    exact hr
  | false =>
    clear hlt
    go_wp2_with (first
      | (at_builtin; refine own_append rfl (.const (.slice none 0 0)) (.tmp 16) 34 rfl 38 (.agg #[.slice none 0 0, .slice none 0 0]) 2 48 Tryd.underlying34 Tryd.info_pair rfl (by decide) none 0 0 [] [] rfl (Row.nil _ _) (R := R) HO1.out A n c (m.flatMap Pr.cells) rfl hfl hcs pr_one (by simp [maxLen]; omega) (by omega) ?_; intro A2 c2 F2 w2 hr2 hO2 hnil; simp only [Nat.zero_add, List.nil_append] at hr2; have HR2 := hid hr2; obtain ⟨q, hq⟩ : ∃ q, w2.heap.size = q := ⟨_, rfl⟩; have hO3 := hO2.alloc' hq 38 [.slice none 0 0, .slice none 0 0]; have HO3 := hid hO3; have hq2 := hO3.cs_fw (List.mem_cons_self ..); clear hr2 hO2 hnil hcs hfl HO1 hO3)
      | (at_builtin; refine own_append rfl (.tmp 26) (.tmp 28) 34 rfl 38 (.agg #[.slice none 0 0, .slice none 0 0]) 2 48 Tryd.underlying34 Tryd.info_pair rfl (by decide) A2 n c2 (m.flatMap Pr.cells) F2 rfl HR2.out (R := fw q 38 [.slice none 0 0, .slice none 0 0] :: R) (HO3.out.perm (perm_of fun _ _ z => by simp only [List.count_append, List.count_cons, List.cons_append, List.count_nil, List.nil_append, List.append_nil]; omega)) (some ⟨q, 0, none⟩) 1 1 [.slice none 0 0, .slice none 0 0] rfl rfl hq2 (by decide) (by simp [maxLen]; omega) (by omega) ?_; intro A4 c4 F4 w4 hr4 hO4 hnil; obtain ⟨g, cur, rfl, rfl, hnc, hcm, hcl, hct⟩ := hr4.shape (by omega); have HCT := hid (show _ ∧ _ from ⟨hcl, hct⟩); have HO4 := hid hO4; clear hr4 hO4 hnil hq2 HO3))
    have e1 : IntKind.i64.wrap ((i : Int) + 1) = (i : Int) + 1 := i64_id (by omega) (by omega)
    have y1 : (i : Int) ≤ (n : Int) := by omega
    have y2 : (i : Int) + 1 ≤ (n : Int) + 1 := by omega
    have y3 : ((i : Int) + 1).toNat = i + 1 := by omega
    have y4 : (i : Int) ≤ (n : Int) + 1 := by omega
    have y5 : ¬ c4 = i := by omega
    refine AnyT.start (S := fun _ => True) (T := []) (by kernel_rfl) (trivial) (fun hHeld => ?_)
    refine AnyT.take (i := 0) (v := ?_) (by simp only [List.getElem?_toArray, List.getElem?_cons_succ, List.getElem?_cons_zero]; rfl) (by kernel_rfl) (by kernel_rfl) (by kernel_rfl) (by kernel_rfl) (by intro _ _ _ h; exact h) (Or.inl ⟨by rfl, fun w hSw => ?_⟩) hHeld ?_
    rotate_left
    · ((try dsimp only at hSw); go_simp; first | done | with_reducible rfl | rfl)
    try simp only [Act.put, List.setIfInBounds_toArray, List.set_cons_zero, List.set_cons_succ]
    refine AnyT.take (i := 1) (v := ?_) (by simp only [List.getElem?_toArray, List.getElem?_cons_succ, List.getElem?_cons_zero]; rfl) (by kernel_rfl) (by kernel_rfl) (by kernel_rfl) (by kernel_rfl) (by intro _ _ _ h; exact h) (Or.inl ⟨by rfl, fun w hSw => ?_⟩) hHeld ?_
    rotate_left
    · ((try dsimp only at hSw); go_simp; first | done | with_reducible rfl | rfl)
    try simp only [Act.put, List.setIfInBounds_toArray, List.set_cons_zero, List.set_cons_succ]
    refine AnyT.take (i := 2) (v := ?_) (by simp only [List.getElem?_toArray, List.getElem?_cons_succ, List.getElem?_cons_zero]; rfl) (by kernel_rfl) (by kernel_rfl) (by kernel_rfl) (by kernel_rfl) (by intro _ _ _ h; exact h) (Or.inl ⟨by rfl, fun w hSw => ?_⟩) hHeld ?_
    rotate_left
    · ((try dsimp only at hSw); go_simp; first | done | with_reducible rfl | rfl)
    try simp only [Act.put, List.setIfInBounds_toArray, List.set_cons_zero, List.set_cons_succ]
    refine AnyT.take (i := 3) (v := ?_) (by simp only [List.getElem?_toArray, List.getElem?_cons_succ, List.getElem?_cons_zero]; rfl) (by kernel_rfl) (by kernel_rfl) (by kernel_rfl) (by kernel_rfl) (by intro _ _ _ h; exact h) (Or.inl ⟨by rfl, fun w hSw => ?_⟩) hHeld ?_
    rotate_left
    · ((try dsimp only at hSw); go_simp; first | done | with_reducible rfl | rfl)
    try simp only [Act.put, List.setIfInBounds_toArray, List.set_cons_zero, List.set_cons_succ]
    refine AnyT.take (i := 4) (v := ?_) (by simp only [List.getElem?_toArray, List.getElem?_cons_succ, List.getElem?_cons_zero]; rfl) (by kernel_rfl) (by kernel_rfl) (by kernel_rfl) (by kernel_rfl) (by intro _ _ _ h; exact h) (Or.inl ⟨by rfl, fun w hSw => ?_⟩) hHeld ?_
    rotate_left
    · ((try dsimp only at hSw); go_simp; first | done | with_reducible rfl | rfl)
    try simp only [Act.put, List.setIfInBounds_toArray, List.set_cons_zero, List.set_cons_succ]
    refine AnyT.take (i := 5) (v := ?_) (by simp only [List.getElem?_toArray, List.getElem?_cons_succ, List.getElem?_cons_zero]; rfl) (by kernel_rfl) (by kernel_rfl) (by kernel_rfl) (by kernel_rfl) (by intro _ _ _ h; exact h) (Or.inl ⟨by rfl, fun w hSw => ?_⟩) hHeld ?_
    rotate_left
    · ((try dsimp only at hSw); go_simp; first | done | with_reducible rfl | rfl)
    try simp only [Act.put, List.setIfInBounds_toArray, List.set_cons_zero, List.set_cons_succ]
    refine AnyT.take (i := 6) (v := ?_) (by simp only [List.getElem?_toArray, List.getElem?_cons_succ, List.getElem?_cons_zero]; rfl) (by kernel_rfl) (by kernel_rfl) (by kernel_rfl) (by kernel_rfl) (by intro _ _ _ h; exact h) (Or.inl ⟨by rfl, fun w hSw => ?_⟩) hHeld ?_
    rotate_left
    · ((try dsimp only at hSw); go_simp; first | done | with_reducible rfl | rfl)
    try simp only [Act.put, List.setIfInBounds_toArray, List.set_cons_zero, List.set_cons_succ]
    refine AnyT.ready (rs := [7]) (by kernel_rfl) (by simp) ?_
    refine AllT.cons (by simp only [List.getElem?_toArray, List.getElem?_cons_succ, List.getElem?_cons_zero]; rfl) (fun K hK => ?_) AllT.nil
    obtain ⟨hcl, hct⟩ := HCT.out
    have hmln : (m.flatMap Pr.cells).length = n * 2 := by rw [pr_flat_len, HN.out]
    have hc2l : ((cur.drop (i * 2)).take ((n - i) * 2)).length = (n - i) * 2 := by rw [List.length_take, List.length_drop]; omega
    have hone : ∀ v ∈ (cur.drop (i * 2)).take ((n - i) * 2), v.oneCell' = true := fun v hv => by
      obtain ⟨j, hj⟩ := List.mem_iff_getElem?.1 hv
      have hjl : j < (n - i) * 2 := by have := (List.getElem?_eq_some_iff.1 hj).1; omega
      rw [List.getElem?_take, if_pos hjl, List.getElem?_drop] at hj
      have h3 := congrArg (·[i * 2 + j]?) hct
      simp only [List.getElem?_take, if_pos (show i * 2 + j < (n + 1) * 2 by omega)] at h3
      rw [hj, List.getElem?_append_left (by omega)] at h3
      exact pr_one v (List.mem_of_getElem? h3.symm)
    have hput := put_cells (a := kSl0 x) (b := vSl0 x) (z := .slice none 0 0) hmln hle hct
    refine own_step_copyN rfl (.tmp 33) (.tmp 36) 34 34 rfl 38 Tryd.underlying34 2 (by decide) (by kernel_rfl) _ _ (n - i) (c4 - (i + 1)) (n + 1 - i) (c4 - i) rfl rfl g ((i + 1) * 2) 38 cur HO4.out.drew ((cur.drop (i * 2)).take ((n - i) * 2)) ?_ ?_ ?_ hone ?_
    · rw [hc2l]; congr 1; show n - i = min (n + 1 - i) (n - i); omega
    · intro h0
      rw [hc2l] at h0
      refine ⟨by rw [if_neg (by omega)], ?_⟩
      exact CsAt.of_blk HO4.out.drew.head.blk (i * 2) ((n - i) * 2)
    · rw [hc2l]; omega
    intro w5 hO5
    have hsl : (splice cur ((i + 1) * 2) ((cur.drop (i * 2)).take ((n - i) * 2))).length = cur.length := length_splice _ _ _ (by rw [hc2l]; omega)
    obtain ⟨cur5, hc5⟩ : ∃ cur5, splice cur ((i + 1) * 2) ((cur.drop (i * 2)).take ((n - i) * 2)) = cur5 := ⟨_, rfl⟩
    rw [hc5] at hO5 hsl hput
    have HPUT := hid hput
    obtain ⟨v1, z1⟩ := hO5.cellE 0 rfl (k := i * 2) (i * 2) (by simp) (by simp only; omega)
    obtain ⟨v2, z2⟩ := hO5.cellE 0 rfl (k := i * 2 + 1) (i * 2 + 1) (by simp) (by simp only; omega)
    have f0 := fun k => hO5.frozen 0 rfl k
    have HO5 := hid hO5
    have HSL := hid (show cur5.length = c4 * 2 by omega)
    clear hO5 hc5 hput hone hc2l hmln hcl hct hsl HO4
    refine hK.out _ _ ?_ (fun hHeld => ?_)
    · trivial
    clear hK
    try simp only [Act.put, List.setIfInBounds_toArray, List.set_cons_zero, List.set_cons_succ]
    refine AnyT.done (by kernel_rfl) ?_ _
    go_wp2_with fail
    all_goals
      go_ret
      have hO6 := (HO5.out.set (k := i * 2) (i * 2) (by simp) (by simp only; have := HSL.out; omega) (kSl0 x)).set (k := i * 2 + 1) (i * 2 + 1) (by simp) (by simp only [List.length_set]; have := HSL.out; omega) (vSl0 x)
      have hm : mPut Pr.k m x = m.take i ++ x :: m.drop i := by unfold mPut; rw [HI.out.2, HI.out.1]; rfl
      have hml2 : (m.take i ++ x :: m.drop i).length = n + 1 := by rw [List.length_append, List.length_take, List.length_cons, List.length_drop, HN.out]; omega
      rw [hm]
      refine ⟨some ⟨g, 0, none⟩, _, [fw g 38 ((cur5.set (i * 2) (kSl0 x)).set (i * 2 + 1) (vSl0 x))], by rw [hml2]; rfl, hid ?_, hid (hO6.sub (by simp))⟩
      have hr := Row.made 38 (g := g) (n := n + 1) (size := 2) (cur := (cur5.set (i * 2) (kSl0 x)).set (i * 2 + 1) (vSl0 x)) hnc hcm (by rw [List.length_set, List.length_set, HSL.out])
      rw [hml2]
      rw [HPUT.out] at hr
      rw [List.flatMap_append, List.flatMap_cons, pr_flat_take, pr_flat_drop]
      first
        | exact hr
        | (have hce : c4 = i + 1 := by assumption
           rw [hce] at hr
           exact hr)
end Go.Proofs.YtloflmcgbbbnjaaDoor
namespace Go.Proofs.YtloflmcgbbbnjaaDoor
open Go.RowKit Plain
set_option linter.all false

theorem Tryd.info_ipair : (Tryd.prog.info? 36).map (fun i => (i.zero, i.size, i.bytes)) = some (some (.agg #[.slice none 0 0, .slice none 0 0]), 2, 48) := by kernel_rfl
/-- The map of pairs that are put one behind the other. -/
def mapOf (l : List Pr) : List Pr := l.foldl (mPut Pr.k) []
theorem mapOf_snoc (l : List Pr) (x : Pr) : mapOf (l ++ [x]) = mPut Pr.k (mapOf l) x := by simp [mapOf]
theorem mPut_mem {m : List Pr} {x r : Pr} (h : r ∈ mPut Pr.k m x) : r ∈ m ∨ r = x := by
  unfold mPut at h
  split at h
  · rcases List.mem_or_eq_of_mem_set h with h | h
    · exact .inl h
    · exact .inr h
  · rcases List.mem_append.1 h with h | h
    · exact .inl (List.mem_of_mem_take h)
    · rcases List.mem_cons.1 h with h | h
      · exact .inr h
      · exact .inl (List.mem_of_mem_drop h)
theorem foldl_mem : ∀ (l m : List Pr) (r : Pr), r ∈ l.foldl (mPut Pr.k) m → r ∈ m ∨ r ∈ l
  | [], m, r, h => .inl h
  | x :: l, m, r, h => by
    rcases foldl_mem l _ r h with h | h
    · rcases mPut_mem h with h | h
      · exact .inl h
      · exact .inr (by simp [h])
    · exact .inr (by simp [h])
theorem mapOf_mem {l : List Pr} {r : Pr} (h : r ∈ mapOf l) : r ∈ l := by
  rcases foldl_mem l [] r h with h | h
  · cases h
  · exact h
theorem mapOf_asc (l : List Pr) : Asc Pr.k (mapOf l) := by
  have : ∀ (l m : List Pr), Asc Pr.k m → Asc Pr.k (l.foldl (mPut Pr.k) m) := by
    intro l
    induction l with
    | nil => intro m h; exact h
    | cons x l ih => intro m h; exact ih _ (asc_put Pr.k h x)
  exact this l [] List.Pairwise.nil
theorem asc_ord {m : List Pr} (h : Asc Pr.k m) : ordB (kvs m) = true := by
  refine ordB_iff.2 fun i hi => ?_
  rw [kvs_length] at hi
  have h1 : m[i]? = some m[i] := List.getElem?_eq_getElem (by omega)
  have h2 : m[i + 1]? = some m[i + 1] := List.getElem?_eq_getElem (by omega)
  rw [key_kvs h1, key_kvs h2]
  exact List.pairwise_iff_getElem.1 h i (i + 1) (by omega) (by omega) (by omega)
theorem wgt_app (a b : List Pr) : wgt (a ++ b) = wgt a + wgt b := by simp [wgt]
theorem wgt_put (m : List Pr) (x : Pr) : wgt (mPut Pr.k m x) ≤ wgt m + wgt [x] := by
  unfold mPut
  split
  · rename_i h
    have hlt := mIs_lt h
    have e := List.set_eq_take_append_cons_drop (l := m) (i := mAt Pr.k m x.k) (a := x)
    rw [if_pos hlt] at e
    rw [e, wgt_app, show x :: m.drop (mAt Pr.k m x.k + 1) = [x] ++ m.drop (mAt Pr.k m x.k + 1) from rfl, wgt_app]
    have e2 : wgt m = wgt (m.take (mAt Pr.k m x.k + 1)) + wgt (m.drop (mAt Pr.k m x.k + 1)) := by rw [← wgt_app, List.take_append_drop]
    have e3 : wgt (m.take (mAt Pr.k m x.k)) ≤ wgt (m.take (mAt Pr.k m x.k + 1)) := by
      rw [List.take_succ_eq_append_getElem hlt, wgt_app]; omega
    omega
  · rw [wgt_app, show x :: m.drop (mAt Pr.k m x.k) = [x] ++ m.drop (mAt Pr.k m x.k) from rfl, wgt_app]
    have e2 : wgt m = wgt (m.take (mAt Pr.k m x.k)) + wgt (m.drop (mAt Pr.k m x.k)) := by rw [← wgt_app, List.take_append_drop]
    omega
theorem wgt_mapOf (l : List Pr) : wgt (mapOf l) ≤ wgt l := by
  have : ∀ (l m : List Pr), wgt (l.foldl (mPut Pr.k) m) ≤ wgt m + wgt l := by
    intro l
    induction l with
    | nil => intro m; simp [wgt]
    | cons x l ih =>
      intro m
      have h1 := ih (mPut Pr.k m x)
      have h2 := wgt_put m x
      have e : wgt (x :: l) = wgt [x] + wgt l := wgt_app [x] l
      rw [List.foldl_cons]; omega
  have := this l []
  rw [show wgt ([] : List Pr) = 0 from rfl, Nat.zero_add] at this
  exact this
theorem mapOf_len (l : List Pr) : (mapOf l).length ≤ l.length := by
  have : ∀ (l m : List Pr), (l.foldl (mPut Pr.k) m).length ≤ m.length + l.length := by
    intro l
    induction l with
    | nil => intro m; simp
    | cons x l ih =>
      intro m
      have h1 := ih (mPut Pr.k m x)
      have h2 := mPut_len Pr.k m x
      rw [List.foldl_cons, List.length_cons]
      split at h2 <;> omega
  have := this l []
  simp only [List.length_nil, Nat.zero_add] at this
  exact this
theorem mapOf_ne {l : List Pr} (h : l ≠ []) : 0 < (mapOf l).length := by
  obtain ⟨a, x, rfl⟩ : ∃ a x, l = a ++ [x] := ⟨l.dropLast, l.getLast h, (List.dropLast_concat_getLast h).symm⟩
  rw [mapOf_snoc, mPut_len]
  split
  · rename_i h'
    have := mIs_lt h'; omega
  · omega
set_option maxHeartbeats 3200000 in
set_option maxRecDepth 100000 in
theorem ordAsk_walk (A : Option Addr) (c : Nat) (a b cc d : Int) (l : List Pr) (w : World) (h : Prs w A l) (ha : -9223372036854775808 ≤ a ∧ a ≤ 9223372036854775807) (hb : -9223372036854775808 ≤ b ∧ b ≤ 9223372036854775807) (hc : -9223372036854775808 ≤ cc ∧ cc ≤ 9223372036854775807) (hd : -9223372036854775808 ≤ d ∧ d ≤ 9223372036854775807) :
    Calls Tryd.prog 4 #[.slice A l.length c, .agg #[.int .i64 a, .int .i64 b, .int .i64 cc, .int .i64 d]] w fun e w' => e = .returned (.bool true) ∧ Only [] w w' := by
  obtain ⟨bs, hbs⟩ : ∃ bs : Nat, 1 + a % 5000 = (bs : Int) := ⟨(1 + a % 5000).toNat, by omega⟩
  obtain ⟨rs, hrs⟩ : ∃ rs : Nat, 1 + b % 20 = (rs : Int) := ⟨(1 + b % 20).toNat, by omega⟩
  obtain ⟨nb, hnb⟩ : ∃ nb : Nat, cc % 21 = (nb : Int) := ⟨(cc % 21).toNat, by omega⟩
  obtain ⟨fb, hfb⟩ : ∃ fb : Int, 1 + d % 12 = fb := ⟨_, rfl⟩
  have HL := hid fun W => lawOptions a b cc d W ha hb hc hd
  rw [hbs, hrs, hnb, hfb] at HL
  have b1 : 0 < bs ∧ bs ≤ 5000 := by omega
  have b2 : 0 < rs ∧ rs ≤ 20 := by omega
  have b3 : nb ≤ 20 := by omega
  clear hbs hrs hnb hfb ha hb hc hd
  obtain ⟨q, hq⟩ : ∃ q, w.heap.size = q := ⟨_, rfl⟩
  have hO := (Own.start w).alloc' hq 32 [.int .i64 a, .int .i64 b, .int .i64 cc, .int .i64 d]
  have HO := hid hO
  have HH := hid (h.keep0 hO.only)
  have HP := hid (fun (R : List Fr) => (show St R w (fun w => Prs w A l) from fun w' ho _ => h.keep0 ho))
  clear h hO
  cases ka : okP l with
  | false =>
    have KA := hid ka
    clear ka
    go_enter Tryd.func4, Tryd.ntmps4
    go_wp2_with fail
    refine (fits6_any A c l _ HH.out).mono ?_
    rintro e w1 ⟨rfl, ho1⟩
    rw [KA.out]
    have HO1 := hid (HO.out.only.new ho1)
    clear ho1
    go_wp2_with fail
    go_ret
    exact ⟨rfl, HO1.out⟩
  | true =>
    obtain ⟨la, wa, ks⟩ := okP_len ka
    have KA := hid ka
    have KS := hid ks
    clear ka ks
    cases kf : decide (wgt l ≤ 1048576) with
    | false =>
      have KF := hid kf
      clear kf
      go_enter Tryd.func4, Tryd.ntmps4
      go_wp2_with fail
      refine (fits6_any A c l _ HH.out).mono ?_
      rintro e w1 ⟨rfl, ho1⟩
      rw [KA.out]
      have HO1 := hid (HO.out.only.new ho1)
      have h1 := HH.out.keep0 ho1
      clear ho1
      go_wp2_with fail
      refine (few_any A c l _ h1 wa la).mono ?_
      rintro e w2 ⟨rfl, ho2⟩
      rw [KF.out]
      have HO2 := hid (HO1.out.new ho2)
      clear ho2 h1
      go_wp2_with fail
      go_ret
      exact ⟨rfl, HO2.out⟩
    | true =>
      have KF := hid kf
      have hwl := of_decide_eq_true kf
      have hll := wgt_len l
      clear kf
      go_enter Tryd.func4, Tryd.ntmps4
      go_wp2_with fail
      refine (fits6_any A c l _ HH.out).mono ?_
      rintro e w1 ⟨rfl, ho1⟩
      rw [KA.out]
      have hO1 := HO.out.only0 ho1
      have h1 := HH.out.keep0 ho1
      have HO1 := hid hO1
      clear ho1 hO1
      go_wp2_with fail
      refine (few_any A c l _ h1 wa la).mono ?_
      rintro e w2 ⟨rfl, ho2⟩
      rw [KF.out]
      have hO2 := HO1.out.only0 ho2
      have h2 := h1.keep0 ho2
      have HO2 := hid hO2
      clear ho2 h1 hO2
      go_wp2_with fail
      have hkm : ∀ r ∈ l, r.k.length ≤ 140737488351232 := fun r hr => by have := (KS.out r hr).1; omega
      have HKM := hid hkm
      clear hkm
      refine (pairs_own A c l _ w _ (HP.out _) HO2.out (by omega)).mono ?_
      rintro e w3 ⟨A3, c3, F3, rfl, hr3, hO3⟩
      have hps : Prs w3 A3 l := ⟨hr3.out.csO hO3.out, fun r hr => (hO3.out.stR (HP.out _)).ok r hr⟩
      have HPS := hid hps
      clear hps h2
      go_wp2_with fail
      refine (ordered_any A3 c3 l w3 HPS.out (by omega) HKM.out).mono ?_
      rintro e w4 ⟨rfl, hd4⟩
      have hO4 := (hO3.out.dr hd4).right
      have HO4 := hid hO4
      clear hd4 hO4 hO3 hr3 HPS HO2
      cases ko : ordB (kvs l) with
      | true =>
        go_wp2_with fail
        go_ret
        exact ⟨rfl, HO4.out.only⟩
      | false =>
        have KO := hid ko
        clear ko
        by_cases h300 : 300 < l.length
        · have t1 : decide ((l.length : Int) > 300) = true := decide_eq_true (by omega)
          go_wp2_with fail
          go_ret
          exact ⟨rfl, HO4.out.only⟩
        · have t1 : decide ((l.length : Int) > 300) = false := decide_eq_false (by omega)
          go_wp2_with fail
          go_loopw [5, 31] (fun v i wr => ∃ (k n : Nat) (A5 : Option Addr) (c5 : Nat) (F5 : List Fr), i = .int .i64 k ∧ k ≤ l.length ∧ v = .slice A5 n c5 ∧ Hid (n = (mapOf (l.take k)).length) ∧ Hid (Row 38 2 A5 n c5 ((mapOf (l.take k)).flatMap Pr.cells) F5) ∧ Hid (Own (F5 ++ ([fw q 32 [.int .i64 a, .int .i64 b, .int .i64 cc, .int .i64 d]])) w wr)) (fun _ i _ => l.length - (intOf i).toNat)
          case atStart => exact ⟨0, 0, none, 0, [], rfl, Nat.zero_le _, rfl, hid rfl, hid (Row.nil _ _), HO4⟩
          case round =>
            obtain ⟨k, n, A5, c5, F5, rfl, hk, rfl, HN, HR5, HO5⟩ := hrel
            clear HO4
            by_cases h4 : k < l.length
            · have h4' : (k : Int) < (l.length : Int) := by omega
              have hx : l[k]? = some l[k] := List.getElem?_eq_getElem h4
              have hmem := List.getElem_mem h4
              have htk : mapOf (l.take (k + 1)) = mPut Pr.k (mapOf (l.take k)) l[k] := by rw [List.take_succ_eq_append_getElem h4, mapOf_snoc]
              have hps := HO5.out.right.st (HP.out ([fw q 32 [.int .i64 a, .int .i64 b, .int .i64 cc, .int .i64 d]])) (fun _ hx => hx)
              generalize l[k] = r at hx hmem htk
              obtain ⟨ga, o, rfl, p0, p1⟩ := hps.at_ hx
              have HTK := hid htk
              obtain ⟨pb, hpb⟩ : ∃ pb, wr.heap.size = pb := ⟨_, rfl⟩
              have hO6 := HO5.out.alloc' hpb 36 [.slice r.ka r.k.length r.kc, .slice r.va r.v.length r.vc]
              have q0 := hO6.cell 0 rfl (k := 0) 0 rfl (by simp)
              have q1 := hO6.cell 0 rfl (k := 1) 1 rfl (by simp)
              have HO6 := hid hO6.drop
              have HMEM := hid hmem
              clear hps hx hmem htk hO6
              go_wp2_with fail
              have hn := HN.out
              subst hn
              have hpm : St (F5 ++ ([fw q 32 [.int .i64 a, .int .i64 b, .int .i64 cc, .int .i64 d]])) w fun w => Prs w A5 (mapOf (l.take k)) := fun w' ho hb => ⟨HR5.out.cs fun x hx => hb x (List.mem_append_left _ hx), fun r hr => (HP.out [] w' ho (by simp)).ok r (List.mem_of_mem_take (mapOf_mem hr))⟩
              have hpx : St (F5 ++ ([fw q 32 [.int .i64 a, .int .i64 b, .int .i64 cc, .int .i64 d]])) w fun w => r.Ok w := fun w' ho hb => (HP.out [] w' ho (by simp)).ok r HMEM.out
              refine (mapPut A5 c5 (mapOf (l.take k)) r _ w _ hpm hpx HO6.out (HKM.out r HMEM.out) (fun r hr => HKM.out r (List.mem_of_mem_take (mapOf_mem hr))) (by have := mapOf_len (l.take k); rw [List.length_take] at this; omega)).mono ?_
              rintro e w6 ⟨A6, c6, F6, rfl, hr6, hO7⟩
              have HO7 := hid (hO7.out.sub (L' := F6 ++ ([fw q 32 [.int .i64 a, .int .i64 b, .int .i64 cc, .int .i64 d]])) ((List.Sublist.refl F6).append (List.sublist_append_right _ _)))
              obtain ⟨n6, hn6⟩ : ∃ n6, (mPut Pr.k (mapOf (l.take k)) r).length = n6 := ⟨_, rfl⟩
              rw [hn6] at hr6 ⊢
              have HN6 := hid hn6
              clear hpm hpx hO7 hn6 q0 q1 p0 p1
              go_wp2_with fail
              go_roundw
              case rel => exact ⟨k + 1, n6, A6, c6, F6, by go_num, by omega, rfl, hid (by rw [HTK.out, HN6.out]), hid (by rw [HTK.out]; exact hr6.out), HO7⟩
              case measure => simp [intOf]; omega
            · have h4' : ¬ (k : Int) < (l.length : Int) := by omega
              have hkl : k = l.length := by omega
              subst hkl
              rw [List.take_length] at HN HR5
              have hmn := mapOf_len l
              obtain ⟨mm, hmm⟩ : ∃ mm, mapOf l = mm := ⟨_, rfl⟩
              rw [hmm] at HN HR5 hmn
              have HMM := hid hmm
              have hnn := HN.out
              have hn3 : n ≤ 300 := by omega
              clear hmm hnn h4
              go_wp2_with fail
              have hpm : St (F5 ++ ([fw q 32 [.int .i64 a, .int .i64 b, .int .i64 cc, .int .i64 d]])) w fun w => Prs w A5 mm := fun w' ho hb => ⟨HR5.out.cs fun x hx => hb x (List.mem_append_left _ hx), fun r hr => (HP.out [] w' ho (by simp)).ok r (mapOf_mem (by rw [HMM.out]; exact hr))⟩
              have HPM := hid hpm
              clear hpm
              go_loopw [8, 44] (fun v i wr => ∃ (k n8 : Nat) (A8 : Option Addr) (c8 : Nat) (F8 : List Fr), i = .int .i64 k ∧ k ≤ n ∧ v = .slice A8 n8 c8 ∧ Hid (n8 = k) ∧ Hid (Row 36 2 A8 n8 c8 ((mm.take k).flatMap Pr.cells) F8) ∧ Hid (Own (F8 ++ (F5 ++ ([fw q 32 [.int .i64 a, .int .i64 b, .int .i64 cc, .int .i64 d]]))) w wr)) (fun _ i _ => n - (intOf i).toNat)
              case atStart => exact ⟨0, 0, none, 0, [], rfl, Nat.zero_le _, rfl, hid rfl, hid (Row.nil _ _), HO5⟩
              case round =>
                obtain ⟨k, n8, A8, c8, F8, rfl, hk8, rfl, HN8, HR8, HO8⟩ := hrel
                clear HO5
                by_cases h4 : k < n
                · have h4' : (k : Int) < (n : Int) := by omega
                  have hkm : k < mm.length := by have := HN.out; omega
                  have hx : mm[k]? = some mm[k] := List.getElem?_eq_getElem hkm
                  have htk : mm.take (k + 1) = mm.take k ++ [mm[k]] := List.take_succ_eq_append_getElem hkm
                  have hps := HO8.out.right.st HPM.out (fun _ hx => hx)
                  generalize mm[k] = r at hx htk
                  obtain ⟨ga, o, rfl, p0, p1⟩ := hps.at_ hx
                  have HTK := hid htk
                  obtain ⟨pb, hpb⟩ : ∃ pb, wr.heap.size = pb := ⟨_, rfl⟩
                  have hO6 := HO8.out.alloc' hpb 38 [.slice r.ka r.k.length r.kc, .slice r.va r.v.length r.vc]
                  have hpb1 : (wr.alloc (.cells [.slice r.ka r.k.length r.kc, .slice r.va r.v.length r.vc].toArray 38)).heap.size = pb + 1 := by simp [hpb]
                  have hO7 := hO6.alloc' hpb1 36 [.slice r.ka r.k.length r.kc, .slice r.va r.v.length r.vc]
                  have q0 := hO6.cell 0 rfl (k := 0) 0 rfl (by simp)
                  have q1 := hO6.cell 0 rfl (k := 1) 1 rfl (by simp)
                  have hcs := hO7.cs_fw (List.mem_cons_self ..)
                  have HO7 := hid (hO7.perm (L' := F8 ++ (fw (pb + 1) 36 [.slice r.ka r.k.length r.kc, .slice r.va r.v.length r.vc] :: fw pb 38 [.slice r.ka r.k.length r.kc, .slice r.va r.v.length r.vc] :: (F5 ++ ([fw q 32 [.int .i64 a, .int .i64 b, .int .i64 cc, .int .i64 d]])))) (perm_of fun _ _ z => by simp only [List.count_append, List.count_cons, List.cons_append, List.count_nil, List.nil_append, List.append_nil]; omega))
                  have hone : ∀ u ∈ [Value.slice r.ka r.k.length r.kc, Value.slice r.va r.v.length r.vc], u.oneCell' = true := by simp [Value.oneCell']
                  have hn8 := HN8.out
                  have hn8l : n8 ≤ 300 := by omega
                  clear hps hx hkm htk hO6 hO7 hpb1 hn8
                  go_wp2_with (at_builtin; refine own_append rfl (.tmp 48) (.tmp 50) 22 rfl 36 (.agg #[.slice none 0 0, .slice none 0 0]) 2 48 Tryd.underlying22 Tryd.info_ipair rfl (by decide) A8 n8 c8 ((mm.take k).flatMap Pr.cells) F8 rfl HR8.out HO7.out (some ⟨pb + 1, 0, none⟩) 1 1 [.slice r.ka r.k.length r.kc, .slice r.va r.v.length r.vc] rfl rfl hcs hone (by simp [maxLen]; omega) (by omega) ?_; intro A9 c9 F9 w9 hr9 hO9 hnil; have HR9 := hid hr9; have HO9 := hid hO9; clear hr9 hO9 hnil hcs HO7 p0 p1 q0 q1)
                  go_roundw
                  case rel =>
                    refine ⟨k + 1, n8 + 1, A9, c9, F9, by go_num, by omega, rfl, hid (by rw [HN8.out]), hid ?_, hid ?_⟩
                    · rw [HTK.out, List.flatMap_append]; exact HR9.out
                    · exact (HO9.out.perm (L' := [fw (pb + 1) 36 [.slice r.ka r.k.length r.kc, .slice r.va r.v.length r.vc], fw pb 38 [.slice r.ka r.k.length r.kc, .slice r.va r.v.length r.vc]] ++ (F9 ++ (F5 ++ ([fw q 32 [.int .i64 a, .int .i64 b, .int .i64 cc, .int .i64 d]])))) (perm_of fun _ _ z => by simp only [List.count_append, List.count_cons, List.cons_append, List.count_nil, List.nil_append, List.append_nil]; omega)).right
                  case measure => simp [intOf]; omega
                · have h4' : ¬ (k : Int) < (n : Int) := by omega
                  have hkl : k = n := by omega
                  subst hkl
                  have hr8 := HR8.out
                  rw [List.take_of_length_le (by rw [← HN.out]; exact Nat.le_refl _)] at hr8
                  have HR8' := hid hr8
                  have hO9 := HO8.out
                  have qa := (hO9.right.right.cell 0 rfl (k := 0) 0 rfl (by simp))
                  have qb := (hO9.right.right.cell 0 rfl (k := 1) 1 rfl (by simp))
                  have qc := (hO9.right.right.cell 0 rfl (k := 2) 2 rfl (by simp))
                  have qd := (hO9.right.right.cell 0 rfl (k := 3) 3 rfl (by simp))
                  clear hr8 hO9 h4
                  go_wp2_with fail
                  refine (HL.out _).mono ?_
                  rintro e w9 ⟨rfl, ho9⟩
                  have HO9 := hid (HO8.out.only0 ho9)
                  clear ho9 qa qb qc qd HO8
                  go_wp2_with fail
                  have hw9 : kvw (kvs l) ≤ 1048576 := by rw [kvw_kvs]; exact hwl
                  have hl0 : 0 < l.length := by
                    rcases Nat.eq_zero_or_pos l.length with h0 | h0
                    · have := KO.out; rw [List.eq_nil_of_length_eq_zero h0] at this; simp [ordB, kvs] at this
                    · exact h0
                  refine (implTable A c bs rs nb fb l _ w _ (HP.out _) HO9.out b1.1 (by omega) b2.1 (by omega) b3 hw9 hl0).mono ?_
                  rintro e w10 (⟨ho, _⟩ | ⟨_, rfl, hO10⟩)
                  · rw [KO.out] at ho; cases ho
                  have HO10 := hid hO10
                  have qa := (hO10.right.right.cell 0 rfl (k := 0) 0 rfl (by simp))
                  have qb := (hO10.right.right.cell 0 rfl (k := 1) 1 rfl (by simp))
                  have qc := (hO10.right.right.cell 0 rfl (k := 2) 2 rfl (by simp))
                  have qd := (hO10.right.right.cell 0 rfl (k := 3) 3 rfl (by simp))
                  clear hO10 HO9
                  go_wp2_with fail
                  refine (HL.out _).mono ?_
                  rintro e w11 ⟨rfl, ho11⟩
                  have HO11 := hid (HO10.out.only0 ho11)
                  clear ho11 qa qb qc qd HO10
                  go_wp2_with fail
                  have hn8 := HN8.out
                  have hnm := HN.out
                  rw [hn8, hnm]
                  have hpm8 : St (F8 ++ (F5 ++ ([fw q 32 [.int .i64 a, .int .i64 b, .int .i64 cc, .int .i64 d]]))) w fun w => Prs w A8 mm := fun w' ho hb => ⟨HR8'.out.cs fun x hx => hb x (List.mem_append_left _ hx), fun r hr => (HP.out [] w' ho (by simp)).ok r (mapOf_mem (by rw [HMM.out]; exact hr))⟩
                  have hwm : kvw (kvs mm) ≤ 1048576 := by rw [kvw_kvs, ← HMM.out]; have := wgt_mapOf l; omega
                  refine (implTable A8 c8 bs rs nb fb mm _ w _ hpm8 HO11.out b1.1 (by omega) b2.1 (by omega) b3 hwm (by rw [← HMM.out]; exact mapOf_ne (List.length_pos_iff.1 hl0))).mono ?_
                  rintro e w12 (⟨_, h12⟩ | ⟨ho, _⟩)
                  · obtain ⟨fd, key, A12, c12, n12, F12, _, _, _, rfl, _, _, _, _, hO12⟩ := h12
                    have HO12 := hid hO12.out.only
                    clear hO12 hpm8 hwm
                    go_wp2_with fail
                    go_ret
                    exact ⟨rfl, HO12.out⟩
                  · rw [← HMM.out, asc_ord (mapOf_asc l)] at ho; cases ho
end Go.Proofs.YtloflmcgbbbnjaaDoor
namespace Go.Proofs.YtloflmcgbbbnjaaDoor
open Go.RowKit Go.ChangeShapes Go.WideShapes Plain
set_option linter.all false

theorem i64_bound {n : Int} (h : Lit.wf (.int .i64 n) = true) : -9223372036854775808 ≤ n ∧ n ≤ 9223372036854775807 := by
  have a : IntKind.i64.min = -9223372036854775808 := by decide
  have b : IntKind.i64.max = 9223372036854775807 := by decide
  have h : (decide (IntKind.i64.min ≤ n) && decide (n ≤ IntKind.i64.max)) = true := h
  rw [a, b, Bool.and_eq_true, decide_eq_true_eq, decide_eq_true_eq] at h
  exact h
def inI64 (n : Int) : Prop := -9223372036854775808 ≤ n ∧ n ≤ 9223372036854775807
set_option maxRecDepth 100000 in
theorem open_topts {H : Type} {enc : TypeId × Value → H} {W : World} {r : Reach} {b0 base : Nat} {spare : Nat → Bool} {held : Bool} {v : Value} {d : DataW H} {ps : List MemPlace}
    (hv : Value.okWide Tryd.prog W r b0 32 v) (h : DataW.Trod enc Tryd.prog W base spare held 32 v d ps) :
    ∃ a b c e : Int, v = .agg #[.int .i64 a, .int .i64 b, .int .i64 c, .int .i64 e] ∧ inI64 a ∧ inI64 b ∧ inI64 c ∧ inI64 e := by
  obtain ⟨cs, rfl, hsz⟩ := okWide_struct Tryd.underlying32 hv
  rw [show Tryd.prog.cellsOf 32 = 4 by kernel_rfl] at hsz
  obtain ⟨c0, c1, c2, c3, rfl⟩ := Joins.array4 hsz
  obtain ⟨fuel, hf⟩ := h
  obtain ⟨xs, k, _, _, hl, hlen, hf⟩ := DataW.trod_struct Tryd.underlying32 hf
  match xs, hlen with
  | [y1, y2, y3, y4], _ =>
    have u1 := hf 0 _ rfl
    have u2 := hf 1 _ rfl
    have u3 := hf 2 _ rfl
    have u4 := hf 3 _ rfl
    rw [show Tryd.prog.cellsOf _ = 1 by kernel_rfl] at u1 u2 u3 u4
    simp [Value.cells] at u1 u2 u3 u4
    obtain ⟨n1, e1, _, w1⟩ := DataW.trod_int Tryd.underlying3 u1
    obtain ⟨n2, e2, _, w2⟩ := DataW.trod_int Tryd.underlying3 u2
    obtain ⟨n3, e3, _, w3⟩ := DataW.trod_int Tryd.underlying3 u3
    obtain ⟨n4, e4, _, w4⟩ := DataW.trod_int Tryd.underlying3 u4
    simp at e1 e2 e3 e4
    subst e1; subst e2; subst e3; subst e4
    exact ⟨n1, n2, n3, n4, rfl, i64_bound w1, i64_bound w2, i64_bound w3, i64_bound w4⟩
end Go.Proofs.YtloflmcgbbbnjaaDoor
