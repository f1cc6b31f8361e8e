/-
  The laws over what is owned, as steps of a region that draws its order.
-/
import Derived.Test.YtloflmcgbbbnjaaOwn
import Derived.Deep.RegionLaw
import Derived.Deep.RegionWith
import Derived.Deep.RegionHeld3
namespace Go.Proofs.Ytloflmcgbbbnjaa
open Go.RowKit Plain

section
variable {P : Program} {ops : Array Oper} {o : Oper} {a : Act} {w0 w : World} {R : List Fr} {K : Act → World → Prop} {Q : Exit → Act → World → Prop} {E : Prop}
theorem run_append_any (t ty e : TypeId) (z : Value) (size bytes : Nat) (ht : P.underlying t = some (.slice e)) (hinfo : (P.info? e).map (fun i => (i.zero, i.size, i.bytes)) = some (some z, size, bytes)) (hzs : z.cells.size = size) (hsz : 0 < size)
    (v : Value) (n : Nat) (xs : List Value) (hown : w.ownsRow 0 e size v n xs) (A : Option Addr) (m c : Nat) (news : List Value) (hl : news.length = m * size) (hA : CsAt w A news)
    (h1 : ∀ u ∈ news, u.oneCell' = true) (h63 : n + m ≤ maxLen) (hbytes : (n + m) * bytes ≤ 140737488355328) :
    ∃ v' w', (Builtin.append_ #[t, t] ty #[v, .slice A m c]).run P w = .ok v' w' ∧ w'.ownsRow 0 e size v' (n + m) (xs ++ news) ∧ w.grownBy w' v.ownBlock ∧ (v' = .slice none 0 0 ↔ v = .slice none 0 0 ∧ m = 0) ∧ (v'.ownBlock = v.ownBlock ∨ v'.ownBlock = some w.heap.size) := by
  obtain ⟨i, hi, hzz⟩ := Option.map_eq_some_iff.1 hinfo
  simp only [Prod.mk.injEq] at hzz
  obtain ⟨hz, hss, hbt⟩ := hzz
  have key : ∀ ad, A = some ad → (∀ j u, news[j]? = some u → w.cell? (ad.add j) = some u) → ∃ v' w', (Builtin.append_ #[t, t] ty #[v, .slice A m c]).run P w = .ok v' w' ∧ w'.ownsRow 0 e size v' (n + m) (xs ++ news) ∧ w.grownBy w' v.ownBlock ∧ (v' = .slice none 0 0 ↔ v = .slice none 0 0 ∧ m = 0) ∧ (v'.ownBlock = v.ownBlock ∨ v'.ownBlock = some w.heap.size) := fun ad e2 hc => by
    subst e2
    exact run_append_own_at (P := P) w 0 t ty e i z size bytes ht hi hz hss hbt hzs hsz v n xs hown ad m c news hl hc h1 h63 hbytes (Nat.zero_le _)
  rcases Nat.eq_zero_or_pos news.length with h0 | h0
  · obtain rfl : news = [] := List.eq_nil_of_length_eq_zero h0
    rcases A with _ | ad
    · have hm : m = 0 := by
        rcases Nat.eq_zero_or_pos m with h | h
        · exact h
        · have := Nat.mul_pos h hsz; simp at hl; omega
      subst hm
      exact ⟨v, w, run_append_of_nil (P := P) (w := w) 0 t ty e i size ht hi v n xs hown c, by simpa using hown, World.grownBy.refl w _, by simp, .inl rfl⟩
    · exact key ad rfl (fun j u hj => by simp at hj)
  · obtain ⟨g, o', e2, _, hc⟩ := hA.addr h0
    refine key _ e2 fun j u hj => ?_
    have hjl := (List.getElem?_eq_some_iff.1 hj).1
    rw [add_none, hc j hjl, hj]

/-- append(s, src...) onto a row of the call's own. -/
theorem own_append_wp (s x : Operand) (t : TypeId) (ho : o.op = .call { callee := .builtin .append, args := #[s, x], argTypes := #[t, t] })
    (e : TypeId) (z : Value) (size bytes : Nat) (ht : P.underlying t = some (.slice e)) (hinfo : (P.info? e).map (fun i => (i.zero, i.size, i.bytes)) = some (some z, size, bytes)) (hzs : z.cells.size = size) (hsz : 0 < size)
    (A : Option Addr) (n c : Nat) (xs : List Value) (F : List Fr) (hs : a.eval s = .slice A n c) (hr : Row e size A n c xs F) (hO : Own (F ++ R) w0 w)
    (A2 : Option Addr) (m c2 : Nat) (news : List Value) (hx : a.eval x = .slice A2 m c2) (hl : news.length = m * size) (hA : CsAt w A2 news)
    (h1 : ∀ u ∈ news, u.oneCell' = true) (h63 : n + m ≤ maxLen) (hbytes : (n + m) * bytes ≤ 140737488355328)
    (h : ∀ A' c' F' w', Row e size A' (n + m) c' (xs ++ news) F' → Own (F' ++ R) w0 w' → (A' = none ↔ A = none ∧ m = 0) → K (a.put o.dst (.slice A' (n + m) c')) w') :
    o.wp P a w K Q := by
  obtain ⟨v', w', hrun, hown, hgr, hnil, hat⟩ := run_append_any (P := P) (w := w) t o.type e z size bytes ht hinfo hzs hsz (.slice A n c) n xs (hr.owns fun x hx => hO.ins x (List.mem_append_left _ hx)) A2 m c2 news hl hA h1 h63 hbytes
  unfold Oper.wp execOp
  simp only [ho, resolve, invoke, builtin, Sem.run_bind, Sem.run_pure, Result.andThen_ok, List.map_toArray, List.map_cons, List.map_nil, hs, hx, hrun]
  obtain ⟨A', c', F', rfl, hr', hb', hF, hdj⟩ := Row.of_owns hown
  refine h A' c' F' w' hr' ?_ ?_
  · have hFo := hr.block
    refine hO.swap hr.whole (Only.of_grown hgr fun k hk => by rw [hFo, hk]; simp) hb' (fun y hy => ?_) hdj
    have hy' : y.g ∈ F'.map (·.g) := List.mem_map.2 ⟨y, hy, rfl⟩
    rw [hF] at hy'
    rcases hat with e | e
    · rw [e, ← hFo] at hy'; exact .inl hy'
    · rw [e] at hy'; simp at hy'; exact .inr (by omega)
  · rw [hr'.none_iff, hnil, hr.none_iff]
theorem own_step_append (hgd : o.guard = none) (s x : Operand) (t : TypeId) (ho : o.op = .call { callee := .builtin .append, args := #[s, x], argTypes := #[t, t] })
    (e : TypeId) (z : Value) (size bytes : Nat) (ht : P.underlying t = some (.slice e)) (hinfo : (P.info? e).map (fun i => (i.zero, i.size, i.bytes)) = some (some z, size, bytes)) (hzs : z.cells.size = size) (hsz : 0 < size)
    (A : Option Addr) (n c : Nat) (xs : List Value) (F : List Fr) (hs : a.eval s = .slice A n c) (hr : Row e size A n c xs F) (hO : Own (F ++ R) w0 w)
    (A2 : Option Addr) (m c2 : Nat) (news : List Value) (hx : a.eval x = .slice A2 m c2) (hl : news.length = m * size) (hA : CsAt w A2 news)
    (h1 : ∀ u ∈ news, u.oneCell' = true) (h63 : n + m ≤ maxLen) (hbytes : (n + m) * bytes ≤ 140737488355328)
    (h : ∀ A' c' F' w', Row e size A' (n + m) c' (xs ++ news) F' → Own (F' ++ R) w0 w' → (A' = none ↔ A = none ∧ m = 0) → K (a.put o.dst (.slice A' (n + m) c')) w') :
    if Region.wanted o (yielded ops a.tmps) = true then Oper.wp P o a w K Q else E := by
  rw [if_pos (by simp [Region.wanted, hgd])]
  exact own_append_wp s x t ho e z size bytes ht hinfo hzs hsz A n c xs F hs hr hO A2 m c2 news hx hl hA h1 h63 hbytes h
end
end Go.Proofs.Ytloflmcgbbbnjaa
