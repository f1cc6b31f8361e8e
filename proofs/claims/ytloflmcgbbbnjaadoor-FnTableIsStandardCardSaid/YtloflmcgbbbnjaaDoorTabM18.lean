/-
  spec.Equal: rows of alike pairs are alike.
  laws.tabled: pairs that can be a table.
  FnTableIsStandard: the walk.
  impl.TableOptions as an argument.
-/
import Derived.Test.YtloflmcgbbbnjaaDoorTabM12
import Derived.Test.YtloflmcgbbbnjaaDoorTabM4
import Derived.Test.YtloflmcgbbbnjaaDoorTabM14
import Derived.Test.YtloflmcgbbbnjaaDoorTabM17
import Derived.Test.YtloflmcgbbbnjaaDoorTabM2
import Derived.Lib.SmallJoins
namespace Go.Proofs.YtloflmcgbbbnjaaDoor
open Go.RowKit Plain
set_option linter.all false

theorem runStr {w : World} {A : Option Addr} {k : List UInt8} (h : BsAt w A k) (c n : Nat) (hn : n = k.length) : Sem.run Tryd.prog (convert 25 9 (Value.slice A n c)) w = Result.ok (Value.string (bstr k)) w := by
  subst hn
  exact run_str (P := Tryd.prog) 25 9 5 c Tryd.underlying25 Tryd.underlying5 Tryd.underlying9 h
set_option maxHeartbeats 3200000 in
set_option maxRecDepth 100000 in
theorem equal_true (A B : Option Addr) (c d n m : Nat) (l l' : List Pr) (w : World) (h : Prs w A l) (h' : Prs w B l') (hn : n = l.length) (hm : m = l'.length) (hk : kvs l = kvs l') (hl : l.length ≤ 1099511627776) :
    Calls Tryd.prog 22 #[.slice A n c, .slice B m d] w fun e w' => e = .returned (.bool true) ∧ Dr w w' := by
  have hmn : m = n := by rw [hn, hm, ← kvs_length, ← kvs_length, hk]
  subst hmn
  have HH := hid h
  have HH' := hid h'
  have HN := hid hn
  have HM := hid hm
  have HK := hid hk
  have hnl : m ≤ 1099511627776 := by omega
  clear h h' hn hm hk hl
  go_enter Tryd.func22, Tryd.ntmps22
  go_wp2_with fail
  go_loopw [13] (fun i wr => ∃ k : Nat, i = .int .i64 k ∧ k ≤ m ∧ Hid (Dr w wr)) (fun i _ => m - (intOf i).toNat)
  case atStart => exact ⟨0, rfl, Nat.zero_le _, hid (Dr.refl _)⟩
  case round =>
    obtain ⟨k, rfl, hk2, HD⟩ := hrel
    by_cases h4 : k < m
    · have h4' : (k : Int) < (m : Int) := by omega
      have hx : l[k]? = some (l[k]'(by have := HN.out; omega)) := List.getElem?_eq_getElem _
      have hmx : l[k]'(by have := HN.out; omega) ∈ l := List.getElem_mem _
      generalize l[k]'(by have := HN.out; omega) = x at hx hmx
      have hy : l'[k]? = some (l'[k]'(by have := HM.out; omega)) := List.getElem?_eq_getElem _
      have hmy : l'[k]'(by have := HM.out; omega) ∈ l' := List.getElem_mem _
      generalize l'[k]'(by have := HM.out; omega) = y at hy hmy
      have ek : x.k = y.k := by rw [← key_kvs hx, ← key_kvs hy, HK.out]
      have ev : x.v = y.v := by rw [← val_kvs hx, ← val_kvs hy, HK.out]
      have hp := HH.out.keep0 HD.out.only
      have hp' := HH'.out.keep0 HD.out.only
      obtain ⟨g, o, rfl, p0, p1⟩ := hp.at_ hx
      obtain ⟨g', o', rfl, p2, p3⟩ := hp'.at_ hy
      have ox := hp.ok x hmx
      have oy := hp'.ok y hmy
      rw [ek] at p0
      rw [ev] at p1
      have hdd : Only [] wr wr.drew := (Only.refl [] wr).drew
      have f1 := runStr ((ek ▸ ox.hk : BsAt wr x.ka y.k).keep0 hdd) x.kc y.k.length rfl
      have f2 := runStr (oy.hk.keep0 hdd) y.kc y.k.length rfl
      have f3 := runStr ((ev ▸ ox.hv : BsAt wr x.va y.v).keep0 hdd) x.vc y.v.length rfl
      have f4 := runStr (oy.hv.keep0 hdd) y.vc y.v.length rfl
      clear hdd
      clear hx hmx hy hmy ek ev hp hp' ox oy
      go_wp2_with fail
      refine AnyT.start (S := fun w' => w'.cell? ⟨g, o + k * 2, none⟩ = some (.slice x.ka y.k.length x.kc) ∧ w'.cell? ⟨g, o + k * 2 + 1, none⟩ = some (.slice x.va y.v.length x.vc) ∧ w'.cell? ⟨g', o' + k * 2, none⟩ = some (.slice y.ka y.k.length y.kc) ∧ w'.cell? ⟨g', o' + k * 2 + 1, none⟩ = some (.slice y.va y.v.length y.vc) ∧ Sem.run Tryd.prog (convert 25 9 (Value.slice x.ka y.k.length x.kc)) w' = Result.ok (Value.string (bstr y.k)) w' ∧ Sem.run Tryd.prog (convert 25 9 (Value.slice y.ka y.k.length y.kc)) w' = Result.ok (Value.string (bstr y.k)) w' ∧ Sem.run Tryd.prog (convert 25 9 (Value.slice x.va y.v.length x.vc)) w' = Result.ok (Value.string (bstr y.v)) w' ∧ Sem.run Tryd.prog (convert 25 9 (Value.slice y.va y.v.length y.vc)) w' = Result.ok (Value.string (bstr y.v)) w') (T := []) (by kernel_rfl) (⟨p0, p1, p2, p3, f1, f2, f3, f4⟩) (fun hHeld => ?_)
      refine AnyT.take (i := 0) (v := ?_) (by simp only [List.getElem?_toArray, List.getElem?_cons_succ, List.getElem?_cons_zero]; rfl) (by kernel_rfl) (by kernel_rfl) (by kernel_rfl) (by kernel_rfl) (by intro _ _ _ h; exact h) (Or.inl ⟨by rfl, fun w hSw => ?_⟩) hHeld ?_
      rotate_left
      · ((try dsimp only at hSw); go_simp; first | done | with_reducible rfl | rfl)
      try simp only [Act.put, List.setIfInBounds_toArray, List.set_cons_zero, List.set_cons_succ]
      refine AnyT.take (i := 1) (v := ?_) (by simp only [List.getElem?_toArray, List.getElem?_cons_succ, List.getElem?_cons_zero]; rfl) (by kernel_rfl) (by kernel_rfl) (by kernel_rfl) (by kernel_rfl) (by intro _ _ _ h; exact h) (Or.inl ⟨by rfl, fun w hSw => ?_⟩) hHeld ?_
      rotate_left
      · ((try dsimp only at hSw); go_simp; first | done | with_reducible rfl | rfl)
      try simp only [Act.put, List.setIfInBounds_toArray, List.set_cons_zero, List.set_cons_succ]
      refine AnyT.take (i := 2) (v := ?_) (by simp only [List.getElem?_toArray, List.getElem?_cons_succ, List.getElem?_cons_zero]; rfl) (by kernel_rfl) (by kernel_rfl) (by kernel_rfl) (by kernel_rfl) (by intro _ _ _ h; exact h) (Or.inl ⟨by rfl, fun w hSw => ?_⟩) hHeld ?_
      rotate_left
      · ((try dsimp only at hSw); go_simp; first | done | with_reducible rfl | rfl)
      try simp only [Act.put, List.setIfInBounds_toArray, List.set_cons_zero, List.set_cons_succ]
      refine AnyT.take (i := 3) (v := ?_) (by simp only [List.getElem?_toArray, List.getElem?_cons_succ, List.getElem?_cons_zero]; rfl) (by kernel_rfl) (by kernel_rfl) (by kernel_rfl) (by kernel_rfl) (by intro _ _ _ h; exact h) (Or.inl ⟨by rfl, fun w hSw => ?_⟩) hHeld ?_
      rotate_left
      · ((try dsimp only at hSw); go_simp; first | done | with_reducible rfl | rfl)
      try simp only [Act.put, List.setIfInBounds_toArray, List.set_cons_zero, List.set_cons_succ]
      refine AnyT.take (i := 4) (v := ?_) (by simp only [List.getElem?_toArray, List.getElem?_cons_succ, List.getElem?_cons_zero]; rfl) (by kernel_rfl) (by kernel_rfl) (by kernel_rfl) (by kernel_rfl) (by intro _ _ _ h; exact h) (Or.inl ⟨by rfl, fun w hSw => ?_⟩) hHeld ?_
      rotate_left
      · ((try dsimp only at hSw); go_simp; first | done | with_reducible rfl | rfl)
      try simp only [Act.put, List.setIfInBounds_toArray, List.set_cons_zero, List.set_cons_succ]
      refine AnyT.take (i := 5) (v := ?_) (by simp only [List.getElem?_toArray, List.getElem?_cons_succ, List.getElem?_cons_zero]; rfl) (by kernel_rfl) (by kernel_rfl) (by kernel_rfl) (by kernel_rfl) (by intro _ _ _ h; exact h) (Or.inl ⟨by rfl, fun w hSw => ?_⟩) hHeld ?_
      rotate_left
      · ((try dsimp only at hSw); go_simp; first | done | with_reducible rfl | rfl)
      try simp only [Act.put, List.setIfInBounds_toArray, List.set_cons_zero, List.set_cons_succ]
      refine AnyT.take (i := 6) (v := ?_) (by simp only [List.getElem?_toArray, List.getElem?_cons_succ, List.getElem?_cons_zero]; rfl) (by kernel_rfl) (by kernel_rfl) (by kernel_rfl) (by kernel_rfl) (by intro _ _ _ h; exact h) (Or.inl ⟨by rfl, fun w hSw => ?_⟩) hHeld ?_
      rotate_left
      · ((try dsimp only at hSw); go_simp; first | done | with_reducible rfl | rfl)
      try simp only [Act.put, List.setIfInBounds_toArray, List.set_cons_zero, List.set_cons_succ]
      refine AnyT.take (i := 7) (v := ?_) (by simp only [List.getElem?_toArray, List.getElem?_cons_succ, List.getElem?_cons_zero]; rfl) (by kernel_rfl) (by kernel_rfl) (by kernel_rfl) (by kernel_rfl) (by intro _ _ _ h; exact h) (Or.inl ⟨by rfl, fun w hSw => ?_⟩) hHeld ?_
      rotate_left
      · ((try dsimp only at hSw); go_simp; first | done | with_reducible rfl | rfl)
      try simp only [Act.put, List.setIfInBounds_toArray, List.set_cons_zero, List.set_cons_succ]
      refine AnyT.take (i := 8) (v := ?_) (by simp only [List.getElem?_toArray, List.getElem?_cons_succ, List.getElem?_cons_zero]; rfl) (by kernel_rfl) (by kernel_rfl) (by kernel_rfl) (by kernel_rfl) (by intro _ _ _ h; exact h) (Or.inl ⟨by rfl, fun w hSw => ?_⟩) hHeld ?_
      rotate_left
      · ((try dsimp only at hSw); go_simp; first | done | with_reducible rfl | rfl)
      try simp only [Act.put, List.setIfInBounds_toArray, List.set_cons_zero, List.set_cons_succ]
      refine AnyT.take (i := 9) (v := ?_) (by simp only [List.getElem?_toArray, List.getElem?_cons_succ, List.getElem?_cons_zero]; rfl) (by kernel_rfl) (by kernel_rfl) (by kernel_rfl) (by kernel_rfl) (by intro _ _ _ h; exact h) (Or.inl ⟨by rfl, fun w hSw => ?_⟩) hHeld ?_
      rotate_left
      · ((try dsimp only at hSw); go_simp; first | done | with_reducible rfl | rfl)
      try simp only [Act.put, List.setIfInBounds_toArray, List.set_cons_zero, List.set_cons_succ]
      refine AnyT.take (i := 10) (v := ?_) (by simp only [List.getElem?_toArray, List.getElem?_cons_succ, List.getElem?_cons_zero]; rfl) (by kernel_rfl) (by kernel_rfl) (by kernel_rfl) (by kernel_rfl) (by intro _ _ _ h; exact h) (Or.inl ⟨by rfl, fun w hSw => ?_⟩) hHeld ?_
      rotate_left
      · ((try dsimp only at hSw); go_simp; first | done | with_reducible rfl | rfl)
      try simp only [Act.put, List.setIfInBounds_toArray, List.set_cons_zero, List.set_cons_succ]
      refine AnyT.take (i := 11) (v := ?_) (by simp only [List.getElem?_toArray, List.getElem?_cons_succ, List.getElem?_cons_zero]; rfl) (by kernel_rfl) (by kernel_rfl) (by kernel_rfl) (by kernel_rfl) (by intro _ _ _ h; exact h) (Or.inl ⟨by rfl, fun w hSw => ?_⟩) hHeld ?_
      rotate_left
      · ((try dsimp only at hSw); go_simp; first | done | with_reducible rfl | rfl)
      try simp only [Act.put, List.setIfInBounds_toArray, List.set_cons_zero, List.set_cons_succ]
      refine AnyT.take (i := 12) (v := ?_) (by simp only [List.getElem?_toArray, List.getElem?_cons_succ, List.getElem?_cons_zero]; rfl) (by kernel_rfl) (by kernel_rfl) (by kernel_rfl) (by kernel_rfl) (by intro _ _ _ h; exact h) (Or.inl ⟨by rfl, fun w hSw => ?_⟩) hHeld ?_
      rotate_left
      · ((try dsimp only at hSw); go_simp; first | done | with_reducible rfl | rfl)
      try simp only [Act.put, List.setIfInBounds_toArray, List.set_cons_zero, List.set_cons_succ]
      refine AnyT.take (i := 13) (v := ?_) (by simp only [List.getElem?_toArray, List.getElem?_cons_succ, List.getElem?_cons_zero]; rfl) (by kernel_rfl) (by kernel_rfl) (by kernel_rfl) (by kernel_rfl) (by intro _ _ _ h; exact h) (Or.inl ⟨by rfl, fun w hSw => ?_⟩) hHeld ?_
      rotate_left
      · ((try dsimp only at hSw); go_simp; first | done | with_reducible rfl | rfl)
      try simp only [Act.put, List.setIfInBounds_toArray, List.set_cons_zero, List.set_cons_succ]
      refine AnyT.take (i := 14) (v := ?_) (by simp only [List.getElem?_toArray, List.getElem?_cons_succ, List.getElem?_cons_zero]; rfl) (by kernel_rfl) (by kernel_rfl) (by kernel_rfl) (by kernel_rfl) (by intro _ _ _ h; exact h) (Or.inl ⟨by rfl, fun w hSw => ?_⟩) hHeld ?_
      rotate_left
      · ((try dsimp only at hSw); go_simp; first | done | with_reducible rfl | rfl)
      try simp only [Act.put, List.setIfInBounds_toArray, List.set_cons_zero, List.set_cons_succ]
      refine AnyT.take (i := 15) (v := ?_) (by simp only [List.getElem?_toArray, List.getElem?_cons_succ, List.getElem?_cons_zero]; rfl) (by kernel_rfl) (by kernel_rfl) (by kernel_rfl) (by kernel_rfl) (by intro _ _ _ h; exact h) (Or.inl ⟨by rfl, fun w hSw => ?_⟩) hHeld ?_
      rotate_left
      · ((try dsimp only at hSw); go_simp; first | done | with_reducible rfl | rfl)
      try simp only [Act.put, List.setIfInBounds_toArray, List.set_cons_zero, List.set_cons_succ]
      refine AnyT.take (i := 16) (v := ?_) (by simp only [List.getElem?_toArray, List.getElem?_cons_succ, List.getElem?_cons_zero]; rfl) (by kernel_rfl) (by kernel_rfl) (by kernel_rfl) (by kernel_rfl) (by intro _ _ _ h; exact h) (Or.inl ⟨by rfl, fun w hSw => ?_⟩) hHeld ?_
      rotate_left
      · ((try dsimp only at hSw); go_simp; first | done | with_reducible rfl | rfl)
      try simp only [Act.put, List.setIfInBounds_toArray, List.set_cons_zero, List.set_cons_succ]
      refine AnyT.take (i := 17) (v := ?_) (by simp only [List.getElem?_toArray, List.getElem?_cons_succ, List.getElem?_cons_zero]; rfl) (by kernel_rfl) (by kernel_rfl) (by kernel_rfl) (by kernel_rfl) (by intro _ _ _ h; exact h) (Or.inl ⟨by rfl, fun w hSw => ?_⟩) hHeld ?_
      rotate_left
      · ((try dsimp only at hSw); go_simp; first | done | with_reducible rfl | rfl)
      try simp only [Act.put, List.setIfInBounds_toArray, List.set_cons_zero, List.set_cons_succ]
      refine AnyT.take (i := 18) (v := ?_) (by simp only [List.getElem?_toArray, List.getElem?_cons_succ, List.getElem?_cons_zero]; rfl) (by kernel_rfl) (by kernel_rfl) (by kernel_rfl) (by kernel_rfl) (by intro _ _ _ h; exact h) (Or.inl ⟨by rfl, fun w hSw => ?_⟩) hHeld ?_
      rotate_left
      · ((try dsimp only at hSw); go_simp; first | done | with_reducible rfl | rfl)
      try simp only [Act.put, List.setIfInBounds_toArray, List.set_cons_zero, List.set_cons_succ]
      refine AnyT.take (i := 19) (v := ?_) (by simp only [List.getElem?_toArray, List.getElem?_cons_succ, List.getElem?_cons_zero]; rfl) (by kernel_rfl) (by kernel_rfl) (by kernel_rfl) (by kernel_rfl) (by intro _ _ _ h; exact h) (Or.inl ⟨by rfl, fun w hSw => ?_⟩) hHeld ?_
      rotate_left
      · ((try dsimp only at hSw); go_simp; first | done | with_reducible rfl | rfl)
      try simp only [Act.put, List.setIfInBounds_toArray, List.set_cons_zero, List.set_cons_succ]
      refine AnyT.take (i := 20) (v := ?_) (by simp only [List.getElem?_toArray, List.getElem?_cons_succ, List.getElem?_cons_zero]; rfl) (by kernel_rfl) (by kernel_rfl) (by kernel_rfl) (by kernel_rfl) (by intro _ _ _ h; exact h) (Or.inl ⟨by rfl, fun w hSw => ?_⟩) hHeld ?_
      rotate_left
      · ((try dsimp only at hSw); go_simp; first | done | with_reducible rfl | rfl)
      try simp only [Act.put, List.setIfInBounds_toArray, List.set_cons_zero, List.set_cons_succ]
      refine AnyT.take (i := 21) (v := ?_) (by simp only [List.getElem?_toArray, List.getElem?_cons_succ, List.getElem?_cons_zero]; rfl) (by kernel_rfl) (by kernel_rfl) (by kernel_rfl) (by kernel_rfl) (by intro _ _ _ h; exact h) (Or.inl ⟨by rfl, fun w hSw => ?_⟩) hHeld ?_
      rotate_left
      · ((try dsimp only at hSw); go_simp; first | done | with_reducible rfl | rfl)
      try simp only [Act.put, List.setIfInBounds_toArray, List.set_cons_zero, List.set_cons_succ]
      refine AnyT.take (i := 22) (v := ?_) (by simp only [List.getElem?_toArray, List.getElem?_cons_succ, List.getElem?_cons_zero]; rfl) (by kernel_rfl) (by kernel_rfl) (by kernel_rfl) (by kernel_rfl) (by intro _ _ _ h; exact h) (Or.inl ⟨by rfl, fun w hSw => ?_⟩) hHeld ?_
      rotate_left
      · ((try dsimp only at hSw); go_simp; first | done | with_reducible rfl | rfl)
      try simp only [Act.put, List.setIfInBounds_toArray, List.set_cons_zero, List.set_cons_succ]
      refine AnyT.take (i := 23) (v := ?_) (by simp only [List.getElem?_toArray, List.getElem?_cons_succ, List.getElem?_cons_zero]; rfl) (by kernel_rfl) (by kernel_rfl) (by kernel_rfl) (by kernel_rfl) (by intro _ _ _ h; exact h) (Or.inl ⟨by rfl, fun w hSw => ?_⟩) hHeld ?_
      rotate_left
      · ((try dsimp only at hSw); go_simp; first | done | with_reducible rfl | rfl)
      try simp only [Act.put, List.setIfInBounds_toArray, List.set_cons_zero, List.set_cons_succ]
      refine AnyT.take (i := 24) (v := ?_) (by simp only [List.getElem?_toArray, List.getElem?_cons_succ, List.getElem?_cons_zero]; rfl) (by kernel_rfl) (by kernel_rfl) (by kernel_rfl) (by kernel_rfl) (by intro _ _ _ h; exact h) (Or.inl ⟨by rfl, fun w hSw => ?_⟩) hHeld ?_
      rotate_left
      · ((try dsimp only at hSw); go_simp; first | done | with_reducible rfl | rfl)
      try simp only [Act.put, List.setIfInBounds_toArray, List.set_cons_zero, List.set_cons_succ]
      refine AnyT.take (i := 25) (v := ?_) (by simp only [List.getElem?_toArray, List.getElem?_cons_succ, List.getElem?_cons_zero]; rfl) (by kernel_rfl) (by kernel_rfl) (by kernel_rfl) (by kernel_rfl) (by intro _ _ _ h; exact h) (Or.inl ⟨by rfl, fun w hSw => ?_⟩) hHeld ?_
      rotate_left
      · ((try dsimp only at hSw); go_simp; first | done | with_reducible rfl | rfl)
      try simp only [Act.put, List.setIfInBounds_toArray, List.set_cons_zero, List.set_cons_succ]
      refine AnyT.take (i := 26) (v := ?_) (by simp only [List.getElem?_toArray, List.getElem?_cons_succ, List.getElem?_cons_zero]; rfl) (by kernel_rfl) (by kernel_rfl) (by kernel_rfl) (by kernel_rfl) (by intro _ _ _ h; exact h) (Or.inl ⟨by rfl, fun w hSw => ?_⟩) hHeld ?_
      rotate_left
      · ((try dsimp only at hSw); go_simp; first | done | with_reducible rfl | rfl)
      try simp only [Act.put, List.setIfInBounds_toArray, List.set_cons_zero, List.set_cons_succ]
      refine AnyT.take (i := 27) (v := ?_) (by simp only [List.getElem?_toArray, List.getElem?_cons_succ, List.getElem?_cons_zero]; rfl) (by kernel_rfl) (by kernel_rfl) (by kernel_rfl) (by kernel_rfl) (by intro _ _ _ h; exact h) (Or.inl ⟨by rfl, fun w hSw => ?_⟩) hHeld ?_
      rotate_left
      · ((try dsimp only at hSw); go_simp; first | done | with_reducible rfl | rfl)
      try simp only [Act.put, List.setIfInBounds_toArray, List.set_cons_zero, List.set_cons_succ]
      refine AnyT.done (by kernel_rfl) ?_ _
      clear hHeld p0 p1 p2 p3 f1 f2 f3 f4
      go_wp2_with fail
      exact ⟨⟨k + 1, rfl, h4, hid HD.out.drew⟩, by simp [intOf]; omega⟩
    · have h4' : ¬ (k : Int) < (m : Int) := by omega
      go_wp2_with fail
      go_ret
      exact ⟨rfl, HD.out⟩
end Go.Proofs.YtloflmcgbbbnjaaDoor
namespace Go.Proofs.YtloflmcgbbbnjaaDoor
open Go.RowKit Plain
set_option linter.all false

def tabB (l : List Pr) : Bool := decide (wgt l ≤ 1048576) && ordB (kvs l)
set_option maxHeartbeats 1600000 in
theorem tabled_any (A : Option Addr) (c : Nat) (l : List Pr) (w : World) (h : Prs w A l) (hb : wgt l ≤ 9223372036854775807) (hl : l.length ≤ 2147483647) (hk : ∀ r ∈ l, r.k.length ≤ 2147483647 ∧ r.v.length ≤ 2147483647) :
    Calls Tryd.prog 11 #[.slice A l.length c] w fun e w' => e = .returned (.bool (tabB l)) ∧ Only [] w w' := by
  cases hf : decide (wgt l ≤ 1048576) with
  | false =>
    have HR := hid (show (false : Bool) = tabB l by simp [tabB, hf])
    have HF := hid hf
    clear hf
    go_enter Tryd.func11, Tryd.ntmps11
    go_wp2_with (go_at_call 16; refine (few_any A c l _ h hb hl).mono ?_; rintro e w1 ⟨rfl, ho1⟩; rw [HF.out])
    go_ret
    exact ⟨ret_bool HR.out, ho1⟩
  | true =>
    have HR := hid (show ordB (kvs l) = tabB l by simp [tabB, hf])
    have HF := hid hf
    clear hf
    go_enter Tryd.func11, Tryd.ntmps11
    go_wp2_with (go_at_call 16; refine (few_any A c l _ h hb hl).mono ?_; rintro e w1 ⟨rfl, ho1⟩; rw [HF.out])
    have h1 := h.keep0 ho1
    refine (pairs_own A c l [] w1 w1 (fun w' ho _ => h1.keep0 ho) (Own.start w1) (by omega)).mono ?_
    rintro e w2 ⟨A2, c2, F2, rfl, hr2, hO2⟩
    have hps : Prs w2 A2 l := ⟨hr2.out.csO hO2.out, fun r hr => (h1.ok r hr).keep0 hO2.out.only⟩
    have HPS := hid hps
    have HO := hid (ho1.new hO2.out.only)
    clear hps ho1 h1
    go_wp2_with fail
    refine (ordered_any A2 c2 l w2 HPS.out (by omega) (fun r hr => by have := (hk r hr).1; omega)).mono ?_
    rintro e w3 ⟨rfl, hd⟩
    have HO3 := hid (HO.out.dr hd)
    clear hd
    go_wp2
    go_ret
    exact ⟨ret_bool HR.out, HO3.out⟩
end Go.Proofs.YtloflmcgbbbnjaaDoor
namespace Go.Proofs.YtloflmcgbbbnjaaDoor
open Go.RowKit Plain
set_option linter.all false

theorem tabR {rs : Nat} {L : List KV} {s s1 : TS} {cl : List (List KV)} {E : List KV} (h : TDone rs L s s1 cl E) (fd key : List UInt8) (hrs : 0 < rs) (hw : kvw L ≤ 1048576) (hfd : fd.length ≤ 18000000) (hkl : key.length ≤ 200) (ho : ordB L = true) :
    ∃ M fo, TabR rs (tTable s1 fd key) L cl E M fo ∧ (M = [] ↔ fd = []) := by
  obtain ⟨M, fo, h1, h2, h3, h4⟩ := table_parts h fd key hrs hw hfd hkl
  refine ⟨M, fo, ⟨h1, h.flat, ho, hw, by have := h.kvwE; omega, h3, h.idx.len, h.idx.ne, fun i hi => ?_, fun i k hi hk => idx_last h ho hi hk, h4, hrs⟩, h2⟩
  rw [h.idx.ek i hi]
  exact sepKey_ge _ _
set_option maxHeartbeats 1600000 in
theorem tabStd_bad (A : Option Addr) (c : Nat) (a b cc d : Int) (l : List Pr) (w : World) (h : Prs w A l) (hbad : okP l = false ∨ tabB l = false ∨ l.length = 0) :
    Calls Tryd.prog 5 #[.slice A l.length c, .agg #[.int .i64 a, .int .i64 b, .int .i64 cc, .int .i64 d]] w fun e w' => e = .returned (.bool true) ∧ Only [] w w' := by
  have hob := (Only.refl [] w).alloc (Obj.cells #[.int .i64 a, .int .i64 b, .int .i64 cc, .int .i64 d] 32)
  have HH := hid (h.keep0 hob)
  have HOB := hid hob
  clear h hob
  cases ka : okP l with
  | false =>
    have KA := hid ka
    clear hbad ka
    go_enter Tryd.func5, Tryd.ntmps5
    go_wp2_with (go_at_call 10; refine (fits6_any A c l _ HH.out).mono ?_; rintro e w1 ⟨rfl, ho1⟩; rw [KA.out])
    go_ret
    exact ⟨rfl, HOB.out.new ho1⟩
  | true =>
    obtain ⟨la, wa, ks⟩ := okP_len ka
    have KA := hid ka
    have KS := hid ks
    clear ka ks
    cases kt : tabB l with
    | false =>
      have KT := hid kt
      clear hbad kt
      go_enter Tryd.func5, Tryd.ntmps5
      go_wp2_with (first
        | (go_at_call 10; refine (fits6_any A c l _ HH.out).mono ?_; rintro e w1 ⟨rfl, ho1⟩; rw [KA.out])
        | (go_at_call 11; refine (tabled_any A c l _ (HH.out.keep0 ho1) wa la KS.out).mono ?_; rintro e w2 ⟨rfl, ho2⟩; rw [KT.out]))
      go_ret
      exact ⟨rfl, HOB.out.new (ho1.new ho2)⟩
    | true =>
      have hl0 : l.length = 0 := by
        rcases hbad with h | h | h
        · rw [KA.out] at h; cases h
        · rw [kt] at h; cases h
        · exact h
      have KT := hid kt
      have e0 : ((l.length : Int) == 0) = true := by rw [hl0]; rfl
      clear hbad kt hl0
      go_enter Tryd.func5, Tryd.ntmps5
      go_wp2_with (first
        | (go_at_call 10; refine (fits6_any A c l _ HH.out).mono ?_; rintro e w1 ⟨rfl, ho1⟩; rw [KA.out])
        | (go_at_call 11; refine (tabled_any A c l _ (HH.out.keep0 ho1) wa la KS.out).mono ?_; rintro e w2 ⟨rfl, ho2⟩; rw [KT.out]))
      go_ret
      exact ⟨rfl, HOB.out.new (ho1.new ho2)⟩
set_option maxHeartbeats 3200000 in
set_option maxRecDepth 100000 in
theorem tabStd_good (A : Option Addr) (c : Nat) (a b cc d : Int) (l : List Pr) (w : World) (h : Prs w A l) (ha : -9223372036854775808 ≤ a ∧ a ≤ 9223372036854775807) (hb : -9223372036854775808 ≤ b ∧ b ≤ 9223372036854775807)
    (hc : -9223372036854775808 ≤ cc ∧ cc ≤ 9223372036854775807) (hd : -9223372036854775808 ≤ d ∧ d ≤ 9223372036854775807) (ka : okP l = true) (kt : tabB l = true) (h0 : 0 < l.length) :
    Calls Tryd.prog 5 #[.slice A l.length c, .agg #[.int .i64 a, .int .i64 b, .int .i64 cc, .int .i64 d]] w fun e w' => e = .returned (.bool true) ∧ Only [] w w' := by
  obtain ⟨bs, hbs⟩ : ∃ bs : Nat, 1 + a % 5000 = (bs : Int) := ⟨(1 + a % 5000).toNat, by omega⟩
  obtain ⟨rs, hrs⟩ : ∃ rs : Nat, 1 + b % 20 = (rs : Int) := ⟨(1 + b % 20).toNat, by omega⟩
  obtain ⟨nb, hnb⟩ : ∃ nb : Nat, cc % 21 = (nb : Int) := ⟨(cc % 21).toNat, by omega⟩
  obtain ⟨fb, hfb⟩ : ∃ fb : Int, 1 + d % 12 = fb := ⟨_, rfl⟩
  have HL := hid fun W => lawOptions a b cc d W ha hb hc hd
  rw [hbs, hrs, hnb, hfb] at HL
  have b1 : 0 < bs ∧ bs ≤ 5000 := by omega
  have b2 : 0 < rs ∧ rs ≤ 20 := by omega
  have b3 : nb ≤ 20 := by omega
  clear hbs hrs hnb hfb ha hb hc hd
  obtain ⟨la, wa, ks⟩ := okP_len ka
  have hwo : wgt l ≤ 1048576 ∧ ordB (kvs l) = true := by
    simp only [tabB, Bool.and_eq_true, decide_eq_true_eq] at kt
    exact kt
  have hwk : kvw (kvs l) ≤ 1048576 := by rw [kvw_kvs]; exact hwo.1
  have KA := hid ka
  have KS := hid ks
  have KT := hid kt
  have KO := hid hwo.2
  have e0 : ((l.length : Int) == 0) = false := by rw [beq_eq_false_iff_ne]; omega
  obtain ⟨q, hq⟩ : ∃ q, w.heap.size = q := ⟨_, rfl⟩
  have hO := (Own.start w).alloc' hq 32 [.int .i64 a, .int .i64 b, .int .i64 cc, .int .i64 d]
  have HO := hid hO
  have HH := hid (h.keep0 hO.only)
  have HP := hid (fun (R : List Fr) => (show St R w (fun w => Prs w A l) from fun w' ho _ => h.keep0 ho))
  have HQ := hid hq
  clear h hO ka ks kt hwo hq
  go_enter Tryd.func5, Tryd.ntmps5
  go_wp2_with fail
  refine (fits6_any A c l _ HH.out).mono ?_
  rintro e w1 ⟨rfl, ho1⟩
  rw [KA.out]
  have hO1 := HO.out.only0 ho1
  have h1 := HH.out.keep0 ho1
  have HO1 := hid hO1
  clear ho1 hO1
  go_wp2_with fail
  refine (tabled_any A c l _ h1 wa la KS.out).mono ?_
  rintro e w2 ⟨rfl, ho2⟩
  rw [KT.out]
  have hO2 := HO1.out.only0 ho2
  have qa := (hO2.cell 0 rfl (k := 0) 0 rfl (by simp))
  have qb := (hO2.cell 0 rfl (k := 1) 1 rfl (by simp))
  have qc := (hO2.cell 0 rfl (k := 2) 2 rfl (by simp))
  have qd := (hO2.cell 0 rfl (k := 3) 3 rfl (by simp))
  rw [HQ.out]
  have HO2 := hid hO2
  clear ho2 h1 hO2
  go_wp2_with fail
  refine (HL.out _).mono ?_
  rintro e w3 ⟨rfl, ho3⟩
  have HO3 := hid (HO2.out.only0 ho3)
  clear ho3 qa qb qc qd
  go_wp2_with (refine own_store_row rfl 32 (.tmp 3) (.tmp 22) rfl q _ rfl rfl 32 _ HO3.out (by kernel_rfl) (by simp) (by kernel_rfl) ?_; intro w4 hO4; have qa : w4.cell? ⟨q, 0, none⟩ = some (.int .i64 bs) := hO4.cell 0 rfl (k := 0) 0 rfl (by simp); have qb : w4.cell? ⟨q, 1, none⟩ = some (.int .i64 rs) := hO4.cell 0 rfl (k := 1) 1 rfl (by simp); have qc : w4.cell? ⟨q, 2, none⟩ = some (.int .i64 nb) := hO4.cell 0 rfl (k := 2) 2 rfl (by simp); have qd : w4.cell? ⟨q, 3, none⟩ = some (.int .i64 fb) := hO4.cell 0 rfl (k := 3) 3 rfl (by simp); have HO4 := hid hO4; clear hO4)
  clear qa qb qc qd
  refine (implTable A c bs rs nb fb l ([fw q 32 [.int .i64 bs, .int .i64 rs, .int .i64 nb, .int .i64 fb]]) w _ (HP.out _) HO4.out b1.1 (by omega) b2.1 (by omega) b3 hwk h0).mono ?_
  rintro e w5 (⟨_, h5⟩ | ⟨ho, _⟩)
  · obtain ⟨fd, key, A5, c5, n5, F5, hfo, hfl, hkl, rfl, hn5, hc5, hm5, hr5, hO5⟩ := h5
    obtain ⟨cl, E, hdn, _⟩ := tsAt_done bs rs (kvs l) b2.1 hwk (by rw [kvs_length]; exact h0)
    obtain ⟨M, fo, hTR, hMf⟩ := tabR hdn fd key b2.1 hwk hfl hkl KO.out
    rw [kvs_length] at hTR
    obtain ⟨T, hT⟩ : ∃ T, tTable (tFlush (tCl (tsAt bs rs (kvs l) l.length)) []) fd key = T := ⟨_, rfl⟩
    rw [hT] at hTR
    have hn5' := hn5.out
    rw [kvs_length, hT] at hn5'
    have hr5' := hr5.out
    rw [kvs_length, hT] at hr5'
    have hb5 := hO5.out.left
    have hbT : BsAt w5 A5 T := hO5.out.st hr5' (fun x hx => List.mem_append_left _ hx)
    have hon : decide (0 < M.length) = decide (0 < nb) := by
      have h1 : (M = [] ↔ decide (0 < nb) = false) := hMf.trans hfo
      rw [Bool.eq_iff_iff, decide_eq_true_iff, List.length_pos_iff]
      cases hz : decide (0 < nb) with
      | true => simp only [iff_true]; intro e; rw [h1.1 e] at hz; cases hz
      | false => simp only [Bool.false_eq_true, iff_false]; exact fun h => h (h1.2 hz)
    have HTR := hid hTR
    have HBT := hid hbT
    have HN5 := hid hn5'
    have HON := hid hon
    have hO5r := hid hO5.out.right
    clear hdn hTR hMf hT hn5 hn5' hr5 hr5' hb5 hbT hO5 hfo hfl hkl hon
    go_wp2_with fail
    refine (readTable_any A5 c5 n5 rs T fo (kvs l) E M cl _ HBT.out HN5.out hc5 hm5 HTR.out).mono ?_
    rintro e w6 ⟨A6, c6, n6, l6, rfl, hn6, hk6, hp6, ho6⟩
    rw [HON.out]
    have hO6 := hO5r.out.only0 ho6.out
    have HO6 := hid hO6
    have HP6 := hid hp6.out
    have HN6 := hid hn6
    have HK6 := hid hk6.out
    clear hO6 hp6 hn6 hk6 ho6 hO5r HBT
    go_wp2_with fail
    have hpl : Prs w6 A l := HO6.out.st (HP.out _) (fun _ hx => hx)
    refine (pairs_own A c l [] w6 w6 (fun w' ho _ => hpl.keep0 ho) (Own.start w6) (by omega)).mono ?_
    rintro e w7 ⟨A7, c7, F7, rfl, hr7, hO7⟩
    have ho7 := hO7.out.only
    have hps : Prs w7 A7 l := ⟨hr7.out.csO hO7.out, fun r hr => (hpl.ok r hr).keep0 ho7⟩
    have HO7 := hid (HO6.out.only0 ho7)
    have HP7 := hid (HP6.out.keep0 ho7)
    have HPS := hid hps
    clear hpl hO7 ho7 hps hr7 HO6 HP6
    go_wp2_with fail
    refine (equal_true A6 A7 c6 c7 n6 l.length l6 l _ HP7.out HPS.out HN6.out rfl HK6.out (by rw [← kvs_length, HK6.out, kvs_length]; omega)).mono ?_
    rintro e w8 ⟨rfl, hd8⟩
    have hO8 := HO7.out.dr hd8
    have qc : w8.cell? ⟨q, 2, none⟩ = some (.int .i64 nb) := hO8.cell 0 rfl (k := 2) 2 rfl (by simp)
    have HO8 := hid hO8
    clear hO8 hd8
    obtain ⟨fv, hfv⟩ : ∃ fv, decide (0 < nb) = fv := ⟨_, rfl⟩
    have h9 : decide ((0 : Int) < (nb : Int)) = fv := by rw [← hfv, Bool.eq_iff_iff]; simp
    rw [hfv]
    go_wp2_with fail
    go_ret
    exact ⟨by simp, HO8.out.only⟩
  · rw [KO.out] at ho; cases ho
theorem tabStd_walk (A : Option Addr) (c : Nat) (a b cc d : Int) (l : List Pr) (w : World) (h : Prs w A l) (ha : -9223372036854775808 ≤ a ∧ a ≤ 9223372036854775807) (hb : -9223372036854775808 ≤ b ∧ b ≤ 9223372036854775807)
    (hc : -9223372036854775808 ≤ cc ∧ cc ≤ 9223372036854775807) (hd : -9223372036854775808 ≤ d ∧ d ≤ 9223372036854775807) :
    Calls Tryd.prog 5 #[.slice A l.length c, .agg #[.int .i64 a, .int .i64 b, .int .i64 cc, .int .i64 d]] w fun e w' => e = .returned (.bool true) ∧ Only [] w w' := by
  cases ka : okP l with
  | false => exact tabStd_bad A c a b cc d l w h (.inl ka)
  | true =>
    cases kt : tabB l with
    | false => exact tabStd_bad A c a b cc d l w h (.inr (.inl kt))
    | true =>
      rcases Nat.eq_zero_or_pos l.length with h0 | h0
      · exact tabStd_bad A c a b cc d l w h (.inr (.inr h0))
      · exact tabStd_good A c a b cc d l w h ha hb hc hd ka kt h0
end Go.Proofs.YtloflmcgbbbnjaaDoor
namespace Go.Proofs.YtloflmcgbbbnjaaDoor
open Go.RowKit Go.ChangeShapes Go.WideShapes Plain
set_option linter.all false

theorem i64_bound {n : Int} (h : Lit.wf (.int .i64 n) = true) : -9223372036854775808 ≤ n ∧ n ≤ 9223372036854775807 := by
  have a : IntKind.i64.min = -9223372036854775808 := by decide
  have b : IntKind.i64.max = 9223372036854775807 := by decide
  have h : (decide (IntKind.i64.min ≤ n) && decide (n ≤ IntKind.i64.max)) = true := h
  rw [a, b, Bool.and_eq_true, decide_eq_true_eq, decide_eq_true_eq] at h
  exact h
def inI64 (n : Int) : Prop := -9223372036854775808 ≤ n ∧ n ≤ 9223372036854775807
set_option maxRecDepth 100000 in
theorem open_topts {H : Type} {enc : TypeId × Value → H} {W : World} {r : Reach} {b0 base : Nat} {spare : Nat → Bool} {held : Bool} {v : Value} {d : DataW H} {ps : List MemPlace}
    (hv : Value.okWide Tryd.prog W r b0 32 v) (h : DataW.Trod enc Tryd.prog W base spare held 32 v d ps) :
    ∃ a b c e : Int, v = .agg #[.int .i64 a, .int .i64 b, .int .i64 c, .int .i64 e] ∧ inI64 a ∧ inI64 b ∧ inI64 c ∧ inI64 e := by
  obtain ⟨cs, rfl, hsz⟩ := okWide_struct Tryd.underlying32 hv
  rw [show Tryd.prog.cellsOf 32 = 4 by kernel_rfl] at hsz
  obtain ⟨c0, c1, c2, c3, rfl⟩ := Joins.array4 hsz
  obtain ⟨fuel, hf⟩ := h
  obtain ⟨xs, k, _, _, hl, hlen, hf⟩ := DataW.trod_struct Tryd.underlying32 hf
  match xs, hlen with
  | [y1, y2, y3, y4], _ =>
    have u1 := hf 0 _ rfl
    have u2 := hf 1 _ rfl
    have u3 := hf 2 _ rfl
    have u4 := hf 3 _ rfl
    rw [show Tryd.prog.cellsOf _ = 1 by kernel_rfl] at u1 u2 u3 u4
    simp [Value.cells] at u1 u2 u3 u4
    obtain ⟨n1, e1, _, w1⟩ := DataW.trod_int Tryd.underlying3 u1
    obtain ⟨n2, e2, _, w2⟩ := DataW.trod_int Tryd.underlying3 u2
    obtain ⟨n3, e3, _, w3⟩ := DataW.trod_int Tryd.underlying3 u3
    obtain ⟨n4, e4, _, w4⟩ := DataW.trod_int Tryd.underlying3 u4
    simp at e1 e2 e3 e4
    subst e1; subst e2; subst e3; subst e4
    exact ⟨n1, n2, n3, n4, rfl, i64_bound w1, i64_bound w2, i64_bound w3, i64_bound w4⟩
end Go.Proofs.YtloflmcgbbbnjaaDoor
