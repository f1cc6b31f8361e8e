/-
  spec.Shared; the default comparer's Separator and Successor, and their thin callers.
-/
import Derived.Test.YtnebbmbhildomaaDoorCompare
import Derived.Test.YtnebbmbhildomaaDoorPlainKeys
namespace Go.Proofs.YtnebbmbhildomaaDoor
open Go.RowKit Plain

theorem Tryd.info_u8 : (Tryd.prog.info? 5).map (fun i => (i.zero, i.size, i.bytes)) = some (some (.int .u8 0), 1, 1) := by kernel_rfl
theorem compare_n (A B : Option Addr) (n m ca cb : Nat) (a b : List UInt8) (w : World) (ha : BsAt w A a) (hb : BsAt w B b) (la : a.length ≤ 140737488351232) (lb : b.length ≤ 140737488351232) (hn : n = a.length) (hm : m = b.length) :
    Calls Tryd.prog 6 #[.slice A n ca, .slice B m cb] w fun e w' => e = .returned (.int .i64 (cmpI a b)) ∧ Dr w w' := by
  subst hn; subst hm; exact compare_any A B ca cb a b w ha hb la lb

set_option maxHeartbeats 400000 in
theorem shared_any (A B : Option Addr) (ca cb : Nat) (a b : List UInt8) (w : World) (ha : BsAt w A a) (hb : BsAt w B b) (la : a.length ≤ 140737488351232) :
    Calls Tryd.prog 8 #[.slice A a.length ca, .slice B b.length cb] w fun e w' => e = .returned (.int .i64 (shared a b)) ∧ Dr w w' := by
  go_enter Tryd.func8, Tryd.ntmps8
  go_wp2
  go_loopw [5] (fun i wr => ∃ k : Nat, i = .int .i64 k ∧ k ≤ shared a b ∧ Dr w wr) (fun i _ => a.length - (intOf i).toNat)
  case atStart => exact ⟨0, rfl, Nat.zero_le _, Dr.refl _⟩
  case round =>
    obtain ⟨k, rfl, hk, ⟨n, rfl⟩⟩ := hrel
    have hs := shared_le a b
    by_cases h1 : k < a.length
    · have t1 : decide ((k : Int) < (a.length : Int)) = true := by simp; omega
      have t1' : decide (k < a.length) = true := by simp; omega
      by_cases h2 : k < b.length
      · have t2 : decide ((k : Int) < (b.length : Int)) = true := by simp; omega
        obtain ⟨g, o, rfl, hc⟩ := ha k h1
        obtain ⟨g', o', rfl, hc'⟩ := hb k h2
        by_cases e : at_ a k = at_ b k
        · have e1 : (bz a k == bz b k) = true := by rw [beq_iff_eq]; exact bz_eq.2 e
          have hk' := shared_step hk h1 h2 e
          clear e
          go_wp2
          repeat (go_quiet (fail); try go_wp2)
          go_roundw
          case rel => exact ⟨k + 1, by go_num, hk', by repeat (first | exact Dr.refl _ | apply Dr.step)⟩
          case measure => simp [intOf]; omega
        · have e1 : (bz a k == bz b k) = false := by rw [beq_eq_false_iff_ne]; exact fun h => e (bz_eq.1 h)
          have hk' := shared_stop hk e
          have HK := hid hk'
          clear e hk'
          go_wp2
          repeat (go_quiet (fail); try go_wp2)
          go_ret
          exact ⟨ret_int (by have := HK.out; omega), by repeat (first | exact Dr.refl _ | apply Dr.step)⟩
      · have t2 : decide ((k : Int) < (b.length : Int)) = false := by simp; omega
        have t2' : decide (k < b.length) = false := by simp; omega
        have hk' : k = shared a b := by omega
        have HK := hid hk'
        clear hk'
        go_wp2
        repeat (go_quiet (fail); try go_wp2)
        go_ret
        exact ⟨ret_int (by have := HK.out; omega), by repeat (first | exact Dr.refl _ | apply Dr.step)⟩
    · have t1 : decide ((k : Int) < (a.length : Int)) = false := by simp; omega
      have t1' : decide (k < a.length) = false := by simp; omega
      have hk' : k = shared a b := by omega
      have HK := hid hk'
      clear hk'
      go_wp2
      repeat (go_quiet (fail); try go_wp2)
      go_ret
      exact ⟨ret_int (by have := HK.out; omega), by repeat (first | exact Dr.refl _ | apply Dr.step)⟩

/-- What a comparer makes: nil where there is none; else a row of the call's own: dst's, or a new one. -/
def RowOr (w0 w : World) (dst v : Value) : Option (List UInt8) → Prop
  | none => v = .slice none 0 0
  | some l => w.ownsRow 0 5 1 v l.length (bc l) ∧ (v.ownBlock = dst.ownBlock ∨ ∃ g, v.ownBlock = some g ∧ w0.heap.size ≤ g)

theorem bumped_bytes {p : List UInt8} {k : Nat} (hk : k < p.length) (h : bz p k < 255) : (bc (p.take (k + 1))).set k (.int .u8 (bz p k + 1)) = bc (p.take k ++ [up (at_ p k)]) := by
  have h' : (at_ p k).toNat < 255 := by unfold bz at h; omega
  have hu := up_toNat h'
  rw [show bz p k + 1 = ((up (at_ p k)).toNat : Int) by unfold bz; omega, bc_set, take_at hk]
  rw [List.set_append_right _ _ (by rw [List.length_take]; omega)]
  have : k - (p.take k).length = 0 := by rw [List.length_take]; omega
  rw [this]; rfl
theorem bz_take {l : List UInt8} {k n : Nat} (h : k < n) : bz (l.take n) k = bz l k := by simp [bz, at_, h]
/-- The row that a comparer has made: one byte more, at its end raised. -/
theorem RowOr.bump {w0 w1 : World} {dst : Value} {p : List UInt8} {k g cap : Nat} (hk : k < p.length) (h : bz p k < 255) (hown : w1.ownsRow 0 5 1 (.slice (some ⟨g, 0, none⟩) (k + 1) cap) (k + 1) (bc (p.take (k + 1))))
    (hat : (Value.slice (some ⟨g, 0, none⟩) (k + 1) cap).ownBlock = dst.ownBlock ∨ (Value.slice (some ⟨g, 0, none⟩) (k + 1) cap).ownBlock = some w0.heap.size) (n : Nat) (hn : n ≤ w0.heap.size) (w00 : World) (hw : w00.heap.size = n) :
    RowOr w00 (w1.setCell ⟨g, k, none⟩ (.int .u8 (bz p k + 1))) dst (.slice (some ⟨g, 0, none⟩) (k + 1) cap) (some (p.take k ++ [up (at_ p k)])) := by
  have hs := (hown.stored k (.int .u8 (bz p k + 1))).1
  rw [bumped_bytes hk h] at hs
  refine ⟨?_, ?_⟩
  · rw [show (p.take k ++ [up (at_ p k)]).length = k + 1 by simp; omega]; exact hs
  · rcases hat with e | e
    · exact .inl e
    · exact .inr ⟨_, e, by omega⟩

set_option maxHeartbeats 800000 in
theorem cmpSucc_any (v : Value) (B : Option Addr) (cb : Nat) (b : List UInt8) (w : World) (hv : w.ownsRow 0 5 1 v 0 []) (hb : BsAt w B b) (lb : b.length ≤ 2147483647) (hcb : b.length ≤ cb) :
    Calls Tryd.prog 14 #[.agg #[], v, .slice B b.length cb] w fun e w' => ∃ v', e = .returned v' ∧ RowOr w w' v v' (succ b 0) ∧ Only v.ownBlock.toList w w' := by
  go_enter Tryd.func14, Tryd.ntmps14
  go_wp2
  go_loopw [11, 1] (fun i d wr => ∃ k : Nat, i = .int .i64 k ∧ v = d ∧ k ≤ b.length ∧ succ b 0 = succ b k ∧ wr = w.alloc (.cells #[] 33)) (fun i _ _ => b.length - (intOf i).toNat)
  case atStart => exact ⟨0, rfl, rfl, Nat.zero_le _, rfl, rfl⟩
  case round =>
    obtain ⟨k, rfl, rfl, hk, hs, rfl⟩ := hrel
    have HS := hid hs
    clear hs
    by_cases h1 : k < b.length
    · obtain ⟨g, o, rfl, hlt, hcc⟩ := hb.addr (by omega)
      have hc := hcc k h1
      have x0 := bz_lo b k
      have x1 := bz_hi b k
      by_cases h2 : bz b k = 255
      · have t2 : (bz b k != 255) = false := by rw [bne_eq_false_iff_eq]; exact h2
        have hf : fresh b k = fresh b (k + 1) := by rw [fresh, dif_pos h1, if_neg (by unfold bz at h2; omega)]
        have hs' : succ b 0 = succ b (k + 1) := by rw [HS.out, succ, hf]; rfl
        have HS' := hid hs'
        clear h2 hcc hf hs'
        go_wp2
        exact ⟨⟨k + 1, rfl, rfl, by omega, HS'.out, by first | rfl | trivial⟩, by simp [intOf]; omega⟩
      · have t2 : (bz b k != 255) = true := by rw [bne_iff_ne]; exact h2
        have hf : fresh b k = some k := by rw [fresh, dif_pos h1, if_pos (by unfold bz at h2; omega)]
        have HF := hid hf
        have h3 : bz b k < 255 := by omega
        clear h2 hcc hf
        go_wp2_with (at_builtin; refine wp_append rfl _ _ _ rfl 5 (.int .u8 0) 1 1 Tryd.underlying22 Tryd.info_u8 rfl (by decide) v 0 [] rfl (hv.alloc _) _ (k + 1) cb (bc (b.take (k + 1))) rfl (by simp [bc_length]; omega) ((hb.alloc _).take _).cs (bc_one _) (by simp only [maxLen]; omega) (by omega) ?_; intro v1 w1 hown1 hg1 _ hat1; go_must (simp only [Nat.zero_add, List.nil_append] at hown1); go_must (obtain ⟨g1, cap1, rfl, _, hlt1⟩ := own_form hown1 (by omega)); go_must (have c1 := (hown1.cellAt k (by omega)).trans (bc_get (by simp; omega))); go_must (rw [bz_take (by omega)] at c1); have f1 := hown1.frozenAt k; have H1 := hid hown1; have H2 := hid hg1; have H3 := hid hat1; clear hown1 hg1 hat1 t2)
        go_ret
        refine ⟨_, rfl, ?_, ?_⟩
        · rw [HS.out, succ, HF.out]
          exact RowOr.bump h1 h3 H1.out H3.out w.heap.size (by simp) w rfl
        · refine (Only.grow ((Only.refl _ _).alloc _) H2.out (fun k hk => .inl (by simp [hk]))).setCell ?_ _
          rcases H3.out with e | e
          · exact .inl (by rw [← e]; simp [Value.ownBlock])
          · refine .inr ?_
            simp [Value.ownBlock] at e
            simp; omega
    · have hf : fresh b k = none := by rw [fresh, dif_neg h1]
      have HF := hid hf
      clear hf
      go_wp2
      go_ret
      exact ⟨_, rfl, by rw [HS.out, succ, HF.out]; rfl, (Only.refl _ _).alloc _⟩

set_option maxHeartbeats 1600000 in
set_option maxRecDepth 100000 in
theorem cmpSep_any (v : Value) (A B : Option Addr) (ca cb : Nat) (a b : List UInt8) (w : World) (hv : w.ownsRow 0 5 1 v 0 []) (ha : BsAt w A a) (hb : BsAt w B b) (la : a.length ≤ 2147483647) (lb : b.length ≤ 2147483647) (hca : a.length ≤ ca) :
    Calls Tryd.prog 15 #[.agg #[], v, .slice A a.length ca, .slice B b.length cb] w fun e w' => ∃ v', e = .returned v' ∧ RowOr w w' v v' (sep a b) ∧ Only v.ownBlock.toList w w' := by
  obtain ⟨M, hM⟩ : ∃ M, M = min a.length b.length := ⟨_, rfl⟩
  have hs := shared_le a b
  have key : ∀ d : Value, d = .int .i64 (M : Int) → True := fun _ _ => trivial
  by_cases hab : (b.length : Int) < (a.length : Int)
  all_goals
    go_enter Tryd.func15, Tryd.ntmps15
    clear key
    go_wp2
    go_loopw [9] (fun i wr => ∃ k : Nat, i = .int .i64 k ∧ k ≤ shared a b ∧ Dr (w.alloc (.cells #[] 33)) wr) (fun i _ => a.length - (intOf i).toNat)
    case atStart => exact ⟨0, rfl, Nat.zero_le _, Dr.refl _⟩
    case round =>
      obtain ⟨k, rfl, hk, ⟨n, rfl⟩⟩ := hrel
      by_cases h1 : k < a.length ∧ k < b.length
      · obtain ⟨h1, h2⟩ := h1
        obtain ⟨g, o, rfl, hlt, hcc⟩ := ha.addr (by omega)
        obtain ⟨g', o', rfl, hlt', hcc'⟩ := hb.addr (by omega)
        have hc := hcc k h1
        have hc' := hcc' k h2
        have t1 : decide ((k : Int) < (a.length : Int)) = true := by simp; omega
        have t2 : decide ((k : Int) < (b.length : Int)) = true := by simp; omega
        have t1' : decide (k < a.length) = true := by simp; omega
        have t2' : decide (k < b.length) = true := by simp; omega
        by_cases e : at_ a k = at_ b k
        · have e1 : (bz a k == bz b k) = true := by rw [beq_iff_eq]; exact bz_eq.2 e
          have hk' := shared_step hk h1 h2 e
          clear e hcc hcc'
          go_wp2
          repeat (go_quiet (fail); try go_wp2)
          go_roundw
          case rel => exact ⟨k + 1, by go_num, hk', by repeat (first | exact Dr.refl _ | apply Dr.step)⟩
          case measure => simp [intOf]; omega
        · have e1 : (bz a k == bz b k) = false := by rw [beq_eq_false_iff_ne]; exact fun h => e (bz_eq.1 h)
          have hk' := shared_stop hk e
          have x0 := bz_lo a k
          have x1 := bz_hi a k
          have y0 := bz_lo b k
          have y1 := bz_hi b k
          by_cases h3 : bz a k < 255 ∧ bz a k + 1 < bz b k
          · have hp : sep a b = some (a.take k ++ [up (at_ a k)]) := by
              unfold sep
              rw [← hk', if_pos ⟨h1, h2, by have := h3.1; unfold bz at this; omega, by have := h3.2; unfold bz at this; omega⟩]
            have HP := hid hp
            obtain ⟨h3, h4⟩ := h3
            have h3' : decide (bz a k < 255) = true := by simpa using h3
            clear e hcc hcc' hp hk'
            go_wp2_with fail
            go_quiet (fail)
            go_wp2_with (at_builtin; refine wp_append rfl _ _ _ rfl 5 (.int .u8 0) 1 1 Tryd.underlying22 Tryd.info_u8 rfl (by decide) v 0 [] rfl ((hv.alloc _)) _ (k + 1) ca (bc (a.take (k + 1))) rfl (by simp [bc_length]; omega) ((ha.alloc _).take _).cs (bc_one _) (by simp only [maxLen]; omega) (by omega) ?_; intro v1 w1 hown1 hg1 _ hat1; go_must (simp only [Nat.zero_add, List.nil_append] at hown1); go_must (obtain ⟨g1, cap1, rfl, _, hlt1⟩ := own_form hown1 (by omega)); go_must (have c1 := (hown1.cellAt k (by omega)).trans (bc_get (by simp; omega))); go_must (rw [bz_take (by omega)] at c1); have f1 := hown1.frozenAt k; have H1 := hid hown1; have H2 := hid hg1; have H3 := hid hat1; clear hown1 hg1 hat1)
            go_ret
            refine ⟨_, rfl, ?_, ?_⟩
            · rw [HP.out]
              exact RowOr.bump h1 h3 H1.out H3.out w.heap.size (by simp) w rfl
            · refine (Only.grow (((Only.refl _ _).alloc _).drewN _) H2.out (fun k hk => .inl (by simp [hk]))).setCell ?_ _
              rcases H3.out with e | e
              · exact .inl (by rw [← e]; simp [Value.ownBlock])
              · refine .inr ?_
                simp [Value.ownBlock] at e
                simp; omega
          · have hp : sep a b = none := by
              unfold sep
              rw [← hk', if_neg (by rintro ⟨_, _, h5, h6⟩; exact h3 ⟨by unfold bz; omega, by unfold bz; omega⟩)]
            have HP := hid hp
            clear e hcc hcc' hp hk'
            by_cases h5 : bz a k < 255
            · have h5' : decide (bz a k < 255) = true := by simpa using h5
              have h6 : ¬ bz a k + 1 < bz b k := fun h => h3 ⟨h5, h⟩
              clear h3
              go_wp2
              repeat (go_quiet (fail); try go_wp2)
              go_ret
              exact ⟨_, rfl, by rw [HP.out]; rfl, by repeat (first | exact Only.refl _ _ | apply Only.drewN | apply Only.alloc)⟩
            · have h5' : decide (bz a k < 255) = false := by simpa using h5
              clear h3
              go_wp2
              repeat (go_quiet (fail); try go_wp2)
              go_ret
              exact ⟨_, rfl, by rw [HP.out]; rfl, by repeat (first | exact Only.refl _ _ | apply Only.drewN | apply Only.alloc)⟩
      · have hk' : ¬ (shared a b < a.length ∧ shared a b < b.length) := by omega
        have hp : sep a b = none := by
          unfold sep
          rw [if_neg (by rintro ⟨h5, h6, _, _⟩; exact hk' ⟨h5, h6⟩)]
        have HP := hid hp
        first
          | (have t1 : decide ((k : Int) < (b.length : Int)) = false := by simp; omega
             have t2 : decide (k < b.length) = false := by simp; omega
             have t4 : b.length ≤ k := by omega
             clear hp hk' h1
             go_wp2
             repeat (go_quiet (fail); try go_wp2)
             go_ret
             exact ⟨_, rfl, by rw [HP.out]; rfl, by repeat (first | exact Only.refl _ _ | apply Only.drewN | apply Only.alloc)⟩)
          | (have t1 : decide ((k : Int) < (a.length : Int)) = false := by simp; omega
             have t2 : decide (k < a.length) = false := by simp; omega
             have t4 : a.length ≤ k := by omega
             clear hp hk' h1
             go_wp2
             repeat (go_quiet (fail); try go_wp2)
             go_ret
             exact ⟨_, rfl, by rw [HP.out]; rfl, by repeat (first | exact Only.refl _ _ | apply Only.drewN | apply Only.alloc)⟩)

set_option maxHeartbeats 400000 in
theorem implSucc_any (B : Option Addr) (cb : Nat) (b : List UInt8) (w : World) (hb : BsAt w B b) (lb : b.length ≤ 2147483647) (hcb : b.length ≤ cb) :
    Calls Tryd.prog 5 #[.slice B b.length cb] w fun e w' => ∃ v', e = .returned v' ∧ RowOr w w' (.slice none 0 0) v' (succ b 0) ∧ Only [] w w' := by
  go_enter Tryd.func5, Tryd.ntmps5
  go_wp2_with (go_at_call 14; refine (cmpSucc_any (.slice none 0 0) B cb b _ (World.ownsRow_nil _ _ _ _) hb lb hcb).mono ?_; rintro e w1 ⟨v', rfl, hr, ho⟩)
  go_ret
  exact ⟨_, rfl, hr, ho⟩
set_option maxHeartbeats 400000 in
theorem implSep_any (A B : Option Addr) (ca cb : Nat) (a b : List UInt8) (w : World) (ha : BsAt w A a) (hb : BsAt w B b) (la : a.length ≤ 2147483647) (lb : b.length ≤ 2147483647) (hca : a.length ≤ ca) :
    Calls Tryd.prog 7 #[.slice A a.length ca, .slice B b.length cb] w fun e w' => ∃ v', e = .returned v' ∧ RowOr w w' (.slice none 0 0) v' (sep a b) ∧ Only [] w w' := by
  go_enter Tryd.func7, Tryd.ntmps7
  go_wp2_with (go_at_call 15; refine (cmpSep_any (.slice none 0 0) A B ca cb a b _ (World.ownsRow_nil _ _ _ _) ha hb la lb hca).mono ?_; rintro e w1 ⟨v', rfl, hr, ho⟩)
  go_ret
  exact ⟨_, rfl, hr, ho⟩
end Go.Proofs.YtnebbmbhildomaaDoor
