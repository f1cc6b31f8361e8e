/-
  spec.Shared, sharedPrefixLen: how much two keys share at their heads.
  spec.Shared; the default comparer's Separator and Successor.
  The default comparer's Separator and Successor, Compare: into a row that is owned.
  mergedIterator: its frames; next and prev.
  mergedIterator: assertKey, iterErr; the frames of its iterators.
-/
import Derived.Test.YtloflmcgbbbnjaaDoorMrgM2
import Derived.Test.YtloflmcgbbbnjaaDoorMrgM3
import Derived.Test.YtloflmcgbbbnjaaDoorMrgM1
import Derived.Test.YtloflmcgbbbnjaaDoorMrgM5
namespace Go.Proofs.YtloflmcgbbbnjaaDoor
open Go.RowKit Plain
set_option linter.all false

set_option maxHeartbeats 400000 in
theorem shared_any (A B : Option Addr) (ca cb : Nat) (a b : List UInt8) (w : World) (ha : BsAt w A a) (hb : BsAt w B b) (la : a.length ≤ 140737488351232) :
    Calls Tryd.prog 38 #[.slice A a.length ca, .slice B b.length cb] w fun e w' => e = .returned (.int .i64 (shared a b)) ∧ Dr w w' := by
  go_enter Tryd.func38, Tryd.ntmps38
  go_wp2
  go_loopw [5] (fun i wr => ∃ k : Nat, i = .int .i64 k ∧ k ≤ shared a b ∧ Dr w wr) (fun i _ => a.length - (intOf i).toNat)
  case atStart => exact ⟨0, rfl, Nat.zero_le _, Dr.refl _⟩
  case round =>
    obtain ⟨k, rfl, hk, ⟨n, rfl⟩⟩ := hrel
    have hs := shared_le a b
    by_cases h1 : k < a.length
    · have t1 : decide ((k : Int) < (a.length : Int)) = true := by simp; omega
      have t1' : decide (k < a.length) = true := by simp; omega
      by_cases h2 : k < b.length
      · have t2 : decide ((k : Int) < (b.length : Int)) = true := by simp; omega
        obtain ⟨g, o, rfl, hc⟩ := ha k h1
        obtain ⟨g', o', rfl, hc'⟩ := hb k h2
        by_cases e : at_ a k = at_ b k
        · have e1 : (bz a k == bz b k) = true := by rw [beq_iff_eq]; exact bz_eq.2 e
          have hk' := shared_step hk h1 h2 e
          clear e
          go_wp2
          repeat (go_quiet (fail); try go_wp2)
          go_roundw
          case rel => exact ⟨k + 1, by go_num, hk', by repeat (first | exact Dr.refl _ | apply Dr.step)⟩
          case measure => simp [intOf]; omega
        · have e1 : (bz a k == bz b k) = false := by rw [beq_eq_false_iff_ne]; exact fun h => e (bz_eq.1 h)
          have hk' := shared_stop hk e
          have HK := hid hk'
          clear e hk'
          go_wp2
          repeat (go_quiet (fail); try go_wp2)
          go_ret
          exact ⟨ret_int (by have := HK.out; omega), by repeat (first | exact Dr.refl _ | apply Dr.step)⟩
      · have t2 : decide ((k : Int) < (b.length : Int)) = false := by simp; omega
        have t2' : decide (k < b.length) = false := by simp; omega
        have hk' : k = shared a b := by omega
        have HK := hid hk'
        clear hk'
        go_wp2
        repeat (go_quiet (fail); try go_wp2)
        go_ret
        exact ⟨ret_int (by have := HK.out; omega), by repeat (first | exact Dr.refl _ | apply Dr.step)⟩
    · have t1 : decide ((k : Int) < (a.length : Int)) = false := by simp; omega
      have t1' : decide (k < a.length) = false := by simp; omega
      have hk' : k = shared a b := by omega
      have HK := hid hk'
      clear hk'
      go_wp2
      repeat (go_quiet (fail); try go_wp2)
      go_ret
      exact ⟨ret_int (by have := HK.out; omega), by repeat (first | exact Dr.refl _ | apply Dr.step)⟩

set_option maxHeartbeats 800000 in
theorem spl_any (A B : Option Addr) (n m ca cb : Nat) (a b : List UInt8) (w : World) (ha : BsAt w A a) (hb : BsAt w B b) (hn : n = a.length) (hm : m = b.length) (la : a.length ≤ 140737488351232) (lb : b.length ≤ 140737488351232) :
    Calls Tryd.prog 102 #[.slice A n ca, .slice B m cb] w fun e w' => e = .returned (.int .i64 (shared a b)) ∧ Dr w w' := by
  subst hn; subst hm
  obtain ⟨N, hN⟩ : ∃ N, N = min a.length b.length := ⟨_, rfl⟩
  have HN := hid hN
  have hs := shared_le a b
  have hr : (fun (i : Value) (wr : World) => ∃ k : Nat, i = .int .i64 k ∧ k ≤ shared a b ∧ Dr w wr) (.int .i64 0) w := ⟨0, rfl, Nat.zero_le _, Dr.refl _⟩
  cases hgt : decide ((b.length : Int) < (a.length : Int)) <;> (
    have hgt' : decide (b.length < a.length) = decide ((b.length : Int) < (a.length : Int)) := by simp
    rw [hgt] at hgt'
    have hNv : (N : Int) = if (b.length : Int) < (a.length : Int) then (b.length : Int) else (a.length : Int) := by simp at hgt; split <;> omega
    have hgt2 := hgt
    simp only [decide_eq_true_eq, decide_eq_false_iff_not] at hgt2
    first | rw [if_pos hgt2] at hNv | rw [if_neg hgt2] at hNv
    clear hgt2
    have HNv := hid hNv
    clear hNv hN
    go_enter Tryd.func102, Tryd.ntmps102
    go_wp2
    go_loopw [5] (fun i wr => ∃ k : Nat, i = .int .i64 k ∧ k ≤ shared a b ∧ Dr w wr) (fun i _ => a.length - (intOf i).toNat)
    case atStart => exact ⟨0, rfl, Nat.zero_le _, Dr.refl _⟩
    case round =>
      obtain ⟨k, rfl, hk, ⟨nd, rfl⟩⟩ := hrel
      by_cases h1 : k < N
      · have h2 : k < a.length := by have := HN.out; omega
        have h3 : k < b.length := by have := HN.out; omega
        have t1 : decide ((k : Int) < (a.length : Int)) = true := by simp; omega
        have t1' : decide (k < a.length) = true := by simp; omega
        have t2 : decide ((k : Int) < (b.length : Int)) = true := by simp; omega
        have t2' : decide (k < b.length) = true := by simp; omega
        obtain ⟨g, o, rfl, hc⟩ := ha k h2
        obtain ⟨g', o', rfl, hc'⟩ := hb k h3
        by_cases e : at_ a k = at_ b k
        · have e1 : (bz a k == bz b k) = true := by rw [beq_iff_eq]; exact bz_eq.2 e
          have hk' := shared_step hk h2 h3 e
          clear e
          go_wp2
          repeat (go_quiet (fail); try go_wp2)
          go_roundw
          case rel => exact ⟨k + 1, by go_num, hk', by repeat (first | exact Dr.refl _ | apply Dr.step)⟩
          case measure => simp [intOf]; omega
        · have e1 : (bz a k == bz b k) = false := by rw [beq_eq_false_iff_ne]; exact fun h => e (bz_eq.1 h)
          have hk' := shared_stop hk e
          have HK := hid hk'
          clear e hk'
          go_wp2
          repeat (go_quiet (fail); try go_wp2)
          go_ret
          exact ⟨ret_int (by have := HK.out; omega), by repeat (first | exact Dr.refl _ | apply Dr.step)⟩
      · have hk' : k = shared a b := by have := HN.out; omega
        have HK := hid hk'
        have t1 : decide ((k : Int) < (a.length : Int)) = false ∨ decide ((k : Int) < (b.length : Int)) = false := by have := HN.out; simp; omega
        have t3 : decide ((k : Int) < (N : Int)) = false := by simp; omega
        rw [HNv.out] at t3
        have t3' := t3
        simp only [Int.ofNat_lt] at t3'
        clear hk' t1
        go_wp2
        repeat (go_quiet (fail); try go_wp2)
        go_ret
        exact ⟨ret_int (by have := HK.out; omega), by repeat (first | exact Dr.refl _ | apply Dr.step)⟩)
end Go.Proofs.YtloflmcgbbbnjaaDoor
namespace Go.Proofs.YtloflmcgbbbnjaaDoor
open Go.RowKit Plain

/-- What a comparer makes: nil where there is none; else a row of the call's own: dst's, or a new one. -/
def RowOr (w0 w : World) (dst v : Value) : Option (List UInt8) → Prop
  | none => v = .slice none 0 0
  | some l => w.ownsRow 0 5 1 v l.length (bc l) ∧ (v.ownBlock = dst.ownBlock ∨ ∃ g, v.ownBlock = some g ∧ w0.heap.size ≤ g)

theorem bumped_bytes {p : List UInt8} {k : Nat} (hk : k < p.length) (h : bz p k < 255) : (bc (p.take (k + 1))).set k (.int .u8 (bz p k + 1)) = bc (p.take k ++ [up (at_ p k)]) := by
  have h' : (at_ p k).toNat < 255 := by unfold bz at h; omega
  have hu := up_toNat h'
  rw [show bz p k + 1 = ((up (at_ p k)).toNat : Int) by unfold bz; omega, bc_set, take_at hk]
  rw [List.set_append_right _ _ (by rw [List.length_take]; omega)]
  have : k - (p.take k).length = 0 := by rw [List.length_take]; omega
  rw [this]; rfl
theorem bz_take {l : List UInt8} {k n : Nat} (h : k < n) : bz (l.take n) k = bz l k := by simp [bz, at_, h]
/-- The row that a comparer has made: one byte more, at its end raised. -/
theorem RowOr.bump {w0 w1 : World} {dst : Value} {p : List UInt8} {k g cap : Nat} (hk : k < p.length) (h : bz p k < 255) (hown : w1.ownsRow 0 5 1 (.slice (some ⟨g, 0, none⟩) (k + 1) cap) (k + 1) (bc (p.take (k + 1))))
    (hat : (Value.slice (some ⟨g, 0, none⟩) (k + 1) cap).ownBlock = dst.ownBlock ∨ (Value.slice (some ⟨g, 0, none⟩) (k + 1) cap).ownBlock = some w0.heap.size) (n : Nat) (hn : n ≤ w0.heap.size) (w00 : World) (hw : w00.heap.size = n) :
    RowOr w00 (w1.setCell ⟨g, k, none⟩ (.int .u8 (bz p k + 1))) dst (.slice (some ⟨g, 0, none⟩) (k + 1) cap) (some (p.take k ++ [up (at_ p k)])) := by
  have hs := (hown.stored k (.int .u8 (bz p k + 1))).1
  rw [bumped_bytes hk h] at hs
  refine ⟨?_, ?_⟩
  · rw [show (p.take k ++ [up (at_ p k)]).length = k + 1 by simp; omega]; exact hs
  · rcases hat with e | e
    · exact .inl e
    · exact .inr ⟨_, e, by omega⟩

set_option maxHeartbeats 800000 in
theorem cmpSucc_any (v : Value) (B : Option Addr) (cb : Nat) (b : List UInt8) (w : World) (hv : w.ownsRow 0 5 1 v 0 []) (hb : BsAt w B b) (lb : b.length ≤ 2147483647) (hcb : b.length ≤ cb) :
    Calls Tryd.prog 173 #[.agg #[], v, .slice B b.length cb] w fun e w' => ∃ v', e = .returned v' ∧ RowOr w w' v v' (succ b 0) ∧ Only v.ownBlock.toList w w' ∧ (succ b 0 = none → Only [] w w') := by
  go_enter Tryd.func173, Tryd.ntmps173
  go_wp2
  go_loopw [11, 1] (fun i d wr => ∃ k : Nat, i = .int .i64 k ∧ v = d ∧ k ≤ b.length ∧ succ b 0 = succ b k ∧ wr = w.alloc (.cells #[] 112)) (fun i _ _ => b.length - (intOf i).toNat)
  case atStart => exact ⟨0, rfl, rfl, Nat.zero_le _, rfl, rfl⟩
  case round =>
    obtain ⟨k, rfl, rfl, hk, hs, rfl⟩ := hrel
    have HS := hid hs
    clear hs
    by_cases h1 : k < b.length
    · obtain ⟨g, o, rfl, hlt, hcc⟩ := hb.addr (by omega)
      have hc := hcc k h1
      have x0 := bz_lo b k
      have x1 := bz_hi b k
      by_cases h2 : bz b k = 255
      · have t2 : (bz b k != 255) = false := by rw [bne_eq_false_iff_eq]; exact h2
        have hf : fresh b k = fresh b (k + 1) := by rw [fresh, dif_pos h1, if_neg (by unfold bz at h2; omega)]
        have hs' : succ b 0 = succ b (k + 1) := by rw [HS.out, succ, hf]; rfl
        have HS' := hid hs'
        clear h2 hcc hf hs'
        go_wp2
        exact ⟨⟨k + 1, rfl, rfl, by omega, HS'.out, by first | rfl | trivial⟩, by simp [intOf]; omega⟩
      · have t2 : (bz b k != 255) = true := by rw [bne_iff_ne]; exact h2
        have hf : fresh b k = some k := by rw [fresh, dif_pos h1, if_pos (by unfold bz at h2; omega)]
        have HF := hid hf
        have h3 : bz b k < 255 := by omega
        clear h2 hcc hf
        go_wp2_with (at_builtin; refine wp_append rfl _ _ _ rfl 5 (.int .u8 0) 1 1 Tryd.underlying25 Tryd.info_u8 rfl (by decide) v 0 [] rfl (hv.alloc _) _ (k + 1) cb (bc (b.take (k + 1))) rfl (by simp [bc_length]; omega) ((hb.alloc _).take _).cs (bc_one _) (by simp only [maxLen]; omega) (by omega) ?_; intro v1 w1 hown1 hg1 _ hat1; go_must (simp only [Nat.zero_add, List.nil_append] at hown1); go_must (obtain ⟨g1, cap1, rfl, _, hlt1⟩ := own_form hown1 (by omega)); go_must (have c1 := (hown1.cellAt k (by omega)).trans (bc_get (by simp; omega))); go_must (rw [bz_take (by omega)] at c1); have f1 := hown1.frozenAt k; have H1 := hid hown1; have H2 := hid hg1; have H3 := hid hat1; clear hown1 hg1 hat1 t2)
        go_ret
        refine ⟨_, rfl, ?_, ?_, fun h => absurd h (by rw [HS.out, succ, HF.out]; simp)⟩
        · rw [HS.out, succ, HF.out]
          exact RowOr.bump h1 h3 H1.out H3.out w.heap.size (by simp) w rfl
        · refine (Only.grow ((Only.refl _ _).alloc _) H2.out (fun k hk => .inl (by simp [hk]))).setCell ?_ _
          rcases H3.out with e | e
          · exact .inl (by rw [← e]; simp [Value.ownBlock])
          · refine .inr ?_
            simp [Value.ownBlock] at e
            simp; omega
    · have hf : fresh b k = none := by rw [fresh, dif_neg h1]
      have HF := hid hf
      clear hf
      go_wp2
      go_ret
      exact ⟨_, rfl, by rw [HS.out, succ, HF.out]; rfl, (Only.refl _ _).alloc _, fun _ => (Only.refl _ _).alloc _⟩

set_option maxHeartbeats 1600000 in
set_option maxRecDepth 100000 in
theorem cmpSep_any (v : Value) (A B : Option Addr) (ca cb : Nat) (a b : List UInt8) (w : World) (hv : w.ownsRow 0 5 1 v 0 []) (ha : BsAt w A a) (hb : BsAt w B b) (la : a.length ≤ 2147483647) (lb : b.length ≤ 2147483647) (hca : a.length ≤ ca) :
    Calls Tryd.prog 172 #[.agg #[], v, .slice A a.length ca, .slice B b.length cb] w fun e w' => ∃ v', e = .returned v' ∧ RowOr w w' v v' (sep a b) ∧ Only v.ownBlock.toList w w' ∧ (sep a b = none → Only [] w w') := by
  obtain ⟨M, hM⟩ : ∃ M, M = min a.length b.length := ⟨_, rfl⟩
  have hs := shared_le a b
  have key : ∀ d : Value, d = .int .i64 (M : Int) → True := fun _ _ => trivial
  by_cases hab : (b.length : Int) < (a.length : Int)
  all_goals
    go_enter Tryd.func172, Tryd.ntmps172
    clear key
    go_wp2
    go_loopw [9] (fun i wr => ∃ k : Nat, i = .int .i64 k ∧ k ≤ shared a b ∧ Dr (w.alloc (.cells #[] 112)) wr) (fun i _ => a.length - (intOf i).toNat)
    case atStart => exact ⟨0, rfl, Nat.zero_le _, Dr.refl _⟩
    case round =>
      obtain ⟨k, rfl, hk, ⟨n, rfl⟩⟩ := hrel
      by_cases h1 : k < a.length ∧ k < b.length
      · obtain ⟨h1, h2⟩ := h1
        obtain ⟨g, o, rfl, hlt, hcc⟩ := ha.addr (by omega)
        obtain ⟨g', o', rfl, hlt', hcc'⟩ := hb.addr (by omega)
        have hc := hcc k h1
        have hc' := hcc' k h2
        have t1 : decide ((k : Int) < (a.length : Int)) = true := by simp; omega
        have t2 : decide ((k : Int) < (b.length : Int)) = true := by simp; omega
        have t1' : decide (k < a.length) = true := by simp; omega
        have t2' : decide (k < b.length) = true := by simp; omega
        by_cases e : at_ a k = at_ b k
        · have e1 : (bz a k == bz b k) = true := by rw [beq_iff_eq]; exact bz_eq.2 e
          have hk' := shared_step hk h1 h2 e
          clear e hcc hcc'
          go_wp2
          repeat (go_quiet (fail); try go_wp2)
          go_roundw
          case rel => exact ⟨k + 1, by go_num, hk', by repeat (first | exact Dr.refl _ | apply Dr.step)⟩
          case measure => simp [intOf]; omega
        · have e1 : (bz a k == bz b k) = false := by rw [beq_eq_false_iff_ne]; exact fun h => e (bz_eq.1 h)
          have hk' := shared_stop hk e
          have x0 := bz_lo a k
          have x1 := bz_hi a k
          have y0 := bz_lo b k
          have y1 := bz_hi b k
          by_cases h3 : bz a k < 255 ∧ bz a k + 1 < bz b k
          · have hp : sep a b = some (a.take k ++ [up (at_ a k)]) := by
              unfold sep
              rw [← hk', if_pos ⟨h1, h2, by have := h3.1; unfold bz at this; omega, by have := h3.2; unfold bz at this; omega⟩]
            have HP := hid hp
            obtain ⟨h3, h4⟩ := h3
            have h3' : decide (bz a k < 255) = true := by simpa using h3
            clear e hcc hcc' hp hk'
            go_wp2_with fail
            go_quiet (fail)
            go_wp2_with (at_builtin; refine wp_append rfl _ _ _ rfl 5 (.int .u8 0) 1 1 Tryd.underlying25 Tryd.info_u8 rfl (by decide) v 0 [] rfl ((hv.alloc _)) _ (k + 1) ca (bc (a.take (k + 1))) rfl (by simp [bc_length]; omega) ((ha.alloc _).take _).cs (bc_one _) (by simp only [maxLen]; omega) (by omega) ?_; intro v1 w1 hown1 hg1 _ hat1; go_must (simp only [Nat.zero_add, List.nil_append] at hown1); go_must (obtain ⟨g1, cap1, rfl, _, hlt1⟩ := own_form hown1 (by omega)); go_must (have c1 := (hown1.cellAt k (by omega)).trans (bc_get (by simp; omega))); go_must (rw [bz_take (by omega)] at c1); have f1 := hown1.frozenAt k; have H1 := hid hown1; have H2 := hid hg1; have H3 := hid hat1; clear hown1 hg1 hat1)
            go_ret
            refine ⟨_, rfl, ?_, ?_, fun h => absurd h (by rw [HP.out]; simp)⟩
            · rw [HP.out]
              exact RowOr.bump h1 h3 H1.out H3.out w.heap.size (by simp) w rfl
            · refine (Only.grow (((Only.refl _ _).alloc _).drewN _) H2.out (fun k hk => .inl (by simp [hk]))).setCell ?_ _
              rcases H3.out with e | e
              · exact .inl (by rw [← e]; simp [Value.ownBlock])
              · refine .inr ?_
                simp [Value.ownBlock] at e
                simp; omega
          · have hp : sep a b = none := by
              unfold sep
              rw [← hk', if_neg (by rintro ⟨_, _, h5, h6⟩; exact h3 ⟨by unfold bz; omega, by unfold bz; omega⟩)]
            have HP := hid hp
            clear e hcc hcc' hp hk'
            by_cases h5 : bz a k < 255
            · have h5' : decide (bz a k < 255) = true := by simpa using h5
              have h6 : ¬ bz a k + 1 < bz b k := fun h => h3 ⟨h5, h⟩
              clear h3
              go_wp2
              repeat (go_quiet (fail); try go_wp2)
              go_ret
              exact ⟨_, rfl, by rw [HP.out]; rfl, by repeat (first | exact Only.refl _ _ | apply Only.drewN | apply Only.alloc), fun _ => by repeat (first | exact Only.refl _ _ | apply Only.drewN | apply Only.alloc)⟩
            · have h5' : decide (bz a k < 255) = false := by simpa using h5
              clear h3
              go_wp2
              repeat (go_quiet (fail); try go_wp2)
              go_ret
              exact ⟨_, rfl, by rw [HP.out]; rfl, by repeat (first | exact Only.refl _ _ | apply Only.drewN | apply Only.alloc), fun _ => by repeat (first | exact Only.refl _ _ | apply Only.drewN | apply Only.alloc)⟩
      · have hk' : ¬ (shared a b < a.length ∧ shared a b < b.length) := by omega
        have hp : sep a b = none := by
          unfold sep
          rw [if_neg (by rintro ⟨h5, h6, _, _⟩; exact hk' ⟨h5, h6⟩)]
        have HP := hid hp
        first
          | (have t1 : decide ((k : Int) < (b.length : Int)) = false := by simp; omega
             have t2 : decide (k < b.length) = false := by simp; omega
             have t4 : b.length ≤ k := by omega
             clear hp hk' h1
             go_wp2
             repeat (go_quiet (fail); try go_wp2)
             go_ret
             exact ⟨_, rfl, by rw [HP.out]; rfl, by repeat (first | exact Only.refl _ _ | apply Only.drewN | apply Only.alloc), fun _ => by repeat (first | exact Only.refl _ _ | apply Only.drewN | apply Only.alloc)⟩)
          | (have t1 : decide ((k : Int) < (a.length : Int)) = false := by simp; omega
             have t2 : decide (k < a.length) = false := by simp; omega
             have t4 : a.length ≤ k := by omega
             clear hp hk' h1
             go_wp2
             repeat (go_quiet (fail); try go_wp2)
             go_ret
             exact ⟨_, rfl, by rw [HP.out]; rfl, by repeat (first | exact Only.refl _ _ | apply Only.drewN | apply Only.alloc), fun _ => by repeat (first | exact Only.refl _ _ | apply Only.drewN | apply Only.alloc)⟩)

end Go.Proofs.YtloflmcgbbbnjaaDoor
namespace Go.Proofs.YtloflmcgbbbnjaaDoor
open Go.RowKit Plain
set_option linter.all false

/-- nil: nothing was turned; else the row holds it. -/
def SepOut (x : Option (List UInt8)) (A : Option Addr) (c : Nat) (Fc R : List Fr) (w0 : World) (e : Ending) (w' : World) : Prop :=
  match x with
  | none => e = .returned (.slice none 0 0) ∧ Own (Fc ++ R) w0 w'
  | some l => ∃ A' c' F', e = .returned (.slice A' l.length c') ∧ Row 5 1 A' l.length c' (bc l) F' ∧ (A' = none → l = []) ∧ Own (F' ++ R) w0 w'
theorem SepOut.of {x : Option (List UInt8)} {A : Option Addr} {c : Nat} {Fc R : List Fr} {w0 w w' : World} {v : Value} (hR : Row 5 1 A 0 c [] Fc) (hO : Own (Fc ++ R) w0 w)
    (hr : RowOr w w' (.slice A 0 c) v x) (ho : Only (Value.slice A 0 c).ownBlock.toList w w') (hn : x = none → Only [] w w') : SepOut x A c Fc R w0 (.returned v) w' := by
  cases x with
  | none => exact ⟨by rw [show v = .slice none 0 0 from hr], hO.only0 (hn rfl)⟩
  | some l =>
    obtain ⟨h1, h2⟩ := hr
    obtain ⟨A', c', F', rfl, hR', hin, hg, hd⟩ := Row.of_owns h1
    have hFc : Fc.map (·.g) = (Value.slice A 0 c).ownBlock.toList := by
      rcases hR.2 with ⟨rfl, _, rfl, rfl⟩ | ⟨g, cur, rfl, rfl, _⟩ <;> rfl
    refine ⟨A', c', F', rfl, hR', fun h => ?_, hO.swap (fun y hy => ?_) (by rw [hFc]; exact ho) hin (fun y hy => ?_) hd⟩
    · subst h
      rcases hR'.2 with ⟨_, h, _⟩ | ⟨g, cur, h, _⟩
      · exact List.eq_nil_of_length_eq_zero h
      · exact absurd h (by simp)
    · rcases hR.2 with ⟨rfl, _, rfl, rfl⟩ | ⟨g, cur, rfl, rfl, _⟩
      · simp at hy
      · simp only [List.mem_singleton] at hy; subst hy; simp
    · have hy' : y.g ∈ F'.map (·.g) := List.mem_map.2 ⟨y, hy, rfl⟩
      rw [hg] at hy'
      rcases h2 with h2 | ⟨g, h2, h3⟩
      · exact .inl (by rw [hFc, ← h2]; exact hy')
      · rw [h2] at hy'
        simp only [Option.toList, List.mem_singleton] at hy'
        exact .inr (by rw [hy']; exact h3)
theorem succ_own (n c cb : Nat) (A B : Option Addr) (b : List UInt8) (Fc R : List Fr) (w0 w : World) (hR : Row 5 1 A 0 c [] Fc) (hO : Own (Fc ++ R) w0 w) (hb : BsAt w B b) (hn : n = b.length) (lb : b.length ≤ 2147483647) (hcb : b.length ≤ cb) :
    Calls Tryd.prog 173 #[.agg #[], .slice A 0 c, .slice B n cb] w (SepOut (succ b 0) A c Fc R w0) := by
  subst hn
  refine (cmpSucc_any (.slice A 0 c) B cb b w (hR.owns fun x hx => hO.ins x (List.mem_append_left _ hx)) hb lb hcb).mono ?_
  rintro e w' ⟨v, rfl, hr, ho, hn⟩
  exact SepOut.of hR hO hr ho hn
theorem sep_own (n m c ca cb : Nat) (A A1 B : Option Addr) (a b : List UInt8) (Fc R : List Fr) (w0 w : World) (hR : Row 5 1 A 0 c [] Fc) (hO : Own (Fc ++ R) w0 w) (ha : BsAt w A1 a) (hb : BsAt w B b) (hn : n = a.length) (hm : m = b.length) (la : a.length ≤ 2147483647) (lb : b.length ≤ 2147483647) (hca : a.length ≤ ca) :
    Calls Tryd.prog 172 #[.agg #[], .slice A 0 c, .slice A1 n ca, .slice B m cb] w (SepOut (sep a b) A c Fc R w0) := by
  subst hn; subst hm
  refine (cmpSep_any (.slice A 0 c) A1 B ca cb a b w (hR.owns fun x hx => hO.ins x (List.mem_append_left _ hx)) ha hb la lb hca).mono ?_
  rintro e w' ⟨v, rfl, hr, ho, hn⟩
  exact SepOut.of hR hO hr ho hn
theorem method_cmp (d : Nat) (w : World) : (method (d + 1) 112 (.agg #[]) "Compare").run Tryd.prog w = .ok (170, .agg #[]) w := by kernel_rfl
theorem method_sep (d : Nat) (w : World) : (method (d + 1) 112 (.agg #[]) "Separator").run Tryd.prog w = .ok (172, .agg #[]) w := by kernel_rfl
theorem method_succ (d : Nat) (w : World) : (method (d + 1) 112 (.agg #[]) "Successor").run Tryd.prog w = .ok (173, .agg #[]) w := by kernel_rfl
end Go.Proofs.YtloflmcgbbbnjaaDoor
namespace Go.Proofs.YtloflmcgbbbnjaaDoor
open Go.RowKit Plain
set_option linter.all false

/-- One of the iterators that are merged. -/
structure It where
  q : Nat
  A : Option Addr
  c : Nat
  l : List Pr
  pos : Int
  apos : Int
def It.fr (it : It) : Fr := aFr it.q (arrV it.A it.l.length it.c) it.pos it.apos (aKey it.l it.apos) (aVal it.l it.apos)
def It.kv (it : It) : Value := aKey it.l it.pos
def It.iv (it : It) : Value := .iface 187 (.pointer (some ⟨it.q, 0, none⟩))
def It.cur (it : It) : Option Pr := if wval it.l.length it.pos = true then it.l[it.pos.toNat]? else none
def kvO : Option Pr → Value
  | none => .slice none 0 0
  | some r => .slice r.ka r.k.length r.kc
theorem It.kv_eq (it : It) : it.kv = kvO it.cur := by
  unfold It.kv It.cur aKey
  split
  · cases it.l[it.pos.toNat]? <;> rfl
  · rfl
theorem It.cur_mem {it : It} {r : Pr} (h : it.cur = some r) : r ∈ it.l := by
  unfold It.cur at h
  split at h
  · exact List.mem_of_getElem? h
  · cases h
/-- The merged iterator's own block. -/
def mFr (mp : Nat) (iA : Option Addr) (K ic kg : Nat) (idx dir : Int) : Fr :=
  fw mp 204 [.iface 112 (.agg #[]), .slice iA K ic, .bool true, .slice (some ⟨kg, 0, none⟩) K K, .int .i64 idx, .int .i64 dir, .nilIface, .nilFunc, .nilIface]
structure MCells (mp : Nat) (iA : Option Addr) (K ic kg : Nat) (idx dir : Int) (w : World) : Prop where
  c0 : w.cell? ⟨mp, 0, none⟩ = some (.iface 112 (.agg #[]))
  c1 : w.cell? ⟨mp, 1, none⟩ = some (.slice iA K ic)
  c2 : w.cell? ⟨mp, 2, none⟩ = some (.bool true)
  c3 : w.cell? ⟨mp, 3, none⟩ = some (.slice (some ⟨kg, 0, none⟩) K K)
  c4 : w.cell? ⟨mp, 4, none⟩ = some (.int .i64 idx)
  c5 : w.cell? ⟨mp, 5, none⟩ = some (.int .i64 dir)
  c6 : w.cell? ⟨mp, 6, none⟩ = some .nilIface
  f4 : w.frozen? ⟨mp, 4, none⟩ = false
  f5 : w.frozen? ⟨mp, 5, none⟩ = false
theorem mFr_cells {mp K ic kg : Nat} {iA : Option Addr} {idx dir : Int} {R : List Fr} {w0 w : World} (h : Own (mFr mp iA K ic kg idx dir :: R) w0 w) : MCells mp iA K ic kg idx dir w :=
  ⟨h.cell 0 rfl (k := 0) 0 rfl (by simp [mFr]), h.cell 0 rfl (k := 1) 1 rfl (by simp [mFr]), h.cell 0 rfl (k := 2) 2 rfl (by simp [mFr]), h.cell 0 rfl (k := 3) 3 rfl (by simp [mFr]), h.cell 0 rfl (k := 4) 4 rfl (by simp [mFr]), h.cell 0 rfl (k := 5) 5 rfl (by simp [mFr]), h.cell 0 rfl (k := 6) 6 rfl (by simp [mFr]), h.frozen 0 rfl 4, h.frozen 0 rfl 5⟩
theorem mFr_idx {mp K ic kg : Nat} {iA : Option Addr} {idx dir : Int} {R : List Fr} {w0 w : World} (h : Own (mFr mp iA K ic kg idx dir :: R) w0 w) (i : Int) : Own (mFr mp iA K ic kg i dir :: R) w0 (w.setCell ⟨mp, 4, none⟩ (.int .i64 i)) := h.set (k := 4) 4 rfl (by simp [mFr]) (.int .i64 i)
theorem mFr_dir {mp K ic kg : Nat} {iA : Option Addr} {idx dir : Int} {R : List Fr} {w0 w : World} (h : Own (mFr mp iA K ic kg idx dir :: R) w0 w) (d : Int) : Own (mFr mp iA K ic kg idx d :: R) w0 (w.setCell ⟨mp, 5, none⟩ (.int .i64 d)) := h.set (k := 5) 5 rfl (by simp [mFr]) (.int .i64 d)
theorem key_cell {kg : Nat} {its : List It} {R : List Fr} {w0 w : World} {x : Fr} (h : Own (x :: fw kg 25 (its.map It.kv) :: R) w0 w) {i : Nat} {it : It} (hi : its[i]? = some it) : w.cell? ⟨kg, i, none⟩ = some (kvO it.cur) := by
  have hl := (List.getElem?_eq_some_iff.1 hi).1
  have := h.cell 1 rfl (k := i) i (by simp) (by simpa using hl)
  rw [this]
  simp [hi, It.kv_eq]
/-- The pairs of the iterators are read; no key is empty. -/
def MData (its : List It) (w : World) : Prop := ∀ it ∈ its, Prs w it.A it.l ∧ ∀ r ∈ it.l, r.k ≠ []
theorem bs_some {w : World} {A : Option Addr} {l : List UInt8} (h : BsAt w A l) (hl : l ≠ []) : A.isNone = false := by
  obtain ⟨g, o, e, _⟩ := h 0 (List.length_pos_iff.2 hl)
  rw [e]; rfl

def MOutN (mp : Nat) (iA : Option Addr) (K ic kg : Nat) (its : List It) (R : List Fr) (w0 : World) (e : Ending) (w' : World) : Prop :=
  (∃ (j : Nat) (it : It) (r : Pr), its[j]? = some it ∧ it.cur = some r ∧ (∀ it' ∈ its, ∀ r', it'.cur = some r' → cmpI r.k r'.k ≤ 0) ∧ e = .returned (.bool true) ∧ Own (mFr mp iA K ic kg j 3 :: fw kg 25 (its.map It.kv) :: R) w0 w') ∨
  ((∀ it ∈ its, it.cur = none) ∧ e = .returned (.bool false) ∧ ∃ idx : Int, Own (mFr mp iA K ic kg idx 1 :: fw kg 25 (its.map It.kv) :: R) w0 w')
/-- Among the first x and what was at hand: the best. -/
structure BestN (its : List It) (x : Nat) (o : Option Pr) (idx : Int) : Prop where
  non : o = none → ∀ i it, i < x → its[i]? = some it → it.cur = none
  som : ∀ r, o = some r → ∃ (j : Nat) (it : It), idx = (j : Int) ∧ its[j]? = some it ∧ it.cur = some r ∧ ∀ i it' r', i < x → its[i]? = some it' → it'.cur = some r' → cmpI r.k r'.k ≤ 0
theorem BestN.skip {its : List It} {x : Nat} {o : Option Pr} {ix : Int} (h : BestN its x o ix) {it : It} (hxi : its[x]? = some it) (hc : it.cur = none) : BestN its (x + 1) o ix := by
  refine ⟨fun ho i it' hi hi' => ?_, fun r hr => ?_⟩
  · rcases Nat.lt_or_ge i x with h5 | h5
    · exact h.non ho i it' h5 hi'
    · obtain rfl : i = x := by omega
      rw [hxi] at hi'; rw [← Option.some.inj hi']; exact hc
  · obtain ⟨j, itj, e1, e2, e3, e4⟩ := h.som r hr
    refine ⟨j, itj, e1, e2, e3, fun i it' r' hi hi' hr' => ?_⟩
    rcases Nat.lt_or_ge i x with h5 | h5
    · exact e4 i it' r' h5 hi' hr'
    · obtain rfl : i = x := by omega
      rw [hxi] at hi'; rw [← Option.some.inj hi', hc] at hr'; cases hr'
theorem BestN.first {its : List It} {x : Nat} {ix : Int} (h : BestN its x none ix) {it : It} {r : Pr} (hxi : its[x]? = some it) (hc : it.cur = some r) : BestN its (x + 1) (some r) (x : Int) := by
  refine ⟨(fun ho => by cases ho), fun r1 hr1 => ?_⟩
  obtain rfl := Option.some.inj hr1
  refine ⟨x, it, rfl, hxi, hc, fun i it' r' hi hi' hr' => ?_⟩
  rcases Nat.lt_or_ge i x with h5 | h5
  · rw [h.non rfl i it' h5 hi'] at hr'; cases hr'
  · obtain rfl : i = x := by omega
    rw [hxi] at hi'; rw [← Option.some.inj hi', hc] at hr'; rw [← Option.some.inj hr', cmpI_refl]; omega
theorem BestN.take {its : List It} {x j : Nat} {r r0 : Pr} {it itj : It} (hxi : its[x]? = some it) (hc : it.cur = some r) (hj3 : ∀ i it' r', i < x → its[i]? = some it' → it'.cur = some r' → cmpI r0.k r'.k ≤ 0) (hcmp : bcmp r.k r0.k < 0) : BestN its (x + 1) (some r) (x : Int) := by
  refine ⟨(fun ho => by cases ho), fun r1 hr1 => ?_⟩
  obtain rfl := Option.some.inj hr1
  refine ⟨x, it, rfl, hxi, hc, fun i it' r' hi hi' hr' => ?_⟩
  rcases Nat.lt_or_ge i x with h5 | h5
  · have h6 := hj3 i it' r' h5 hi' hr'
    exact cmpI_le_trans (Int.le_of_lt (bcmp_lt.1 hcmp)) h6
  · obtain rfl : i = x := by omega
    rw [hxi] at hi'; rw [← Option.some.inj hi', hc] at hr'; rw [← Option.some.inj hr', cmpI_refl]; omega
theorem BestN.keep {its : List It} {x j : Nat} {r r0 : Pr} {it itj : It} (hxi : its[x]? = some it) (hc : it.cur = some r) (hj1 : its[j]? = some itj) (hj2 : itj.cur = some r0) (hj3 : ∀ i it' r', i < x → its[i]? = some it' → it'.cur = some r' → cmpI r0.k r'.k ≤ 0) (hcmp : ¬ bcmp r.k r0.k < 0) : BestN its (x + 1) (some r0) (j : Int) := by
  refine ⟨(fun ho => by cases ho), fun r1 hr1 => ?_⟩
  obtain rfl := Option.some.inj hr1
  refine ⟨j, itj, rfl, hj1, hj2, fun i it' r' hi hi' hr' => ?_⟩
  rcases Nat.lt_or_ge i x with h5 | h5
  · exact hj3 i it' r' h5 hi' hr'
  · obtain rfl : i = x := by omega
    rw [hxi] at hi'; rw [← Option.some.inj hi', hc] at hr'
    obtain rfl := Option.some.inj hr'
    have h7 := bcmp_spec r.k r0.k
    have h8 := cmpI_anti r0.k r.k
    omega
set_option maxHeartbeats 3200000 in
set_option maxRecDepth 100000 in
theorem mNext (mp : Nat) (iA : Option Addr) (K ic kg : Nat) (idx dir : Int) (its : List It) (R : List Fr) (w0 w : World) (hO : Own (mFr mp iA K ic kg idx dir :: fw kg 25 (its.map It.kv) :: R) w0 w) (hD : St R w0 (MData its)) (hK : K = its.length) (hKl : K ≤ 2147483647) (hdir : dir = 3 → ∃ j : Nat, idx = (j : Int) ∧ j < K) :
    Calls Tryd.prog 209 #[.pointer (some ⟨mp, 0, none⟩)] w (MOutN mp iA K ic kg its R w0) := by
  have HDD := hid hD
  have HK := hid hK
  have hm := method_cmp
  have en := fun W x n c => Lib.run_eql_slice_nil (P := Tryd.prog) W 25 5 x n c 0 0 Tryd.underlying25
  have nn := fun W x n c => run_neq_slice_nil_any (P := Tryd.prog) W 25 5 x n c 0 0 Tryd.underlying25
  obtain ⟨c0, c1, c2, c3, c4, c5, c6, f4, f5⟩ := mFr_cells hO
  have HO := hid hO
  clear hO hD hK
  go_enter Tryd.func209, Tryd.ntmps209
  go_upto_region 2 with fail
  go_cut [10] (fun s10 wx => s10 = .bool (decide (dir = 3)) ∧ w = wx)
  case first =>
    go_wp2_with fail
    go_meet
    exact ⟨by cases hb : (dir == 3) <;> simp_all, rfl⟩
  case rest =>
  obtain ⟨rfl, rfl⟩ := hcut
  go_step
  go_cut [3] (fun s3 wx => ∃ o, s3 = kvO o ∧ Hid (BestN its 0 o idx) ∧ Hid (Dr w wx))
  case first =>
    by_cases hd3 : dir = 3
    · obtain ⟨j, rfl, hj⟩ := hdir hd3
      have t0 : decide (dir = 3) = true := decide_eq_true hd3
      have hjl : j < its.length := by rw [← HK.out]; exact hj
      have hji : its[j]? = some its[j] := List.getElem?_eq_getElem hjl
      have k0 := key_cell HO.out hji
      have hjK : (j : Int) < (K : Int) := by omega
      have HB : BestN its 0 its[j].cur (j : Int) := ⟨fun _ i _ hi => absurd hi (by omega), fun r hr => ⟨j, its[j], rfl, hji, hr, fun i _ _ hi => absurd hi (by omega)⟩⟩
      have HB := hid HB
      clear hdir hji
      go_wp2_with fail
      refine AnyT.start (S := fun w' => w'.cell? ⟨mp, 3, none⟩ = some (.slice (some ⟨kg, 0, none⟩) K K) ∧ w'.cell? ⟨mp, 4, none⟩ = some (.int .i64 (j : Int)) ∧ w'.cell? ⟨kg, j, none⟩ = some (kvO its[j].cur)) (T := []) (by kernel_rfl) (⟨c3, c4, k0⟩) (fun hHeld => ?_)
      refine AnyT.take (i := 0) (v := ?_) (by simp only [List.getElem?_toArray, List.getElem?_cons_succ, List.getElem?_cons_zero]; rfl) (by kernel_rfl) (by kernel_rfl) (by kernel_rfl) (by kernel_rfl) (by intro _ _ _ h; exact h) (Or.inl ⟨by rfl, fun w hSw => ?_⟩) hHeld ?_
      rotate_left
      · ((try dsimp only at hSw); go_simp; first | done | with_reducible rfl | rfl)
      try simp only [Act.put, List.setIfInBounds_toArray, List.set_cons_zero, List.set_cons_succ]
      refine AnyT.take (i := 1) (v := ?_) (by simp only [List.getElem?_toArray, List.getElem?_cons_succ, List.getElem?_cons_zero]; rfl) (by kernel_rfl) (by kernel_rfl) (by kernel_rfl) (by kernel_rfl) (by intro _ _ _ h; exact h) (Or.inl ⟨by rfl, fun w hSw => ?_⟩) hHeld ?_
      rotate_left
      · ((try dsimp only at hSw); go_simp; first | done | with_reducible rfl | rfl)
      try simp only [Act.put, List.setIfInBounds_toArray, List.set_cons_zero, List.set_cons_succ]
      refine AnyT.take (i := 2) (v := ?_) (by simp only [List.getElem?_toArray, List.getElem?_cons_succ, List.getElem?_cons_zero]; rfl) (by kernel_rfl) (by kernel_rfl) (by kernel_rfl) (by kernel_rfl) (by intro _ _ _ h; exact h) (Or.inl ⟨by rfl, fun w hSw => ?_⟩) hHeld ?_
      rotate_left
      · ((try dsimp only at hSw); go_simp; first | done | with_reducible rfl | rfl)
      try simp only [Act.put, List.setIfInBounds_toArray, List.set_cons_zero, List.set_cons_succ]
      refine AnyT.take (i := 3) (v := ?_) (by simp only [List.getElem?_toArray, List.getElem?_cons_succ, List.getElem?_cons_zero]; rfl) (by kernel_rfl) (by kernel_rfl) (by kernel_rfl) (by kernel_rfl) (by intro _ _ _ h; exact h) (Or.inl ⟨by rfl, fun w hSw => ?_⟩) hHeld ?_
      rotate_left
      · ((try dsimp only at hSw); go_simp; first | done | with_reducible rfl | rfl)
      try simp only [Act.put, List.setIfInBounds_toArray, List.set_cons_zero, List.set_cons_succ]
      refine AnyT.take (i := 4) (v := ?_) (by simp only [List.getElem?_toArray, List.getElem?_cons_succ, List.getElem?_cons_zero]; rfl) (by kernel_rfl) (by kernel_rfl) (by kernel_rfl) (by kernel_rfl) (by intro _ _ _ h; exact h) (Or.inl ⟨by rfl, fun w hSw => ?_⟩) hHeld ?_
      rotate_left
      · ((try dsimp only at hSw); go_simp; first | done | with_reducible rfl | rfl)
      try simp only [Act.put, List.setIfInBounds_toArray, List.set_cons_zero, List.set_cons_succ]
      refine AnyT.take (i := 5) (v := ?_) (by simp only [List.getElem?_toArray, List.getElem?_cons_succ, List.getElem?_cons_zero]; rfl) (by kernel_rfl) (by kernel_rfl) (by kernel_rfl) (by kernel_rfl) (by intro _ _ _ h; exact h) (Or.inl ⟨by rfl, fun w hSw => ?_⟩) hHeld ?_
      rotate_left
      · ((try dsimp only at hSw); go_simp; first | done | with_reducible rfl | rfl)
      try simp only [Act.put, List.setIfInBounds_toArray, List.set_cons_zero, List.set_cons_succ]
      refine AnyT.take (i := 6) (v := ?_) (by simp only [List.getElem?_toArray, List.getElem?_cons_succ, List.getElem?_cons_zero]; rfl) (by kernel_rfl) (by kernel_rfl) (by kernel_rfl) (by kernel_rfl) (by intro _ _ _ h; exact h) (Or.inl ⟨by rfl, fun w hSw => ?_⟩) hHeld ?_
      rotate_left
      · ((try dsimp only at hSw); go_simp; first | done | with_reducible rfl | rfl)
      try simp only [Act.put, List.setIfInBounds_toArray, List.set_cons_zero, List.set_cons_succ]
      refine AnyT.take (i := 7) (v := ?_) (by simp only [List.getElem?_toArray, List.getElem?_cons_succ, List.getElem?_cons_zero]; rfl) (by kernel_rfl) (by kernel_rfl) (by kernel_rfl) (by kernel_rfl) (by intro _ _ _ h; exact h) (Or.inl ⟨by rfl, fun w hSw => ?_⟩) hHeld ?_
      rotate_left
      · ((try dsimp only at hSw); go_simp; first | done | with_reducible rfl | rfl)
      try simp only [Act.put, List.setIfInBounds_toArray, List.set_cons_zero, List.set_cons_succ]
      refine AnyT.take (i := 8) (v := ?_) (by simp only [List.getElem?_toArray, List.getElem?_cons_succ, List.getElem?_cons_zero]; rfl) (by kernel_rfl) (by kernel_rfl) (by kernel_rfl) (by kernel_rfl) (by intro _ _ _ h; exact h) (Or.inl ⟨by rfl, fun w hSw => ?_⟩) hHeld ?_
      rotate_left
      · ((try dsimp only at hSw); go_simp; first | done | with_reducible rfl | rfl)
      try simp only [Act.put, List.setIfInBounds_toArray, List.set_cons_zero, List.set_cons_succ]
      refine AnyT.take (i := 9) (v := ?_) (by simp only [List.getElem?_toArray, List.getElem?_cons_succ, List.getElem?_cons_zero]; rfl) (by kernel_rfl) (by kernel_rfl) (by kernel_rfl) (by kernel_rfl) (by intro _ _ _ h; exact h) (Or.inl ⟨by rfl, fun w hSw => ?_⟩) hHeld ?_
      rotate_left
      · ((try dsimp only at hSw); go_simp; first | done | with_reducible rfl | rfl)
      try simp only [Act.put, List.setIfInBounds_toArray, List.set_cons_zero, List.set_cons_succ]
      refine AnyT.take (i := 10) (v := ?_) (by simp only [List.getElem?_toArray, List.getElem?_cons_succ, List.getElem?_cons_zero]; rfl) (by kernel_rfl) (by kernel_rfl) (by kernel_rfl) (by kernel_rfl) (by intro _ _ _ h; exact h) (Or.inl ⟨by rfl, fun w hSw => ?_⟩) hHeld ?_
      rotate_left
      · ((try dsimp only at hSw); go_simp; first | done | with_reducible rfl | rfl)
      try simp only [Act.put, List.setIfInBounds_toArray, List.set_cons_zero, List.set_cons_succ]
      refine AnyT.done (by kernel_rfl) ?_ _
      clear hHeld
      go_wp2_with fail
      go_meet
      exact ⟨its[j].cur, rfl, HB, hid ((Dr.refl w).drew)⟩
    · have t0 : decide (dir = 3) = false := decide_eq_false hd3
      go_wp2_with fail
      go_meet
      exact ⟨none, rfl, hid ⟨fun _ i _ hi => absurd hi (by omega), fun r hr => by cases hr⟩, hid (Dr.refl w)⟩
  case rest =>
    obtain ⟨o0, rfl, HB0, HD0⟩ := hcut
    have HO0 := hid (HO.out.dr HD0.out)
    obtain ⟨c0, c1, c2, c3, c4, c5, c6, f4, f5⟩ := mFr_cells HO0.out
    clear hdir HD0
    go_wp2_with fail
    go_loopw [3, 26] (fun s3 i wr => ∃ (x : Nat) (o : Option Pr) (ix : Int), s3 = kvO o ∧ i = .int .i64 x ∧ x ≤ K ∧ Hid (BestN its x o ix) ∧ Hid (Own (mFr mp iA K ic kg ix dir :: fw kg 25 (its.map It.kv) :: R) w0 wr)) (fun _ i _ => K - (intOf i).toNat)
    case atStart => exact ⟨0, o0, idx, rfl, rfl, Nat.zero_le _, HB0, HO0⟩
    case round =>
      clear HO0 HB0 c0 c1 c2 c3 c4 c5 c6 f4 f5 HO
      obtain ⟨x, o, ix, rfl, rfl, hx, HB, HO⟩ := hrel
      obtain ⟨w2, rfl⟩ : ∃ w2, w2 = wr := ⟨_, rfl⟩
      obtain ⟨c0, c1, c2, c3, c4, c5, c6, f4, f5⟩ := mFr_cells HO.out
      by_cases h4 : x < K
      · have h4' : (x : Int) < (K : Int) := by omega
        have hxl : x < its.length := by rw [← HK.out]; exact h4
        have hxi : its[x]? = some its[x] := List.getElem?_eq_getElem hxl
        have hxm : its[x] ∈ its := List.getElem_mem hxl
        have k0 := key_cell HO.out hxi
        have hdt := HO.out.st HDD.out (fun _ hx => by simp [hx])
        generalize its[x] = it at hxi hxm k0
        obtain ⟨hp, hne⟩ := hdt it hxm
        cases hc : it.cur with
        | none =>
          rw [hc] at k0
          have HB2 := HB.out.skip hxi hc
          have HB2 := hid HB2
          unfold kvO at k0
          clear hdt hp hne hxi hxm hc
          go_wp2_with fail
          go_roundw
          case rel => exact ⟨x + 1, o, ix, rfl, by go_num, by omega, HB2, HO⟩
          case measure => simp [intOf]; omega
        | some r =>
          rw [hc] at k0
          have hrm := It.cur_mem hc
          have hrok := (hp.ok r hrm).hk
          have hnn := bs_some hrok (hne r hrm)
          have HR := hid hrok
          have HNE := hid (hne r hrm)
          unfold kvO at k0
          have hOx := mFr_idx HO.out (x : Int)
          have HOX := hid hOx
          clear hOx
          cases o with
          | none =>
            have HB2 := HB.out.first hxi hc
            have HB2 := hid HB2
            clear hdt hp hne hxi hxm hc hrm hrok
            unfold kvO
            go_wp2_with fail
            go_roundw
            case rel => exact ⟨x + 1, some r, (x : Int), rfl, by go_num, by omega, HB2, HOX⟩
            case measure => simp [intOf]; omega
          | some r0 =>
            obtain ⟨j, itj, rfl, hj1, hj2, hj3⟩ := HB.out.som r0 rfl
            have hjm := List.mem_of_getElem? hj1
            obtain ⟨hpj, hnej⟩ := hdt itj hjm
            have hr0m := It.cur_mem hj2
            have hr0ok := (hpj.ok r0 hr0m).hk
            have hn0 := bs_some hr0ok (hnej r0 hr0m)
            have HR0 := hid hr0ok
            by_cases hcmp : bcmp r.k r0.k < 0
            · have t1 : decide (bcmp r.k r0.k < 0) = true := decide_eq_true hcmp
              have HB2 : BestN its (x + 1) (some r) (x : Int) := BestN.take (j := j) (itj := itj) hxi hc hj3 hcmp
              have HB2 := hid HB2
              clear hdt hp hne hxi hxm hc hrm hrok hj1 hj2 hj3 hpj hnej hr0m hr0ok hjm
              unfold kvO
              go_wp2_with fail
              refine (cmpCompare_any _ _ _ _ _ _ r.k r0.k _ HR.out HR0.out rfl rfl).mono ?_
              rintro e w3 ⟨rfl, ho3⟩
              have hO3 := HO.out.only0 ho3
              obtain ⟨e0, e1, e2, e3, e4, e5, e6, g4, g5⟩ := mFr_cells hO3
              have HOX3 := hid (mFr_idx hO3 (x : Int))
              clear hO3 ho3 k0
              go_wp2_with fail
              go_roundw
              case rel => exact ⟨x + 1, some r, (x : Int), rfl, by go_num, by omega, HB2, HOX3⟩
              case measure => simp [intOf]; omega
            · have t1 : decide (bcmp r.k r0.k < 0) = false := decide_eq_false hcmp
              have HB2 : BestN its (x + 1) (some r0) (j : Int) := BestN.keep hxi hc hj1 hj2 hj3 hcmp
              have HB2 := hid HB2
              clear hdt hp hne hxi hxm hc hrm hrok hj1 hj2 hj3 hpj hnej hr0m hr0ok hjm
              unfold kvO
              go_wp2_with fail
              refine (cmpCompare_any _ _ _ _ _ _ r.k r0.k _ HR.out HR0.out rfl rfl).mono ?_
              rintro e w3 ⟨rfl, ho3⟩
              have HO3 := hid (HO.out.only0 ho3)
              clear ho3 k0
              go_wp2_with fail
              go_roundw
              case rel => exact ⟨x + 1, some r0, (j : Int), rfl, by go_num, by omega, HB2, HO3⟩
              case measure => simp [intOf]; omega
      · have h4' : ¬ (x : Int) < (K : Int) := by omega
        obtain rfl : x = K := by omega
        cases o with
        | none =>
          have HO1 := hid (mFr_dir HO.out 1)
          unfold kvO
          go_wp2_with fail
          go_ret
          refine .inr ⟨fun it hit => ?_, rfl, ix, HO1.out⟩
          obtain ⟨i, hi, rfl⟩ := List.getElem_of_mem hit
          exact HB.out.non rfl i _ (by rw [HK.out]; exact hi) (List.getElem?_eq_getElem hi)
        | some r0 =>
          obtain ⟨j, itj, rfl, hj1, hj2, hj3⟩ := HB.out.som r0 rfl
          have hdt := HO.out.st HDD.out (fun _ hx => by simp [hx])
          obtain ⟨hpj, hnej⟩ := hdt itj (List.mem_of_getElem? hj1)
          have hr0m := It.cur_mem hj2
          have hn0 := bs_some (hpj.ok r0 hr0m).hk (hnej r0 hr0m)
          have HO1 := hid (mFr_dir HO.out 3)
          have HJ := hid (show _ ∧ _ ∧ _ from ⟨hj1, hj2, hj3⟩)
          clear hdt hpj hnej hr0m hj1 hj2 hj3
          unfold kvO
          go_wp2_with fail
          go_ret
          obtain ⟨hj1, hj2, hj3⟩ := HJ.out
          refine .inl ⟨j, itj, r0, hj1, hj2, fun it' hit' r' hr' => ?_, rfl, HO1.out⟩
          obtain ⟨i, hi, rfl⟩ := List.getElem_of_mem hit'
          exact hj3 i _ r' (by rw [HK.out]; exact hi) (List.getElem?_eq_getElem hi) hr'

def MOutP (mp : Nat) (iA : Option Addr) (K ic kg : Nat) (its : List It) (R : List Fr) (w0 : World) (e : Ending) (w' : World) : Prop :=
  (∃ (j : Nat) (it : It) (r : Pr), its[j]? = some it ∧ it.cur = some r ∧ (∀ it' ∈ its, ∀ r', it'.cur = some r' → 0 ≤ cmpI r.k r'.k) ∧ e = .returned (.bool true) ∧ Own (mFr mp iA K ic kg j 2 :: fw kg 25 (its.map It.kv) :: R) w0 w') ∨
  ((∀ it ∈ its, it.cur = none) ∧ e = .returned (.bool false) ∧ ∃ idx : Int, Own (mFr mp iA K ic kg idx 0 :: fw kg 25 (its.map It.kv) :: R) w0 w')
/-- Among the first x and what was at hand: the best. -/
structure BestP (its : List It) (x : Nat) (o : Option Pr) (idx : Int) : Prop where
  non : o = none → ∀ i it, i < x → its[i]? = some it → it.cur = none
  som : ∀ r, o = some r → ∃ (j : Nat) (it : It), idx = (j : Int) ∧ its[j]? = some it ∧ it.cur = some r ∧ ∀ i it' r', i < x → its[i]? = some it' → it'.cur = some r' → 0 ≤ cmpI r.k r'.k
theorem BestP.skip {its : List It} {x : Nat} {o : Option Pr} {ix : Int} (h : BestP its x o ix) {it : It} (hxi : its[x]? = some it) (hc : it.cur = none) : BestP its (x + 1) o ix := by
  refine ⟨fun ho i it' hi hi' => ?_, fun r hr => ?_⟩
  · rcases Nat.lt_or_ge i x with h5 | h5
    · exact h.non ho i it' h5 hi'
    · obtain rfl : i = x := by omega
      rw [hxi] at hi'; rw [← Option.some.inj hi']; exact hc
  · obtain ⟨j, itj, e1, e2, e3, e4⟩ := h.som r hr
    refine ⟨j, itj, e1, e2, e3, fun i it' r' hi hi' hr' => ?_⟩
    rcases Nat.lt_or_ge i x with h5 | h5
    · exact e4 i it' r' h5 hi' hr'
    · obtain rfl : i = x := by omega
      rw [hxi] at hi'; rw [← Option.some.inj hi', hc] at hr'; cases hr'
theorem BestP.first {its : List It} {x : Nat} {ix : Int} (h : BestP its x none ix) {it : It} {r : Pr} (hxi : its[x]? = some it) (hc : it.cur = some r) : BestP its (x + 1) (some r) (x : Int) := by
  refine ⟨(fun ho => by cases ho), fun r1 hr1 => ?_⟩
  obtain rfl := Option.some.inj hr1
  refine ⟨x, it, rfl, hxi, hc, fun i it' r' hi hi' hr' => ?_⟩
  rcases Nat.lt_or_ge i x with h5 | h5
  · rw [h.non rfl i it' h5 hi'] at hr'; cases hr'
  · obtain rfl : i = x := by omega
    rw [hxi] at hi'; rw [← Option.some.inj hi', hc] at hr'; rw [← Option.some.inj hr', cmpI_refl]; omega
theorem BestP.take {its : List It} {x j : Nat} {r r0 : Pr} {it itj : It} (hxi : its[x]? = some it) (hc : it.cur = some r) (hj3 : ∀ i it' r', i < x → its[i]? = some it' → it'.cur = some r' → 0 ≤ cmpI r0.k r'.k) (hcmp : 0 < bcmp r.k r0.k) : BestP its (x + 1) (some r) (x : Int) := by
  refine ⟨(fun ho => by cases ho), fun r1 hr1 => ?_⟩
  obtain rfl := Option.some.inj hr1
  refine ⟨x, it, rfl, hxi, hc, fun i it' r' hi hi' hr' => ?_⟩
  rcases Nat.lt_or_ge i x with h5 | h5
  · have h6 := hj3 i it' r' h5 hi' hr'
    have h7 := bcmp_gt.1 hcmp; have h8 := cmpI_anti r.k r0.k; have h9 := cmpI_anti r0.k r'.k; have h10 := cmpI_anti r.k r'.k; have h11 := cmpI_le_trans (a := r'.k) (b := r0.k) (c := r.k) (by omega) (by omega); omega
  · obtain rfl : i = x := by omega
    rw [hxi] at hi'; rw [← Option.some.inj hi', hc] at hr'; rw [← Option.some.inj hr', cmpI_refl]; omega
theorem BestP.keep {its : List It} {x j : Nat} {r r0 : Pr} {it itj : It} (hxi : its[x]? = some it) (hc : it.cur = some r) (hj1 : its[j]? = some itj) (hj2 : itj.cur = some r0) (hj3 : ∀ i it' r', i < x → its[i]? = some it' → it'.cur = some r' → 0 ≤ cmpI r0.k r'.k) (hcmp : ¬ 0 < bcmp r.k r0.k) : BestP its (x + 1) (some r0) (j : Int) := by
  refine ⟨(fun ho => by cases ho), fun r1 hr1 => ?_⟩
  obtain rfl := Option.some.inj hr1
  refine ⟨j, itj, rfl, hj1, hj2, fun i it' r' hi hi' hr' => ?_⟩
  rcases Nat.lt_or_ge i x with h5 | h5
  · exact hj3 i it' r' h5 hi' hr'
  · obtain rfl : i = x := by omega
    rw [hxi] at hi'; rw [← Option.some.inj hi', hc] at hr'
    obtain rfl := Option.some.inj hr'
    have h7 := bcmp_spec r.k r0.k
    have h8 := cmpI_anti r0.k r.k
    omega
set_option maxHeartbeats 3200000 in
set_option maxRecDepth 100000 in
theorem mPrev (mp : Nat) (iA : Option Addr) (K ic kg : Nat) (idx dir : Int) (its : List It) (R : List Fr) (w0 w : World) (hO : Own (mFr mp iA K ic kg idx dir :: fw kg 25 (its.map It.kv) :: R) w0 w) (hD : St R w0 (MData its)) (hK : K = its.length) (hKl : K ≤ 2147483647) (hdir : dir = 2 → ∃ j : Nat, idx = (j : Int) ∧ j < K) :
    Calls Tryd.prog 210 #[.pointer (some ⟨mp, 0, none⟩)] w (MOutP mp iA K ic kg its R w0) := by
  have HDD := hid hD
  have HK := hid hK
  have hm := method_cmp
  have en := fun W x n c => Lib.run_eql_slice_nil (P := Tryd.prog) W 25 5 x n c 0 0 Tryd.underlying25
  have nn := fun W x n c => run_neq_slice_nil_any (P := Tryd.prog) W 25 5 x n c 0 0 Tryd.underlying25
  obtain ⟨c0, c1, c2, c3, c4, c5, c6, f4, f5⟩ := mFr_cells hO
  have HO := hid hO
  clear hO hD hK
  go_enter Tryd.func210, Tryd.ntmps210
  go_upto_region 2 with fail
  go_cut [10] (fun s10 wx => s10 = .bool (decide (dir = 2)) ∧ w = wx)
  case first =>
    go_wp2_with fail
    go_meet
    exact ⟨by cases hb : (dir == 2) <;> simp_all, rfl⟩
  case rest =>
  obtain ⟨rfl, rfl⟩ := hcut
  go_step
  go_cut [3] (fun s3 wx => ∃ o, s3 = kvO o ∧ Hid (BestP its 0 o idx) ∧ Hid (Dr w wx))
  case first =>
    by_cases hd3 : dir = 2
    · obtain ⟨j, rfl, hj⟩ := hdir hd3
      have t0 : decide (dir = 2) = true := decide_eq_true hd3
      have hjl : j < its.length := by rw [← HK.out]; exact hj
      have hji : its[j]? = some its[j] := List.getElem?_eq_getElem hjl
      have k0 := key_cell HO.out hji
      have hjK : (j : Int) < (K : Int) := by omega
      have HB : BestP its 0 its[j].cur (j : Int) := ⟨fun _ i _ hi => absurd hi (by omega), fun r hr => ⟨j, its[j], rfl, hji, hr, fun i _ _ hi => absurd hi (by omega)⟩⟩
      have HB := hid HB
      clear hdir hji
      go_wp2_with fail
      refine AnyT.start (S := fun w' => w'.cell? ⟨mp, 3, none⟩ = some (.slice (some ⟨kg, 0, none⟩) K K) ∧ w'.cell? ⟨mp, 4, none⟩ = some (.int .i64 (j : Int)) ∧ w'.cell? ⟨kg, j, none⟩ = some (kvO its[j].cur)) (T := []) (by kernel_rfl) (⟨c3, c4, k0⟩) (fun hHeld => ?_)
      refine AnyT.take (i := 0) (v := ?_) (by simp only [List.getElem?_toArray, List.getElem?_cons_succ, List.getElem?_cons_zero]; rfl) (by kernel_rfl) (by kernel_rfl) (by kernel_rfl) (by kernel_rfl) (by intro _ _ _ h; exact h) (Or.inl ⟨by rfl, fun w hSw => ?_⟩) hHeld ?_
      rotate_left
      · ((try dsimp only at hSw); go_simp; first | done | with_reducible rfl | rfl)
      try simp only [Act.put, List.setIfInBounds_toArray, List.set_cons_zero, List.set_cons_succ]
      refine AnyT.take (i := 1) (v := ?_) (by simp only [List.getElem?_toArray, List.getElem?_cons_succ, List.getElem?_cons_zero]; rfl) (by kernel_rfl) (by kernel_rfl) (by kernel_rfl) (by kernel_rfl) (by intro _ _ _ h; exact h) (Or.inl ⟨by rfl, fun w hSw => ?_⟩) hHeld ?_
      rotate_left
      · ((try dsimp only at hSw); go_simp; first | done | with_reducible rfl | rfl)
      try simp only [Act.put, List.setIfInBounds_toArray, List.set_cons_zero, List.set_cons_succ]
      refine AnyT.take (i := 2) (v := ?_) (by simp only [List.getElem?_toArray, List.getElem?_cons_succ, List.getElem?_cons_zero]; rfl) (by kernel_rfl) (by kernel_rfl) (by kernel_rfl) (by kernel_rfl) (by intro _ _ _ h; exact h) (Or.inl ⟨by rfl, fun w hSw => ?_⟩) hHeld ?_
      rotate_left
      · ((try dsimp only at hSw); go_simp; first | done | with_reducible rfl | rfl)
      try simp only [Act.put, List.setIfInBounds_toArray, List.set_cons_zero, List.set_cons_succ]
      refine AnyT.take (i := 3) (v := ?_) (by simp only [List.getElem?_toArray, List.getElem?_cons_succ, List.getElem?_cons_zero]; rfl) (by kernel_rfl) (by kernel_rfl) (by kernel_rfl) (by kernel_rfl) (by intro _ _ _ h; exact h) (Or.inl ⟨by rfl, fun w hSw => ?_⟩) hHeld ?_
      rotate_left
      · ((try dsimp only at hSw); go_simp; first | done | with_reducible rfl | rfl)
      try simp only [Act.put, List.setIfInBounds_toArray, List.set_cons_zero, List.set_cons_succ]
      refine AnyT.take (i := 4) (v := ?_) (by simp only [List.getElem?_toArray, List.getElem?_cons_succ, List.getElem?_cons_zero]; rfl) (by kernel_rfl) (by kernel_rfl) (by kernel_rfl) (by kernel_rfl) (by intro _ _ _ h; exact h) (Or.inl ⟨by rfl, fun w hSw => ?_⟩) hHeld ?_
      rotate_left
      · ((try dsimp only at hSw); go_simp; first | done | with_reducible rfl | rfl)
      try simp only [Act.put, List.setIfInBounds_toArray, List.set_cons_zero, List.set_cons_succ]
      refine AnyT.take (i := 5) (v := ?_) (by simp only [List.getElem?_toArray, List.getElem?_cons_succ, List.getElem?_cons_zero]; rfl) (by kernel_rfl) (by kernel_rfl) (by kernel_rfl) (by kernel_rfl) (by intro _ _ _ h; exact h) (Or.inl ⟨by rfl, fun w hSw => ?_⟩) hHeld ?_
      rotate_left
      · ((try dsimp only at hSw); go_simp; first | done | with_reducible rfl | rfl)
      try simp only [Act.put, List.setIfInBounds_toArray, List.set_cons_zero, List.set_cons_succ]
      refine AnyT.take (i := 6) (v := ?_) (by simp only [List.getElem?_toArray, List.getElem?_cons_succ, List.getElem?_cons_zero]; rfl) (by kernel_rfl) (by kernel_rfl) (by kernel_rfl) (by kernel_rfl) (by intro _ _ _ h; exact h) (Or.inl ⟨by rfl, fun w hSw => ?_⟩) hHeld ?_
      rotate_left
      · ((try dsimp only at hSw); go_simp; first | done | with_reducible rfl | rfl)
      try simp only [Act.put, List.setIfInBounds_toArray, List.set_cons_zero, List.set_cons_succ]
      refine AnyT.take (i := 7) (v := ?_) (by simp only [List.getElem?_toArray, List.getElem?_cons_succ, List.getElem?_cons_zero]; rfl) (by kernel_rfl) (by kernel_rfl) (by kernel_rfl) (by kernel_rfl) (by intro _ _ _ h; exact h) (Or.inl ⟨by rfl, fun w hSw => ?_⟩) hHeld ?_
      rotate_left
      · ((try dsimp only at hSw); go_simp; first | done | with_reducible rfl | rfl)
      try simp only [Act.put, List.setIfInBounds_toArray, List.set_cons_zero, List.set_cons_succ]
      refine AnyT.take (i := 8) (v := ?_) (by simp only [List.getElem?_toArray, List.getElem?_cons_succ, List.getElem?_cons_zero]; rfl) (by kernel_rfl) (by kernel_rfl) (by kernel_rfl) (by kernel_rfl) (by intro _ _ _ h; exact h) (Or.inl ⟨by rfl, fun w hSw => ?_⟩) hHeld ?_
      rotate_left
      · ((try dsimp only at hSw); go_simp; first | done | with_reducible rfl | rfl)
      try simp only [Act.put, List.setIfInBounds_toArray, List.set_cons_zero, List.set_cons_succ]
      refine AnyT.take (i := 9) (v := ?_) (by simp only [List.getElem?_toArray, List.getElem?_cons_succ, List.getElem?_cons_zero]; rfl) (by kernel_rfl) (by kernel_rfl) (by kernel_rfl) (by kernel_rfl) (by intro _ _ _ h; exact h) (Or.inl ⟨by rfl, fun w hSw => ?_⟩) hHeld ?_
      rotate_left
      · ((try dsimp only at hSw); go_simp; first | done | with_reducible rfl | rfl)
      try simp only [Act.put, List.setIfInBounds_toArray, List.set_cons_zero, List.set_cons_succ]
      refine AnyT.take (i := 10) (v := ?_) (by simp only [List.getElem?_toArray, List.getElem?_cons_succ, List.getElem?_cons_zero]; rfl) (by kernel_rfl) (by kernel_rfl) (by kernel_rfl) (by kernel_rfl) (by intro _ _ _ h; exact h) (Or.inl ⟨by rfl, fun w hSw => ?_⟩) hHeld ?_
      rotate_left
      · ((try dsimp only at hSw); go_simp; first | done | with_reducible rfl | rfl)
      try simp only [Act.put, List.setIfInBounds_toArray, List.set_cons_zero, List.set_cons_succ]
      refine AnyT.done (by kernel_rfl) ?_ _
      clear hHeld
      go_wp2_with fail
      go_meet
      exact ⟨its[j].cur, rfl, HB, hid ((Dr.refl w).drew)⟩
    · have t0 : decide (dir = 2) = false := decide_eq_false hd3
      go_wp2_with fail
      go_meet
      exact ⟨none, rfl, hid ⟨fun _ i _ hi => absurd hi (by omega), fun r hr => by cases hr⟩, hid (Dr.refl w)⟩
  case rest =>
    obtain ⟨o0, rfl, HB0, HD0⟩ := hcut
    have HO0 := hid (HO.out.dr HD0.out)
    obtain ⟨c0, c1, c2, c3, c4, c5, c6, f4, f5⟩ := mFr_cells HO0.out
    clear hdir HD0
    go_wp2_with fail
    go_loopw [3, 26] (fun s3 i wr => ∃ (x : Nat) (o : Option Pr) (ix : Int), s3 = kvO o ∧ i = .int .i64 x ∧ x ≤ K ∧ Hid (BestP its x o ix) ∧ Hid (Own (mFr mp iA K ic kg ix dir :: fw kg 25 (its.map It.kv) :: R) w0 wr)) (fun _ i _ => K - (intOf i).toNat)
    case atStart => exact ⟨0, o0, idx, rfl, rfl, Nat.zero_le _, HB0, HO0⟩
    case round =>
      clear HO0 HB0 c0 c1 c2 c3 c4 c5 c6 f4 f5 HO
      obtain ⟨x, o, ix, rfl, rfl, hx, HB, HO⟩ := hrel
      obtain ⟨w2, rfl⟩ : ∃ w2, w2 = wr := ⟨_, rfl⟩
      obtain ⟨c0, c1, c2, c3, c4, c5, c6, f4, f5⟩ := mFr_cells HO.out
      by_cases h4 : x < K
      · have h4' : (x : Int) < (K : Int) := by omega
        have hxl : x < its.length := by rw [← HK.out]; exact h4
        have hxi : its[x]? = some its[x] := List.getElem?_eq_getElem hxl
        have hxm : its[x] ∈ its := List.getElem_mem hxl
        have k0 := key_cell HO.out hxi
        have hdt := HO.out.st HDD.out (fun _ hx => by simp [hx])
        generalize its[x] = it at hxi hxm k0
        obtain ⟨hp, hne⟩ := hdt it hxm
        cases hc : it.cur with
        | none =>
          rw [hc] at k0
          have HB2 := HB.out.skip hxi hc
          have HB2 := hid HB2
          unfold kvO at k0
          clear hdt hp hne hxi hxm hc
          go_wp2_with fail
          go_roundw
          case rel => exact ⟨x + 1, o, ix, rfl, by go_num, by omega, HB2, HO⟩
          case measure => simp [intOf]; omega
        | some r =>
          rw [hc] at k0
          have hrm := It.cur_mem hc
          have hrok := (hp.ok r hrm).hk
          have hnn := bs_some hrok (hne r hrm)
          have HR := hid hrok
          have HNE := hid (hne r hrm)
          unfold kvO at k0
          have hOx := mFr_idx HO.out (x : Int)
          have HOX := hid hOx
          clear hOx
          cases o with
          | none =>
            have HB2 := HB.out.first hxi hc
            have HB2 := hid HB2
            clear hdt hp hne hxi hxm hc hrm hrok
            unfold kvO
            go_wp2_with fail
            go_roundw
            case rel => exact ⟨x + 1, some r, (x : Int), rfl, by go_num, by omega, HB2, HOX⟩
            case measure => simp [intOf]; omega
          | some r0 =>
            obtain ⟨j, itj, rfl, hj1, hj2, hj3⟩ := HB.out.som r0 rfl
            have hjm := List.mem_of_getElem? hj1
            obtain ⟨hpj, hnej⟩ := hdt itj hjm
            have hr0m := It.cur_mem hj2
            have hr0ok := (hpj.ok r0 hr0m).hk
            have hn0 := bs_some hr0ok (hnej r0 hr0m)
            have HR0 := hid hr0ok
            by_cases hcmp : 0 < bcmp r.k r0.k
            · have t1 : decide (0 < bcmp r.k r0.k) = true := decide_eq_true hcmp
              have HB2 : BestP its (x + 1) (some r) (x : Int) := BestP.take (j := j) (itj := itj) hxi hc hj3 hcmp
              have HB2 := hid HB2
              clear hdt hp hne hxi hxm hc hrm hrok hj1 hj2 hj3 hpj hnej hr0m hr0ok hjm
              unfold kvO
              go_wp2_with fail
              refine (cmpCompare_any _ _ _ _ _ _ r.k r0.k _ HR.out HR0.out rfl rfl).mono ?_
              rintro e w3 ⟨rfl, ho3⟩
              have hO3 := HO.out.only0 ho3
              obtain ⟨e0, e1, e2, e3, e4, e5, e6, g4, g5⟩ := mFr_cells hO3
              have HOX3 := hid (mFr_idx hO3 (x : Int))
              clear hO3 ho3 k0
              go_wp2_with fail
              go_roundw
              case rel => exact ⟨x + 1, some r, (x : Int), rfl, by go_num, by omega, HB2, HOX3⟩
              case measure => simp [intOf]; omega
            · have t1 : decide (0 < bcmp r.k r0.k) = false := decide_eq_false hcmp
              have HB2 : BestP its (x + 1) (some r0) (j : Int) := BestP.keep hxi hc hj1 hj2 hj3 hcmp
              have HB2 := hid HB2
              clear hdt hp hne hxi hxm hc hrm hrok hj1 hj2 hj3 hpj hnej hr0m hr0ok hjm
              unfold kvO
              go_wp2_with fail
              refine (cmpCompare_any _ _ _ _ _ _ r.k r0.k _ HR.out HR0.out rfl rfl).mono ?_
              rintro e w3 ⟨rfl, ho3⟩
              have HO3 := hid (HO.out.only0 ho3)
              clear ho3 k0
              go_wp2_with fail
              go_roundw
              case rel => exact ⟨x + 1, some r0, (j : Int), rfl, by go_num, by omega, HB2, HO3⟩
              case measure => simp [intOf]; omega
      · have h4' : ¬ (x : Int) < (K : Int) := by omega
        obtain rfl : x = K := by omega
        cases o with
        | none =>
          have HO1 := hid (mFr_dir HO.out 0)
          unfold kvO
          go_wp2_with fail
          go_ret
          refine .inr ⟨fun it hit => ?_, rfl, ix, HO1.out⟩
          obtain ⟨i, hi, rfl⟩ := List.getElem_of_mem hit
          exact HB.out.non rfl i _ (by rw [HK.out]; exact hi) (List.getElem?_eq_getElem hi)
        | some r0 =>
          obtain ⟨j, itj, rfl, hj1, hj2, hj3⟩ := HB.out.som r0 rfl
          have hdt := HO.out.st HDD.out (fun _ hx => by simp [hx])
          obtain ⟨hpj, hnej⟩ := hdt itj (List.mem_of_getElem? hj1)
          have hr0m := It.cur_mem hj2
          have hn0 := bs_some (hpj.ok r0 hr0m).hk (hnej r0 hr0m)
          have HO1 := hid (mFr_dir HO.out 2)
          have HJ := hid (show _ ∧ _ ∧ _ from ⟨hj1, hj2, hj3⟩)
          clear hdt hpj hnej hr0m hj1 hj2 hj3
          unfold kvO
          go_wp2_with fail
          go_ret
          obtain ⟨hj1, hj2, hj3⟩ := HJ.out
          refine .inl ⟨j, itj, r0, hj1, hj2, fun it' hit' r' hr' => ?_, rfl, HO1.out⟩
          obtain ⟨i, hi, rfl⟩ := List.getElem_of_mem hit'
          exact hj3 i _ r' (by rw [HK.out]; exact hi) (List.getElem?_eq_getElem hi) hr'
end Go.Proofs.YtloflmcgbbbnjaaDoor
namespace Go.Proofs.YtloflmcgbbbnjaaDoor
open Go.RowKit Plain
set_option linter.all false

set_option maxHeartbeats 800000 in
set_option maxRecDepth 100000 in
theorem mAssert (A : Option Addr) (n c : Nat) (w : World) (h : A.isNone = false) : Calls Tryd.prog 207 #[.slice A n c] w fun e w' => e = .returned (.slice A n c) ∧ w = w' := by
  have en := fun W x n c => Lib.run_eql_slice_nil (P := Tryd.prog) W 25 5 x n c 0 0 Tryd.underlying25
  go_enter Tryd.func207, Tryd.ntmps207
  go_wp2_with fail
  go_ret
  exact ⟨rfl, rfl⟩
set_option maxHeartbeats 800000 in
set_option maxRecDepth 100000 in
theorem mIterErr (mp q : Nat) (w : World) (c4 : w.cell? ⟨q, 4, none⟩ = some .nilIface) : Calls Tryd.prog 208 #[.pointer (some ⟨mp, 0, none⟩), .iface 187 (.pointer (some ⟨q, 0, none⟩))] w fun e w' => e = .returned (.bool false) ∧ w = w' := by
  have hm := m_aError
  go_enter Tryd.func208, Tryd.ntmps208
  go_wp2_with fail
  refine (aError q _ c4).mono ?_
  rintro e w1 ⟨rfl, rfl⟩
  go_wp2_with fail
  go_ret
  exact ⟨rfl, rfl⟩
theorem perm_erase {α : Type} {l : List α} {x : Nat} (h : x < l.length) : (l[x] :: l.eraseIdx x).Perm l := by
  rw [List.eraseIdx_eq_take_drop_succ]
  conv => rhs; rw [← List.take_append_drop x l, List.drop_eq_getElem_cons h]
  exact List.perm_middle.symm
theorem its_out {its : List It} {x : Nat} {it : It} (hx : its[x]? = some it) : (its.map It.fr).Perm (it.fr :: (its.eraseIdx x).map It.fr) := by
  obtain ⟨hl, rfl⟩ := List.getElem?_eq_some_iff.1 hx
  exact ((perm_erase hl).map It.fr).symm
theorem its_in {its : List It} {x : Nat} {it : It} (hx : its[x]? = some it) (it' : It) : (it'.fr :: (its.eraseIdx x).map It.fr).Perm ((its.set x it').map It.fr) := by
  obtain ⟨hl, rfl⟩ := List.getElem?_eq_some_iff.1 hx
  have h2 : x < (its.set x it').length := by simpa using hl
  have h := (perm_erase h2).map It.fr
  rw [List.getElem_set_self, List.eraseIdx_set_eq] at h
  exact h
/-- An iterator stands elsewhere; if there is a pair, its key has been read. -/
def It.to (it : It) (p : Int) : It := { it with pos := p, apos := if wval it.l.length p = true then p else it.apos }
def It.mv (it : It) (p : Int) : It := { it with pos := p }
theorem keys_set {kg x : Nat} {its : List It} {y : Fr} {R : List Fr} {w0 w : World} (h : Own (y :: fw kg 25 (its.map It.kv) :: R) w0 w) (hx : x < its.length) (v : Value) :
    Own (y :: fw kg 25 ((its.map It.kv).set x v) :: R) w0 (w.setCell ⟨kg, x, none⟩ v) := by
  have := h.setN 1 rfl (k := x) x (by simp) (by simpa using hx) v
  simpa using this
theorem keys_frozen {kg x : Nat} {its : List It} {y : Fr} {R : List Fr} {w0 w : World} (h : Own (y :: fw kg 25 (its.map It.kv) :: R) w0 w) : w.frozen? ⟨kg, x, none⟩ = false := h.frozen 1 rfl x
/-- The first x have been moved. -/
def stage (u : It → It) (its : List It) (x : Nat) : List It := (its.take x).map u ++ its.drop x
theorem stage_zero (u : It → It) (its : List It) : stage u its 0 = its := by simp [stage]
theorem stage_all {u : It → It} {its : List It} {x : Nat} (h : its.length ≤ x) : stage u its x = its.map u := by simp [stage, List.take_of_length_le h, List.drop_of_length_le h]
theorem stage_len (u : It → It) (its : List It) (x : Nat) : (stage u its x).length = its.length := by
  unfold stage
  rw [List.length_append, List.length_map, List.length_take, List.length_drop]; omega
theorem stage_at {u : It → It} {its : List It} {x : Nat} {it : It} (h : its[x]? = some it) : (stage u its x)[x]? = some it := by
  have hl := (List.getElem?_eq_some_iff.1 h).1
  have hl2 : ((its.take x).map u).length = x := by rw [List.length_map, List.length_take]; omega
  unfold stage
  rw [List.getElem?_append_right (by omega), hl2, Nat.sub_self, List.getElem?_drop, Nat.add_zero, h]
theorem stage_succ {u : It → It} {its : List It} {x : Nat} {it : It} (h : its[x]? = some it) : stage u its (x + 1) = (stage u its x).set x (u it) := by
  obtain ⟨hl, rfl⟩ := List.getElem?_eq_some_iff.1 h
  have hl2 : ((its.take x).map u).length = x := by rw [List.length_map, List.length_take]; omega
  unfold stage
  rw [List.take_succ_eq_append_getElem hl, List.map_append, List.set_append_right _ _ (by omega), hl2, Nat.sub_self]
  conv => rhs; rw [List.drop_eq_getElem_cons hl]
  rw [List.set_cons_zero, List.append_assoc]; rfl
theorem aKey_valid {l : List Pr} {p : Int} (h : wval l.length p = true) : ∃ r, l[p.toNat]? = some r ∧ r ∈ l ∧ aKey l p = .slice r.ka r.k.length r.kc := by
  obtain ⟨h1, h2⟩ := wval_iff.1 h
  have hl : p.toNat < l.length := by omega
  refine ⟨l[p.toNat], List.getElem?_eq_getElem hl, List.getElem_mem hl, ?_⟩
  unfold aKey
  rw [if_pos h, List.getElem?_eq_getElem hl]
theorem aKey_not {l : List Pr} {p : Int} (h : wval l.length p = false) : aKey l p = .slice none 0 0 := by unfold aKey; rw [if_neg (by rw [h]; simp)]
end Go.Proofs.YtloflmcgbbbnjaaDoor
