/-
  spec.Shared; the default comparer's Separator and Successor.
  bytes.Compare and the default comparer's Compare: -1, 0, 1 as the reference's comparison is below, at, above 0.
  The default comparer's Separator and Successor, Compare: into a row that is owned.
  memdb.DB: its frame, what is read of it.
  memdb: findGE over an abstract invariant.
-/
import Derived.Test.YtloflmcgbbbnjaaDoorMemM6
import Derived.Test.YtloflmcgbbbnjaaDoorMemM4
import Derived.Test.YtloflmcgbbbnjaaDoorMemM2
import Derived.Test.YtloflmcgbbbnjaaDoorMemM3
import Derived.Lib.Bytealg
import Derived.Laws.Externs
import Derived.Lib.BytesEntry
import Derived.Test.YtloflmcgbbbnjaaDoorMemM1
import Derived.Test.YtloflmcgbbbnjaaDoorMemM5
namespace Go.Proofs.YtloflmcgbbbnjaaDoor
open Go.RowKit Plain

/-- What a comparer makes: nil where there is none; else a row of the call's own: dst's, or a new one. -/
def RowOr (w0 w : World) (dst v : Value) : Option (List UInt8) → Prop
  | none => v = .slice none 0 0
  | some l => w.ownsRow 0 5 1 v l.length (bc l) ∧ (v.ownBlock = dst.ownBlock ∨ ∃ g, v.ownBlock = some g ∧ w0.heap.size ≤ g)

theorem bumped_bytes {p : List UInt8} {k : Nat} (hk : k < p.length) (h : bz p k < 255) : (bc (p.take (k + 1))).set k (.int .u8 (bz p k + 1)) = bc (p.take k ++ [up (at_ p k)]) := by
  have h' : (at_ p k).toNat < 255 := by unfold bz at h; omega
  have hu := up_toNat h'
  rw [show bz p k + 1 = ((up (at_ p k)).toNat : Int) by unfold bz; omega, bc_set, take_at hk]
  rw [List.set_append_right _ _ (by rw [List.length_take]; omega)]
  have : k - (p.take k).length = 0 := by rw [List.length_take]; omega
  rw [this]; rfl
theorem bz_take {l : List UInt8} {k n : Nat} (h : k < n) : bz (l.take n) k = bz l k := by simp [bz, at_, h]
/-- The row that a comparer has made: one byte more, at its end raised. -/
theorem RowOr.bump {w0 w1 : World} {dst : Value} {p : List UInt8} {k g cap : Nat} (hk : k < p.length) (h : bz p k < 255) (hown : w1.ownsRow 0 5 1 (.slice (some ⟨g, 0, none⟩) (k + 1) cap) (k + 1) (bc (p.take (k + 1))))
    (hat : (Value.slice (some ⟨g, 0, none⟩) (k + 1) cap).ownBlock = dst.ownBlock ∨ (Value.slice (some ⟨g, 0, none⟩) (k + 1) cap).ownBlock = some w0.heap.size) (n : Nat) (hn : n ≤ w0.heap.size) (w00 : World) (hw : w00.heap.size = n) :
    RowOr w00 (w1.setCell ⟨g, k, none⟩ (.int .u8 (bz p k + 1))) dst (.slice (some ⟨g, 0, none⟩) (k + 1) cap) (some (p.take k ++ [up (at_ p k)])) := by
  have hs := (hown.stored k (.int .u8 (bz p k + 1))).1
  rw [bumped_bytes hk h] at hs
  refine ⟨?_, ?_⟩
  · rw [show (p.take k ++ [up (at_ p k)]).length = k + 1 by simp; omega]; exact hs
  · rcases hat with e | e
    · exact .inl e
    · exact .inr ⟨_, e, by omega⟩

set_option maxHeartbeats 800000 in
theorem cmpSucc_any (v : Value) (B : Option Addr) (cb : Nat) (b : List UInt8) (w : World) (hv : w.ownsRow 0 5 1 v 0 []) (hb : BsAt w B b) (lb : b.length ≤ 2147483647) (hcb : b.length ≤ cb) :
    Calls Tryd.prog 173 #[.agg #[], v, .slice B b.length cb] w fun e w' => ∃ v', e = .returned v' ∧ RowOr w w' v v' (succ b 0) ∧ Only v.ownBlock.toList w w' ∧ (succ b 0 = none → Only [] w w') := by
  go_enter Tryd.func173, Tryd.ntmps173
  go_wp2
  go_loopw [11, 1] (fun i d wr => ∃ k : Nat, i = .int .i64 k ∧ v = d ∧ k ≤ b.length ∧ succ b 0 = succ b k ∧ wr = w.alloc (.cells #[] 112)) (fun i _ _ => b.length - (intOf i).toNat)
  case atStart => exact ⟨0, rfl, rfl, Nat.zero_le _, rfl, rfl⟩
  case round =>
    obtain ⟨k, rfl, rfl, hk, hs, rfl⟩ := hrel
    have HS := hid hs
    clear hs
    by_cases h1 : k < b.length
    · obtain ⟨g, o, rfl, hlt, hcc⟩ := hb.addr (by omega)
      have hc := hcc k h1
      have x0 := bz_lo b k
      have x1 := bz_hi b k
      by_cases h2 : bz b k = 255
      · have t2 : (bz b k != 255) = false := by rw [bne_eq_false_iff_eq]; exact h2
        have hf : fresh b k = fresh b (k + 1) := by rw [fresh, dif_pos h1, if_neg (by unfold bz at h2; omega)]
        have hs' : succ b 0 = succ b (k + 1) := by rw [HS.out, succ, hf]; rfl
        have HS' := hid hs'
        clear h2 hcc hf hs'
        go_wp2
        exact ⟨⟨k + 1, rfl, rfl, by omega, HS'.out, by first | rfl | trivial⟩, by simp [intOf]; omega⟩
      · have t2 : (bz b k != 255) = true := by rw [bne_iff_ne]; exact h2
        have hf : fresh b k = some k := by rw [fresh, dif_pos h1, if_pos (by unfold bz at h2; omega)]
        have HF := hid hf
        have h3 : bz b k < 255 := by omega
        clear h2 hcc hf
        go_wp2_with (at_builtin; refine wp_append rfl _ _ _ rfl 5 (.int .u8 0) 1 1 Tryd.underlying25 Tryd.info_u8 rfl (by decide) v 0 [] rfl (hv.alloc _) _ (k + 1) cb (bc (b.take (k + 1))) rfl (by simp [bc_length]; omega) ((hb.alloc _).take _).cs (bc_one _) (by simp only [maxLen]; omega) (by omega) ?_; intro v1 w1 hown1 hg1 _ hat1; go_must (simp only [Nat.zero_add, List.nil_append] at hown1); go_must (obtain ⟨g1, cap1, rfl, _, hlt1⟩ := own_form hown1 (by omega)); go_must (have c1 := (hown1.cellAt k (by omega)).trans (bc_get (by simp; omega))); go_must (rw [bz_take (by omega)] at c1); have f1 := hown1.frozenAt k; have H1 := hid hown1; have H2 := hid hg1; have H3 := hid hat1; clear hown1 hg1 hat1 t2)
        go_ret
        refine ⟨_, rfl, ?_, ?_, fun h => absurd h (by rw [HS.out, succ, HF.out]; simp)⟩
        · rw [HS.out, succ, HF.out]
          exact RowOr.bump h1 h3 H1.out H3.out w.heap.size (by simp) w rfl
        · refine (Only.grow ((Only.refl _ _).alloc _) H2.out (fun k hk => .inl (by simp [hk]))).setCell ?_ _
          rcases H3.out with e | e
          · exact .inl (by rw [← e]; simp [Value.ownBlock])
          · refine .inr ?_
            simp [Value.ownBlock] at e
            simp; omega
    · have hf : fresh b k = none := by rw [fresh, dif_neg h1]
      have HF := hid hf
      clear hf
      go_wp2
      go_ret
      exact ⟨_, rfl, by rw [HS.out, succ, HF.out]; rfl, (Only.refl _ _).alloc _, fun _ => (Only.refl _ _).alloc _⟩

set_option maxHeartbeats 1600000 in
set_option maxRecDepth 100000 in
theorem cmpSep_any (v : Value) (A B : Option Addr) (ca cb : Nat) (a b : List UInt8) (w : World) (hv : w.ownsRow 0 5 1 v 0 []) (ha : BsAt w A a) (hb : BsAt w B b) (la : a.length ≤ 2147483647) (lb : b.length ≤ 2147483647) (hca : a.length ≤ ca) :
    Calls Tryd.prog 172 #[.agg #[], v, .slice A a.length ca, .slice B b.length cb] w fun e w' => ∃ v', e = .returned v' ∧ RowOr w w' v v' (sep a b) ∧ Only v.ownBlock.toList w w' ∧ (sep a b = none → Only [] w w') := by
  obtain ⟨M, hM⟩ : ∃ M, M = min a.length b.length := ⟨_, rfl⟩
  have hs := shared_le a b
  have key : ∀ d : Value, d = .int .i64 (M : Int) → True := fun _ _ => trivial
  by_cases hab : (b.length : Int) < (a.length : Int)
  all_goals
    go_enter Tryd.func172, Tryd.ntmps172
    clear key
    go_wp2
    go_loopw [9] (fun i wr => ∃ k : Nat, i = .int .i64 k ∧ k ≤ shared a b ∧ Dr (w.alloc (.cells #[] 112)) wr) (fun i _ => a.length - (intOf i).toNat)
    case atStart => exact ⟨0, rfl, Nat.zero_le _, Dr.refl _⟩
    case round =>
      obtain ⟨k, rfl, hk, ⟨n, rfl⟩⟩ := hrel
      by_cases h1 : k < a.length ∧ k < b.length
      · obtain ⟨h1, h2⟩ := h1
        obtain ⟨g, o, rfl, hlt, hcc⟩ := ha.addr (by omega)
        obtain ⟨g', o', rfl, hlt', hcc'⟩ := hb.addr (by omega)
        have hc := hcc k h1
        have hc' := hcc' k h2
        have t1 : decide ((k : Int) < (a.length : Int)) = true := by simp; omega
        have t2 : decide ((k : Int) < (b.length : Int)) = true := by simp; omega
        have t1' : decide (k < a.length) = true := by simp; omega
        have t2' : decide (k < b.length) = true := by simp; omega
        by_cases e : at_ a k = at_ b k
        · have e1 : (bz a k == bz b k) = true := by rw [beq_iff_eq]; exact bz_eq.2 e
          have hk' := shared_step hk h1 h2 e
          clear e hcc hcc'
          go_wp2
          repeat (go_quiet (fail); try go_wp2)
          go_roundw
          case rel => exact ⟨k + 1, by go_num, hk', by repeat (first | exact Dr.refl _ | apply Dr.step)⟩
          case measure => simp [intOf]; omega
        · have e1 : (bz a k == bz b k) = false := by rw [beq_eq_false_iff_ne]; exact fun h => e (bz_eq.1 h)
          have hk' := shared_stop hk e
          have x0 := bz_lo a k
          have x1 := bz_hi a k
          have y0 := bz_lo b k
          have y1 := bz_hi b k
          by_cases h3 : bz a k < 255 ∧ bz a k + 1 < bz b k
          · have hp : sep a b = some (a.take k ++ [up (at_ a k)]) := by
              unfold sep
              rw [← hk', if_pos ⟨h1, h2, by have := h3.1; unfold bz at this; omega, by have := h3.2; unfold bz at this; omega⟩]
            have HP := hid hp
            obtain ⟨h3, h4⟩ := h3
            have h3' : decide (bz a k < 255) = true := by simpa using h3
            clear e hcc hcc' hp hk'
            go_wp2_with fail
            go_quiet (fail)
            go_wp2_with (at_builtin; refine wp_append rfl _ _ _ rfl 5 (.int .u8 0) 1 1 Tryd.underlying25 Tryd.info_u8 rfl (by decide) v 0 [] rfl ((hv.alloc _)) _ (k + 1) ca (bc (a.take (k + 1))) rfl (by simp [bc_length]; omega) ((ha.alloc _).take _).cs (bc_one _) (by simp only [maxLen]; omega) (by omega) ?_; intro v1 w1 hown1 hg1 _ hat1; go_must (simp only [Nat.zero_add, List.nil_append] at hown1); go_must (obtain ⟨g1, cap1, rfl, _, hlt1⟩ := own_form hown1 (by omega)); go_must (have c1 := (hown1.cellAt k (by omega)).trans (bc_get (by simp; omega))); go_must (rw [bz_take (by omega)] at c1); have f1 := hown1.frozenAt k; have H1 := hid hown1; have H2 := hid hg1; have H3 := hid hat1; clear hown1 hg1 hat1)
            go_ret
            refine ⟨_, rfl, ?_, ?_, fun h => absurd h (by rw [HP.out]; simp)⟩
            · rw [HP.out]
              exact RowOr.bump h1 h3 H1.out H3.out w.heap.size (by simp) w rfl
            · refine (Only.grow (((Only.refl _ _).alloc _).drewN _) H2.out (fun k hk => .inl (by simp [hk]))).setCell ?_ _
              rcases H3.out with e | e
              · exact .inl (by rw [← e]; simp [Value.ownBlock])
              · refine .inr ?_
                simp [Value.ownBlock] at e
                simp; omega
          · have hp : sep a b = none := by
              unfold sep
              rw [← hk', if_neg (by rintro ⟨_, _, h5, h6⟩; exact h3 ⟨by unfold bz; omega, by unfold bz; omega⟩)]
            have HP := hid hp
            clear e hcc hcc' hp hk'
            by_cases h5 : bz a k < 255
            · have h5' : decide (bz a k < 255) = true := by simpa using h5
              have h6 : ¬ bz a k + 1 < bz b k := fun h => h3 ⟨h5, h⟩
              clear h3
              go_wp2
              repeat (go_quiet (fail); try go_wp2)
              go_ret
              exact ⟨_, rfl, by rw [HP.out]; rfl, by repeat (first | exact Only.refl _ _ | apply Only.drewN | apply Only.alloc), fun _ => by repeat (first | exact Only.refl _ _ | apply Only.drewN | apply Only.alloc)⟩
            · have h5' : decide (bz a k < 255) = false := by simpa using h5
              clear h3
              go_wp2
              repeat (go_quiet (fail); try go_wp2)
              go_ret
              exact ⟨_, rfl, by rw [HP.out]; rfl, by repeat (first | exact Only.refl _ _ | apply Only.drewN | apply Only.alloc), fun _ => by repeat (first | exact Only.refl _ _ | apply Only.drewN | apply Only.alloc)⟩
      · have hk' : ¬ (shared a b < a.length ∧ shared a b < b.length) := by omega
        have hp : sep a b = none := by
          unfold sep
          rw [if_neg (by rintro ⟨h5, h6, _, _⟩; exact hk' ⟨h5, h6⟩)]
        have HP := hid hp
        first
          | (have t1 : decide ((k : Int) < (b.length : Int)) = false := by simp; omega
             have t2 : decide (k < b.length) = false := by simp; omega
             have t4 : b.length ≤ k := by omega
             clear hp hk' h1
             go_wp2
             repeat (go_quiet (fail); try go_wp2)
             go_ret
             exact ⟨_, rfl, by rw [HP.out]; rfl, by repeat (first | exact Only.refl _ _ | apply Only.drewN | apply Only.alloc), fun _ => by repeat (first | exact Only.refl _ _ | apply Only.drewN | apply Only.alloc)⟩)
          | (have t1 : decide ((k : Int) < (a.length : Int)) = false := by simp; omega
             have t2 : decide (k < a.length) = false := by simp; omega
             have t4 : a.length ≤ k := by omega
             clear hp hk' h1
             go_wp2
             repeat (go_quiet (fail); try go_wp2)
             go_ret
             exact ⟨_, rfl, by rw [HP.out]; rfl, by repeat (first | exact Only.refl _ _ | apply Only.drewN | apply Only.alloc), fun _ => by repeat (first | exact Only.refl _ _ | apply Only.drewN | apply Only.alloc)⟩)

end Go.Proofs.YtloflmcgbbbnjaaDoor
namespace Go.Proofs.YtloflmcgbbbnjaaDoor
open Go.RowKit Plain

/-- As bytes.Compare says it. -/
def bcmp (a b : List UInt8) : Int := Lib.compareBytes a b
theorem bcmp_spec (a b : List UInt8) : (bcmp a b = -1 ∧ cmpI a b < 0) ∨ (bcmp a b = 0 ∧ cmpI a b = 0) ∨ (bcmp a b = 1 ∧ 0 < cmpI a b) := by
  unfold bcmp
  induction a generalizing b with
  | nil =>
    cases b with
    | nil => simp [Lib.compareBytes]
    | cons y b => simp [Lib.compareBytes]
  | cons x a ih =>
    cases b with
    | nil => simp [Lib.compareBytes]
    | cons y b =>
      rw [Lib.compareBytes, cmpI_cons]
      by_cases h1 : x < y
      · have h1' := UInt8.lt_iff_toNat_lt.1 h1
        have : x ≠ y := fun e => by subst e; omega
        rw [if_pos h1, if_neg this]
        exact .inl ⟨rfl, by omega⟩
      · rw [if_neg h1]
        by_cases h2 : y < x
        · have h2' := UInt8.lt_iff_toNat_lt.1 h2
          have : x ≠ y := fun e => by subst e; omega
          rw [if_pos h2, if_neg this]
          exact .inr (.inr ⟨rfl, by omega⟩)
        · rw [if_neg h2]
          have : x = y := by
            rw [UInt8.lt_iff_toNat_lt] at h1 h2
            exact UInt8.toNat_inj.1 (by omega)
          rw [if_pos this]
          exact ih b
theorem bcmp_lt {a b : List UInt8} : bcmp a b < 0 ↔ cmpI a b < 0 := by have := bcmp_spec a b; omega
theorem bcmp_ge {a b : List UInt8} : 0 ≤ bcmp a b ↔ 0 ≤ cmpI a b := by have := bcmp_spec a b; omega
theorem bcmp_gt {a b : List UInt8} : 0 < bcmp a b ↔ 0 < cmpI a b := by have := bcmp_spec a b; omega
theorem bcmp_eq0 {a b : List UInt8} : bcmp a b = 0 ↔ cmpI a b = 0 := by have := bcmp_spec a b; omega
theorem bcmp_lo (a b : List UInt8) : -1 ≤ bcmp a b := by have := bcmp_spec a b; omega
theorem bcmp_hi (a b : List UInt8) : bcmp a b ≤ 1 := by have := bcmp_spec a b; omega

theorem bytesOf_map (l : List UInt8) : Lib.bytesOf (l.map fun b => (b.toNat : Int)) = l := by
  unfold Lib.bytesOf
  rw [List.map_map]
  induction l with
  | nil => rfl
  | cons b l ih => rw [List.map_cons, ih]; simp
theorem run_bytesOf {P : Program} {w : World} {A : Option Addr} {l : List UInt8} (n c : Nat) (hn : n = l.length) (h : BsAt w A l) : (Extern.Bytes.bytesOf (.slice A n c)).run P w = .ok (bstr l) w := by
  subst hn
  have key : ∀ ad : Addr, A = some ad → (∀ j (x : UInt8), l[j]? = some x → w.cell? (ad.add j) = some (.int .u8 x.toNat)) → (Extern.Bytes.bytesOf (.slice A l.length c)).run P w = .ok (bstr l) w := fun ad e hc => by
    subst e
    have := Lib.run_loadBytesX (P := P) (w := w) (l.map fun b => (b.toNat : Int)) ad .empty (fun j x hj => by
      rw [List.getElem?_map] at hj
      cases hl : l[j]? with
      | none => rw [hl] at hj; cases hj
      | some y => rw [hl] at hj; cases hj; exact hc j y hl)
    simp only [Extern.Bytes.bytesOf]
    rw [List.length_map] at this
    rw [this, bytesOf_map]
    simp [bstr]
  rcases Nat.eq_zero_or_pos l.length with h0 | h0
  · obtain rfl : l = [] := List.eq_nil_of_length_eq_zero h0
    cases A with
    | none => simp [Extern.Bytes.bytesOf]; rfl
    | some ad => exact key ad rfl (fun j x hj => by simp at hj)
  · obtain ⟨g, o, e, _, hc⟩ := h.addr h0
    refine key _ e fun j x hj => ?_
    have hjl := (List.getElem?_eq_some_iff.1 hj).1
    rw [add_none, hc j hjl, bz, at_get hjl]
    rw [List.getElem?_eq_getElem hjl] at hj
    injection hj with hj
    rw [hj]
theorem run_compareBs {P : Program} {w : World} {A B : Option Addr} {a b : List UInt8} (n m ca cb : Nat) (hn : n = a.length) (hm : m = b.length) (ha : BsAt w A a) (hb : BsAt w B b) :
    (Extern.BytealgCompare.compare #[.slice A n ca, .slice B m cb]).run P w = .ok (.int .i64 (bcmp a b)) w := by
  change Sem.run P ((Extern.Bytes.bytesOf (.slice A n ca)) >>= fun x => (Extern.Bytes.bytesOf (.slice B m cb)) >>= fun y => pure (goInt (Extern.BytealgCompare.cmp x y))) w = _
  simp only [Sem.run_bind, run_bytesOf n ca hn ha, Result.andThen, run_bytesOf m cb hm hb]
  rw [show Extern.BytealgCompare.cmp (bstr a) (bstr b) = bcmp a b by rw [Lib.cmp_eq, bstr_toList, bstr_toList]; rfl]
  rfl

set_option maxHeartbeats 800000 in
set_option maxRecDepth 100000 in
theorem bytesCompare_any (A B : Option Addr) (n m ca cb : Nat) (a b : List UInt8) (w : World) (ha : BsAt w A a) (hb : BsAt w B b) (hn : n = a.length) (hm : m = b.length) :
    Calls Tryd.prog 174 #[.slice A n ca, .slice B m cb] w fun e w' => e = .returned (.int .i64 (bcmp a b)) ∧ w = w' := by
  subst hn; subst hm
  go_enter Tryd.func174, Tryd.ntmps174
  go_wp2
  rw [run_callFunc_extern Tryd.func175 (by kernel_rfl) (by kernel_rfl) (by kernel_rfl) (e := Extern.BytealgCompare.compare) (by kernel_rfl), run_compareBs a.length b.length ca cb rfl rfl ha hb]
  simp only [Result.andThen]
  rw [Oper.upon_value]
  go_wp2
  go_ret
  exact ⟨rfl, rfl⟩
set_option maxHeartbeats 800000 in
set_option maxRecDepth 100000 in
theorem cmpCompare_any (A B : Option Addr) (n m ca cb : Nat) (a b : List UInt8) (w : World) (ha : BsAt w A a) (hb : BsAt w B b) (hn : n = a.length) (hm : m = b.length) :
    Calls Tryd.prog 170 #[.agg #[], .slice A n ca, .slice B m cb] w fun e w' => e = .returned (.int .i64 (bcmp a b)) ∧ Only [] w w' := by
  subst hn; subst hm
  go_enter Tryd.func170, Tryd.ntmps170
  go_wp2_with (go_at_call 174; refine (bytesCompare_any A B _ _ ca cb a b _ (ha.alloc _) (hb.alloc _) rfl rfl).mono ?_; rintro e w' ⟨rfl, rfl⟩)
  go_ret
  exact ⟨rfl, (Only.refl _ _).alloc _⟩
end Go.Proofs.YtloflmcgbbbnjaaDoor
namespace Go.Proofs.YtloflmcgbbbnjaaDoor
open Go.RowKit Plain
set_option linter.all false

/-- nil: nothing was turned; else the row holds it. -/
def SepOut (x : Option (List UInt8)) (A : Option Addr) (c : Nat) (Fc R : List Fr) (w0 : World) (e : Ending) (w' : World) : Prop :=
  match x with
  | none => e = .returned (.slice none 0 0) ∧ Own (Fc ++ R) w0 w'
  | some l => ∃ A' c' F', e = .returned (.slice A' l.length c') ∧ Row 5 1 A' l.length c' (bc l) F' ∧ (A' = none → l = []) ∧ Own (F' ++ R) w0 w'
theorem SepOut.of {x : Option (List UInt8)} {A : Option Addr} {c : Nat} {Fc R : List Fr} {w0 w w' : World} {v : Value} (hR : Row 5 1 A 0 c [] Fc) (hO : Own (Fc ++ R) w0 w)
    (hr : RowOr w w' (.slice A 0 c) v x) (ho : Only (Value.slice A 0 c).ownBlock.toList w w') (hn : x = none → Only [] w w') : SepOut x A c Fc R w0 (.returned v) w' := by
  cases x with
  | none => exact ⟨by rw [show v = .slice none 0 0 from hr], hO.only0 (hn rfl)⟩
  | some l =>
    obtain ⟨h1, h2⟩ := hr
    obtain ⟨A', c', F', rfl, hR', hin, hg, hd⟩ := Row.of_owns h1
    have hFc : Fc.map (·.g) = (Value.slice A 0 c).ownBlock.toList := by
      rcases hR.2 with ⟨rfl, _, rfl, rfl⟩ | ⟨g, cur, rfl, rfl, _⟩ <;> rfl
    refine ⟨A', c', F', rfl, hR', fun h => ?_, hO.swap (fun y hy => ?_) (by rw [hFc]; exact ho) hin (fun y hy => ?_) hd⟩
    · subst h
      rcases hR'.2 with ⟨_, h, _⟩ | ⟨g, cur, h, _⟩
      · exact List.eq_nil_of_length_eq_zero h
      · exact absurd h (by simp)
    · rcases hR.2 with ⟨rfl, _, rfl, rfl⟩ | ⟨g, cur, rfl, rfl, _⟩
      · simp at hy
      · simp only [List.mem_singleton] at hy; subst hy; simp
    · have hy' : y.g ∈ F'.map (·.g) := List.mem_map.2 ⟨y, hy, rfl⟩
      rw [hg] at hy'
      rcases h2 with h2 | ⟨g, h2, h3⟩
      · exact .inl (by rw [hFc, ← h2]; exact hy')
      · rw [h2] at hy'
        simp only [Option.toList, List.mem_singleton] at hy'
        exact .inr (by rw [hy']; exact h3)
theorem succ_own (n c cb : Nat) (A B : Option Addr) (b : List UInt8) (Fc R : List Fr) (w0 w : World) (hR : Row 5 1 A 0 c [] Fc) (hO : Own (Fc ++ R) w0 w) (hb : BsAt w B b) (hn : n = b.length) (lb : b.length ≤ 2147483647) (hcb : b.length ≤ cb) :
    Calls Tryd.prog 173 #[.agg #[], .slice A 0 c, .slice B n cb] w (SepOut (succ b 0) A c Fc R w0) := by
  subst hn
  refine (cmpSucc_any (.slice A 0 c) B cb b w (hR.owns fun x hx => hO.ins x (List.mem_append_left _ hx)) hb lb hcb).mono ?_
  rintro e w' ⟨v, rfl, hr, ho, hn⟩
  exact SepOut.of hR hO hr ho hn
theorem sep_own (n m c ca cb : Nat) (A A1 B : Option Addr) (a b : List UInt8) (Fc R : List Fr) (w0 w : World) (hR : Row 5 1 A 0 c [] Fc) (hO : Own (Fc ++ R) w0 w) (ha : BsAt w A1 a) (hb : BsAt w B b) (hn : n = a.length) (hm : m = b.length) (la : a.length ≤ 2147483647) (lb : b.length ≤ 2147483647) (hca : a.length ≤ ca) :
    Calls Tryd.prog 172 #[.agg #[], .slice A 0 c, .slice A1 n ca, .slice B m cb] w (SepOut (sep a b) A c Fc R w0) := by
  subst hn; subst hm
  refine (cmpSep_any (.slice A 0 c) A1 B ca cb a b w (hR.owns fun x hx => hO.ins x (List.mem_append_left _ hx)) ha hb la lb hca).mono ?_
  rintro e w' ⟨v, rfl, hr, ho, hn⟩
  exact SepOut.of hR hO hr ho hn
theorem method_cmp (d : Nat) (w : World) : (method (d + 1) 112 (.agg #[]) "Compare").run Tryd.prog w = .ok (170, .agg #[]) w := by kernel_rfl
theorem method_sep (d : Nat) (w : World) : (method (d + 1) 112 (.agg #[]) "Separator").run Tryd.prog w = .ok (172, .agg #[]) w := by kernel_rfl
theorem method_succ (d : Nat) (w : World) : (method (d + 1) 112 (.agg #[]) "Successor").run Tryd.prog w = .ok (173, .agg #[]) w := by kernel_rfl
end Go.Proofs.YtloflmcgbbbnjaaDoor
namespace Go.Proofs.YtloflmcgbbbnjaaDoor
open Go.RowKit Plain
set_option linter.all false

def ni (l : List Nat) : List Value := l.map fun (v : Nat) => .int .i64 (v : Int)
theorem ni_length (l : List Nat) : (ni l).length = l.length := by simp [ni]
theorem ni_get (l : List Nat) (i : Nat) : (ni l)[i]? = (l[i]?).map fun (v : Nat) => Value.int .i64 (v : Int) := by simp [ni]
/-- The block of a database. -/
def dFr (g x : Nat) (A : Option Addr) (n1 c1 b n2 c2 : Nat) (pv : List Nat) (mh n sz : Nat) : Fr :=
  fw g 229 (.iface 112 (.agg #[]) :: .int .u64 (x : Int) :: .slice A n1 c1 :: .slice (some ⟨b, 0, none⟩) n2 c2 :: (ni pv ++ [.int .i64 (mh : Int), .int .i64 (n : Int), .int .i64 (sz : Int)]))
section
variable {g x n1 c1 b n2 c2 mh n sz : Nat} {A : Option Addr} {pv : List Nat} {R : List Fr} {w0 w : World}
theorem dFr_len (hp : pv.length = 12) : (dFr g x A n1 c1 b n2 c2 pv mh n sz).cs.length = 19 := by simp [dFr, ni_length, hp]
structure DCells (g x : Nat) (A : Option Addr) (n1 c1 b n2 c2 : Nat) (mh n sz : Nat) (w : World) : Prop where
  q0 : w.cell? ⟨g, 0, none⟩ = some (.iface 112 (.agg #[]))
  q1 : w.cell? ⟨g, 1, none⟩ = some (.int .u64 (x : Int))
  q2 : w.cell? ⟨g, 2, none⟩ = some (.slice A n1 c1)
  q3 : w.cell? ⟨g, 3, none⟩ = some (.slice (some ⟨b, 0, none⟩) n2 c2)
  cm : w.cell? ⟨g, 16, none⟩ = some (.int .i64 (mh : Int))
  cn : w.cell? ⟨g, 17, none⟩ = some (.int .i64 (n : Int))
  cz : w.cell? ⟨g, 18, none⟩ = some (.int .i64 (sz : Int))
  fz : ∀ k, w.frozen? ⟨g, k, none⟩ = false
theorem tail_get (hp : pv.length = 12) (i : Nat) (l : List Value) : (ni pv ++ l)[12 + i]? = l[i]? := by
  rw [List.getElem?_append_right (by rw [ni_length]; omega), ni_length, hp]
  congr 1; omega
theorem dFr_cells (hp : pv.length = 12) (h : Own (dFr g x A n1 c1 b n2 c2 pv mh n sz :: R) w0 w) : DCells g x A n1 c1 b n2 c2 mh n sz w := by
  have hl := dFr_len (g := g) (x := x) (A := A) (n1 := n1) (c1 := c1) (b := b) (n2 := n2) (c2 := c2) (mh := mh) (n := n) (sz := sz) hp
  have hc : ∀ i, i < 19 → w.cell? ⟨g, i, none⟩ = (dFr g x A n1 c1 b n2 c2 pv mh n sz).cs[i]? := fun i hi => h.cell 0 rfl (k := i) i (by simp [dFr]) (by omega)
  refine ⟨hc 0 (by omega), hc 1 (by omega), hc 2 (by omega), hc 3 (by omega), ?_, ?_, ?_, fun k => h.frozen 0 rfl k⟩
  · rw [hc 16 (by omega)]; exact tail_get hp 0 _
  · rw [hc 17 (by omega)]; exact tail_get hp 1 _
  · rw [hc 18 (by omega)]; exact tail_get hp 2 _
theorem dFr_pvc (hp : pv.length = 12) (h : Own (dFr g x A n1 c1 b n2 c2 pv mh n sz :: R) w0 w) {i p : Nat} (hi : pv[i]? = some p) : w.cell? ⟨g, 4 + i, none⟩ = some (.int .i64 (p : Int)) := by
  have hl := dFr_len (g := g) (x := x) (A := A) (n1 := n1) (c1 := c1) (b := b) (n2 := n2) (c2 := c2) (mh := mh) (n := n) (sz := sz) hp
  have hi' := (List.getElem?_eq_some_iff.1 hi).1
  have h1 : w.cell? ⟨g, 4 + i, none⟩ = (dFr g x A n1 c1 b n2 c2 pv mh n sz).cs[4 + i]? := h.cell 0 rfl (k := 4 + i) (4 + i) (by simp [dFr]) (by omega)
  rw [h1]
  show (Value.iface 112 (.agg #[]) :: .int .u64 (x : Int) :: .slice A n1 c1 :: .slice (some ⟨b, 0, none⟩) n2 c2 :: (ni pv ++ [.int .i64 (mh : Int), .int .i64 (n : Int), .int .i64 (sz : Int)]))[4 + i]? = _
  rw [Nat.add_comm 4 i]
  simp only [List.getElem?_cons_succ]
  rw [List.getElem?_append_left (by rw [ni_length]; exact hi'), ni_get, hi]; rfl
theorem dFr_set (h : Own (dFr g x A n1 c1 b n2 c2 pv mh n sz :: R) w0 w) {F' : Fr} {i : Nat} {u : Value} (hi : i < (dFr g x A n1 c1 b n2 c2 pv mh n sz).cs.length) (e : fw g 229 ((dFr g x A n1 c1 b n2 c2 pv mh n sz).cs.set i u) = F') : Own (F' :: R) w0 (w.setCell ⟨g, i, none⟩ u) := by
  have h1 := h.set (k := i) i (by simp [dFr]) hi u
  have e2 : ({ dFr g x A n1 c1 b n2 c2 pv mh n sz with cs := (dFr g x A n1 c1 b n2 c2 pv mh n sz).cs.set i u } : Fr) = F' := by rw [← e]; rfl
  rw [e2] at h1
  exact h1
theorem dFr_pv (hp : pv.length = 12) (h : Own (dFr g x A n1 c1 b n2 c2 pv mh n sz :: R) w0 w) (i p : Nat) (hi : i < 12) : Own (dFr g x A n1 c1 b n2 c2 (pv.set i p) mh n sz :: R) w0 (w.setCell ⟨g, 4 + i, none⟩ (.int .i64 (p : Int))) := by
  refine dFr_set h (by rw [dFr_len hp]; omega) ?_
  unfold dFr ni
  rw [Nat.add_comm 4 i]
  simp only [List.set_cons_succ, List.map_set]
  rw [List.set_append_left _ _ (by simp; omega)]
theorem dFr_x (h : Own (dFr g x A n1 c1 b n2 c2 pv mh n sz :: R) w0 w) (y : Nat) : Own (dFr g y A n1 c1 b n2 c2 pv mh n sz :: R) w0 (w.setCell ⟨g, 1, none⟩ (.int .u64 (y : Int))) := dFr_set h (by simp [dFr]) rfl
theorem dFr_kv (h : Own (dFr g x A n1 c1 b n2 c2 pv mh n sz :: R) w0 w) (A' : Option Addr) (n' c' : Nat) : Own (dFr g x A' n' c' b n2 c2 pv mh n sz :: R) w0 (w.setCell ⟨g, 2, none⟩ (.slice A' n' c')) := dFr_set h (by simp [dFr]) rfl
theorem dFr_nd (h : Own (dFr g x A n1 c1 b n2 c2 pv mh n sz :: R) w0 w) (b' n' c' : Nat) : Own (dFr g x A n1 c1 b' n' c' pv mh n sz :: R) w0 (w.setCell ⟨g, 3, none⟩ (.slice (some ⟨b', 0, none⟩) n' c')) := dFr_set h (by simp [dFr]) rfl
theorem tail_set (hp : pv.length = 12) (i : Nat) (l : List Value) (u : Value) : (ni pv ++ l).set (12 + i) u = ni pv ++ l.set i u := by
  rw [List.set_append_right _ _ (by rw [ni_length]; omega), ni_length, hp]
  congr 2; omega
theorem dFr_mh (hp : pv.length = 12) (h : Own (dFr g x A n1 c1 b n2 c2 pv mh n sz :: R) w0 w) (y : Nat) : Own (dFr g x A n1 c1 b n2 c2 pv y n sz :: R) w0 (w.setCell ⟨g, 16, none⟩ (.int .i64 (y : Int))) := by
  refine dFr_set h (by rw [dFr_len hp]; omega) ?_
  unfold dFr
  simp only [List.set_cons_succ]
  rw [tail_set hp 0]; rfl
theorem dFr_n (hp : pv.length = 12) (h : Own (dFr g x A n1 c1 b n2 c2 pv mh n sz :: R) w0 w) (y : Nat) : Own (dFr g x A n1 c1 b n2 c2 pv mh y sz :: R) w0 (w.setCell ⟨g, 17, none⟩ (.int .i64 (y : Int))) := by
  refine dFr_set h (by rw [dFr_len hp]; omega) ?_
  unfold dFr
  simp only [List.set_cons_succ]
  rw [tail_set hp 1]; rfl
theorem dFr_sz (hp : pv.length = 12) (h : Own (dFr g x A n1 c1 b n2 c2 pv mh n sz :: R) w0 w) (y : Nat) : Own (dFr g x A n1 c1 b n2 c2 pv mh n y :: R) w0 (w.setCell ⟨g, 18, none⟩ (.int .i64 (y : Int))) := by
  refine dFr_set h (by rw [dFr_len hp]; omega) ?_
  unfold dFr
  simp only [List.set_cons_succ]
  rw [tail_set hp 2]; rfl
end
theorem keepc {w w' : World} {p : Addr} {v : Value} (ho : Only [] w w') (h : w.cell? p = some v) : w'.cell? p = some v := (ho.cell (cell_lt h) (by simp)).trans h
/-- A row of numbers, read. -/
structure NdAt (w : World) (b : Nat) (nd : List Nat) (n2 : Nat) : Prop where
  cell : ∀ (i v : Nat), nd[i]? = some v → w.cell? ⟨b, i, none⟩ = some (.int .i64 (v : Int)) ∧ i < n2
  fit : n2 ≤ 2147483647
theorem NdAt.keep0 {w w' : World} {b : Nat} {nd : List Nat} {n2 : Nat} (h : NdAt w b nd n2) (ho : Only [] w w') : NdAt w' b nd n2 := ⟨fun i v hi => ⟨keepc ho (h.cell i v hi).1, (h.cell i v hi).2⟩, h.fit⟩
theorem NdAt.of {w : World} {b : Nat} {nd : List Nat} {n2 : Nat} (h : CsAt w (some ⟨b, 0, none⟩) (ni nd)) (hn : n2 = nd.length) (hf : n2 ≤ 2147483647) : NdAt w b nd n2 := by
  refine ⟨fun i v hi => ?_, hf⟩
  have hl := (List.getElem?_eq_some_iff.1 hi).1
  obtain ⟨g, o, e, hc⟩ := h i (by rw [ni_length]; exact hl)
  injection e with e
  injection e with e1 e2
  subst e1; subst e2
  rw [ni_get, hi, Nat.zero_add] at hc
  exact ⟨hc, by omega⟩
/-- What is read of a database. -/
structure DbR (w : World) (g : Nat) (A : Option Addr) (n1 c1 b n2 c2 mh : Nat) (kv : List UInt8) (nd : List Nat) : Prop where
  q0 : w.cell? ⟨g, 0, none⟩ = some (.iface 112 (.agg #[]))
  q2 : w.cell? ⟨g, 2, none⟩ = some (.slice A n1 c1)
  q3 : w.cell? ⟨g, 3, none⟩ = some (.slice (some ⟨b, 0, none⟩) n2 c2)
  cm : w.cell? ⟨g, 16, none⟩ = some (.int .i64 (mh : Int))
  bk : BsAt w A kv
  bn : NdAt w b nd n2
  ln : n1 = kv.length
  le : n1 ≤ c1
  fit : n1 ≤ 2147483647
theorem DbR.keep0 {w w' : World} {g : Nat} {A : Option Addr} {n1 c1 b n2 c2 mh : Nat} {kv : List UInt8} {nd : List Nat} (h : DbR w g A n1 c1 b n2 c2 mh kv nd) (ho : Only [] w w') : DbR w' g A n1 c1 b n2 c2 mh kv nd :=
  ⟨keepc ho h.q0, keepc ho h.q2, keepc ho h.q3, keepc ho h.cm, h.bk.keep0 ho, h.bn.keep0 ho, h.ln, h.le, h.fit⟩
/-- A piece of the bytes. -/
theorem piece_at {w : World} {A : Option Addr} {kv k : List UInt8} (h : BsAt w A kv) (o l c : Nat) (hc : kv.length ≤ c) (hk : (kv.drop o).take l = k) : BsAt w (if c = o then A else Option.map (fun x => x.add o) A) k := by
  rw [← hk]
  intro i hi
  have hpos : 0 < kv.length := by rw [List.length_take, List.length_drop] at hi; omega
  obtain ⟨g, o', rfl, _, _⟩ := h.addr hpos
  have hne : ¬ c = o := by rw [List.length_take, List.length_drop] at hi; omega
  have h1 := ((h.cut o c hc).take l) i hi
  rw [if_neg hne] at h1 ⊢
  rw [Option.map_some] at h1 ⊢
  rw [add_none]
  exact h1
theorem wrap_add (a b : Nat) (h : a + b ≤ 4611686018427387904) : IntKind.i64.wrap ((a : Int) + (b : Int)) = ((a + b : Nat) : Int) := by
  rw [IntWalk.i64_in _ (by omega)]; omega
end Go.Proofs.YtloflmcgbbbnjaaDoor
namespace Go.Proofs.YtloflmcgbbbnjaaDoor
open Go.RowKit Plain
set_option linter.all false

/-- What a step of the search tells. -/
structure GE (es : List En) (key : List UInt8) (h v : Nat) (x : Nd) (P : List Nd) (c : Int) : Prop where
  fwd : c < 0 → v ≠ 0 ∧ ∃ y P' Q', y.p = v ∧ front es (mAt En.k es key) = P' ++ y :: Q' ∧ h < y.h ∧ P.length < P'.length
  stop : 0 ≤ c → pv h (front es (mAt En.k es key)) 0 = x.p
  hit : c = 0 → v = nodeOf es (mAt En.k es key) ∧ mIs En.k es key = true
  last : 0 ≤ c → h = 0 → v = nodeOf es (mAt En.k es key) ∧ (c ≠ 0 → mIs En.k es key = false)
set_option maxHeartbeats 6400000 in
set_option maxRecDepth 100000 in
theorem findGE_any (g : Nat) (A kA : Option Addr) (n1 c1 b n2 c2 mh kn kc : Nat) (kv : List UInt8) (nd : List Nat) (es : List En) (key : List UInt8) (pb : Bool) (Inv : Nat → World → Prop) (w : World)
    (ok : DbOk kv nd mh es) (hrd : ∀ h w, Inv h w → DbR w g A n1 c1 b n2 c2 mh kv nd ∧ BsAt w kA key) (hkp : ∀ h w w', Inv h w → Only [] w w' → Inv h w')
    (hst : pb = true → ∀ h w, Inv (h + 1) w → h < mh → w.frozen? ⟨g, 4 + h, none⟩ = false ∧ (∃ v, w.cell? ⟨g, 4 + h, none⟩ = some v) ∧ Inv h (w.setCell ⟨g, 4 + h, none⟩ (.int .i64 (pv h (front es (mAt En.k es key)) 0 : Nat))))
    (hwk : pb = false → ∀ h w, h < mh → Inv (h + 1 + 1) w → Inv (h + 1) w) (hI : Inv mh w) (hkn : kn = key.length) :
    Calls Tryd.prog 100 #[.pointer (some ⟨g, 0, none⟩), .slice kA kn kc, .bool pb] w fun e w' => e = .returned (.tuple #[.int .i64 (nodeOf es (mAt En.k es key) : Nat), .bool (mIs En.k es key)]) ∧ ∃ h, Inv h w' ∧ (pb = true → h = 0) := by
  have HRD := hid hrd
  have HKP := hid hkp
  have HST := hid hst
  have HW := hid hwk
  have HI := hid hI
  have HOK := hid ok
  have HKN := hid hkn
  have m1 := ok.skip.m1
  have m2 := ok.skip.m2
  have hm := method_cmp
  obtain ⟨m, hM⟩ : ∃ m, mAt En.k es key = m := ⟨_, rfl⟩
  obtain ⟨N, hN⟩ : ∃ N, nodeOf es m = N := ⟨_, rfl⟩
  obtain ⟨B, hB⟩ : ∃ B, mIs En.k es key = B := ⟨_, rfl⟩
  obtain ⟨L, hL⟩ : ∃ L, es.length = L := ⟨_, rfl⟩
  rw [hM, hN, hB]
  have HM := hid hM
  have HN := hid hN
  have HB := hid hB
  have HL := hid hL
  obtain ⟨hr, -⟩ := hrd _ _ hI
  have cm := hr.cm
  have s0 : IntKind.i64.wrap ((mh : Int) - 1) = ((mh - 1 : Nat) : Int) := by rw [IntWalk.i64_in _ (by omega)]; omega
  obtain ⟨h0, hh0⟩ : ∃ h0, mh - 1 = h0 := ⟨_, rfl⟩
  rw [hh0] at s0
  have hlt : h0 < mh := by omega
  have hmh : mh = h0 + 1 := by omega
  have HMH := hid hmh
  clear hrd hkp hst hwk hI ok hkn hM hN hB hL hr hmh
  go_enter Tryd.func100, Tryd.ntmps100
  go_wp2_with fail
  go_loopw [6, 7, 8, 9] (fun s6 s7 s8 s9 wr => ∃ (P Q : List Nd) (x : Nd) (h xp : Nat), s6 = .int .i64 0 ∧ s7 = .bool false ∧ s8 = .int .i64 xp ∧ s9 = .int .i64 h ∧ h < mh ∧ Hid (x.p = xp ∧ front es m = P ++ x :: Q ∧ h < x.h) ∧ Hid (Inv (h + 1) wr)) (fun _ _ s8 s9 _ => (intOf s9).toNat * (L + 2) + (L + 1 - fIdx es m (intOf s8).toNat))
  case atStart =>
    refine ⟨[], (es.take m).map En.nd, hdN, h0, 0, rfl, rfl, rfl, rfl, hlt, hid ⟨rfl, rfl, ?_⟩, hid ?_⟩
    · show h0 < 12; omega
    · have h1 := HI.out
      rw [HMH.out] at h1
      exact h1
  case round =>
    obtain ⟨P, Q, x, h, xp, rfl, rfl, rfl, rfl, hh, HS, HI2⟩ := hrel
    obtain ⟨w2, rfl⟩ : ∃ w2, w2 = wr := ⟨_, rfl⟩
    clear cm s0 hlt
    obtain ⟨hr, hkb⟩ := HRD.out _ _ HI2.out
    obtain ⟨v, hv, hcase⟩ := HOK.out.step HS.out.2.1 HS.out.2.2
    rw [HS.out.1] at hv
    have q0 := hr.q0
    have q2 := hr.q2
    have q3 := hr.q3
    obtain ⟨cv, lv⟩ := hr.bn.cell _ _ hv
    have hf := hr.bn.fit
    have s1 : IntKind.i64.wrap ((xp : Int) + 4) = ((xp + 4 : Nat) : Int) := wrap_add xp 4 (by omega)
    have s2 : IntKind.i64.wrap (((xp + 4 : Nat) : Int) + (h : Int)) = ((xp + 4 + h : Nat) : Int) := wrap_add (xp + 4) h (by omega)
    obtain ⟨i1, hi1⟩ : ∃ i1, xp + 4 = i1 := ⟨_, rfl⟩
    rw [hi1] at s1 s2 cv lv
    obtain ⟨i2, hi2⟩ : ∃ i2, i1 + h = i2 := ⟨_, rfl⟩
    rw [hi2] at s2 cv lv
    have lv' : (i2 : Int) < (n2 : Int) := by omega
    have HR := hid hr
    have HKB := hid hkb
    have HC := hid hcase
    clear hr hkb hv hcase hi1 hi2
    go_upto_region 5 with fail
    go_cut [29] (fun s29 wx => ∃ nz : Bool, s29 = .bool nz ∧ (nz = true ↔ v ≠ 0) ∧ w2 = wx)
    case first =>
      go_wp2_with fail
      go_meet
      refine ⟨!decide (v = 0), ?_, by simp, rfl⟩
      by_cases hb : v = 0 <;> simp [hb]
    case rest =>
    obtain ⟨nz, rfl, hnz, rfl⟩ := hcut
    go_step
    go_cut [11] (fun s11 wx => ∃ c : Int, s11 = .int .i64 c ∧ -1 ≤ c ∧ c ≤ 1 ∧ Hid (GE es key h v x P c) ∧ Hid (Inv (h + 1) wx))
    case first =>
      cases nz with
      | false =>
        have hv0 : v = 0 := by
          by_cases h : v = 0
          · exact h
          · exact absurd (hnz.2 h) (by simp)
        clear hnz
        go_wp2_with fail
        go_meet
        refine ⟨1, rfl, by omega, by omega, hid ⟨(fun h => by omega), fun _ => ?_, (fun h => by omega), fun _ hz => ?_⟩, HI2⟩
        · rcases HC.out with ⟨h1, _⟩ | ⟨h1, _⟩
          · exact absurd hv0 h1
          · rw [HM.out]; exact h1
        · rcases HC.out with ⟨h1, _⟩ | ⟨h1, h2, _⟩
          · exact absurd hv0 h1
          · refine ⟨by rw [HM.out]; exact (h2 hz).1, fun _ => ?_⟩
            have h3 := (h2 hz).1
            rw [hv0] at h3
            have h4 := HM.out
            cases he : es[m]? with
            | none => exact mIs_none (by rw [h4]; exact he)
            | some e =>
              exfalso
              unfold nodeOf at h3
              rw [he] at h3
              have h5 := HOK.out.p16 (List.mem_of_getElem? he)
              simp only at h3
              omega
      | true =>
        have hv0 : v ≠ 0 := hnz.1 rfl
        clear hnz
        have hent : ∃ e ∈ es, e.nd.p = v := by
          rcases HC.out with ⟨_, e, h1, h2, _⟩ | ⟨_, _, h1 | ⟨_, i, e, h1, h2, _⟩⟩
          · exact ⟨e, List.mem_of_mem_take h1, h2⟩
          · exact absurd h1 hv0
          · exact ⟨e, List.mem_of_getElem? h1, h2⟩
        obtain ⟨e, hem, hep⟩ := hent
        have hat := HOK.out.at_ hem
        rw [hep] at hat
        obtain ⟨a0, l0⟩ := HR.out.bn.cell _ _ hat.1
        obtain ⟨a1, l1⟩ := HR.out.bn.cell _ _ hat.2.1
        have hfit := HOK.out.fit e hem
        have hkey := (HOK.out.key e hem).2
        have hkl := (HOK.out.key e hem).1
        have hln := HR.out.ln
        have hle := HR.out.le
        have hfi := HR.out.fit
        have hbs := piece_at HR.out.bk e.nd.ko e.nd.kl c1 (by omega) hkey
        obtain ⟨ko, hko⟩ : ∃ ko, e.nd.ko = ko := ⟨_, rfl⟩
        obtain ⟨kl, hkl2⟩ : ∃ kl, e.nd.kl = kl := ⟨_, rfl⟩
        rw [hko, hkl2] at hfit
        rw [hko] at a0 hbs
        rw [hkl2] at a1 hkl
        have hf2 := HR.out.bn.fit
        have s3 : IntKind.i64.wrap ((v : Int) + 1) = ((v + 1 : Nat) : Int) := wrap_add v 1 (by omega)
        obtain ⟨v1, hv1⟩ : ∃ v1, v + 1 = v1 := ⟨_, rfl⟩
        rw [hv1] at s3 a1 l1
        have s4 : IntKind.i64.wrap ((ko : Int) + (kl : Int)) = ((ko + kl : Nat) : Int) := wrap_add ko kl (by omega)
        obtain ⟨ke, hke⟩ : ∃ ke, ko + kl = ke := ⟨_, rfl⟩
        rw [hke] at s4
        have g1 : (v : Int) < (n2 : Int) := by omega
        have g2 : (v1 : Int) < (n2 : Int) := by omega
        have g3 : (ko : Int) ≤ (ke : Int) := by omega
        have g4 : (ke : Int) ≤ (c1 : Int) := by omega
        have g5 : ke - ko = kl := by omega
        have HBS := hid hbs
        have HE := hid (And.intro hem hep)
        have HA1 := hid (hv1 ▸ hkl2 ▸ hep ▸ (HOK.out.at_ hem).2.1)
        have HKL := hid hkl
        clear hem hep hat hkey hkl hbs hfit hln hle hfi hko hkl2 hke hv1 hf2 cv
        go_wp2_with fail
        refine AnyT.start (S := fun w' => w'.cell? ⟨g, 0, none⟩ = some (.iface 112 (.agg #[])) ∧ w'.cell? ⟨g, 2, none⟩ = some (.slice A n1 c1) ∧ w'.cell? ⟨g, 3, none⟩ = some (.slice (some ⟨b, 0, none⟩) n2 c2) ∧ w'.cell? ⟨b, v1, none⟩ = some (.int .i64 (kl : Int))) (T := []) (by kernel_rfl) (⟨q0, q2, q3, a1⟩) (fun hHeld => ?_)
        refine AnyT.take (i := 0) (v := ?_) (by simp only [List.getElem?_toArray, List.getElem?_cons_succ, List.getElem?_cons_zero]; rfl) (by kernel_rfl) (by kernel_rfl) (by kernel_rfl) (by kernel_rfl) (by intro _ _ _ h; exact h) (Or.inl ⟨by rfl, fun w hSw => ?_⟩) hHeld ?_
        rotate_left
        · ((try dsimp only at hSw); go_simp; first | done | with_reducible rfl | rfl)
        try simp only [Act.put, List.setIfInBounds_toArray, List.set_cons_zero, List.set_cons_succ]
        refine AnyT.take (i := 1) (v := ?_) (by simp only [List.getElem?_toArray, List.getElem?_cons_succ, List.getElem?_cons_zero]; rfl) (by kernel_rfl) (by kernel_rfl) (by kernel_rfl) (by kernel_rfl) (by intro _ _ _ h; exact h) (Or.inl ⟨by rfl, fun w hSw => ?_⟩) hHeld ?_
        rotate_left
        · ((try dsimp only at hSw); go_simp; first | done | with_reducible rfl | rfl)
        try simp only [Act.put, List.setIfInBounds_toArray, List.set_cons_zero, List.set_cons_succ]
        refine AnyT.take (i := 2) (v := ?_) (by simp only [List.getElem?_toArray, List.getElem?_cons_succ, List.getElem?_cons_zero]; rfl) (by kernel_rfl) (by kernel_rfl) (by kernel_rfl) (by kernel_rfl) (by intro _ _ _ h; exact h) (Or.inl ⟨by rfl, fun w hSw => ?_⟩) hHeld ?_
        rotate_left
        · ((try dsimp only at hSw); go_simp; first | done | with_reducible rfl | rfl)
        try simp only [Act.put, List.setIfInBounds_toArray, List.set_cons_zero, List.set_cons_succ]
        refine AnyT.take (i := 3) (v := ?_) (by simp only [List.getElem?_toArray, List.getElem?_cons_succ, List.getElem?_cons_zero]; rfl) (by kernel_rfl) (by kernel_rfl) (by kernel_rfl) (by kernel_rfl) (by intro _ _ _ h; exact h) (Or.inl ⟨by rfl, fun w hSw => ?_⟩) hHeld ?_
        rotate_left
        · ((try dsimp only at hSw); go_simp; first | done | with_reducible rfl | rfl)
        try simp only [Act.put, List.setIfInBounds_toArray, List.set_cons_zero, List.set_cons_succ]
        refine AnyT.take (i := 4) (v := ?_) (by simp only [List.getElem?_toArray, List.getElem?_cons_succ, List.getElem?_cons_zero]; rfl) (by kernel_rfl) (by kernel_rfl) (by kernel_rfl) (by kernel_rfl) (by intro _ _ _ h; exact h) (Or.inl ⟨by rfl, fun w hSw => ?_⟩) hHeld ?_
        rotate_left
        · ((try dsimp only at hSw); go_simp; first | done | with_reducible rfl | rfl)
        try simp only [Act.put, List.setIfInBounds_toArray, List.set_cons_zero, List.set_cons_succ]
        refine AnyT.take (i := 5) (v := ?_) (by simp only [List.getElem?_toArray, List.getElem?_cons_succ, List.getElem?_cons_zero]; rfl) (by kernel_rfl) (by kernel_rfl) (by kernel_rfl) (by kernel_rfl) (by intro _ _ _ h; exact h) (Or.inl ⟨by rfl, fun w hSw => ?_⟩) hHeld ?_
        rotate_left
        · ((try dsimp only at hSw); go_simp; first | done | with_reducible rfl | rfl)
        try simp only [Act.put, List.setIfInBounds_toArray, List.set_cons_zero, List.set_cons_succ]
        refine AnyT.take (i := 6) (v := ?_) (by simp only [List.getElem?_toArray, List.getElem?_cons_succ, List.getElem?_cons_zero]; rfl) (by kernel_rfl) (by kernel_rfl) (by kernel_rfl) (by kernel_rfl) (by intro _ _ _ h; exact h) (Or.inl ⟨by rfl, fun w hSw => ?_⟩) hHeld ?_
        rotate_left
        · ((try dsimp only at hSw); go_simp; first | done | with_reducible rfl | rfl)
        try simp only [Act.put, List.setIfInBounds_toArray, List.set_cons_zero, List.set_cons_succ]
        refine AnyT.take (i := 7) (v := ?_) (by simp only [List.getElem?_toArray, List.getElem?_cons_succ, List.getElem?_cons_zero]; rfl) (by kernel_rfl) (by kernel_rfl) (by kernel_rfl) (by kernel_rfl) (by intro _ _ _ h; exact h) (Or.inl ⟨by rfl, fun w hSw => ?_⟩) hHeld ?_
        rotate_left
        · ((try dsimp only at hSw); go_simp; first | done | with_reducible rfl | rfl)
        try simp only [Act.put, List.setIfInBounds_toArray, List.set_cons_zero, List.set_cons_succ]
        refine AnyT.take (i := 8) (v := ?_) (by simp only [List.getElem?_toArray, List.getElem?_cons_succ, List.getElem?_cons_zero]; rfl) (by kernel_rfl) (by kernel_rfl) (by kernel_rfl) (by kernel_rfl) (by intro _ _ _ h; exact h) (Or.inl ⟨by rfl, fun w hSw => ?_⟩) hHeld ?_
        rotate_left
        · ((try dsimp only at hSw); go_simp; first | done | with_reducible rfl | rfl)
        try simp only [Act.put, List.setIfInBounds_toArray, List.set_cons_zero, List.set_cons_succ]
        refine AnyT.take (i := 9) (v := ?_) (by simp only [List.getElem?_toArray, List.getElem?_cons_succ, List.getElem?_cons_zero]; rfl) (by kernel_rfl) (by kernel_rfl) (by kernel_rfl) (by kernel_rfl) (by intro _ _ _ h; exact h) (Or.inl ⟨by rfl, fun w hSw => ?_⟩) hHeld ?_
        rotate_left
        · ((try dsimp only at hSw); go_simp; first | done | with_reducible rfl | rfl)
        try simp only [Act.put, List.setIfInBounds_toArray, List.set_cons_zero, List.set_cons_succ]
        refine AnyT.take (i := 10) (v := ?_) (by simp only [List.getElem?_toArray, List.getElem?_cons_succ, List.getElem?_cons_zero]; rfl) (by kernel_rfl) (by kernel_rfl) (by kernel_rfl) (by kernel_rfl) (by intro _ _ _ h; exact h) (Or.inl ⟨by rfl, fun w hSw => ?_⟩) hHeld ?_
        rotate_left
        · ((try dsimp only at hSw); go_simp; first | done | with_reducible rfl | rfl)
        try simp only [Act.put, List.setIfInBounds_toArray, List.set_cons_zero, List.set_cons_succ]
        refine AnyT.take (i := 11) (v := ?_) (by simp only [List.getElem?_toArray, List.getElem?_cons_succ, List.getElem?_cons_zero]; rfl) (by kernel_rfl) (by kernel_rfl) (by kernel_rfl) (by kernel_rfl) (by intro _ _ _ h; exact h) (Or.inl ⟨by rfl, fun w hSw => ?_⟩) hHeld ?_
        rotate_left
        · ((try dsimp only at hSw); go_simp; first | done | with_reducible rfl | rfl)
        try simp only [Act.put, List.setIfInBounds_toArray, List.set_cons_zero, List.set_cons_succ]
        refine AnyT.take (i := 12) (v := ?_) (by simp only [List.getElem?_toArray, List.getElem?_cons_succ, List.getElem?_cons_zero]; rfl) (by kernel_rfl) (by kernel_rfl) (by kernel_rfl) (by kernel_rfl) (by intro _ _ _ h; exact h) (Or.inl ⟨by rfl, fun w hSw => ?_⟩) hHeld ?_
        rotate_left
        · ((try dsimp only at hSw); go_simp; first | done | with_reducible rfl | rfl)
        try simp only [Act.put, List.setIfInBounds_toArray, List.set_cons_zero, List.set_cons_succ]
        refine AnyT.take (i := 13) (v := ?_) (by simp only [List.getElem?_toArray, List.getElem?_cons_succ, List.getElem?_cons_zero]; rfl) (by kernel_rfl) (by kernel_rfl) (by kernel_rfl) (by kernel_rfl) (by intro _ _ _ h; exact h) (Or.inl ⟨by rfl, fun w hSw => ?_⟩) hHeld ?_
        rotate_left
        · ((try dsimp only at hSw); go_simp; first | done | with_reducible rfl | rfl)
        try simp only [Act.put, List.setIfInBounds_toArray, List.set_cons_zero, List.set_cons_succ]
        refine AnyT.take (i := 14) (v := ?_) (by simp only [List.getElem?_toArray, List.getElem?_cons_succ, List.getElem?_cons_zero]; rfl) (by kernel_rfl) (by kernel_rfl) (by kernel_rfl) (by kernel_rfl) (by intro _ _ _ h; exact h) (Or.inl ⟨by rfl, fun w hSw => ?_⟩) hHeld ?_
        rotate_left
        · ((try dsimp only at hSw); go_simp; first | done | with_reducible rfl | rfl)
        try simp only [Act.put, List.setIfInBounds_toArray, List.set_cons_zero, List.set_cons_succ]
        refine AnyT.take (i := 15) (v := ?_) (by simp only [List.getElem?_toArray, List.getElem?_cons_succ, List.getElem?_cons_zero]; rfl) (by kernel_rfl) (by kernel_rfl) (by kernel_rfl) (by kernel_rfl) (by intro _ _ _ h; exact h) (Or.inl ⟨by rfl, fun w hSw => ?_⟩) hHeld ?_
        rotate_left
        · ((try dsimp only at hSw); go_simp; first | done | with_reducible rfl | rfl)
        try simp only [Act.put, List.setIfInBounds_toArray, List.set_cons_zero, List.set_cons_succ]
        refine AnyT.take (i := 16) (v := ?_) (by simp only [List.getElem?_toArray, List.getElem?_cons_succ, List.getElem?_cons_zero]; rfl) (by kernel_rfl) (by kernel_rfl) (by kernel_rfl) (by kernel_rfl) (by intro _ _ _ h; exact h) (Or.inl ⟨by rfl, fun w hSw => ?_⟩) hHeld ?_
        rotate_left
        · ((try dsimp only at hSw); go_simp; first | done | with_reducible rfl | rfl)
        try simp only [Act.put, List.setIfInBounds_toArray, List.set_cons_zero, List.set_cons_succ]
        refine AnyT.take (i := 17) (v := ?_) (by simp only [List.getElem?_toArray, List.getElem?_cons_succ, List.getElem?_cons_zero]; rfl) (by kernel_rfl) (by kernel_rfl) (by kernel_rfl) (by kernel_rfl) (by intro _ _ _ h; exact h) (Or.inl ⟨by rfl, fun w hSw => ?_⟩) hHeld ?_
        rotate_left
        · ((try dsimp only at hSw); go_simp; first | done | with_reducible rfl | rfl)
        try simp only [Act.put, List.setIfInBounds_toArray, List.set_cons_zero, List.set_cons_succ]
        refine AnyT.take (i := 18) (v := ?_) (by simp only [List.getElem?_toArray, List.getElem?_cons_succ, List.getElem?_cons_zero]; rfl) (by kernel_rfl) (by kernel_rfl) (by kernel_rfl) (by kernel_rfl) (by intro _ _ _ h; exact h) (Or.inl ⟨by rfl, fun w hSw => ?_⟩) hHeld ?_
        rotate_left
        · ((try dsimp only at hSw); go_simp; first | done | with_reducible rfl | rfl)
        try simp only [Act.put, List.setIfInBounds_toArray, List.set_cons_zero, List.set_cons_succ]
        refine AnyT.take (i := 19) (v := ?_) (by simp only [List.getElem?_toArray, List.getElem?_cons_succ, List.getElem?_cons_zero]; rfl) (by kernel_rfl) (by kernel_rfl) (by kernel_rfl) (by kernel_rfl) (by intro _ _ _ h; exact h) (Or.inl ⟨by rfl, fun w hSw => ?_⟩) hHeld ?_
        rotate_left
        · ((try dsimp only at hSw); go_simp; first | done | with_reducible rfl | rfl)
        try simp only [Act.put, List.setIfInBounds_toArray, List.set_cons_zero, List.set_cons_succ]
        refine AnyT.take (i := 20) (v := ?_) (by simp only [List.getElem?_toArray, List.getElem?_cons_succ, List.getElem?_cons_zero]; rfl) (by kernel_rfl) (by kernel_rfl) (by kernel_rfl) (by kernel_rfl) (by intro _ _ _ h; exact h) (Or.inl ⟨by rfl, fun w hSw => ?_⟩) hHeld ?_
        rotate_left
        · ((try dsimp only at hSw); go_simp; first | done | with_reducible rfl | rfl)
        try simp only [Act.put, List.setIfInBounds_toArray, List.set_cons_zero, List.set_cons_succ]
        refine AnyT.take (i := 21) (v := ?_) (by simp only [List.getElem?_toArray, List.getElem?_cons_succ, List.getElem?_cons_zero]; rfl) (by kernel_rfl) (by kernel_rfl) (by kernel_rfl) (by kernel_rfl) (by intro _ _ _ h; exact h) (Or.inl ⟨by rfl, fun w hSw => ?_⟩) hHeld ?_
        rotate_left
        · ((try dsimp only at hSw); go_simp; first | done | with_reducible rfl | rfl)
        try simp only [Act.put, List.setIfInBounds_toArray, List.set_cons_zero, List.set_cons_succ]
        refine AnyT.take (i := 22) (v := ?_) (by simp only [List.getElem?_toArray, List.getElem?_cons_succ, List.getElem?_cons_zero]; rfl) (by kernel_rfl) (by kernel_rfl) (by kernel_rfl) (by kernel_rfl) (by intro _ _ _ h; exact h) (Or.inl ⟨by rfl, fun w hSw => ?_⟩) hHeld ?_
        rotate_left
        · ((try dsimp only at hSw); go_simp; first | done | with_reducible rfl | rfl)
        try simp only [Act.put, List.setIfInBounds_toArray, List.set_cons_zero, List.set_cons_succ]
        refine AnyT.ready (rs := [23]) (by kernel_rfl) (by simp) ?_
        refine AllT.cons (by simp only [List.getElem?_toArray, List.getElem?_cons_succ, List.getElem?_cons_zero]; rfl) (fun K hK => ?_) AllT.nil
        go_simp
        generalize (if c1 = ko then A else Option.map (fun x => x.add ko) A) = A3 at HBS ⊢
        refine (cmpCompare_any _ _ _ _ _ _ e.k key _ (HBS.out.keep0 (Only.refl _ _).drew) (HKB.out.keep0 (Only.refl _ _).drew) HKL.out HKN.out).mono ?_
        rintro e3 w3 ⟨rfl, ho3⟩
        have hI3 := HKP.out _ _ _ HI2.out ((Only.refl _ _).drew.trans ho3)
        have hr3 := (HRD.out _ _ hI3).1
        have HI3 := hid hI3
        clear hI3
        try go_wp2_with fail
        refine hK.out _ _ ?_ (fun hHeld => ?_)
        · exact ⟨hr3.q0, hr3.q2, hr3.q3, (hr3.bn.cell _ _ HA1.out).1⟩
        clear hK
        try simp only [Act.put, List.setIfInBounds_toArray, List.set_cons_zero, List.set_cons_succ]
        refine AnyT.take (i := 24) (v := ?_) (by simp only [List.getElem?_toArray, List.getElem?_cons_succ, List.getElem?_cons_zero]; rfl) (by kernel_rfl) (by kernel_rfl) (by kernel_rfl) (by kernel_rfl) (by intro _ _ _ h; exact h) (Or.inl ⟨by rfl, fun w hSw => ?_⟩) hHeld ?_
        rotate_left
        · ((try dsimp only at hSw); go_simp; first | done | with_reducible rfl | rfl)
        try simp only [Act.put, List.setIfInBounds_toArray, List.set_cons_zero, List.set_cons_succ]
        refine AnyT.done (by kernel_rfl) ?_ _
        clear hHeld hr3
        go_wp2_with fail
        go_meet
        obtain ⟨hem, hep⟩ := HE.out
        have hsp := bcmp_spec e.k key
        refine ⟨bcmp e.k key, rfl, bcmp_lo _ _, bcmp_hi _ _, hid ?_, HI3⟩
        rcases HC.out with ⟨_, e', h1, h2, P', Q', h3, h4, h5⟩ | ⟨h1, h2, h0 | ⟨_, i, e', h3, h4, h5⟩⟩
        · have hee : e' = e := HOK.out.same (List.mem_of_mem_take h1) hem (h2.trans hep.symm)
          subst hee
          have hb : cmpI e'.k key < 0 := HOK.out.below key (by rw [HM.out]; exact h1)
          exact ⟨fun _ => ⟨hv0, e'.nd, P', Q', hep, by rw [HM.out]; exact h3, h4, h5⟩, (fun h => by omega), (fun h => by omega), (fun h => by omega)⟩
        · exact absurd h0 hv0
        · have hee : e' = e := HOK.out.same (List.mem_of_getElem? h3) hem (h4.trans hep.symm)
          subst hee
          rw [← HM.out] at h3
          have hb : 0 ≤ cmpI e'.k key := HOK.out.above key h3
          refine ⟨(fun h => by omega), fun _ => by rw [HM.out]; exact h1, fun hz => ?_, fun _ hz => ?_⟩
          · obtain ⟨rfl, hi⟩ := HOK.out.exact key h3 (by omega)
            refine ⟨?_, hi⟩
            rw [Nat.add_zero] at h3
            unfold nodeOf
            rw [h3]
            exact hep.symm
          · obtain rfl := h5 hz
            rw [Nat.add_zero] at h3
            refine ⟨by rw [HM.out]; exact (h2 hz).1, fun hne => ?_⟩
            rw [mIs_some h3]
            exact decide_eq_false (by omega)
    case rest =>
      obtain ⟨c, rfl, hc1, hc2, HG, HI3⟩ := hcut
      clear HI2 HC HR q0 q2 q3 cv lv lv' s1 s2 hf hnz
      by_cases hc : c < 0
      · have d1 : decide (c < 0) = true := decide_eq_true hc
        obtain ⟨hv0, y, P', Q', hy, hs, hhy, hpl⟩ := HG.out.fwd hc
        rw [HM.out] at hs
        go_wp2_with fail
        go_roundw
        case rel => exact ⟨P', Q', y, h, v, rfl, rfl, rfl, rfl, hh, hid ⟨hy, hs, hhy⟩, HI3⟩
        case measure =>
          have hM1 := HOK.out.fIdx HS.out.2.1
          have hM2 := HOK.out.fIdx hs
          rw [HS.out.1] at hM1
          rw [hy] at hM2
          have hM3 := front_len es m
          rw [hs, List.length_append, List.length_cons, HL.out] at hM3
          have e1 : (intOf (.int .i64 (xp : Int))).toNat = xp := by simp [intOf]
          have e2 : (intOf (.int .i64 (v : Int))).toNat = v := by simp [intOf]
          rw [e1, e2, hM1, hM2]
          omega
      · have d1 : decide (c < 0) = false := decide_eq_false hc
        have hst0 := HG.out.stop (by omega)
        rw [HM.out] at hst0
        have hc01 : c = 0 ∨ c = 1 := by omega
        have hres : h = 0 → N = v := fun hz => by rw [← HN.out, ← HM.out]; exact (HG.out.last (by omega) hz).1.symm
        have hsf : IntKind.i64.wrap ((h : Int) - 1) = ((h - 1 : Nat) : Int) ∨ h = 0 := by
          by_cases hz : h = 0
          · exact .inr hz
          · exact .inl (by rw [IntWalk.i64_in _ (by omega)]; omega)
        cases pb with
        | true =>
          obtain ⟨fz, ⟨u, cu⟩, hI4⟩ := HST.out rfl h _ HI3.out hh
          rw [HM.out, hst0, HS.out.1] at hI4
          have HI4 := hid hI4
          have hh12 : h < 12 := by omega
          have hh12' : (h : Int) < 12 := by omega
          have HRES := hid hres
          have HGG := HG
          clear hI4 hst0 hc hc1 hc2 hres HG HI3
          by_cases hz : h = 0
          · have HB1 := HGG.out.last
            rcases hc01 with rfl | rfl
            · have HIT := hid (HGG.out.hit rfl)
              have HNV := hid (HRES.out hz)
              clear hsf HB1 HRES HGG
              subst hz
              go_wp2_with fail
              go_ret2
              refine ⟨?_, HI4.out⟩
              rw [HNV.out, ← HB.out, HIT.out.2]
              try rfl
            · have HIT := hid ((HGG.out.last (by omega) hz).2 (by omega))
              have HNV := hid (HRES.out hz)
              clear hsf HB1 HRES HGG
              subst hz
              go_wp2_with fail
              go_ret2
              refine ⟨?_, HI4.out⟩
              rw [HNV.out, ← HB.out, HIT.out]
              try rfl
          · have hsf := hsf.resolve_right hz
            obtain ⟨h', hh'⟩ : ∃ h', h = h' + 1 := ⟨h - 1, by omega⟩
            have hz' : ¬ (h : Int) = 0 := by omega
            have dz : decide ((h : Int) = 0) = false := decide_eq_false hz'
            have dz' : decide (h = 0) = false := decide_eq_false hz
            have hm1 : h - 1 = h' := by omega
            rw [hm1] at hsf
            have HH' := hid hh'
            clear hh'
            rcases hc01 with rfl | rfl
            all_goals
              clear HGG
              go_wp2_with fail
              go_roundw
              case rel =>
                have h5 := HS.out.2.2
                have h6 := HH'.out
                refine ⟨P, Q, x, h', xp, rfl, rfl, rfl, rfl, by omega, hid ⟨HS.out.1, HS.out.2.1, by omega⟩, hid ?_⟩
                have h7 := HI4.out
                have h8 : Inv h = Inv (h' + 1) := by rw [h6]
                rw [h8] at h7
                exact h7
              case measure =>
                have h6 := HH'.out
                have e1 : (intOf (.int .i64 (h : Int))).toNat = h := by simp [intOf]
                have e2 : (intOf (.int .i64 (h' : Int))).toNat = h' := by simp [intOf]
                rw [e1, e2, h6, Nat.add_mul, Nat.one_mul]
                omega
        | false =>
          have HRES := hid hres
          have HGG := HG
          clear hst0 hc hc1 hc2 hres HG
          rcases hc01 with rfl | rfl
          · have HGG := hid (HGG.out.hit rfl)
            clear hsf
            go_wp2_with fail
            go_ret2
            refine ⟨?_, _, HI3.out⟩
            rw [← HN.out, ← HM.out, ← HGG.out.1, ← HB.out, HGG.out.2]
            try rfl
          · by_cases hz : h = 0
            · have HHB := hid ((HGG.out.last (by omega) hz).2 (by omega))
              have HNV := hid (HRES.out hz)
              subst hz
              clear hsf HGG HRES
              go_wp2_with fail
              go_ret2
              refine ⟨?_, _, HI3.out⟩
              rw [HNV.out, ← HB.out, HHB.out]
              try rfl
            · have hsf := hsf.resolve_right hz
              obtain ⟨h', hh'⟩ : ∃ h', h = h' + 1 := ⟨h - 1, by omega⟩
              have hz' : ¬ (h : Int) = 0 := by omega
              have dz : decide ((h : Int) = 0) = false := decide_eq_false hz'
              have dz' : decide (h = 0) = false := decide_eq_false hz
              have hm1 : h - 1 = h' := by omega
              rw [hm1] at hsf
              have HH' := hid hh'
              clear hh' HGG
              go_wp2_with fail
              go_roundw
              case rel =>
                have h5 := HS.out.2.2
                have h6 := HH'.out
                refine ⟨P, Q, x, h', xp, rfl, rfl, rfl, rfl, by omega, hid ⟨HS.out.1, HS.out.2.1, by omega⟩, hid ?_⟩
                exact HW.out rfl h' _ (by omega) (by have h7 := HI3.out; rw [h6] at h7; exact h7)
              case measure =>
                have h6 := HH'.out
                have e1 : (intOf (.int .i64 (h : Int))).toNat = h := by simp [intOf]
                have e2 : (intOf (.int .i64 (h' : Int))).toNat = h' := by simp [intOf]
                rw [e1, e2, h6, Nat.add_mul, Nat.one_mul]
                omega
end Go.Proofs.YtloflmcgbbbnjaaDoor
