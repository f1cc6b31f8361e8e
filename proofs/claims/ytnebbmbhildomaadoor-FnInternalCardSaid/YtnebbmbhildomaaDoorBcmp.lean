/-
  bytes.Compare and the default comparer's Compare: -1, 0, 1 as the reference's comparison is below, at, above 0.
-/
import Derived.Test.YtnebbmbhildomaaDoorMem
import Derived.Lib.Bytealg
import Derived.Laws.Externs
import Derived.Lib.BytesEntry
namespace Go.Proofs.YtnebbmbhildomaaDoor
open Go.RowKit Plain

/-- As bytes.Compare says it. -/
def bcmp (a b : List UInt8) : Int := Lib.compareBytes a b
theorem bcmp_spec (a b : List UInt8) : (bcmp a b = -1 ∧ cmpI a b < 0) ∨ (bcmp a b = 0 ∧ cmpI a b = 0) ∨ (bcmp a b = 1 ∧ 0 < cmpI a b) := by
  unfold bcmp
  induction a generalizing b with
  | nil =>
    cases b with
    | nil => simp [Lib.compareBytes]
    | cons y b => simp [Lib.compareBytes]
  | cons x a ih =>
    cases b with
    | nil => simp [Lib.compareBytes]
    | cons y b =>
      rw [Lib.compareBytes, cmpI_cons]
      by_cases h1 : x < y
      · have h1' := UInt8.lt_iff_toNat_lt.1 h1
        have : x ≠ y := fun e => by subst e; omega
        rw [if_pos h1, if_neg this]
        exact .inl ⟨rfl, by omega⟩
      · rw [if_neg h1]
        by_cases h2 : y < x
        · have h2' := UInt8.lt_iff_toNat_lt.1 h2
          have : x ≠ y := fun e => by subst e; omega
          rw [if_pos h2, if_neg this]
          exact .inr (.inr ⟨rfl, by omega⟩)
        · rw [if_neg h2]
          have : x = y := by
            rw [UInt8.lt_iff_toNat_lt] at h1 h2
            exact UInt8.toNat_inj.1 (by omega)
          rw [if_pos this]
          exact ih b
theorem bcmp_lt {a b : List UInt8} : bcmp a b < 0 ↔ cmpI a b < 0 := by have := bcmp_spec a b; omega
theorem bcmp_ge {a b : List UInt8} : 0 ≤ bcmp a b ↔ 0 ≤ cmpI a b := by have := bcmp_spec a b; omega
theorem bcmp_gt {a b : List UInt8} : 0 < bcmp a b ↔ 0 < cmpI a b := by have := bcmp_spec a b; omega
theorem bcmp_eq0 {a b : List UInt8} : bcmp a b = 0 ↔ cmpI a b = 0 := by have := bcmp_spec a b; omega
theorem bcmp_lo (a b : List UInt8) : -1 ≤ bcmp a b := by have := bcmp_spec a b; omega
theorem bcmp_hi (a b : List UInt8) : bcmp a b ≤ 1 := by have := bcmp_spec a b; omega

theorem bytesOf_map (l : List UInt8) : Lib.bytesOf (l.map fun b => (b.toNat : Int)) = l := by
  unfold Lib.bytesOf
  rw [List.map_map]
  induction l with
  | nil => rfl
  | cons b l ih => rw [List.map_cons, ih]; simp
theorem run_bytesOf {P : Program} {w : World} {A : Option Addr} {l : List UInt8} (n c : Nat) (hn : n = l.length) (h : BsAt w A l) : (Extern.Bytes.bytesOf (.slice A n c)).run P w = .ok (bstr l) w := by
  subst hn
  have key : ∀ ad : Addr, A = some ad → (∀ j (x : UInt8), l[j]? = some x → w.cell? (ad.add j) = some (.int .u8 x.toNat)) → (Extern.Bytes.bytesOf (.slice A l.length c)).run P w = .ok (bstr l) w := fun ad e hc => by
    subst e
    have := Lib.run_loadBytesX (P := P) (w := w) (l.map fun b => (b.toNat : Int)) ad .empty (fun j x hj => by
      rw [List.getElem?_map] at hj
      cases hl : l[j]? with
      | none => rw [hl] at hj; cases hj
      | some y => rw [hl] at hj; cases hj; exact hc j y hl)
    simp only [Extern.Bytes.bytesOf]
    rw [List.length_map] at this
    rw [this, bytesOf_map]
    simp [bstr]
  rcases Nat.eq_zero_or_pos l.length with h0 | h0
  · obtain rfl : l = [] := List.eq_nil_of_length_eq_zero h0
    cases A with
    | none => simp [Extern.Bytes.bytesOf]; rfl
    | some ad => exact key ad rfl (fun j x hj => by simp at hj)
  · obtain ⟨g, o, e, _, hc⟩ := h.addr h0
    refine key _ e fun j x hj => ?_
    have hjl := (List.getElem?_eq_some_iff.1 hj).1
    rw [add_none, hc j hjl, bz, at_get hjl]
    rw [List.getElem?_eq_getElem hjl] at hj
    injection hj with hj
    rw [hj]
theorem run_compareBs {P : Program} {w : World} {A B : Option Addr} {a b : List UInt8} (n m ca cb : Nat) (hn : n = a.length) (hm : m = b.length) (ha : BsAt w A a) (hb : BsAt w B b) :
    (Extern.BytealgCompare.compare #[.slice A n ca, .slice B m cb]).run P w = .ok (.int .i64 (bcmp a b)) w := by
  change Sem.run P ((Extern.Bytes.bytesOf (.slice A n ca)) >>= fun x => (Extern.Bytes.bytesOf (.slice B m cb)) >>= fun y => pure (goInt (Extern.BytealgCompare.cmp x y))) w = _
  simp only [Sem.run_bind, run_bytesOf n ca hn ha, Result.andThen, run_bytesOf m cb hm hb]
  rw [show Extern.BytealgCompare.cmp (bstr a) (bstr b) = bcmp a b by rw [Lib.cmp_eq, bstr_toList, bstr_toList]; rfl]
  rfl

set_option maxHeartbeats 800000 in
theorem bytesCompare_any (A B : Option Addr) (n m ca cb : Nat) (a b : List UInt8) (w : World) (ha : BsAt w A a) (hb : BsAt w B b) (hn : n = a.length) (hm : m = b.length) :
    Calls Tryd.prog 50 #[.slice A n ca, .slice B m cb] w fun e w' => e = .returned (.int .i64 (bcmp a b)) ∧ w = w' := by
  subst hn; subst hm
  go_enter Tryd.func50, Tryd.ntmps50
  go_wp2
  rw [run_callFunc_extern Tryd.func51 (by kernel_rfl) (by kernel_rfl) (by kernel_rfl) (e := Extern.BytealgCompare.compare) (by kernel_rfl), run_compareBs a.length b.length ca cb rfl rfl ha hb]
  simp only [Result.andThen]
  rw [Oper.upon_value]
  go_wp2
  go_ret
  exact ⟨rfl, rfl⟩
set_option maxHeartbeats 800000 in
theorem cmpCompare_any (A B : Option Addr) (n m ca cb : Nat) (a b : List UInt8) (w : World) (ha : BsAt w A a) (hb : BsAt w B b) (hn : n = a.length) (hm : m = b.length) :
    Calls Tryd.prog 48 #[.agg #[], .slice A n ca, .slice B m cb] w fun e w' => e = .returned (.int .i64 (bcmp a b)) ∧ Only [] w w' := by
  subst hn; subst hm
  go_enter Tryd.func48, Tryd.ntmps48
  go_wp2_with (go_at_call 50; refine (bytesCompare_any A B _ _ ca cb a b _ (ha.alloc _) (hb.alloc _) rfl rfl).mono ?_; rintro e w' ⟨rfl, rfl⟩)
  go_ret
  exact ⟨rfl, (Only.refl _ _).alloc _⟩
end Go.Proofs.YtnebbmbhildomaaDoor
