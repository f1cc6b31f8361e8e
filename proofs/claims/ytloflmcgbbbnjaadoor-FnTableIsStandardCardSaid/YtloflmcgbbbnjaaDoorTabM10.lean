/-
  table.Writer: Append, of what is in order.
  filter.bloomFilter: Name.
  copy(dst, s), s a string, into cells that are owned; what the end of a table is.
-/
import Derived.Test.YtloflmcgbbbnjaaDoorTabM9
import Derived.Test.YtloflmcgbbbnjaaDoorTabM6
import Derived.Lib.ConvBytes
import Derived.Test.YtloflmcgbbbnjaaDoorTabM5
import Derived.Lib.BufferWrite
import Derived.Lib.SlBuf
namespace Go.Proofs.YtloflmcgbbbnjaaDoor
open Go.RowKit Plain
set_option linter.all false

theorem tFlush_same (s : TS) (k : List UInt8) : (tFlush s k).data = s.data ∧ (tFlush s k).nE = s.nE ∧ (tFlush s k).rst = s.rst ∧ (tFlush s k).out = s.out ∧ (tFlush s k).off = s.off ∧ (tFlush s k).nAll = s.nAll ∧ (tFlush s k).prev.length ≤ s.prev.length := by
  unfold tFlush
  split <;> simp
theorem bwN_le (rs nE : Nat) (p k : List UInt8) : bwN rs nE p k ≤ k.length := by
  unfold bwN
  split
  · exact Nat.zero_le _
  · exact (shared_le p k).2
set_option maxHeartbeats 6400000 in
set_option maxRecDepth 100000 in
theorem append_ok (wp bs rs g nb B Q kn kc vn vc : Nat) (on : Bool) (s : TS) (key v : List UInt8) (kA vA : Option Addr) (F R : List Fr) (w0 w : World) (h : WS wp bs rs g on nb B Q .nilIface s F) (hO : Own (F ++ R) w0 w) (hT : TB s)
    (hk : Rd R w0 kA key) (hv : Rd R w0 vA v) (hkn : kn = key.length) (hvn : vn = v.length) (hkc : key.length ≤ kc) (hkl : key.length ≤ 1073741) (hvl : v.length ≤ 1073741) (hrs : 0 < rs) (hrs1 : rs ≤ 1000) (hB : B + 13 ≤ 26000000) (hQ : Q ≤ 1000000) (hbs : bs ≤ 1000000)
    (hoq : (s.off + (tBlk (tPut rs (tFlush s key) key v)).length + 5) / 2048 ≤ Q) (hc : s.nAll = 0 ∨ bcmp s.prev key < 0) :
    Calls Tryd.prog 44 #[.pointer (some ⟨wp, 0, none⟩), .slice kA kn kc, .slice vA vn vc] w fun e w' => e = .returned .nilIface ∧ ∃ F', WS wp bs rs g on nb (B + 13) Q .nilIface (tApp bs rs s key v) F' ∧ Own (F' ++ R) w0 w' := by
  subst hkn; subst hvn
  obtain ⟨pA, pc, Fp, c1, c2, c4, c5, c217, c218, c219, c220, c73, c74, f0, bl, hP, hPF⟩ := h.hdr hO
  have hpr : BsAt w pA s.prev := hO.st (hP.rd w0) (fun x hx => List.mem_append_left _ (hPF x hx))
  have hkr : BsAt w kA key := hO.stR hk
  have HO := hid hO
  have H := hid h
  have HK := hid hk
  have HV := hid hv
  have HT := hid hT
  clear hO h hP hk hv hT
  have hm := method_cmp
  go_enter Tryd.func44, Tryd.ntmps44
  go_upto_region 3 with fail
  go_cut [37] (fun s37 wx => s37 = .bool false ∧ Own (F ++ R) w0 wx)
  case first =>
    by_cases h0 : s.nAll = 0
    · have cz : w.cell? ⟨wp, 220, none⟩ = some (.int .i64 0) := by rw [c220, h0]; rfl
      clear hc h0
      refine AnyT.start (S := fun w' => w'.cell? ⟨wp, 220, none⟩ = some (.int .i64 0)) (T := []) (by kernel_rfl) (cz) (fun hHeld => ?_)
      refine AnyT.take (i := 0) (v := ?_) (by simp only [List.getElem?_toArray, List.getElem?_cons_succ, List.getElem?_cons_zero]; rfl) (by kernel_rfl) (by kernel_rfl) (by kernel_rfl) (by kernel_rfl) (by intro _ _ _ h; exact h) (Or.inl ⟨by rfl, fun w hSw => ?_⟩) hHeld ?_
      rotate_left
      · ((try dsimp only at hSw); go_simp; first | done | with_reducible rfl | rfl)
      try simp only [Act.put, List.setIfInBounds_toArray, List.set_cons_zero, List.set_cons_succ]
      refine AnyT.take (i := 1) (v := ?_) (by simp only [List.getElem?_toArray, List.getElem?_cons_succ, List.getElem?_cons_zero]; rfl) (by kernel_rfl) (by kernel_rfl) (by kernel_rfl) (by kernel_rfl) (by intro _ _ _ h; exact h) (Or.inl ⟨by rfl, fun w hSw => ?_⟩) hHeld ?_
      rotate_left
      · ((try dsimp only at hSw); go_simp; first | done | with_reducible rfl | rfl)
      try simp only [Act.put, List.setIfInBounds_toArray, List.set_cons_zero, List.set_cons_succ]
      refine AnyT.take (i := 2) (v := ?_) (by simp only [List.getElem?_toArray, List.getElem?_cons_succ, List.getElem?_cons_zero]; rfl) (by kernel_rfl) (by kernel_rfl) (by kernel_rfl) (by kernel_rfl) (by intro _ _ _ h; exact h) (Or.inl ⟨by rfl, fun w hSw => ?_⟩) hHeld ?_
      rotate_left
      · ((try dsimp only at hSw); go_simp; first | done | with_reducible rfl | rfl)
      try simp only [Act.put, List.setIfInBounds_toArray, List.set_cons_zero, List.set_cons_succ]
      refine AnyT.take (i := 3) (v := ?_) (by simp only [List.getElem?_toArray, List.getElem?_cons_succ, List.getElem?_cons_zero]; rfl) (by kernel_rfl) (by kernel_rfl) (by kernel_rfl) (by kernel_rfl) (by intro _ _ _ h; exact h) (Or.inl ⟨by rfl, fun w hSw => ?_⟩) hHeld ?_
      rotate_left
      · ((try dsimp only at hSw); go_simp; first | done | with_reducible rfl | rfl)
      try simp only [Act.put, List.setIfInBounds_toArray, List.set_cons_zero, List.set_cons_succ]
      refine AnyT.take (i := 4) (v := ?_) (by simp only [List.getElem?_toArray, List.getElem?_cons_succ, List.getElem?_cons_zero]; rfl) (by kernel_rfl) (by kernel_rfl) (by kernel_rfl) (by kernel_rfl) (by intro _ _ _ h; exact h) (Or.inl ⟨by rfl, fun w hSw => ?_⟩) hHeld ?_
      rotate_left
      · ((try dsimp only at hSw); go_simp; first | done | with_reducible rfl | rfl)
      try simp only [Act.put, List.setIfInBounds_toArray, List.set_cons_zero, List.set_cons_succ]
      refine AnyT.take (i := 5) (v := ?_) (by simp only [List.getElem?_toArray, List.getElem?_cons_succ, List.getElem?_cons_zero]; rfl) (by kernel_rfl) (by kernel_rfl) (by kernel_rfl) (by kernel_rfl) (by intro _ _ _ h; exact h) (Or.inl ⟨by rfl, fun w hSw => ?_⟩) hHeld ?_
      rotate_left
      · ((try dsimp only at hSw); go_simp; first | done | with_reducible rfl | rfl)
      try simp only [Act.put, List.setIfInBounds_toArray, List.set_cons_zero, List.set_cons_succ]
      refine AnyT.take (i := 6) (v := undef) (by simp only [List.getElem?_toArray, List.getElem?_cons_succ, List.getElem?_cons_zero]; rfl) (by kernel_rfl) (by kernel_rfl) (by kernel_rfl) (by kernel_rfl) (by intro _ _ _ h; exact h) (Or.inr ⟨by rfl, rfl⟩) hHeld ?_
      try simp only [Act.put, List.setIfInBounds_toArray, List.set_cons_zero, List.set_cons_succ]
      refine AnyT.take (i := 7) (v := undef) (by simp only [List.getElem?_toArray, List.getElem?_cons_succ, List.getElem?_cons_zero]; rfl) (by kernel_rfl) (by kernel_rfl) (by kernel_rfl) (by kernel_rfl) (by intro _ _ _ h; exact h) (Or.inr ⟨by rfl, rfl⟩) hHeld ?_
      try simp only [Act.put, List.setIfInBounds_toArray, List.set_cons_zero, List.set_cons_succ]
      refine AnyT.take (i := 8) (v := undef) (by simp only [List.getElem?_toArray, List.getElem?_cons_succ, List.getElem?_cons_zero]; rfl) (by kernel_rfl) (by kernel_rfl) (by kernel_rfl) (by kernel_rfl) (by intro _ _ _ h; exact h) (Or.inr ⟨by rfl, rfl⟩) hHeld ?_
      try simp only [Act.put, List.setIfInBounds_toArray, List.set_cons_zero, List.set_cons_succ]
      refine AnyT.take (i := 9) (v := undef) (by simp only [List.getElem?_toArray, List.getElem?_cons_succ, List.getElem?_cons_zero]; rfl) (by kernel_rfl) (by kernel_rfl) (by kernel_rfl) (by kernel_rfl) (by intro _ _ _ h; exact h) (Or.inr ⟨by rfl, rfl⟩) hHeld ?_
      try simp only [Act.put, List.setIfInBounds_toArray, List.set_cons_zero, List.set_cons_succ]
      refine AnyT.take (i := 10) (v := undef) (by simp only [List.getElem?_toArray, List.getElem?_cons_succ, List.getElem?_cons_zero]; rfl) (by kernel_rfl) (by kernel_rfl) (by kernel_rfl) (by kernel_rfl) (by intro _ _ _ h; exact h) (Or.inr ⟨by rfl, rfl⟩) hHeld ?_
      try simp only [Act.put, List.setIfInBounds_toArray, List.set_cons_zero, List.set_cons_succ]
      refine AnyT.take (i := 11) (v := undef) (by simp only [List.getElem?_toArray, List.getElem?_cons_succ, List.getElem?_cons_zero]; rfl) (by kernel_rfl) (by kernel_rfl) (by kernel_rfl) (by kernel_rfl) (by intro _ _ _ h; exact h) (Or.inr ⟨by rfl, rfl⟩) hHeld ?_
      try simp only [Act.put, List.setIfInBounds_toArray, List.set_cons_zero, List.set_cons_succ]
      refine AnyT.take (i := 12) (v := undef) (by simp only [List.getElem?_toArray, List.getElem?_cons_succ, List.getElem?_cons_zero]; rfl) (by kernel_rfl) (by kernel_rfl) (by kernel_rfl) (by kernel_rfl) (by intro _ _ _ h; exact h) (Or.inr ⟨by rfl, rfl⟩) hHeld ?_
      try simp only [Act.put, List.setIfInBounds_toArray, List.set_cons_zero, List.set_cons_succ]
      refine AnyT.take (i := 13) (v := undef) (by simp only [List.getElem?_toArray, List.getElem?_cons_succ, List.getElem?_cons_zero]; rfl) (by kernel_rfl) (by kernel_rfl) (by kernel_rfl) (by kernel_rfl) (by intro _ _ _ h; exact h) (Or.inr ⟨by rfl, rfl⟩) hHeld ?_
      try simp only [Act.put, List.setIfInBounds_toArray, List.set_cons_zero, List.set_cons_succ]
      refine AnyT.take (i := 14) (v := undef) (by simp only [List.getElem?_toArray, List.getElem?_cons_succ, List.getElem?_cons_zero]; rfl) (by kernel_rfl) (by kernel_rfl) (by kernel_rfl) (by kernel_rfl) (by intro _ _ _ h; exact h) (Or.inr ⟨by rfl, rfl⟩) hHeld ?_
      try simp only [Act.put, List.setIfInBounds_toArray, List.set_cons_zero, List.set_cons_succ]
      refine AnyT.take (i := 15) (v := undef) (by simp only [List.getElem?_toArray, List.getElem?_cons_succ, List.getElem?_cons_zero]; rfl) (by kernel_rfl) (by kernel_rfl) (by kernel_rfl) (by kernel_rfl) (by intro _ _ _ h; exact h) (Or.inr ⟨by rfl, rfl⟩) hHeld ?_
      try simp only [Act.put, List.setIfInBounds_toArray, List.set_cons_zero, List.set_cons_succ]
      refine AnyT.take (i := 16) (v := undef) (by simp only [List.getElem?_toArray, List.getElem?_cons_succ, List.getElem?_cons_zero]; rfl) (by kernel_rfl) (by kernel_rfl) (by kernel_rfl) (by kernel_rfl) (by intro _ _ _ h; exact h) (Or.inr ⟨by rfl, rfl⟩) hHeld ?_
      try simp only [Act.put, List.setIfInBounds_toArray, List.set_cons_zero, List.set_cons_succ]
      refine AnyT.take (i := 17) (v := undef) (by simp only [List.getElem?_toArray, List.getElem?_cons_succ, List.getElem?_cons_zero]; rfl) (by kernel_rfl) (by kernel_rfl) (by kernel_rfl) (by kernel_rfl) (by intro _ _ _ h; exact h) (Or.inr ⟨by rfl, rfl⟩) hHeld ?_
      try simp only [Act.put, List.setIfInBounds_toArray, List.set_cons_zero, List.set_cons_succ]
      refine AnyT.take (i := 18) (v := undef) (by simp only [List.getElem?_toArray, List.getElem?_cons_succ, List.getElem?_cons_zero]; rfl) (by kernel_rfl) (by kernel_rfl) (by kernel_rfl) (by kernel_rfl) (by intro _ _ _ h; exact h) (Or.inr ⟨by rfl, rfl⟩) hHeld ?_
      try simp only [Act.put, List.setIfInBounds_toArray, List.set_cons_zero, List.set_cons_succ]
      refine AnyT.take (i := 19) (v := undef) (by simp only [List.getElem?_toArray, List.getElem?_cons_succ, List.getElem?_cons_zero]; rfl) (by kernel_rfl) (by kernel_rfl) (by kernel_rfl) (by kernel_rfl) (by intro _ _ _ h; exact h) (Or.inr ⟨by rfl, rfl⟩) hHeld ?_
      try simp only [Act.put, List.setIfInBounds_toArray, List.set_cons_zero, List.set_cons_succ]
      refine AnyT.take (i := 20) (v := ?_) (by simp only [List.getElem?_toArray, List.getElem?_cons_succ, List.getElem?_cons_zero]; rfl) (by kernel_rfl) (by kernel_rfl) (by kernel_rfl) (by kernel_rfl) (by intro _ _ _ h; exact h) (Or.inl ⟨by rfl, fun w hSw => ?_⟩) hHeld ?_
      rotate_left
      · ((try dsimp only at hSw); go_simp; first | done | with_reducible rfl | rfl)
      try simp only [Act.put, List.setIfInBounds_toArray, List.set_cons_zero, List.set_cons_succ]
      refine AnyT.done (by kernel_rfl) ?_ _
      go_wp2_with fail
      go_meet
      first | exact ⟨rfl, HO.out⟩ | exact ⟨rfl, HO.out.drew⟩
    · have t1 : decide ((s.nAll : Int) > 0) = true := decide_eq_true (by omega)
      have hc' : bcmp s.prev key < 0 := hc.resolve_left h0
      have t2 : decide (bcmp s.prev key ≥ 0) = false := decide_eq_false (by omega)
      have hpos : 0 < s.nAll := by omega
      have t3 : ¬ (0 ≤ bcmp s.prev key) := by omega
      clear hc h0 hc'
      refine AnyT.start (S := fun w' => w'.cell? ⟨wp, 220, none⟩ = some (.int .i64 s.nAll) ∧ w'.cell? ⟨wp, 2, none⟩ = some (.iface 112 (.agg #[])) ∧ w'.cell? ⟨wp, 74, none⟩ = some (.slice pA s.prev.length pc)) (T := []) (by kernel_rfl) (⟨c220, c2, c74⟩) (fun hHeld => ?_)
      refine AnyT.take (i := 0) (v := ?_) (by simp only [List.getElem?_toArray, List.getElem?_cons_succ, List.getElem?_cons_zero]; rfl) (by kernel_rfl) (by kernel_rfl) (by kernel_rfl) (by kernel_rfl) (by intro _ _ _ h; exact h) (Or.inl ⟨by rfl, fun w hSw => ?_⟩) hHeld ?_
      rotate_left
      · ((try dsimp only at hSw); go_simp; first | done | with_reducible rfl | rfl)
      try simp only [Act.put, List.setIfInBounds_toArray, List.set_cons_zero, List.set_cons_succ]
      refine AnyT.take (i := 1) (v := ?_) (by simp only [List.getElem?_toArray, List.getElem?_cons_succ, List.getElem?_cons_zero]; rfl) (by kernel_rfl) (by kernel_rfl) (by kernel_rfl) (by kernel_rfl) (by intro _ _ _ h; exact h) (Or.inl ⟨by rfl, fun w hSw => ?_⟩) hHeld ?_
      rotate_left
      · ((try dsimp only at hSw); go_simp; first | done | with_reducible rfl | rfl)
      try simp only [Act.put, List.setIfInBounds_toArray, List.set_cons_zero, List.set_cons_succ]
      refine AnyT.take (i := 2) (v := ?_) (by simp only [List.getElem?_toArray, List.getElem?_cons_succ, List.getElem?_cons_zero]; rfl) (by kernel_rfl) (by kernel_rfl) (by kernel_rfl) (by kernel_rfl) (by intro _ _ _ h; exact h) (Or.inl ⟨by rfl, fun w hSw => ?_⟩) hHeld ?_
      rotate_left
      · ((try dsimp only at hSw); go_simp; first | done | with_reducible rfl | rfl)
      try simp only [Act.put, List.setIfInBounds_toArray, List.set_cons_zero, List.set_cons_succ]
      refine AnyT.take (i := 3) (v := ?_) (by simp only [List.getElem?_toArray, List.getElem?_cons_succ, List.getElem?_cons_zero]; rfl) (by kernel_rfl) (by kernel_rfl) (by kernel_rfl) (by kernel_rfl) (by intro _ _ _ h; exact h) (Or.inl ⟨by rfl, fun w hSw => ?_⟩) hHeld ?_
      rotate_left
      · ((try dsimp only at hSw); go_simp; first | done | with_reducible rfl | rfl)
      try simp only [Act.put, List.setIfInBounds_toArray, List.set_cons_zero, List.set_cons_succ]
      refine AnyT.take (i := 4) (v := ?_) (by simp only [List.getElem?_toArray, List.getElem?_cons_succ, List.getElem?_cons_zero]; rfl) (by kernel_rfl) (by kernel_rfl) (by kernel_rfl) (by kernel_rfl) (by intro _ _ _ h; exact h) (Or.inl ⟨by rfl, fun w hSw => ?_⟩) hHeld ?_
      rotate_left
      · ((try dsimp only at hSw); go_simp; first | done | with_reducible rfl | rfl)
      try simp only [Act.put, List.setIfInBounds_toArray, List.set_cons_zero, List.set_cons_succ]
      refine AnyT.take (i := 5) (v := ?_) (by simp only [List.getElem?_toArray, List.getElem?_cons_succ, List.getElem?_cons_zero]; rfl) (by kernel_rfl) (by kernel_rfl) (by kernel_rfl) (by kernel_rfl) (by intro _ _ _ h; exact h) (Or.inl ⟨by rfl, fun w hSw => ?_⟩) hHeld ?_
      rotate_left
      · ((try dsimp only at hSw); go_simp; first | done | with_reducible rfl | rfl)
      try simp only [Act.put, List.setIfInBounds_toArray, List.set_cons_zero, List.set_cons_succ]
      refine AnyT.take (i := 6) (v := ?_) (by simp only [List.getElem?_toArray, List.getElem?_cons_succ, List.getElem?_cons_zero]; rfl) (by kernel_rfl) (by kernel_rfl) (by kernel_rfl) (by kernel_rfl) (by intro _ _ _ h; exact h) (Or.inl ⟨by rfl, fun w hSw => ?_⟩) hHeld ?_
      rotate_left
      · ((try dsimp only at hSw); go_simp; first | done | with_reducible rfl | rfl)
      try simp only [Act.put, List.setIfInBounds_toArray, List.set_cons_zero, List.set_cons_succ]
      refine AnyT.take (i := 7) (v := ?_) (by simp only [List.getElem?_toArray, List.getElem?_cons_succ, List.getElem?_cons_zero]; rfl) (by kernel_rfl) (by kernel_rfl) (by kernel_rfl) (by kernel_rfl) (by intro _ _ _ h; exact h) (Or.inl ⟨by rfl, fun w hSw => ?_⟩) hHeld ?_
      rotate_left
      · ((try dsimp only at hSw); go_simp; first | done | with_reducible rfl | rfl)
      try simp only [Act.put, List.setIfInBounds_toArray, List.set_cons_zero, List.set_cons_succ]
      refine AnyT.take (i := 8) (v := ?_) (by simp only [List.getElem?_toArray, List.getElem?_cons_succ, List.getElem?_cons_zero]; rfl) (by kernel_rfl) (by kernel_rfl) (by kernel_rfl) (by kernel_rfl) (by intro _ _ _ h; exact h) (Or.inl ⟨by rfl, fun w hSw => ?_⟩) hHeld ?_
      rotate_left
      · ((try dsimp only at hSw); go_simp; first | done | with_reducible rfl | rfl)
      try simp only [Act.put, List.setIfInBounds_toArray, List.set_cons_zero, List.set_cons_succ]
      refine AnyT.take (i := 9) (v := ?_) (by simp only [List.getElem?_toArray, List.getElem?_cons_succ, List.getElem?_cons_zero]; rfl) (by kernel_rfl) (by kernel_rfl) (by kernel_rfl) (by kernel_rfl) (by intro _ _ _ h; exact h) (Or.inl ⟨by rfl, fun w hSw => ?_⟩) hHeld ?_
      rotate_left
      · ((try dsimp only at hSw); go_simp; first | done | with_reducible rfl | rfl)
      try simp only [Act.put, List.setIfInBounds_toArray, List.set_cons_zero, List.set_cons_succ]
      refine AnyT.take (i := 10) (v := ?_) (by simp only [List.getElem?_toArray, List.getElem?_cons_succ, List.getElem?_cons_zero]; rfl) (by kernel_rfl) (by kernel_rfl) (by kernel_rfl) (by kernel_rfl) (by intro _ _ _ h; exact h) (Or.inl ⟨by rfl, fun w hSw => ?_⟩) hHeld ?_
      rotate_left
      · ((try dsimp only at hSw); go_simp; first | done | with_reducible rfl | rfl)
      try simp only [Act.put, List.setIfInBounds_toArray, List.set_cons_zero, List.set_cons_succ]
      refine AnyT.take (i := 11) (v := ?_) (by simp only [List.getElem?_toArray, List.getElem?_cons_succ, List.getElem?_cons_zero]; rfl) (by kernel_rfl) (by kernel_rfl) (by kernel_rfl) (by kernel_rfl) (by intro _ _ _ h; exact h) (Or.inl ⟨by rfl, fun w hSw => ?_⟩) hHeld ?_
      rotate_left
      · ((try dsimp only at hSw); go_simp; first | done | with_reducible rfl | rfl)
      try simp only [Act.put, List.setIfInBounds_toArray, List.set_cons_zero, List.set_cons_succ]
      refine AnyT.take (i := 12) (v := ?_) (by simp only [List.getElem?_toArray, List.getElem?_cons_succ, List.getElem?_cons_zero]; rfl) (by kernel_rfl) (by kernel_rfl) (by kernel_rfl) (by kernel_rfl) (by intro _ _ _ h; exact h) (Or.inl ⟨by rfl, fun w hSw => ?_⟩) hHeld ?_
      rotate_left
      · ((try dsimp only at hSw); go_simp; first | done | with_reducible rfl | rfl)
      try simp only [Act.put, List.setIfInBounds_toArray, List.set_cons_zero, List.set_cons_succ]
      refine AnyT.take (i := 13) (v := ?_) (by simp only [List.getElem?_toArray, List.getElem?_cons_succ, List.getElem?_cons_zero]; rfl) (by kernel_rfl) (by kernel_rfl) (by kernel_rfl) (by kernel_rfl) (by intro _ _ _ h; exact h) (Or.inl ⟨by rfl, fun w hSw => ?_⟩) hHeld ?_
      rotate_left
      · ((try dsimp only at hSw); go_simp; first | done | with_reducible rfl | rfl)
      try simp only [Act.put, List.setIfInBounds_toArray, List.set_cons_zero, List.set_cons_succ]
      refine AnyT.take (i := 14) (v := ?_) (by simp only [List.getElem?_toArray, List.getElem?_cons_succ, List.getElem?_cons_zero]; rfl) (by kernel_rfl) (by kernel_rfl) (by kernel_rfl) (by kernel_rfl) (by intro _ _ _ h; exact h) (Or.inl ⟨by rfl, fun w hSw => ?_⟩) hHeld ?_
      rotate_left
      · ((try dsimp only at hSw); go_simp; first | done | with_reducible rfl | rfl)
      try simp only [Act.put, List.setIfInBounds_toArray, List.set_cons_zero, List.set_cons_succ]
      refine AnyT.take (i := 15) (v := ?_) (by simp only [List.getElem?_toArray, List.getElem?_cons_succ, List.getElem?_cons_zero]; rfl) (by kernel_rfl) (by kernel_rfl) (by kernel_rfl) (by kernel_rfl) (by intro _ _ _ h; exact h) (Or.inl ⟨by rfl, fun w hSw => ?_⟩) hHeld ?_
      rotate_left
      · ((try dsimp only at hSw); go_simp; first | done | with_reducible rfl | rfl)
      try simp only [Act.put, List.setIfInBounds_toArray, List.set_cons_zero, List.set_cons_succ]
      refine AnyT.take (i := 16) (v := ?_) (by simp only [List.getElem?_toArray, List.getElem?_cons_succ, List.getElem?_cons_zero]; rfl) (by kernel_rfl) (by kernel_rfl) (by kernel_rfl) (by kernel_rfl) (by intro _ _ _ h; exact h) (Or.inl ⟨by rfl, fun w hSw => ?_⟩) hHeld ?_
      rotate_left
      · ((try dsimp only at hSw); go_simp; first | done | with_reducible rfl | rfl)
      try simp only [Act.put, List.setIfInBounds_toArray, List.set_cons_zero, List.set_cons_succ]
      refine AnyT.take (i := 17) (v := ?_) (by simp only [List.getElem?_toArray, List.getElem?_cons_succ, List.getElem?_cons_zero]; rfl) (by kernel_rfl) (by kernel_rfl) (by kernel_rfl) (by kernel_rfl) (by intro _ _ _ h; exact h) (Or.inl ⟨by rfl, fun w hSw => ?_⟩) hHeld ?_
      rotate_left
      · ((try dsimp only at hSw); go_simp; first | done | with_reducible rfl | rfl)
      try simp only [Act.put, List.setIfInBounds_toArray, List.set_cons_zero, List.set_cons_succ]
      refine AnyT.ready (rs := [18]) (by kernel_rfl) (by simp) ?_
      refine AllT.cons (by simp only [List.getElem?_toArray, List.getElem?_cons_succ, List.getElem?_cons_zero]; rfl) (fun K hK => ?_) AllT.nil
      go_simp
      refine (cmpCompare_any pA kA s.prev.length key.length pc kc s.prev key _ (hpr.drew) (hkr.drew) rfl rfl).mono ?_
      rintro e w1 ⟨rfl, ho1⟩
      have HO1 := hid (HO.out.drew.only0 ho1)
      have n74 := (ho1.cell (p := ⟨wp, 74, none⟩) bl (by simp)).trans c74
      have n220 := (ho1.cell (p := ⟨wp, 220, none⟩) bl (by simp)).trans c220
      have n2 := (ho1.cell (p := ⟨wp, 2, none⟩) bl (by simp)).trans c2
      try go_wp2_with fail
      refine hK.out _ _ ?_ (fun hHeld => ?_)
      · exact ⟨n220, n2, n74⟩
      clear hK
      try simp only [Act.put, List.setIfInBounds_toArray, List.set_cons_zero, List.set_cons_succ]
      refine AnyT.take (i := 19) (v := ?_) (by simp only [List.getElem?_toArray, List.getElem?_cons_succ, List.getElem?_cons_zero]; rfl) (by kernel_rfl) (by kernel_rfl) (by kernel_rfl) (by kernel_rfl) (by intro _ _ _ h; exact h) (Or.inl ⟨by rfl, fun w hSw => ?_⟩) hHeld ?_
      rotate_left
      · ((try dsimp only at hSw); go_simp; first | done | with_reducible rfl | rfl)
      try simp only [Act.put, List.setIfInBounds_toArray, List.set_cons_zero, List.set_cons_succ]
      refine AnyT.take (i := 20) (v := ?_) (by simp only [List.getElem?_toArray, List.getElem?_cons_succ, List.getElem?_cons_zero]; rfl) (by kernel_rfl) (by kernel_rfl) (by kernel_rfl) (by kernel_rfl) (by intro _ _ _ h; exact h) (Or.inl ⟨by rfl, fun w hSw => ?_⟩) hHeld ?_
      rotate_left
      · ((try dsimp only at hSw); go_simp; first | done | with_reducible rfl | rfl)
      try simp only [Act.put, List.setIfInBounds_toArray, List.set_cons_zero, List.set_cons_succ]
      refine AnyT.done (by kernel_rfl) ?_ _
      go_wp2_with fail
      go_meet
      exact ⟨rfl, HO1.out⟩
  case rest =>
    obtain ⟨rfl, hO1⟩ := hcut
    clear c1 c2 c4 c5 c217 c218 c219 c220 c73 c74 f0 bl HO hpr hkr
    obtain ⟨pA', pc', Fp', c1, c2, c4, c5, c217, c218, c219, c220, c73, c74, f0, bl, hP, hPF⟩ := H.out.hdr hO1
    have HO := hid hO1
    clear hO1 hP hPF
    have hb1 := HT.out.prev
    have hb2 := HT.out.idata
    have hb3 := HT.out.nI
    have hb4 := HT.out.irst
    have hb5 := HT.out.pO
    have hb6 := HT.out.pL
    have hb7 := HT.out.iprev
    have hb8 := HT.out.data
    have hb9 := HT.out.nE
    have hb10 := HT.out.rst
    have hb11 := HT.out.out
    have hb12 := HT.out.off
    have hb13 := HT.out.nAll
    go_wp2_with fail
    refine (flushBH wp bs rs g nb B Q kc key.length on .nilIface s key kA F R w0 _ H.out HO.out HK.out rfl (by omega) hkc (by omega) (by omega) (by omega) (by omega) (by omega) (by omega) (by omega)).mono ?_
    rintro e w1 ⟨rfl, F1, hW1, hO1⟩
    obtain ⟨e1, e2, e3, e4, e5, e6, e7⟩ := tFlush_same s key
    obtain ⟨s1, hs1⟩ : ∃ s1, tFlush s key = s1 := ⟨_, rfl⟩
    rw [hs1] at hW1 e1 e2 e3 e4 e5 e6 e7 hoq
    obtain ⟨FD, scr, L, hp1, hl1, hBW, hput⟩ := hW1.put
    have HO1 := hid ((hO1.perm (hp1.append_right R)).perm (L' := FD ++ (fp wp 241 scr :: (L ++ R))) (perm_of fun _ _ z => by simp only [List.count_append, List.count_cons, List.cons_append, List.count_nil, List.nil_append, List.append_nil]; omega))
    have HBW := hid hBW
    have HPUT := hid hput
    have HS1 := hid hs1
    clear hO1 hp1 hBW hput hW1 HO H hs1
    go_wp2_with fail
    have HA := bw_append wp 6 rs s1.nE kc vc wp 241 kA vA s1.data s1.prev key v s1.rst scr FD (L ++ R) w0 _ HBW.out HO1.out hl1 (HK.out.right L) (HV.out.right L) hkc hrs (by omega) (by rw [e1]; omega) (by omega) (by omega) (by rw [e2]; omega) (by rw [e3]; omega) (by omega)
    refine HA.mono ?_
    rintro e w2 ⟨rfl, FD', scr', hBW', hs', hO2⟩
    obtain ⟨F2, hW2, hp2⟩ := HPUT.out _ _ _ _ _ _ hBW' hs'
    have hW2' : WS wp bs rs g on nb B Q .nilIface (tPut rs s1 key v) F2 := hW2
    have hO3 : Own (F2 ++ R) w0 w2 := (hO2.perm (L' := (FD' ++ (fp wp 241 scr' :: L)) ++ R) (perm_of fun _ _ z => by simp only [List.count_append, List.count_cons, List.cons_append, List.count_nil, List.nil_append, List.append_nil]; omega)).perm (hp2.append_right R)
    obtain ⟨s2, hs2⟩ : ∃ s2, tPut rs s1 key v = s2 := ⟨_, rfl⟩
    have hd2 : s2.data.length ≤ 1073741824 ∧ s2.rst.length ≤ 1073741824 ∧ s2.out = s.out ∧ s2.off = s.off ∧ s2.nAll = s.nAll ∧ (∀ x ∈ s2.rst, x < 4294967296) := by
      have hn := bwN_le rs s1.nE s1.prev key
      have hel := ent_le (v := v) hn (by omega) (by omega)
      rw [← hs2]
      refine ⟨?_, ?_, e4, e5, e6, ?_⟩
      · show (s1.data ++ ent (bwN rs s1.nE s1.prev key) key v).length ≤ _
        rw [List.length_append, e1]; omega
      · show (bwR rs s1.nE s1.data s1.rst).length ≤ _
        unfold bwR; split
        · rw [List.length_append, List.length_singleton, e3]; omega
        · rw [e3]; omega
      · show ∀ x ∈ bwR rs s1.nE s1.data s1.rst, x < 4294967296
        intro x hx
        unfold bwR at hx
        split at hx
        · rcases List.mem_append.1 hx with hx | hx
          · exact HT.out.rx x (by rw [← e3]; exact hx)
          · simp only [List.mem_singleton] at hx; rw [hx, e1]; omega
        · exact HT.out.rx x (by rw [← e3]; exact hx)
    rw [hs2] at hW2' hoq
    have HS2 := hid hs2
    obtain ⟨q1, q2, q3, q4, q5, q6⟩ := hd2
    have HQ6 := hid q6
    have HQ3 := hid q3
    have HQ4 := hid q4
    have HQ5 := hid q5
    have HOQ := hid hoq
    obtain ⟨FW, L2, hp3, hFW, hflt⟩ := hW2'.flt
    have HO3 := hid ((hO3.perm (hp3.append_right R)).perm (L' := FW ++ (L2 ++ R)) (perm_of fun _ _ z => by simp only [List.count_append, List.count_cons, List.cons_append, List.count_nil, List.nil_append, List.append_nil]; omega))
    have HFW := hid hFW
    have HFLT := hid hflt
    clear hO2 hp2 hW2 hW2' hO3 hs2 q3 q4 q5 q6 hoq hp3 hFW hflt hBW' HA HO1 HBW HPUT
    go_wp2_with fail
    refine (fwb_add wp 148 nb B Q kc key.length on kA key FW (L2 ++ R) w0 _ HFW.out HO3.out (HK.out.right L2) rfl (by omega) hkc (by omega)).mono ?_
    rintro e w3 ⟨rfl, FW', hFW', hO4⟩
    obtain ⟨F3, hW3, hp4⟩ := HFLT.out _ _ _ hFW'
    have hO5 : Own (F3 ++ R) w0 w3 := (hO4.perm (L' := (FW' ++ L2) ++ R) (perm_of fun _ _ z => by simp only [List.count_append, List.count_cons, List.cons_append, List.count_nil, List.nil_append, List.append_nil]; omega)).perm (hp4.append_right R)
    clear c1 c2 c4 c5 c217 c218 c219 c220 c73 c74 f0 bl
    obtain ⟨pA', pc', Fp', c1, c2, c4, c5, c217, c218, c219, c220, c73, c74, f0, bl, _, _⟩ := hW3.hdr hO5
    obtain ⟨FD2, scr2, L3, hp5, hl5, hBW2, _⟩ := hW3.put
    have HO5 := hid hO5
    have HO6 := hid ((hO5.perm (hp5.append_right R)).perm (L' := FD2 ++ (fp wp 241 scr2 :: (L3 ++ R))) (perm_of fun _ _ z => by simp only [List.count_append, List.count_cons, List.cons_append, List.count_nil, List.nil_append, List.append_nil]; omega))
    have HBW2 := hid hBW2
    have HW3 := hid hW3
    clear hO4 hp4 hFW' hO5 hW3 hBW2 hp5 HO3 HFW HFLT
    obtain ⟨tl, htl⟩ : ∃ tl, tLen s2 = tl := ⟨_, rfl⟩
    have HTL := hid htl
    go_wp2_with fail
    refine AnyT.start (S := fun w' => w'.cell? ⟨wp, 5, none⟩ = some (.int .i64 bs)) (T := []) (by kernel_rfl) (c5) (fun hHeld => ?_)
    refine AnyT.take (i := 0) (v := ?_) (by simp only [List.getElem?_toArray, List.getElem?_cons_succ, List.getElem?_cons_zero]; rfl) (by kernel_rfl) (by kernel_rfl) (by kernel_rfl) (by kernel_rfl) (by intro _ _ _ h; exact h) (Or.inl ⟨by rfl, fun w hSw => ?_⟩) hHeld ?_
    rotate_left
    · ((try dsimp only at hSw); go_simp; first | done | with_reducible rfl | rfl)
    try simp only [Act.put, List.setIfInBounds_toArray, List.set_cons_zero, List.set_cons_succ]
    refine AnyT.take (i := 1) (v := ?_) (by simp only [List.getElem?_toArray, List.getElem?_cons_succ, List.getElem?_cons_zero]; rfl) (by kernel_rfl) (by kernel_rfl) (by kernel_rfl) (by kernel_rfl) (by intro _ _ _ h; exact h) (Or.inl ⟨by rfl, fun w hSw => ?_⟩) hHeld ?_
    rotate_left
    · ((try dsimp only at hSw); go_simp; first | done | with_reducible rfl | rfl)
    try simp only [Act.put, List.setIfInBounds_toArray, List.set_cons_zero, List.set_cons_succ]
    refine AnyT.take (i := 2) (v := ?_) (by simp only [List.getElem?_toArray, List.getElem?_cons_succ, List.getElem?_cons_zero]; rfl) (by kernel_rfl) (by kernel_rfl) (by kernel_rfl) (by kernel_rfl) (by intro _ _ _ h; exact h) (Or.inl ⟨by rfl, fun w hSw => ?_⟩) hHeld ?_
    rotate_left
    · ((try dsimp only at hSw); go_simp; first | done | with_reducible rfl | rfl)
    try simp only [Act.put, List.setIfInBounds_toArray, List.set_cons_zero, List.set_cons_succ]
    refine AnyT.take (i := 4) (v := ?_) (by simp only [List.getElem?_toArray, List.getElem?_cons_succ, List.getElem?_cons_zero]; rfl) (by kernel_rfl) (by kernel_rfl) (by kernel_rfl) (by kernel_rfl) (by intro _ _ _ h; exact h) (Or.inl ⟨by rfl, fun w hSw => ?_⟩) hHeld ?_
    rotate_left
    · ((try dsimp only at hSw); go_simp; first | done | with_reducible rfl | rfl)
    try simp only [Act.put, List.setIfInBounds_toArray, List.set_cons_zero, List.set_cons_succ]
    refine AnyT.take (i := 5) (v := ?_) (by simp only [List.getElem?_toArray, List.getElem?_cons_succ, List.getElem?_cons_zero]; rfl) (by kernel_rfl) (by kernel_rfl) (by kernel_rfl) (by kernel_rfl) (by intro _ _ _ h; exact h) (Or.inl ⟨by rfl, fun w hSw => ?_⟩) hHeld ?_
    rotate_left
    · ((try dsimp only at hSw); go_simp; first | done | with_reducible rfl | rfl)
    try simp only [Act.put, List.setIfInBounds_toArray, List.set_cons_zero, List.set_cons_succ]
    refine AnyT.take (i := 6) (v := ?_) (by simp only [List.getElem?_toArray, List.getElem?_cons_succ, List.getElem?_cons_zero]; rfl) (by kernel_rfl) (by kernel_rfl) (by kernel_rfl) (by kernel_rfl) (by intro _ _ _ h; exact h) (Or.inl ⟨by rfl, fun w hSw => ?_⟩) hHeld ?_
    rotate_left
    · ((try dsimp only at hSw); go_simp; first | done | with_reducible rfl | rfl)
    try simp only [Act.put, List.setIfInBounds_toArray, List.set_cons_zero, List.set_cons_succ]
    refine AnyT.take (i := 7) (v := ?_) (by simp only [List.getElem?_toArray, List.getElem?_cons_succ, List.getElem?_cons_zero]; rfl) (by kernel_rfl) (by kernel_rfl) (by kernel_rfl) (by kernel_rfl) (by intro _ _ _ h; exact h) (Or.inl ⟨by rfl, fun w hSw => ?_⟩) hHeld ?_
    rotate_left
    · ((try dsimp only at hSw); go_simp; first | done | with_reducible rfl | rfl)
    try simp only [Act.put, List.setIfInBounds_toArray, List.set_cons_zero, List.set_cons_succ]
    refine AnyT.ready (rs := [3]) (by kernel_rfl) (by simp) ?_
    refine AllT.cons (by simp only [List.getElem?_toArray, List.getElem?_cons_succ, List.getElem?_cons_zero]; rfl) (fun K hK => ?_) AllT.nil
    go_simp
    have HB2 := bw_bytesLen wp 6 rs s2.nE wp 241 s2.data s2.prev s2.rst FD2 (fp wp 241 scr2 :: (L3 ++ R)) w0 w3.drew HBW2.out HO6.out.drew q1 q2
    refine HB2.mono ?_
    rintro e w4 ⟨rfl, hd4⟩
    rw [show s2.data.length + 4 * (if s2.rst.length = 0 then 1 else s2.rst.length) + 4 = tl from htl]
    have HO7 := hid (HO5.out.drew.dr hd4)
    clear c1 c2 c4 c5 c217 c218 c219 c220 c73 c74 f0 bl hd4 HB2 htl
    obtain ⟨pA', pc', Fp', c1, c2, c4, c5, c217, c218, c219, c220, c73, c74, f0, bl, _, _⟩ := HW3.out.hdr HO7.out
    try go_wp2_with fail
    refine hK.out _ _ ?_ (fun hHeld => ?_)
    · exact c5
    clear hK
    try simp only [Act.put, List.setIfInBounds_toArray, List.set_cons_zero, List.set_cons_succ]
    refine AnyT.take (i := 8) (v := ?_) (by simp only [List.getElem?_toArray, List.getElem?_cons_succ, List.getElem?_cons_zero]; rfl) (by kernel_rfl) (by kernel_rfl) (by kernel_rfl) (by kernel_rfl) (by intro _ _ _ h; exact h) (Or.inl ⟨by rfl, fun w hSw => ?_⟩) hHeld ?_
    rotate_left
    · ((try dsimp only at hSw); go_simp; first | done | with_reducible rfl | rfl)
    try simp only [Act.put, List.setIfInBounds_toArray, List.set_cons_zero, List.set_cons_succ]
    refine AnyT.done (by kernel_rfl) ?_ _
    by_cases hbl : bs ≤ tl
    · have t1 : decide ((tl : Int) ≥ (bs : Int)) = true := decide_eq_true (by omega)
      have HTA := hid (show tApp bs rs s key v = { tFin s2 with nAll := s.nAll + 1 } by unfold tApp tEnd; rw [HS1.out, HS2.out, if_pos (by rw [HTL.out]; exact hbl)])
      go_wp2_with fail
      refine (finishBlk wp bs rs g nb (B + 13) Q on .nilIface s2 F3 R w0 w4 HW3.out HO7.out q1 q2 HQ6.out (by rw [HQ3.out]; omega) (by rw [HQ4.out]; omega) (by omega) hQ (by rw [HQ4.out]; exact HOQ.out)).mono ?_
      rintro e w5 ⟨rfl, F8, hW8, hO8⟩
      clear c1 c2 c4 c5 c217 c218 c219 c220 c73 c74 f0 bl
      obtain ⟨pA', pc', Fp', c1, c2, c4, c5, c217, c218, c219, c220, c73, c74, f0, bl, _, _⟩ := hW8.hdr hO8
      rw [show (tFin s2).nAll = s.nAll from HQ5.out] at c220
      have HW9 := hid hW8
      have HO9 := hid hO8
      clear hW8 hO8 HO7 HW3
      have hn1 : IntKind.i64.wrap ((s.nAll : Int) + 1) = (s.nAll : Int) + 1 := i64_id (by omega) (by omega)
      go_wp2_with fail
      go_ret
      refine ⟨rfl, ?_⟩
      obtain ⟨F9, hW9, hO9⟩ := HW9.out.cnt HO9.out (s.nAll + 1)
      rw [show (((s.nAll + 1 : Nat)) : Int) = (s.nAll : Int) + 1 by omega] at hO9
      exact ⟨F9, by rw [HTA.out]; exact hW9, hO9⟩
    · have t1 : decide ((tl : Int) ≥ (bs : Int)) = false := decide_eq_false (by omega)
      have HTA := hid (show tApp bs rs s key v = { s2 with nAll := s.nAll + 1 } by unfold tApp tEnd; rw [HS1.out, HS2.out, if_neg (by rw [HTL.out]; exact hbl)])
      rw [HQ5.out] at c220
      have HW9 := hid HW3.out
      have HO9 := hid HO7.out
      clear HW3 HO7
      have hn1 : IntKind.i64.wrap ((s.nAll : Int) + 1) = (s.nAll : Int) + 1 := i64_id (by omega) (by omega)
      go_wp2_with fail
      go_ret
      refine ⟨rfl, ?_⟩
      obtain ⟨F9, hW9, hO9⟩ := HW9.out.cnt HO9.out (s.nAll + 1)
      rw [show (((s.nAll + 1 : Nat)) : Int) = (s.nAll : Int) + 1 by omega] at hO9
      exact ⟨F9, by rw [HTA.out]; exact hW9, hO9⟩
end Go.Proofs.YtloflmcgbbbnjaaDoor
namespace Go.Proofs.YtloflmcgbbbnjaaDoor
open Go.RowKit Plain
set_option linter.all false

theorem method_name (d : Nat) (v : Value) (w : World) : (method (d + 1) 240 v "Name").run Tryd.prog w = .ok (240, v) w := by kernel_rfl
theorem bloomName (v : Value) (w : World) : Calls Tryd.prog 240 #[v] w fun e w' => (∃ s, s.size ≤ 100 ∧ e = .returned (.string s)) ∧ w = w' := by
  go_enter Tryd.func240, Tryd.ntmps240
  go_wp2_with fail
  go_ret
  exact ⟨⟨_, by decide, rfl⟩, rfl⟩
-- []byte(s): a row that is kept as it is.
theorem only_bytes (w : World) (e : TypeId) (s : ByteArray) : Only [] w (Lib.bytesWorld w e s) :=
  ⟨rfl, rfl, rfl, by simp [Lib.bytesWorld, World.freeze, World.alloc, World.drew, -World.alloc_eq, -World.drew_eq], fun k hk _ => Lib.bytesWorld_at_old w e s k hk⟩
theorem bytes_take (w : World) (e : TypeId) (s : ByteArray) : ((Lib.bytesCells w e s).toList.drop 0).take s.data.toList.length = bc s.data.toList := by
  have e1 : (Lib.bytesCells w e s).toList = bc s.data.toList ++ List.replicate (grownCap w s.size 0 e - s.size) (.int .u8 0) := by simp [Lib.bytesCells, bc]
  rw [e1, List.drop_zero, List.take_append_of_le_length (by rw [bc_length]; exact Nat.le_refl _), List.take_of_length_le (by rw [bc_length]; exact Nat.le_refl _)]
theorem cap_bytes (w : World) (e : TypeId) (s : ByteArray) : s.size ≤ grownCap w s.size 0 e :=
  grownCap_ge w s.size 0 e
theorem add_bytes (a b : ByteArray) : (a ++ b).data.toList.length = a.size + b.size := by
  rw [ByteArray.data_append, Array.toList_append, List.length_append]; rfl
theorem own_bytesRow {R : List Fr} {w0 w : World} (hO : Own R w0 w) (e : TypeId) (s : ByteArray) :
    Own (fk w.heap.size (.cells (Lib.bytesCells w e s) e ((Lib.bytesCells w e s).size, (Lib.bytesCells w e s).size + 1)) :: R) w0 (Lib.bytesWorld w e s) :=
  hO.freshObj (only_bytes w e s) (Lib.bytesWorld_at_new w e s) (Nat.le_refl _)
end Go.Proofs.YtloflmcgbbbnjaaDoor
namespace Go.Proofs.YtloflmcgbbbnjaaDoor
open Go.RowKit Plain
set_option linter.all false

section
variable {P : Program} {ops : Array Oper} {rest : List Oper} {o : Oper} {a : Act} {Q : Exit → Act → World → Prop} {w0 w w' : World} {R : List Fr}
theorem own_spliced {x : Fr} {i : Nat} {l : List UInt8} (hO : Own (x :: R) w0 w) (h0 : 0 < l.length) (hfit : i + l.length ≤ x.cs.length) (ho' : Only [x.g] w w')
    (hb' : ∀ t all, Blk w x.g t all → Blk w' x.g t (splice all (x.off + i) (bc l))) : Own ({ x with cs := splice x.cs i (bc l) } :: R) w0 w' := by
  have hro := hO.head.ro_none (by omega)
  obtain ⟨_, t, all, hb, hc⟩ := hO.head.in0 hro
  have hall : x.off + (i + l.length) ≤ all.length := by
    have := hc (i + l.length - 1) (by omega)
    rw [List.getElem?_eq_getElem (show i + l.length - 1 < x.cs.length by omega)] at this
    have := (List.getElem?_eq_some_iff.1 this).1
    omega
  have hlen2 : (splice x.cs i (bc l)).length = x.cs.length := by rw [length_splice _ _ _ (by rw [bc_length]; omega)]
  have hfa : x.off + i + l.length ≤ all.length := by omega
  refine hO.upd hro ho' hlen2 fun t2 all2 hb2 => ?_
  obtain ⟨rfl, rfl⟩ := hb2.inj hb
  refine ⟨_, hb' _ _ hb, fun j hj => ?_, fun j hj => ?_⟩
  · rw [hlen2] at hj
    rw [splice_get _ _ _ (by rw [bc_length]; omega), splice_get _ _ _ (by rw [bc_length]; omega), bc_length]
    by_cases hj1 : j < i ∨ i + l.length ≤ j
    · rw [if_pos (by omega), if_pos hj1, hc j hj]
    · rw [if_neg (by omega), if_neg hj1]
      congr 1; omega
  · rw [splice_get _ _ _ (by rw [bc_length]; omega), bc_length, if_pos (by omega)]
theorem own_copy_str (hgd : o.guard = none) (d s : Operand) (dT sT : TypeId) (ho : o.op = .call { callee := .builtin .copy, args := #[d, s], argTypes := #[dT, sT] }) (elem : TypeId) (hu : P.underlying dT = some (.slice elem))
    (hsz : (P.info? elem).map (·.size) = some 1) (x : Fr) (i k dLen dCap : Nat) (t : ByteArray) (l : List UInt8) (hk : k = x.off + i) (hd : a.eval d = .slice (some ⟨x.g, k, none⟩) dLen dCap) (hs : a.eval s = .string t)
    (hO : Own (x :: R) w0 w) (hl : t.data.toList = l) (hn : l.length ≤ dLen) (h0 : 0 < l.length) (hfit : i + l.length ≤ x.cs.length)
    (h : ∀ w', Own ({ x with cs := splice x.cs i (bc l) } :: R) w0 w' → wpList P ops Q rest (a.put o.dst (.int .i64 (l.length : Int))) w') :
    wpList P ops Q (o :: rest) a w := by
  have hro := hO.head.ro_none (by omega)
  obtain ⟨_, t', all, hb, hc⟩ := hO.head.in0 hro
  subst hk
  have hts : t.size = l.length := by rw [← hl]; rfl
  have hall : x.off + (i + l.length) ≤ all.length := by
    have := hc (i + l.length - 1) (by omega)
    rw [List.getElem?_eq_getElem (show i + l.length - 1 < x.cs.length by omega)] at this
    have := (List.getElem?_eq_some_iff.1 this).1
    omega
  have hr := Lib.run_copy_row_string (P := P) w dT sT o.type elem x.g (x.off + i) dLen dCap t all.toArray t' hu hsz hb (by omega) (by simp; omega)
  refine Lib.wpList_copy_run w hgd d s dT sT ho _ _ hd hs hr ?_
  have e : goInt t.size = .int .i64 (l.length : Int) := by rw [hts]; rfl
  rw [e]
  refine h _ (own_spliced hO h0 hfit ⟨rfl, rfl, rfl, by simp [World.setRow], fun k _ hk => setRow_other w x.g k _ (by simpa using hk)⟩ fun t2 all2 hb2 => ?_)
  obtain ⟨rfl, rfl⟩ := hb2.inj hb
  have e2 : (all2.toArray.toList.take (x.off + i) ++ Lib.byteCells t.data.toList ++ all2.toArray.toList.drop (x.off + i + t.size)) = splice all2 (x.off + i) (bc l) := by
    rw [hts, hl]
    simp [splice, bc_length, Lib.byteCells, bc]
  rw [e2]
  exact setRow_heap w x.g all2.toArray _ t2 _ hb
end
namespace Plain
def magicB : List UInt8 := [87, 251, 128, 139, 36, 117, 71, 219]
/-- The end of a table: 48 bytes. -/
def footB (h : List UInt8) : List UInt8 := h ++ List.replicate (40 - h.length) 0 ++ magicB
theorem footB_length {h : List UInt8} (hl : h.length ≤ 40) : (footB h).length = 48 := by simp [footB, magicB]; omega
end Plain
theorem foot_cells {cs : List Value} {h : List UInt8} (hl : h.length ≤ 40) (hcs : cs.length = 50) (h0 : cs.take 48 = List.replicate 48 (Value.int .u8 0)) :
    (splice (splice cs 0 (bc h)) 40 (bc magicB)).take 48 = bc (footB h) := by
  apply List.ext_getElem?
  intro i
  have hm : (bc magicB).length = 8 := rfl
  have hlen : (splice cs 0 (bc h)).length = 50 := by rw [length_splice _ _ _ (by rw [bc_length]; omega), hcs]
  rw [List.getElem?_take]
  by_cases hi : i < 48
  · rw [if_pos hi, splice_get _ _ _ (by rw [hm]; omega), hm]
    unfold footB
    rw [bc_append, bc_append]
    by_cases h1 : i < 40
    · rw [if_pos (.inl h1), splice_get _ _ _ (by rw [bc_length]; omega), bc_length, List.getElem?_append_left (by simp [bc_length]; omega)]
      by_cases h2 : i < h.length
      · rw [if_neg (by omega), List.getElem?_append_left (by rw [bc_length]; exact h2)]; rfl
      · rw [if_pos (by omega), List.getElem?_append_right (by rw [bc_length]; omega)]
        have e := congrArg (·[i]?) h0
        simp only [List.getElem?_take, if_pos hi, List.getElem?_replicate] at e
        rw [e, ← bc_zeros, List.getElem?_replicate, bc_length, if_pos (by omega)]
    · rw [if_neg (by omega), List.getElem?_append_right (by simp [bc_length]; omega)]
      congr 1
      simp [bc_length]; omega
  · rw [if_neg hi, List.getElem?_eq_none (by rw [bc_length, footB_length hl]; omega)]
end Go.Proofs.YtloflmcgbbbnjaaDoor
