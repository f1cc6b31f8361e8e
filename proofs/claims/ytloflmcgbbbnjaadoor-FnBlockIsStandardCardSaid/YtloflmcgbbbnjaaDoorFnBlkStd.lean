/-
  FnBlockIsStandard, walked.
-/
import Derived.Test.YtloflmcgbbbnjaaDoorZZBlk
import Derived.Test.YtloflmcgbbbnjaaDoorSpecBlk
namespace Go.Proofs.YtloflmcgbbbnjaaDoor
open Go.RowKit Plain
set_option linter.all false

def tabB (l : List Pr) : Bool := decide (wgt l ≤ 1048576) && ordB (kvs l)
set_option maxHeartbeats 1600000 in
theorem tabled_any (A : Option Addr) (c : Nat) (l : List Pr) (w : World) (h : Prs w A l) (hb : wgt l ≤ 9223372036854775807) (hl : l.length ≤ 2147483647) (hk : ∀ r ∈ l, r.k.length ≤ 2147483647 ∧ r.v.length ≤ 2147483647) :
    Calls Tryd.prog 11 #[.slice A l.length c] w fun e w' => e = .returned (.bool (tabB l)) ∧ Only [] w w' := by
  cases hf : decide (wgt l ≤ 1048576) with
  | false =>
    have HR := hid (show (false : Bool) = tabB l by simp [tabB, hf])
    have HF := hid hf
    clear hf
    go_enter Tryd.func11, Tryd.ntmps11
    go_wp2_with (go_at_call 16; refine (few_any A c l _ h hb hl).mono ?_; rintro e w1 ⟨rfl, ho1⟩; rw [HF.out])
    go_ret
    exact ⟨ret_bool HR.out, ho1⟩
  | true =>
    have HR := hid (show ordB (kvs l) = tabB l by simp [tabB, hf])
    have HF := hid hf
    clear hf
    go_enter Tryd.func11, Tryd.ntmps11
    go_wp2_with (go_at_call 16; refine (few_any A c l _ h hb hl).mono ?_; rintro e w1 ⟨rfl, ho1⟩; rw [HF.out])
    have h1 := h.keep0 ho1
    refine (pairs_own A c l [] w1 w1 (fun w' ho _ => h1.keep0 ho) (Own.start w1) (by omega)).mono ?_
    rintro e w2 ⟨A2, c2, F2, rfl, hr2, hO2⟩
    have hps : Prs w2 A2 l := ⟨hr2.out.csO hO2.out, fun r hr => (h1.ok r hr).keep0 hO2.out.only⟩
    have HPS := hid hps
    have HO := hid (ho1.new hO2.out.only)
    clear hps ho1 h1
    go_wp2_with fail
    refine (ordered_any A2 c2 l w2 HPS.out (by omega) (fun r hr => by have := (hk r hr).1; omega)).mono ?_
    rintro e w3 ⟨rfl, hd⟩
    have HO3 := hid (HO.out.dr hd)
    clear hd
    go_wp2
    go_ret
    exact ⟨ret_bool HR.out, HO3.out⟩

set_option maxHeartbeats 1600000 in
theorem blkStd_bad (A : Option Addr) (c : Nat) (x : Int) (l : List Pr) (w : World) (h : Prs w A l) (hbad : okP l = false ∨ tabB l = false ∨ l.length = 0) :
    Calls Tryd.prog 3 #[.slice A l.length c, .int .i64 x] w fun e w' => e = .returned (.bool true) ∧ Only [] w w' := by
  have HH := hid h
  clear h
  cases ka : okP l with
  | false =>
    have KA := hid ka
    clear hbad ka
    go_enter Tryd.func3, Tryd.ntmps3
    go_wp2_with (go_at_call 10; refine (fits6_any A c l _ HH.out).mono ?_; rintro e w1 ⟨rfl, ho1⟩; rw [KA.out])
    go_ret
    exact ⟨rfl, ho1⟩
  | true =>
    obtain ⟨la, wa, ks⟩ := okP_len ka
    have KA := hid ka
    have KS := hid ks
    clear ka ks
    cases kt : tabB l with
    | false =>
      have KT := hid kt
      clear hbad kt
      go_enter Tryd.func3, Tryd.ntmps3
      go_wp2_with (first
        | (go_at_call 10; refine (fits6_any A c l _ HH.out).mono ?_; rintro e w1 ⟨rfl, ho1⟩; rw [KA.out])
        | (go_at_call 11; refine (tabled_any A c l _ (HH.out.keep0 ho1) wa la KS.out).mono ?_; rintro e w2 ⟨rfl, ho2⟩; rw [KT.out]))
      go_ret
      exact ⟨rfl, ho1.new ho2⟩
    | true =>
      have hl0 : l.length = 0 := by
        rcases hbad with h | h | h
        · rw [KA.out] at h; cases h
        · rw [kt] at h; cases h
        · exact h
      have KT := hid kt
      have e0 : ((l.length : Int) == 0) = true := by rw [hl0]; rfl
      clear hbad kt hl0
      go_enter Tryd.func3, Tryd.ntmps3
      go_wp2_with (first
        | (go_at_call 10; refine (fits6_any A c l _ HH.out).mono ?_; rintro e w1 ⟨rfl, ho1⟩; rw [KA.out])
        | (go_at_call 11; refine (tabled_any A c l _ (HH.out.keep0 ho1) wa la KS.out).mono ?_; rintro e w2 ⟨rfl, ho2⟩; rw [KT.out]))
      go_ret
      exact ⟨rfl, ho1.new ho2⟩

theorem blockB_le (rs : Nat) (ns : List Int) (l : List KV) (c0 : Nat) (hw : kvw l < 34359738368) : (blockB rs ns l c0).length ≤ 16 * kvw l + 4 * l.length + 8 := by
  obtain ⟨h1, h2, h3, h4, h5⟩ := bst_le (rs := rs) (ns := ns) (c0 := c0) hw l.length (Nat.le_refl _)
  rw [List.take_length] at h1
  unfold blockB
  simp only []
  split
  · simp only [List.length_append, leB_length]; omega
  · simp only [List.length_append, leB_length]; omega

theorem wpAnyH_weaken {P : Program} {md : Region.Mode} {ops : Array Oper} {Q : Exit → Act → World → Prop} {S S' : World → Prop} (h : ∀ w, S' w → S w) : ∀ (fuel : Nat) (listed : Array Bool) (a : Act) (w : World), wpAnyH P md ops Q S' fuel listed a w → wpAnyH P md ops Q S fuel listed a w
  | 0, _, _, _, H => H
  | fuel + 1, _, _, _, H => ⟨H.1, fun i hi => wpOp_mono (fun a' w' h' => ⟨h _ h'.1, wpAnyH_weaken h fuel _ a' w' h'.2⟩) (H.2 i hi)⟩

set_option maxHeartbeats 6400000 in
set_option maxRecDepth 100000 in
theorem blkStd_good (A : Option Addr) (c : Nat) (x : Int) (l : List Pr) (w : World) (h : Prs w A l) (hx : -9223372036854775808 ≤ x ∧ x ≤ 9223372036854775807) (ka : okP l = true) (kt : tabB l = true) (h0 : 0 < l.length) :
    Calls Tryd.prog 3 #[.slice A l.length c, .int .i64 x] w fun e w' => e = .returned (.bool true) ∧ Only [] w w' := by
  obtain ⟨la, wa, ks⟩ := okP_len ka
  have hw : wgt l ≤ 1048576 := by
    simp only [tabB, Bool.and_eq_true, decide_eq_true_eq] at kt
    exact kt.1
  have hlw := wgt_len l
  have HH := hid h
  have KA := hid ka
  have KS := hid ks
  have KT := hid kt
  have e0 : ((l.length : Int) == 0) = false := by rw [beq_eq_false_iff_ne]; omega
  obtain ⟨rs, hrs⟩ : ∃ rs : Nat, 1 + x % 30 = (rs : Int) := ⟨(1 + x % 30).toNat, by omega⟩
  have hrs0 : 0 < rs := by omega
  have hrs1 : rs ≤ 30 := by omega
  have hwr : IntKind.i64.wrap (1 + x % 30) = (rs : Int) := by rw [i64_id (by omega) (by omega), hrs]
  clear h ka ks kt
  go_enter Tryd.func3, Tryd.ntmps3
  go_wp2_with (first
    | (go_at_call 10; refine (fits6_any A c l _ HH.out).mono ?_; rintro e w1 ⟨rfl, ho1⟩; rw [KA.out])
    | (go_at_call 11; refine (tabled_any A c l _ (HH.out.keep0 ho1) wa la KS.out).mono ?_; rintro e w2 ⟨rfl, ho2⟩; rw [KT.out])
    | (go_at_call 12; refine (below_any x 30 _ (by omega) (by omega) hx).mono ?_; rintro e w3 ⟨rfl, rfl⟩))
  have hbl := blockB_le rs [] (kvs l) 0 (by rw [kvw_kvs]; omega)
  rw [kvw_kvs, kvs_length] at hbl
  have ho := (ho1.new ho2).drew
  have HPA := hid (HH.out.keep0 ho)
  have HO := hid ho
  have HS := fun (W : World) (B : Option Addr) (d n : Nat) (D : List UInt8) (hn : n = D.length) (h : BsAt W B D) => (by subst hn; exact run_str (P := Tryd.prog) 25 9 5 d Tryd.underlying25 Tryd.underlying5 Tryd.underlying9 h : (convert 25 9 (.slice B n d)).run Tryd.prog W = .ok (.string (bstr D)) W)
  have HSH := hid HS
  have HBL := hid (show (blockB rs [] (kvs l) 0).length ≤ 1099511627776 by omega)

  clear HS hbl ho ho1 ho2 HH KA KS KT hx hrs wa la
  refine wp_region_held_drew (S := fun _ => True) (by kernel_rfl) trivial (fun hHeld => ?_)
  refine wpAnyH_take (i := 0) (v := (.slice A l.length c)) rfl (by kernel_rfl) (by kernel_rfl) (by kernel_rfl) (fun _ _ _ h => h) (Or.inl ⟨by rfl, fun w hSw => ?_⟩) hHeld ?_
  · (try dsimp only at hSw); go_simp
  try simp only [Act.put, List.setIfInBounds_toArray, List.set_cons_zero, List.set_cons_succ]
  refine wpAnyH_take (i := 1) (v := (.int .i64 (rs : Int))) rfl (by kernel_rfl) (by kernel_rfl) (by kernel_rfl) (fun _ _ _ h => h) (Or.inl ⟨by rfl, fun w hSw => ?_⟩) hHeld ?_
  · (try dsimp only at hSw); go_simp
  try simp only [Act.put, List.setIfInBounds_toArray, List.set_cons_zero, List.set_cons_succ]
  refine wpAnyH_take (i := 4) (v := (.slice A l.length c)) rfl (by kernel_rfl) (by kernel_rfl) (by kernel_rfl) (fun _ _ _ h => h) (Or.inl ⟨by rfl, fun w hSw => ?_⟩) hHeld ?_
  · (try dsimp only at hSw); go_simp
  try simp only [Act.put, List.setIfInBounds_toArray, List.set_cons_zero, List.set_cons_succ]
  refine wpAnyH_take (i := 6) (v := (.int .i64 (rs : Int))) rfl (by kernel_rfl) (by kernel_rfl) (by kernel_rfl) (fun _ _ _ h => h) (Or.inl ⟨by rfl, fun w hSw => ?_⟩) hHeld ?_
  · (try dsimp only at hSw); go_simp
  try simp only [Act.put, List.setIfInBounds_toArray, List.set_cons_zero, List.set_cons_succ]
  refine wpAnyH_ready (rs := [2]) (by kernel_rfl) (by simp) ?_
  refine AllReadyH.cons rfl (fun K hK => ?_) AllReadyH.nil
  go_simp
  go_at_call 13; refine (implBlock A c rs l [] _ _ (fun w' ho _ => HPA.out.keep0 ho) (Own.start _) hrs0 (by omega) h0 (by omega) (by omega) HBL.out).mono ?_
  rintro e wI ⟨AI, cI, FI, nI, hnI, rfl, hrI, hOI⟩
  have hbI := hid (show BsAt wI AI _ from hrI.out.bsO hOI.out)
  have fI := HSH.out wI AI cI nI _ hnI.out hbI.out
  try have hbS := hid (hbS.out.keep0 hOI.out.only)
  try have fS := HSH.out wI AS cS nS _ hnS.out hbS.out
  try have HPS := hid (HPS.out.keep0 hOI.out.only)
  have HPA := hid (HPA.out.keep0 hOI.out.only)
  have HO := hid (HO.out.new hOI.out.only)
  clear hrI hOI
  go_wp2_with fail
  refine hK.out _ _ ?_ (fun hHeld => ?_)
  · trivial
  clear hK
  try simp only [Act.put, List.setIfInBounds_toArray, List.set_cons_zero, List.set_cons_succ]
  refine wpAnyH_weaken (S' := fun w' => Sem.run Tryd.prog (convert 25 9 (Value.slice AI nI cI)) w' = Result.ok (Value.string (bstr (blockB rs [] (kvs l) 0))) w') (fun _ _ => trivial) _ _ _ _ ?_
  refine wpAnyH_take (i := 3) (v := (.string (bstr (blockB rs [] (kvs l) 0)))) rfl (by kernel_rfl) (by kernel_rfl) (by kernel_rfl) (fun _ _ _ h => h) (Or.inl ⟨by rfl, fun w hSw => ?_⟩) fI ?_
  · (try dsimp only at hSw); go_simp
  try simp only [Act.put, List.setIfInBounds_toArray, List.set_cons_zero, List.set_cons_succ]
  refine wpAnyH_ready (rs := [5]) (by kernel_rfl) (by simp) ?_
  refine AllReadyH.cons rfl (fun K hK => ?_) AllReadyH.nil
  go_simp
  go_at_call 15; refine (pairs_own A c l [] _ _ (fun w' ho _ => HPA.out.keep0 ho) (Own.start _) (by omega)).mono ?_
  rintro e wP ⟨AP, cP, FP, rfl, hrP, hOP⟩
  have HPS : Hid (Prs wP AP l) := hid ⟨hrP.out.csO hOP.out, fun r hr => (HPA.out.ok r hr).keep0 hOP.out.only⟩
  try have hbI := hid (hbI.out.keep0 hOP.out.only)
  try have fI := HSH.out wP AI cI nI _ hnI.out hbI.out
  have HPA := hid (HPA.out.keep0 hOP.out.only)
  have HO := hid (HO.out.new hOP.out.only)
  clear hrP hOP
  go_wp2_with fail
  refine hK.out _ _ ?_ (fun hHeld => ?_)
  · exact fI
  clear hK
  try simp only [Act.put, List.setIfInBounds_toArray, List.set_cons_zero, List.set_cons_succ]
  refine wpAnyH_ready (rs := [7]) (by kernel_rfl) (by simp) ?_
  refine AllReadyH.cons rfl (fun K hK => ?_) AllReadyH.nil
  go_simp
  go_at_call 14; refine (specBlock AP none cP 0 rs l [] [] _ _ (fun w' ho _ => HPS.out.keep0 ho) (fun w _ _ => CsAt.nil _ _) (Own.start _) hrs0 (by omega) (by omega) (by omega) (Nat.zero_le _)).mono ?_
  intro e wS hret
  obtain ⟨AS, cS, FS, nS, hnS, rfl, hrS, hOS⟩ := hret.h
  clear hret
  have hbS := hid (show BsAt wS AS _ from hrS.out.bsO hOS.out)
  have fS := HSH.out wS AS cS nS _ hnS.out hbS.out
  try have hbI := hid (hbI.out.keep0 hOS.out.only)
  try have fI := HSH.out wS AI cI nI _ hnI.out hbI.out
  have HPA := hid (HPA.out.keep0 hOS.out.only)
  have HO := hid (HO.out.new hOS.out.only)
  clear hrS hOS
  go_wp2_with fail
  refine hK.out _ _ ?_ (fun hHeld => ?_)
  · exact fI
  clear hK
  try simp only [Act.put, List.setIfInBounds_toArray, List.set_cons_zero, List.set_cons_succ]
  refine wpAnyH_weaken (S' := fun w' => (Sem.run Tryd.prog (convert 25 9 (Value.slice AI nI cI)) w' = Result.ok (Value.string (bstr (blockB rs [] (kvs l) 0))) w') ∧ Sem.run Tryd.prog (convert 25 9 (Value.slice AS nS cS)) w' = Result.ok (Value.string (bstr (blockB rs [] (kvs l) 0))) w') (fun _ h => h.1) _ _ _ _ ?_
  refine wpAnyH_take (i := 8) (v := (.string (bstr (blockB rs [] (kvs l) 0)))) rfl (by kernel_rfl) (by kernel_rfl) (by kernel_rfl) (fun _ _ _ h => h) (Or.inl ⟨by rfl, fun w hSw => ?_⟩) ⟨fI, fS⟩ ?_
  · (try dsimp only at hSw); go_simp
  try simp only [Act.put, List.setIfInBounds_toArray, List.set_cons_zero, List.set_cons_succ]
  refine wpAnyH_ready (rs := [9]) (by kernel_rfl) (by simp) ?_
  refine AllReadyH.cons rfl (fun K hK => ?_) AllReadyH.nil
  go_simp
  refine hK.out _ _ ?_ (fun hHeld => ?_)
  · exact ⟨fI, fS⟩
  clear hK
  try simp only [Act.put, List.setIfInBounds_toArray, List.set_cons_zero, List.set_cons_succ]
  refine wpAnyH_ready (rs := [10]) (by kernel_rfl) (by simp) ?_
  refine AllReadyH.cons rfl (fun K hK => ?_) AllReadyH.nil
  go_simp
  refine hK.out _ _ ?_ (fun hHeld => ?_)
  · exact ⟨fI, fS⟩
  clear hK
  try simp only [Act.put, List.setIfInBounds_toArray, List.set_cons_zero, List.set_cons_succ]
  refine wpAnyH_done (by kernel_rfl) ?_ _
  go_wp2_with fail
  go_ret
  exact ⟨rfl, HO.out⟩
theorem blkStd_walk (A : Option Addr) (c : Nat) (x : Int) (l : List Pr) (w : World) (h : Prs w A l) (hx : -9223372036854775808 ≤ x ∧ x ≤ 9223372036854775807) :
    Calls Tryd.prog 3 #[.slice A l.length c, .int .i64 x] w fun e w' => e = .returned (.bool true) ∧ Only [] w w' := by
  cases ka : okP l with
  | false => exact blkStd_bad A c x l w h (.inl ka)
  | true =>
    cases kt : tabB l with
    | false => exact blkStd_bad A c x l w h (.inr (.inl kt))
    | true =>
      rcases Nat.eq_zero_or_pos l.length with h0 | h0
      · exact blkStd_bad A c x l w h (.inr (.inr h0))
      · exact blkStd_good A c x l w h hx ka kt h0
theorem i64_bounds {n : Int} (h : Lit.wf (.int .i64 n) = true) : -9223372036854775808 ≤ n ∧ n ≤ 9223372036854775807 := by
  have a : IntKind.i64.min = -9223372036854775808 := by decide
  have b : IntKind.i64.max = 9223372036854775807 := by decide
  have h : (decide (IntKind.i64.min ≤ n) && decide (n ≤ IntKind.i64.max)) = true := h
  rw [a, b, Bool.and_eq_true, decide_eq_true_eq, decide_eq_true_eq] at h
  exact h
end Go.Proofs.YtloflmcgbbbnjaaDoor
