/-
  FnBatchesFollow, walked.
-/
import Derived.Test.YtnebbmbhildomaaBatchAll
import Derived.Deep.RegionWith
import Derived.Deep.RegionHeld3
namespace Go.Proofs.Ytnebbmbhildomaa
open Go.RowKit Plain
set_option linter.all false

theorem bstr_append (a b : List UInt8) : bstr (a ++ b) = bstr a ++ bstr b := by
  apply ByteArray.ext
  rw [ByteArray.data_append]
  simp [bstr]
def okB (l : List P2) : Bool := decide (l.length ≤ 2147483647) && fits2 l
theorem okB_len {l : List P2} (h : okB l = true) : l.length ≤ 2147483647 ∧ weight2 l ≤ 9223372036854775807 := by
  simp only [okB, Bool.and_eq_true, decide_eq_true_eq] at h
  have := weight2_bound (fits2_mem h.2)
  refine ⟨h.1, Nat.le_trans this ?_⟩
  have : l.length * (2 * 2147483647 + 1) ≤ 2147483647 * (2 * 2147483647 + 1) := Nat.mul_le_mul_right _ h.1
  omega
theorem Try.info_p2 : (Try.prog.info? 43).map (fun i => (i.zero, i.size, i.bytes)) = some (some (.agg #[.bool false, .slice none 0 0, .slice none 0 0]), 3, 56) := by kernel_rfl

set_option maxHeartbeats 1600000 in
theorem follow_bad (A B : Option Addr) (c d : Nat) (a b : List P2) (w : World) (ha : P2s w A a) (hb : P2s w B b) (h : okB a = false ∨ okB b = false ∨ 1048576 < weight2 a ∨ 1048576 < weight2 b) :
    Calls Try.prog 5 #[.slice A a.length c, .slice B b.length d] w fun e w' => e = .returned (.bool true) ∧ Only [] w w' := by
  have HA := hid ha
  have HB := hid hb
  clear ha hb
  cases ka : okB a with
  | false =>
    have KA := hid ka
    clear h ka
    go_enter Try.func5, Try.ntmps5
    go_wp2_with (go_at_call 10; refine (fits2_any A c a _ HA.out).mono ?_; rintro e w1 ⟨rfl, ho1⟩; rw [show (decide (a.length ≤ 2147483647) && fits2 a) = false from KA.out])
    go_ret
    exact ⟨rfl, ho1⟩
  | true =>
    obtain ⟨la, wa⟩ := okB_len ka
    cases kb : okB b with
    | false =>
      have KA := hid ka
      have KB := hid kb
      clear h ka kb
      go_enter Try.func5, Try.ntmps5
      go_wp2_with (first
        | (go_at_call_of 10 (Value.slice A a.length c); refine (fits2_any A c a _ HA.out).mono ?_; rintro e w1 ⟨rfl, ho1⟩; rw [show (decide (a.length ≤ 2147483647) && fits2 a) = true from KA.out])
        | (go_at_call_of 10 (Value.slice B b.length d); refine (fits2_any B d b _ (HB.out.keep0 ho1)).mono ?_; rintro e w2 ⟨rfl, ho2⟩; rw [show (decide (b.length ≤ 2147483647) && fits2 b) = false from KB.out]))
      go_ret
      exact ⟨rfl, ho1.new ho2⟩
    | true =>
      obtain ⟨lb, wb⟩ := okB_len kb
      have KA := hid ka
      have KB := hid kb
      clear ka kb
      by_cases h1 : 1048576 < weight2 a
      · have d1 : decide ((1048576 : Int) < (weight2 a : Int)) = true := decide_eq_true (by omega)
        have d1' : decide (1048576 < weight2 a) = true := decide_eq_true h1
        clear h h1
        go_enter Try.func5, Try.ntmps5
        go_wp2_with (first
          | (go_at_call_of 10 (Value.slice A a.length c); refine (fits2_any A c a _ HA.out).mono ?_; rintro e w1 ⟨rfl, ho1⟩; rw [show (decide (a.length ≤ 2147483647) && fits2 a) = true from KA.out])
          | (go_at_call_of 10 (Value.slice B b.length d); refine (fits2_any B d b _ (HB.out.keep0 ho1)).mono ?_; rintro e w2 ⟨rfl, ho2⟩; rw [show (decide (b.length ≤ 2147483647) && fits2 b) = true from KB.out])
          | (go_at_call 11; refine (weight_any A c a _ (HA.out.keep0 (ho1.new ho2)) wa la).mono ?_; rintro e w3 ⟨rfl, ho3⟩))
        go_ret
        exact ⟨rfl, (ho1.new ho2).new ho3⟩
      · have h2 : 1048576 < weight2 b := by
          rcases h with h | h | h | h
          · rw [KA.out] at h; cases h
          · rw [KB.out] at h; cases h
          · omega
          · exact h
        have d1 : decide ((1048576 : Int) < (weight2 a : Int)) = false := decide_eq_false (by omega)
        have d1' : decide (1048576 < weight2 a) = false := decide_eq_false h1
        have d2 : decide ((1048576 : Int) < (weight2 b : Int)) = true := decide_eq_true (by omega)
        have d2' : decide (1048576 < weight2 b) = true := decide_eq_true h2
        clear h h1 h2
        go_enter Try.func5, Try.ntmps5
        go_wp2_with (first
          | (go_at_call_of 10 (Value.slice A a.length c); refine (fits2_any A c a _ HA.out).mono ?_; rintro e w1 ⟨rfl, ho1⟩; rw [show (decide (a.length ≤ 2147483647) && fits2 a) = true from KA.out])
          | (go_at_call_of 10 (Value.slice B b.length d); refine (fits2_any B d b _ (HB.out.keep0 ho1)).mono ?_; rintro e w2 ⟨rfl, ho2⟩; rw [show (decide (b.length ≤ 2147483647) && fits2 b) = true from KB.out])
          | (go_at_call_of 11 (Value.slice A a.length c); refine (weight_any A c a _ (HA.out.keep0 (ho1.new ho2)) wa la).mono ?_; rintro e w3 ⟨rfl, ho3⟩)
          | (go_at_call_of 11 (Value.slice B b.length d); refine (weight_any B d b _ (HB.out.keep0 ((ho1.new ho2).new ho3)) wb lb).mono ?_; rintro e w4 ⟨rfl, ho4⟩))
        go_ret
        exact ⟨rfl, ((ho1.new ho2).new ho3).new ho4⟩

theorem wpAnyH_weaken {P : Program} {md : Region.Mode} {ops : Array Oper} {Q : Exit → Act → World → Prop} {S S' : World → Prop} (h : ∀ w, S' w → S w) : ∀ (fuel : Nat) (listed : Array Bool) (a : Act) (w : World), wpAnyH P md ops Q S' fuel listed a w → wpAnyH P md ops Q S fuel listed a w
  | 0, _, _, _, H => H
  | fuel + 1, _, _, _, H => ⟨H.1, fun i hi => wpOp_mono (fun a' w' h' => ⟨h _ h'.1, wpAnyH_weaken h fuel _ a' w' h'.2⟩) (H.2 i hi)⟩

set_option maxHeartbeats 1600000 in
set_option maxRecDepth 100000 in
theorem follow_good (A B : Option Addr) (c d : Nat) (a b : List P2) (w : World) (ha : P2s w A a) (hb : P2s w B b) (ka : okB a = true) (kb : okB b = true) (wa : weight2 a ≤ 1048576) (wb : weight2 b ≤ 1048576) :
    Calls Try.prog 5 #[.slice A a.length c, .slice B b.length d] w fun e w' => e = .returned (.bool true) ∧ Only [] w w' := by
  have HA := hid ha
  have HB := hid hb
  obtain ⟨la, _⟩ := okB_len ka
  obtain ⟨lb, _⟩ := okB_len kb
  have KA := hid ka
  have KB := hid kb
  clear ha hb ka kb
  have d1 : decide ((1048576 : Int) < (weight2 a : Int)) = false := decide_eq_false (by omega)
  have d1' : decide (1048576 < weight2 a) = false := decide_eq_false (by omega)
  have d2 : decide ((1048576 : Int) < (weight2 b : Int)) = false := decide_eq_false (by omega)
  have d2' : decide (1048576 < weight2 b) = false := decide_eq_false (by omega)
  go_enter Try.func5, Try.ntmps5
  go_wp2_with (first
    | (go_at_call_of 10 (Value.slice A a.length c); refine (fits2_any A c a _ HA.out).mono ?_; rintro e w1 ⟨rfl, ho1⟩; rw [show (decide (a.length ≤ 2147483647) && fits2 a) = true from KA.out])
    | (go_at_call_of 10 (Value.slice B b.length d); refine (fits2_any B d b _ (HB.out.keep0 ho1)).mono ?_; rintro e w2 ⟨rfl, ho2⟩; rw [show (decide (b.length ≤ 2147483647) && fits2 b) = true from KB.out])
    | (go_at_call_of 11 (Value.slice A a.length c); refine (weight_any A c a _ (HA.out.keep0 (ho1.new ho2)) (by omega) la).mono ?_; rintro e w3 ⟨rfl, ho3⟩)
    | (go_at_call_of 11 (Value.slice B b.length d); refine (weight_any B d b _ (HB.out.keep0 ((ho1.new ho2).new ho3)) (by omega) lb).mono ?_; rintro e w4 ⟨rfl, ho4⟩))
  have ow := ((ho1.new ho2).new ho3).new ho4
  have hpa := HA.out.keep0 ow
  have hpb := HB.out.keep0 ow
  have HPA := hid hpa
  have HPB := hid hpb
  have HOW := hid ow
  clear HA HB KA KB hpa hpb ow ho1 ho2 ho3 ho4 d1 d1' d2 d2'
  have hwab : weight2 (a ++ b) ≤ 1073741824 := by simp only [weight2, List.map_append, List.sum_append] at wa wb ⊢; omega
  have hge := dump_ge a
  have m1 : IntKind.i64.wrap (2 * (a.length : Int)) = 2 * (a.length : Int) := i64_id (by omega) (by omega)
  have m2 : decide (2 * (a.length : Int) ≤ ((dump a).length : Int)) = true := decide_eq_true (by omega)
  have HS := fun (W : World) (B : Option Addr) (d : Nat) (l : List UInt8) (h : BsAt W B l) (W' : World) (hw : Only [] W W') => run_str (P := Try.prog) 22 9 5 d Try.underlying22 Try.underlying5 Try.underlying9 (h.keep0 hw)
  have HSH := hid HS
  have hda := dump_le (l := a) (fun r hr => by have := weight2_mem hr; omega)
  have hdb := dump_le (l := b) (fun r hr => by have := weight2_mem hr; omega)
  have hsz : ¬ 9223372036854775807 < (bstr (dump a)).size + (bstr (dump b)).size := by
    show ¬ 9223372036854775807 < (dump a).length + (dump b).length
    omega
  have hbe : bstr (dump (a ++ b)) = bstr (dump a) ++ bstr (dump b) := by rw [dump_append]; exact bstr_append _ _
  have hbq : (dump (a ++ b) == (bstr (dump a) ++ bstr (dump b)).toList) = true := by rw [← hbe, bstr_list]; simp
  have HBE := hid hbe
  clear hbe
  have once : Hid True := hid trivial
  clear HS
  refine wp_region_held_drew (S := fun _ => True) (by kernel_rfl) trivial (fun _ => ?_)
  refine wpAnyH_take (i := 1) (v := (.slice A a.length c)) (by simp only [List.getElem?_toArray, List.getElem?_cons_succ, List.getElem?_cons_zero]; rfl) (by kernel_rfl) (by kernel_rfl) (by kernel_rfl) (by intro _ _ _ h; exact h) (Or.inl ⟨by rfl, fun w hSw => ?_⟩) trivial ?_
  · (try dsimp only at hSw)
    first
      | (go_simp; done)
      | (go_simp; with_reducible rfl)
      | (go_simp; go_split_ands; simp only [*]; done)
  try simp only [Act.put, List.setIfInBounds_toArray, List.set_cons_zero, List.set_cons_succ]
  refine wpAnyH_take (i := 3) (v := (.slice B b.length d)) (by simp only [List.getElem?_toArray, List.getElem?_cons_succ, List.getElem?_cons_zero]; rfl) (by kernel_rfl) (by kernel_rfl) (by kernel_rfl) (by intro _ _ _ h; exact h) (Or.inl ⟨by rfl, fun w hSw => ?_⟩) trivial ?_
  · (try dsimp only at hSw)
    first
      | (go_simp; done)
      | (go_simp; with_reducible rfl)
      | (go_simp; go_split_ands; simp only [*]; done)
  try simp only [Act.put, List.setIfInBounds_toArray, List.set_cons_zero, List.set_cons_succ]
  refine wpAnyH_take (i := 7) (v := (.slice A a.length c)) (by simp only [List.getElem?_toArray, List.getElem?_cons_succ, List.getElem?_cons_zero]; rfl) (by kernel_rfl) (by kernel_rfl) (by kernel_rfl) (by intro _ _ _ h; exact h) (Or.inl ⟨by rfl, fun w hSw => ?_⟩) trivial ?_
  · (try dsimp only at hSw)
    first
      | (go_simp; done)
      | (go_simp; with_reducible rfl)
      | (go_simp; go_split_ands; simp only [*]; done)
  try simp only [Act.put, List.setIfInBounds_toArray, List.set_cons_zero, List.set_cons_succ]
  refine wpAnyH_take (i := 10) (v := (.slice B b.length d)) (by simp only [List.getElem?_toArray, List.getElem?_cons_succ, List.getElem?_cons_zero]; rfl) (by kernel_rfl) (by kernel_rfl) (by kernel_rfl) (by intro _ _ _ h; exact h) (Or.inl ⟨by rfl, fun w hSw => ?_⟩) trivial ?_
  · (try dsimp only at hSw)
    first
      | (go_simp; done)
      | (go_simp; with_reducible rfl)
      | (go_simp; go_split_ands; simp only [*]; done)
  try simp only [Act.put, List.setIfInBounds_toArray, List.set_cons_zero, List.set_cons_succ]
  refine wpAnyH_ready (rs := [0]) (by kernel_rfl) (by simp) ?_
  refine AllReadyH.cons (by simp only [List.getElem?_toArray, List.getElem?_cons_succ, List.getElem?_cons_zero]; rfl) (fun K hK => ?_) AllReadyH.nil
  go_simp
  try go_wp2_with fail
  refine hK.out _ _ ?_ (fun _ => ?_)
  · trivial
  clear hK
  try simp only [Act.put, List.setIfInBounds_toArray, List.set_cons_zero, List.set_cons_succ]
  refine wpAnyH_ready (rs := [2]) (by kernel_rfl) (by simp) ?_
  refine AllReadyH.cons (by simp only [List.getElem?_toArray, List.getElem?_cons_succ, List.getElem?_cons_zero]; rfl) (fun K hK => ?_) AllReadyH.nil
  refine step_append rfl (.tmp 21) (.tmp 22) 30 rfl 43 (.agg #[.bool false, .slice none 0 0, .slice none 0 0]) 3 56 Try.underlying30 Try.info_p2 rfl (by decide) _ 0 [] rfl (World.ownsRow_made w4.drew #[] 0 (Nat.zero_le _) (Nat.zero_le _) rfl) A a.length c (a.flatMap P2.cells) rfl (flat_length _ 3 P2.cells_length a) (HPA.out.keep0 ((Only.refl [] w4).drew.alloc _)).row flat_one (by simp [maxLen]; omega) (by omega) ?_
  intro v1 w5 hv1 hg1 hn1 hat1
  have ho5 : Only [] w4 w5 := ((Only.refl [] w4).drew.alloc _).grow0 hg1 (From.at_ (Nat.le_refl _) _ _ _)
  have hf1 : From w4.heap.size v1 := From.next (From.at_ (Nat.le_refl w4.heap.size) _ _ _) (by simp) hat1
  rw [Nat.zero_add, List.nil_append] at hv1
  have HV1 := hid hv1; clear hn1 hat1 hg1 hv1
  try go_wp2_with fail
  refine hK.out _ _ ?_ (fun _ => ?_)
  · trivial
  clear hK
  try simp only [Act.put, List.setIfInBounds_toArray, List.set_cons_zero, List.set_cons_succ]
  refine wpAnyH_ready (rs := [4]) (by kernel_rfl) (by simp) ?_
  refine AllReadyH.cons (by simp only [List.getElem?_toArray, List.getElem?_cons_succ, List.getElem?_cons_zero]; rfl) (fun K hK => ?_) AllReadyH.nil
  refine step_append rfl (.tmp 23) (.tmp 24) 30 rfl 43 (.agg #[.bool false, .slice none 0 0, .slice none 0 0]) 3 56 Try.underlying30 Try.info_p2 rfl (by decide) v1 a.length (a.flatMap P2.cells) rfl HV1.out B b.length d (b.flatMap P2.cells) rfl (flat_length _ 3 P2.cells_length b) (HPB.out.keep0 ho5).row flat_one (by simp [maxLen]; omega) (by omega) ?_
  intro v2 w6 hv2 hg2 hn2 hat2
  have ho6 : Only [] w4 w6 := ho5.grow0 hg2 hf1
  obtain ⟨A2, c2, rfl, hc2, hcs2⟩ := own_cs hv2
  rw [← List.flatMap_append] at hcs2
  have hp2 : P2s w6 A2 (a ++ b) := ⟨hcs2, fun r hr => by
    rcases List.mem_append.1 hr with h | h
    · exact (HPA.out.ok r h).keep0 ho6
    · exact (HPB.out.ok r h).keep0 ho6⟩
  have HP2 := hid hp2; clear hn2 hat2 hg2 hv2 hcs2 hp2
  try go_wp2_with fail
  refine hK.out _ _ ?_ (fun _ => ?_)
  · trivial
  clear hK
  try simp only [Act.put, List.setIfInBounds_toArray, List.set_cons_zero, List.set_cons_succ]
  refine wpAnyH_ready (rs := [5]) (by kernel_rfl) (by simp) ?_
  refine AllReadyH.cons (by simp only [List.getElem?_toArray, List.getElem?_cons_succ, List.getElem?_cons_zero]; rfl) (fun K hK => ?_) AllReadyH.nil
  go_simp; go_at_call_of 12 (Value.slice A2 (a.length + b.length) c2); refine (batch_n A2 (a.length + b.length) c2 (a ++ b) _ (by simp) HP2.out hwab).mono ?_; rintro e w7 ⟨B7, d7, rfl, hb7, hd7, ho7⟩
  have f7 := HSH.out w7 B7 d7 _ hb7 w7 (Only.refl _ _)
  have ho7' := ho6.new ho7; have HB7 := hid hb7; clear hb7
  try go_wp2_with fail
  refine hK.out _ _ ?_ (fun _ => ?_)
  · trivial
  clear hK
  try simp only [Act.put, List.setIfInBounds_toArray, List.set_cons_zero, List.set_cons_succ]
  refine wpAnyH_weaken (S' := fun w' => Sem.run Try.prog (convert 22 9 (Value.slice B7 (dump (a ++ b)).length d7)) w' = Result.ok (Value.string (bstr (dump (a ++ b)))) w') (fun _ _ => trivial) _ _ _ _ ?_
  refine wpAnyH_take (i := 6) (v := (.string (bstr (dump (a ++ b))))) (by simp only [List.getElem?_toArray, List.getElem?_cons_succ, List.getElem?_cons_zero]; rfl) (by kernel_rfl) (by kernel_rfl) (by kernel_rfl) (by intro _ _ _ h; exact h) (Or.inl ⟨by rfl, fun w hSw => ?_⟩) f7 ?_
  · (try dsimp only at hSw)
    first
      | (go_simp; done)
      | (go_simp; with_reducible rfl)
      | (go_simp; go_split_ands; simp only [*]; done)
  try simp only [Act.put, List.setIfInBounds_toArray, List.set_cons_zero, List.set_cons_succ]
  refine wpAnyH_ready (rs := [8]) (by kernel_rfl) (by simp) ?_
  refine AllReadyH.cons (by simp only [List.getElem?_toArray, List.getElem?_cons_succ, List.getElem?_cons_zero]; rfl) (fun K hK => ?_) AllReadyH.nil
  go_simp; go_at_call_of 12 (Value.slice A a.length c); clear once; refine (batch_n A a.length c a _ rfl (HPA.out.keep0 ho7') (by omega)).mono ?_; rintro e w8 ⟨B8, d8, rfl, hb8, hd8, ho8⟩
  have f8a := HSH.out w7 B7 d7 _ HB7.out w8 ho8
  have f8 := HSH.out w8 B8 d8 _ hb8 w8 (Only.refl _ _)
  have ho8' := ho7'.new ho8; have HB8 := hid hb8; clear hb8
  try go_wp2_with fail
  refine hK.out _ _ ?_ (fun _ => ?_)
  · exact f8a
  clear hK
  try simp only [Act.put, List.setIfInBounds_toArray, List.set_cons_zero, List.set_cons_succ]
  refine wpAnyH_weaken (S' := fun w' => (Sem.run Try.prog (convert 22 9 (Value.slice B7 (dump (a ++ b)).length d7)) w' = Result.ok (Value.string (bstr (dump (a ++ b)))) w') ∧ Sem.run Try.prog (convert 22 9 (Value.slice B8 (dump a).length d8)) w' = Result.ok (Value.string (bstr (dump a))) w') (fun _ h => h.1) _ _ _ _ ?_
  refine wpAnyH_take (i := 9) (v := (.string (bstr (dump a)))) (by simp only [List.getElem?_toArray, List.getElem?_cons_succ, List.getElem?_cons_zero]; rfl) (by kernel_rfl) (by kernel_rfl) (by kernel_rfl) (by intro _ _ _ h; exact h) (Or.inl ⟨by rfl, fun w hSw => ?_⟩) ⟨f8a, f8⟩ ?_
  · (try dsimp only at hSw)
    first
      | (go_simp; done)
      | (go_simp; with_reducible rfl)
      | (go_simp; go_split_ands; simp only [*]; done)
  try simp only [Act.put, List.setIfInBounds_toArray, List.set_cons_zero, List.set_cons_succ]
  refine wpAnyH_ready (rs := [11]) (by kernel_rfl) (by simp) ?_
  refine AllReadyH.cons (by simp only [List.getElem?_toArray, List.getElem?_cons_succ, List.getElem?_cons_zero]; rfl) (fun K hK => ?_) AllReadyH.nil
  go_simp; go_at_call_of 12 (Value.slice B b.length d); refine (batch_n B b.length d b _ rfl (HPB.out.keep0 ho8') (by omega)).mono ?_; rintro e w9 ⟨B9, d9, rfl, hb9, hd9, ho9⟩
  have f9a := HSH.out w7 B7 d7 _ HB7.out w9 (ho8.new ho9)
  have f9b := HSH.out w8 B8 d8 _ HB8.out w9 ho9
  have f9 := HSH.out w9 B9 d9 _ hb9 w9 (Only.refl _ _)
  have ho9' := ho8'.new ho9; have HB9 := hid hb9; clear hb9
  try go_wp2_with fail
  refine hK.out _ _ ?_ (fun _ => ?_)
  · exact ⟨f9a, f9b⟩
  clear hK
  try simp only [Act.put, List.setIfInBounds_toArray, List.set_cons_zero, List.set_cons_succ]
  refine wpAnyH_weaken (S' := fun w' => (Sem.run Try.prog (convert 22 9 (Value.slice B7 (dump (a ++ b)).length d7)) w' = Result.ok (Value.string (bstr (dump (a ++ b)))) w') ∧ (Sem.run Try.prog (convert 22 9 (Value.slice B8 (dump a).length d8)) w' = Result.ok (Value.string (bstr (dump a))) w') ∧ Sem.run Try.prog (convert 22 9 (Value.slice B9 (dump b).length d9)) w' = Result.ok (Value.string (bstr (dump b))) w') (fun _ h => ⟨h.1, h.2.1⟩) _ _ _ _ ?_
  refine wpAnyH_take (i := 12) (v := (.string (bstr (dump b)))) (by simp only [List.getElem?_toArray, List.getElem?_cons_succ, List.getElem?_cons_zero]; rfl) (by kernel_rfl) (by kernel_rfl) (by kernel_rfl) (by intro _ _ _ h; exact h) (Or.inl ⟨by rfl, fun w hSw => ?_⟩) ⟨f9a, f9b, f9⟩ ?_
  · (try dsimp only at hSw)
    first
      | (go_simp; done)
      | (go_simp; with_reducible rfl)
      | (go_simp; go_split_ands; simp only [*]; done)
  try simp only [Act.put, List.setIfInBounds_toArray, List.set_cons_zero, List.set_cons_succ]
  refine wpAnyH_take (i := 13) (v := (.string (bstr (dump a) ++ bstr (dump b)))) (by simp only [List.getElem?_toArray, List.getElem?_cons_succ, List.getElem?_cons_zero]; rfl) (by kernel_rfl) (by kernel_rfl) (by kernel_rfl) (by intro _ _ _ h; exact h) (Or.inl ⟨by rfl, fun w hSw => ?_⟩) ⟨f9a, f9b, f9⟩ ?_
  · (try dsimp only at hSw)
    first
      | (go_simp; done)
      | (go_simp; with_reducible rfl)
      | (go_simp; go_split_ands; simp only [*]; done)
  try simp only [Act.put, List.setIfInBounds_toArray, List.set_cons_zero, List.set_cons_succ]
  refine wpAnyH_take (i := 14) (v := (.bool true)) (by simp only [List.getElem?_toArray, List.getElem?_cons_succ, List.getElem?_cons_zero]; rfl) (by kernel_rfl) (by kernel_rfl) (by kernel_rfl) (by intro _ _ _ h; exact h) (Or.inl ⟨by rfl, fun w hSw => ?_⟩) ⟨f9a, f9b, f9⟩ ?_
  · (try dsimp only at hSw)
    first
      | (go_simp; done)
      | (go_simp; with_reducible rfl)
      | (go_simp; go_split_ands; simp only [*]; done)
  try simp only [Act.put, List.setIfInBounds_toArray, List.set_cons_zero, List.set_cons_succ]
  refine wpAnyH_take (i := 15) (v := (.bool true)) (by simp only [List.getElem?_toArray, List.getElem?_cons_succ, List.getElem?_cons_zero]; rfl) (by kernel_rfl) (by kernel_rfl) (by kernel_rfl) (by intro _ _ _ h; exact h) (Or.inl ⟨by rfl, fun w hSw => ?_⟩) ⟨f9a, f9b, f9⟩ ?_
  · (try dsimp only at hSw)
    first
      | (go_simp; done)
      | (go_simp; with_reducible rfl)
      | (go_simp; go_split_ands; simp only [*]; done)
  try simp only [Act.put, List.setIfInBounds_toArray, List.set_cons_zero, List.set_cons_succ]
  refine wpAnyH_take (i := 16) (v := (.slice A a.length c)) (by simp only [List.getElem?_toArray, List.getElem?_cons_succ, List.getElem?_cons_zero]; rfl) (by kernel_rfl) (by kernel_rfl) (by kernel_rfl) (by intro _ _ _ h; exact h) (Or.inl ⟨by rfl, fun w hSw => ?_⟩) ⟨f9a, f9b, f9⟩ ?_
  · (try dsimp only at hSw)
    first
      | (go_simp; done)
      | (go_simp; with_reducible rfl)
      | (go_simp; go_split_ands; simp only [*]; done)
  try simp only [Act.put, List.setIfInBounds_toArray, List.set_cons_zero, List.set_cons_succ]
  refine wpAnyH_take (i := 19) (v := (.slice A a.length c)) (by simp only [List.getElem?_toArray, List.getElem?_cons_succ, List.getElem?_cons_zero]; rfl) (by kernel_rfl) (by kernel_rfl) (by kernel_rfl) (by intro _ _ _ h; exact h) (Or.inl ⟨by rfl, fun w hSw => ?_⟩) ⟨f9a, f9b, f9⟩ ?_
  · (try dsimp only at hSw)
    first
      | (go_simp; done)
      | (go_simp; with_reducible rfl)
      | (go_simp; go_split_ands; simp only [*]; done)
  try simp only [Act.put, List.setIfInBounds_toArray, List.set_cons_zero, List.set_cons_succ]
  refine wpAnyH_take (i := 20) (v := (.int .i64 (a.length : Int))) (by simp only [List.getElem?_toArray, List.getElem?_cons_succ, List.getElem?_cons_zero]; rfl) (by kernel_rfl) (by kernel_rfl) (by kernel_rfl) (by intro _ _ _ h; exact h) (Or.inl ⟨by rfl, fun w hSw => ?_⟩) ⟨f9a, f9b, f9⟩ ?_
  · (try dsimp only at hSw)
    first
      | (go_simp; done)
      | (go_simp; with_reducible rfl)
      | (go_simp; go_split_ands; simp only [*]; done)
  try simp only [Act.put, List.setIfInBounds_toArray, List.set_cons_zero, List.set_cons_succ]
  refine wpAnyH_take (i := 21) (v := (.int .i64 (2 * (a.length : Int)))) (by simp only [List.getElem?_toArray, List.getElem?_cons_succ, List.getElem?_cons_zero]; rfl) (by kernel_rfl) (by kernel_rfl) (by kernel_rfl) (by intro _ _ _ h; exact h) (Or.inl ⟨by rfl, fun w hSw => ?_⟩) ⟨f9a, f9b, f9⟩ ?_
  · (try dsimp only at hSw)
    first
      | (go_simp; done)
      | (go_simp; with_reducible rfl)
      | (go_simp; go_split_ands; simp only [*]; done)
  try simp only [Act.put, List.setIfInBounds_toArray, List.set_cons_zero, List.set_cons_succ]
  refine wpAnyH_ready (rs := [17]) (by kernel_rfl) (by simp) ?_
  refine AllReadyH.cons (by simp only [List.getElem?_toArray, List.getElem?_cons_succ, List.getElem?_cons_zero]; rfl) (fun K hK => ?_) AllReadyH.nil
  go_simp; go_at_call_of 12 (Value.slice A a.length c); refine (batch_n A a.length c a _ rfl (HPA.out.keep0 ho9') (by omega)).mono ?_; rintro e w10 ⟨B10, d10, rfl, hb10, hd10, ho10⟩
  have ho10' := ho9'.new ho10
  have g7 := HSH.out w7 B7 d7 _ HB7.out w10 ((ho8.new ho9).new ho10)
  have g8 := HSH.out w8 B8 d8 _ HB8.out w10 (ho9.new ho10)
  have g9 := HSH.out w9 B9 d9 _ HB9.out w10 ho10
  clear hb10
  try go_wp2_with fail
  refine hK.out _ _ ?_ (fun _ => ?_)
  · exact ⟨g7, g8, g9⟩
  clear hK
  try simp only [Act.put, List.setIfInBounds_toArray, List.set_cons_zero, List.set_cons_succ]
  refine wpAnyH_take (i := 18) (v := (.int .i64 ((dump a).length : Int))) (by simp only [List.getElem?_toArray, List.getElem?_cons_succ, List.getElem?_cons_zero]; rfl) (by kernel_rfl) (by kernel_rfl) (by kernel_rfl) (by intro _ _ _ h; exact h) (Or.inl ⟨by rfl, fun w hSw => ?_⟩) ⟨g7, g8, g9⟩ ?_
  · (try dsimp only at hSw)
    first
      | (go_simp; done)
      | (go_simp; with_reducible rfl)
      | (go_simp; go_split_ands; simp only [*]; done)
  try simp only [Act.put, List.setIfInBounds_toArray, List.set_cons_zero, List.set_cons_succ]
  refine wpAnyH_take (i := 22) (v := (.bool true)) (by simp only [List.getElem?_toArray, List.getElem?_cons_succ, List.getElem?_cons_zero]; rfl) (by kernel_rfl) (by kernel_rfl) (by kernel_rfl) (by intro _ _ _ h; exact h) (Or.inl ⟨by rfl, fun w hSw => ?_⟩) ⟨g7, g8, g9⟩ ?_
  · (try dsimp only at hSw)
    first
      | (go_simp; done)
      | (go_simp; with_reducible rfl)
      | (go_simp; go_split_ands; simp only [*]; done)
  try simp only [Act.put, List.setIfInBounds_toArray, List.set_cons_zero, List.set_cons_succ]
  refine wpAnyH_take (i := 23) (v := (.bool true)) (by simp only [List.getElem?_toArray, List.getElem?_cons_succ, List.getElem?_cons_zero]; rfl) (by kernel_rfl) (by kernel_rfl) (by kernel_rfl) (by intro _ _ _ h; exact h) (Or.inl ⟨by rfl, fun w hSw => ?_⟩) ⟨g7, g8, g9⟩ ?_
  · (try dsimp only at hSw)
    first
      | (go_simp; done)
      | (go_simp; with_reducible rfl)
      | (go_simp; go_split_ands; simp only [*]; done)
  try simp only [Act.put, List.setIfInBounds_toArray, List.set_cons_zero, List.set_cons_succ]
  refine wpAnyH_take (i := 24) (v := (.bool true)) (by simp only [List.getElem?_toArray, List.getElem?_cons_succ, List.getElem?_cons_zero]; rfl) (by kernel_rfl) (by kernel_rfl) (by kernel_rfl) (by intro _ _ _ h; exact h) (Or.inl ⟨by rfl, fun w hSw => ?_⟩) ⟨g7, g8, g9⟩ ?_
  · (try dsimp only at hSw)
    first
      | (go_simp; done)
      | (go_simp; with_reducible rfl)
      | (go_simp; go_split_ands; simp only [*]; done)
  try simp only [Act.put, List.setIfInBounds_toArray, List.set_cons_zero, List.set_cons_succ]
  refine wpAnyH_done (by kernel_rfl) ?_ _
  clear HSH hsz hbq HBE hge m1
  go_wp2
  go_ret
  exact ⟨rfl, HOW.out.new ho10'⟩
theorem follow_walk (A B : Option Addr) (c d : Nat) (a b : List P2) (w : World) (ha : P2s w A a) (hb : P2s w B b) :
    Calls Try.prog 5 #[.slice A a.length c, .slice B b.length d] w fun e w' => e = .returned (.bool true) ∧ Only [] w w' := by
  by_cases h : okB a = false ∨ okB b = false ∨ 1048576 < weight2 a ∨ 1048576 < weight2 b
  · exact follow_bad A B c d a b w ha hb h
  · have h1 : okB a = true := by
      cases hk : okB a with
      | true => rfl
      | false => exact absurd (.inl hk) h
    have h2 : okB b = true := by
      cases hk : okB b with
      | true => rfl
      | false => exact absurd (.inr (.inl hk)) h
    exact follow_good A B c d a b w ha hb h1 h2 (by omega) (by omega)
end Go.Proofs.Ytnebbmbhildomaa
