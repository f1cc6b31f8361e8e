/-
  FnMerge: the walk.
-/
import Derived.Test.YtloflmcgbbbnjaaDoorMrgM13
namespace Go.Proofs.YtloflmcgbbbnjaaDoor
open Go.RowKit Plain
set_option linter.all false

theorem Tryd.info_spl : (Tryd.prog.info? 28).map (fun i => (i.zero, i.size, i.bytes)) = some (some (.slice none 0 0), 1, 24) := by kernel_rfl
theorem mem_total {ls : List PL} {x : PL} (h : x ∈ ls) : x.l.length ≤ (ls.flatMap PL.l).length := by
  induction ls with
  | nil => cases h
  | cons y ls ih =>
    rw [List.flatMap_cons, List.length_append]
    rcases List.mem_cons.1 h with rfl | h
    · omega
    · have := ih h; omega
set_option maxHeartbeats 6400000 in
set_option maxRecDepth 100000 in
theorem fnMerge_walk (A cA kA : Option Addr) (c cc kc : Nat) (ls : List PL) (calls key : List UInt8) (w : World) (h : PLs w A ls) (hcs : BsAt w cA calls) (hk : BsAt w kA key) (hkc : key.length ≤ kc) (ht : (ls.flatMap PL.l).length ≤ 1048576) :
    Calls Tryd.prog 6 #[.slice A ls.length c, .slice cA calls.length cc, .slice kA key.length kc] w fun e w' => e = .returned (.bool true) ∧ Only [] w w' := by
  have HH := hid h
  have HC := hid (show _ ∧ _ from ⟨hcs, hk⟩)
  have HT := hid ht
  cases hf : fits8 ls with
  | false =>
    have HF := hid hf
    clear h hcs hk ht hf
    go_enter Tryd.func6, Tryd.ntmps6
    go_wp2_with fail
    refine (fits8_any A c ls.length ls _ HH.out rfl).mono ?_
    rintro e w1 ⟨rfl, ho1⟩
    rw [HF.out]
    have HO1 := hid ho1
    clear ho1
    go_wp2_with fail
    go_ret
    exact ⟨rfl, HO1.out⟩
  | true =>
    have HF := hid hf
    have hf2 : ls.length ≤ 2147483647 ∧ ∀ x ∈ ls, okP x.l = true := by
      unfold fits8 at hf
      rw [Bool.and_eq_true, decide_eq_true_iff, List.all_eq_true] at hf
      exact hf
    have hls := hf2.1
    have HOK := hid hf2.2
    by_cases hcl : calls.length ≤ 2147483647
    · by_cases hkl : key.length ≤ 2147483647
      · have d1 : decide (2147483647 < (calls.length : Int)) = false := decide_eq_false (by omega)
        have d1' : decide (2147483647 < calls.length) = false := decide_eq_false (by omega)
        have d2 : decide (2147483647 < (key.length : Int)) = false := decide_eq_false (by omega)
        have d2' : decide (2147483647 < key.length) = false := decide_eq_false (by omega)
        obtain ⟨K, hK⟩ : ∃ K, ls.length = K := ⟨_, rfl⟩
        obtain ⟨CN, hCN⟩ : ∃ CN, calls.length = CN := ⟨_, rfl⟩
        obtain ⟨KN, hKN⟩ : ∃ KN, key.length = KN := ⟨_, rfl⟩
        rw [hK] at hls ⊢
        rw [hCN] at hcl d1 d1' ⊢
        rw [hKN] at hkl hkc d2 d2' ⊢
        have HKK := hid (show _ ∧ _ ∧ _ from ⟨hK, hCN, hKN⟩)
        clear h hcs hk ht hf hf2 hK hCN hKN
        go_enter Tryd.func6, Tryd.ntmps6
        go_wp2_with fail
        refine (fits8_any A c K ls _ HH.out HKK.out.1.symm).mono ?_
        rintro e w1 ⟨rfl, ho1⟩
        rw [HF.out]
        have HO1 := hid ho1
        have HH1 := hid (HH.out.keep0 ho1)
        have HOS := hid (Own.start w1)
        clear ho1
        go_wp2_with fail
        go_loopw [7, 8, 32] (fun av nv i wr => ∃ (k k' nn ac : Nat) (aA : Option Addr) (las : List PL) (Fa G : List Fr), i = .int .i64 k ∧ av = .slice aA k' ac ∧ nv = .int .i64 nn ∧ k = k' ∧ k ≤ K ∧ Hid (nn = ((ls.take k).flatMap PL.l).length) ∧ Hid (las.length = k ∧ las.map PL.l = (ls.take k).map PL.l) ∧ Hid (Row 28 1 aA k' ac (las.flatMap PL.cells) Fa) ∧ Hid (∀ x ∈ las, St G w1 fun w => x.Ok w) ∧ Hid (Own (Fa ++ G) w1 wr)) (fun _ _ i _ => K - (intOf i).toNat)
        case atStart => exact ⟨0, 0, 0, 0, none, [], [], [], rfl, rfl, rfl, rfl, Nat.zero_le _, hid rfl, hid ⟨rfl, rfl⟩, hid (Row.nil _ _), hid (by simp), HOS⟩
        case round =>
          clear HOS
          obtain ⟨k, k', nn, ac, aA, las, Fa, G, rfl, rfl, rfl, rfl, hk, HNN, HLA, HR, HST, HO⟩ := hrel
          obtain ⟨w2, rfl⟩ : ∃ w2, w2 = wr := ⟨_, rfl⟩
          by_cases h4 : k < K
          · have h4' : (k : Int) < (K : Int) := by omega
            have hkl2 : k < ls.length := by rw [HKK.out.1]; exact h4
            have hx : ls[k]? = some ls[k] := List.getElem?_eq_getElem hkl2
            have hxm : ls[k] ∈ ls := List.getElem_mem hkl2
            have htk : ls.take (k + 1) = ls.take k ++ [ls[k]] := List.take_succ_eq_append_getElem hkl2
            have htot := take_total ls (k + 1)
            have hps := HH1.out.keep0 HO.out.only
            generalize ls[k] = x at hx hxm htk
            rw [htk, List.flatMap_append, List.length_append, show [x].flatMap PL.l = x.l from by simp, ← HNN.out] at htot
            have htt := HT.out
            obtain ⟨g, o, rfl, p0⟩ := hps.at_ hx
            have HX := hid (HH1.out.ok x hxm)
            have HTK := hid htk
            have i1 : IntKind.i64.wrap ((nn : Int) + (x.l.length : Int)) = ((nn + x.l.length : Nat) : Int) := by rw [i64_id (by omega) (by omega)]; omega
            have hxl : x.l.length ≤ 1048576 := by omega
            have hnt : nn + x.l.length ≤ 1048576 := by omega
            clear hps hx hxm htk htot htt
            go_wp2_with fail
            refine (pairs_own x.A x.c x.l (Fa ++ G) w1 _ (fun w' ho _ => HX.out.hp.keep0 ho) HO.out (by omega)).mono ?_
            rintro e w3 ⟨A3, c3, F3, rfl, hr3, hO3⟩
            have HO3 := hid (hO3.out.perm (L' := Fa ++ (F3 ++ G)) (perm_of fun _ _ z => by simp only [List.count_append, List.count_cons, List.cons_append, List.count_nil, List.nil_append, List.append_nil]; omega))
            have HR3 := hid hr3.out
            clear hr3 hO3 p0
            go_wp2_with (at_builtin; refine own_append rfl (.tmp 36) (.tmp 39) 48 rfl 28 (.slice none 0 0) 1 24 Tryd.underlying48 Tryd.info_spl rfl (by decide) aA k ac (las.flatMap PL.cells) Fa rfl HR.out (R := F3 ++ G) (HO3.out.skip _) (some ⟨w3.heap.size, 0, none⟩) 1 1 [.slice A3 x.l.length c3] rfl rfl (csAt_all _ _ _) (by simp [Value.oneCell']) (by simp [maxLen]; omega) (by omega) ?_; intro aA2 ac2 Fa2 w4 hr4 hO4 _; have HR4 := hid hr4; have HO4 := hid hO4; clear hr4 hO4)
            go_roundw
            case rel =>
              refine ⟨k + 1, k + 1, nn + x.l.length, ac2, aA2, las ++ [⟨A3, c3, x.l⟩], Fa2, F3 ++ G, by go_num, rfl, rfl, rfl, by omega, hid ?_, hid ⟨?_, ?_⟩, hid ?_, hid fun y hy => ?_, HO4⟩
              · rw [HTK.out, List.flatMap_append, List.length_append, HNN.out]; simp
              · rw [List.length_append, HLA.out.1]; rfl
              · rw [HTK.out, List.map_append, List.map_append, HLA.out.2]; rfl
              · rw [List.flatMap_append]; exact HR4.out
              · rcases List.mem_append.1 hy with hy | hy
                · exact (HST.out y hy).right F3
                · rw [List.mem_singleton] at hy
                  subst hy
                  exact fun w' ho hfr => ⟨⟨HR3.out.cs fun z hz => hfr z (List.mem_append_left _ hz), fun r hr => (HX.out.hp.ok r hr).keep0 ho⟩, HR3.out.le, HR3.out.cap⟩
            case measure => simp [intOf]; omega
          · have h4' : ¬ (k : Int) < (K : Int) := by omega
            obtain rfl : K = k := by omega
            have htl : ls.take K = ls := List.take_of_length_le (by rw [HKK.out.1]; exact Nat.le_refl _)
            rw [htl] at HNN HLA
            have hpa : PLs w2 aA las := ⟨HR.out.csO HO.out, fun x hx => (HST.out x hx) w2 HO.out.only fun y hy => HO.out.ins y (List.mem_append_right _ hy)⟩
            have hfl : las.flatMap PL.l = ls.flatMap PL.l := by
              rw [List.flatMap_def, List.flatMap_def, HLA.out.2]
            have HPA := hid hpa
            have HFL := hid hfl
            have HO2 := hid (HO1.out.new HO.out.only)
            have hkr : ∀ x ∈ las, ∀ r ∈ x.l, r.k.length ≤ 2147483647 ∧ r.v.length ≤ 2147483647 := fun x hx r hr => by
              have h1 : x.l ∈ ls.map PL.l := by rw [← HLA.out.2]; exact List.mem_map.2 ⟨x, hx, rfl⟩
              obtain ⟨y, hy, e⟩ := List.mem_map.1 h1
              rw [← e] at hr
              exact (okP_len (HOK.out y hy)).2.2 r hr
            have HKR := hid hkr
            clear hpa hfl htl h4 hkr
            go_wp2_with fail
            have htt := HT.out
            refine (specMerged aA ac K las w2 HPA.out HLA.out.1.symm (by rw [HFL.out]; omega) (by omega) (fun x hx r hr => (HKR.out x hx r hr).1) (fun x hx => by have := mem_total hx; rw [HFL.out] at this; omega)).mono ?_
            rintro e w3 (⟨rfl, ho3⟩ | ⟨m, mA, mc, mn, rfl, hmn, hmg, hmp, ho3⟩)
            · have HO3 := hid (HO2.out.new ho3)
              have hat := mapAt none none 0 0 [] [] w3 ⟨fun i hi => by simp at hi, by simp⟩ (BsAt.nil _ _) (by simp) (by simp) (by simp)
              have HAT := hid hat
              clear ho3 htt hat HPA HKR
              go_wp2_with fail
              refine HAT.out.mono ?_
              rintro e w4 ⟨rfl, hd4⟩
              have HO4 := hid (HO3.out.dr hd4)
              clear hd4
              have hmi : mIs Pr.k ([] : List Pr) [] = false := rfl
              rw [hmi]
              obtain ⟨kb, hkb⟩ : ∃ kb : Bool, ((KN : Int) == 0) = kb := ⟨_, rfl⟩
              cases kb with
              | true =>
                go_wp2_with fail
                go_ret
                exact ⟨rfl, HO4.out⟩
              | false =>
                go_wp2_with fail
                go_ret
                exact ⟨rfl, HO4.out⟩
            · subst hmn
              have HO3 := hid (HO2.out.new ho3.out)
              have HMP := hid hmp.out
              have HMG := hid hmg.out
              have hml : m.length ≤ 1048576 := by rw [hmg.out.2.len, HFL.out]; exact htt
              have hmk : ∀ r ∈ m, r.k.length ≤ 2147483647 ∧ r.v.length ≤ 2147483647 := fun r hr => by
                obtain ⟨x, hx, hrx⟩ := List.mem_flatMap.1 ((hmg.out.2.mem r).1 hr)
                exact HKR.out x hx r hrx
              have HMK := hid hmk
              have hat := mapAt mA none mc 0 m [] w3 hmp.out (BsAt.nil _ _) (by simp) (fun r hr => by have := (hmk r hr).1; omega) (by omega)
              have HAT := hid hat
              obtain ⟨ML, hML⟩ : ∃ ML, m.length = ML := ⟨_, rfl⟩
              rw [hML] at HAT hml ⊢
              have HML := hid hML
              clear ho3 hat HPA hmg hmp hmk hML
              go_wp2_with fail
              refine HAT.out.mono ?_
              rintro e w4 ⟨rfl, hd4⟩
              have HO4 := hid (HO3.out.dr hd4)
              have HMP4 := hid (HMP.out.keep0 hd4.only)
              obtain ⟨at0, hat0⟩ : ∃ at0, mAt Pr.k m [] = at0 := ⟨_, rfl⟩
              rw [hat0]
              clear hd4 hat0 HMP
              cases his : mIs Pr.k m [] with
              | true =>
                go_wp2_with fail
                go_ret
                exact ⟨rfl, HO4.out⟩
              | false =>
                have HIS := hid his
                clear his
                by_cases hk0 : KN = 0
                · have z1 : ((KN : Int) == 0) = true := by rw [hk0]; rfl
                  go_wp2_with fail
                  go_ret
                  exact ⟨rfl, HO4.out⟩
                · have z1 : ((KN : Int) == 0) = false := by rw [beq_eq_false_iff_ne]; omega
                  by_cases h300 : 300 < nn
                  · have z2 : decide (300 < (nn : Int)) = true := decide_eq_true (by omega)
                    have z2' : decide (300 < nn) = true := decide_eq_true h300
                    go_wp2_with fail
                    go_ret
                    exact ⟨rfl, HO4.out⟩
                  · have z2 : decide (300 < (nn : Int)) = false := decide_eq_false (by omega)
                    have z2' : decide (300 < nn) = false := decide_eq_false h300
                    by_cases hc3 : 300 < CN
                    · have z3 : decide (300 < (CN : Int)) = true := decide_eq_true (by omega)
                      have z3' : decide (300 < CN) = true := decide_eq_true hc3
                      go_wp2_with fail
                      go_ret
                      exact ⟨rfl, HO4.out⟩
                    · have z3 : decide (300 < (CN : Int)) = false := decide_eq_false (by omega)
                      have z3' : decide (300 < CN) = false := decide_eq_false hc3
                      have hne : ∀ r ∈ m, r.k ≠ [] := fun r hr e => by
                        have := (mIs_iff Pr.k HMG.out.1.asc []).2 ⟨r, hr, e⟩
                        rw [HIS.out] at this; cases this
                      have HNE := hid hne
                      clear hne
                      go_wp2_with fail
                      obtain ⟨hK, hCN, hKN⟩ := HKK.out
                      have hpl4 : PLs w4 A ls := HH.out.keep0 HO4.out
                      refine (implMerge A cA kA K c CN cc KN kc ls m calls key [] w4 w4 (fun w' ho _ => hpl4.keep0 ho) hK.symm (by omega) (by rw [← HLA.out.2]; exact HMG.out.1) HMK.out HNE.out (fun x hx => by have := mem_total hx; omega) (Rd.old (HC.out.1.keep0 HO4.out) []) (Rd.old (HC.out.2.keep0 HO4.out) []) hCN.symm hKN.symm hkc (by omega) (by omega) (Own.start w4)).mono ?_
                      rintro e w5 ⟨A5, B5, c5, d5, l5, G5, rfl, h51, h52, h53, h54⟩
                      have hO5 := h54.out
                      rw [List.append_nil] at hO5
                      have hP5 := h52.out w4 w5 hO5.only fun y hy => hO5.ins y hy
                      have hV5 := h53.out w4 w5 hO5.only fun y hy => hO5.ins y hy
                      have HW := hid (walked_true A5 B5 mA cA kA c5 d5 mc cc kc CN ML 0 false l5 m calls key w5 hP5 hV5 (HMP4.out.keep0 hO5.only) ((HC.out.1.keep0 HO4.out).keep0 hO5.only) ((HC.out.2.keep0 HO4.out).keep0 hO5.only) (by omega) (fun r hr => by have := (HMK.out r hr).1; omega) (by rw [HML.out]; omega) (by omega) hCN.symm (by rw [h51.out.1, hCN]) HML.out.symm h51.out.2 CN KN hCN.symm hKN.symm)
                      have HO5 := hid (HO4.out.new hO5.only)
                      clear hK hCN hKN hpl4 h51 h52 h53 h54 hO5 hP5 hV5
                      go_wp2_with fail
                      refine HW.out.mono ?_
                      rintro e w6 ⟨rfl, ho6⟩
                      have HO6 := hid (HO5.out.new ho6)
                      clear ho6
                      go_wp2_with fail
                      go_ret
                      exact ⟨rfl, HO6.out⟩
      · have d1 : decide (2147483647 < (calls.length : Int)) = false := decide_eq_false (by omega)
        have d1' : decide (2147483647 < calls.length) = false := decide_eq_false (by omega)
        have d2 : decide (2147483647 < (key.length : Int)) = true := decide_eq_true (by omega)
        have d2' : decide (2147483647 < key.length) = true := decide_eq_true (by omega)
        clear h hcs hk ht hf hf2
        go_enter Tryd.func6, Tryd.ntmps6
        go_wp2_with fail
        refine (fits8_any A c ls.length ls _ HH.out rfl).mono ?_
        rintro e w1 ⟨rfl, ho1⟩
        rw [HF.out]
        have HO1 := hid ho1
        clear ho1
        go_wp2_with fail
        go_ret
        exact ⟨rfl, HO1.out⟩
    · have d1 : decide (2147483647 < (calls.length : Int)) = true := decide_eq_true (by omega)
      have d1' : decide (2147483647 < calls.length) = true := decide_eq_true (by omega)
      clear h hcs hk ht hf hf2
      go_enter Tryd.func6, Tryd.ntmps6
      go_wp2_with fail
      refine (fits8_any A c ls.length ls _ HH.out rfl).mono ?_
      rintro e w1 ⟨rfl, ho1⟩
      rw [HF.out]
      have HO1 := hid ho1
      clear ho1
      go_wp2_with fail
      go_ret
      exact ⟨rfl, HO1.out⟩
end Go.Proofs.YtloflmcgbbbnjaaDoor
