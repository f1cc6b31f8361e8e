/-
  impl.Filter, impl.InFilter: what they return.
-/
import Derived.Test.YtloflmcgbbbnjaaGenerate
import Derived.Test.YtloflmcgbbbnjaaCopied
import Derived.Test.YtloflmcgbbbnjaaBss
namespace Go.Proofs.Ytloflmcgbbbnjaa
open Go.RowKit Plain
set_option linter.all false

set_option maxHeartbeats 400000 in
theorem newBloom (n : Int) (w : World) : Calls Try.prog 12 #[.int .i64 n] w fun e w' => e = .returned (.iface 64 (.int .i64 n)) ∧ w = w' := by
  go_enter Try.func12, Try.ntmps12
  go_wp2
  go_ret
  exact ⟨rfl, rfl⟩
/-- How many probes for so many bits a key. -/
def probes (n : Nat) : Nat := if n * 69 / 100 < 1 then 1 else if 30 < n * 69 / 100 then 30 else n * 69 / 100
theorem probes_le (n : Nat) : probes n ≤ 30 := by
  unfold probes
  generalize n * 69 / 100 = p
  split
  · omega
  · split <;> omega
def NewGenOut (n : Nat) (R : List Fr) (w0 : World) (e : Ending) (w' : World) : Prop :=
  ∃ gp F, e = .returned (.iface 109 (.pointer (some ⟨gp, 0, none⟩))) ∧ GenF gp n (probes n) [] F ∧ Own (F ++ R) w0 w'
set_option maxHeartbeats 800000 in
theorem newGen (n : Nat) (hn : n ≤ 100) (R : List Fr) (w0 w : World) (hO : Own R w0 w) :
    Calls Try.prog 55 #[.int .i64 n] w (NewGenOut n R w0) := by
  have q2 : (n : Int) * 69 / 100 = ((n * 69 / 100 : Nat) : Int) := by push_cast; rfl
  have q1 : ((n : Int) * 69 / 100) % 256 = ((n * 69 / 100 : Nat) : Int) := by rw [q2]; omega
  obtain ⟨p, hp⟩ : ∃ p, n * 69 / 100 = p := ⟨_, rfl⟩
  have hpb : p ≤ 69 := by omega
  have HP := hid (show probes n = if p < 1 then 1 else if 30 < p then 30 else p by unfold probes; rw [hp])
  rw [hp] at q1 q2
  clear hp
  rcases Nat.lt_or_ge p 1 with h1 | h1
  · have h1' : (p : Int) < 1 := by omega
    rw [if_pos h1] at HP
    go_enter Try.func55, Try.ntmps55
    go_wp2
    go_ret
    refine ⟨_, _, rfl, ⟨none, 0, [], Row.nil _ _, rfl⟩, ?_⟩
    rw [HP.out]
    exact hO.alloc (w := w) _ _
  · have h1' : ¬ (p : Int) < 1 := by omega
    rcases Nat.lt_or_ge 30 p with h2 | h2
    · have h2' : 30 < (p : Int) := by omega
      rw [if_neg (by omega), if_pos h2] at HP
      go_enter Try.func55, Try.ntmps55
      go_wp2
      go_ret
      refine ⟨_, _, rfl, ⟨none, 0, [], Row.nil _ _, rfl⟩, ?_⟩
      rw [HP.out]
      exact hO.alloc (w := w) _ _
    · have h2' : ¬ 30 < (p : Int) := by omega
      rw [if_neg (by omega), if_neg (by omega)] at HP
      go_enter Try.func55, Try.ntmps55
      go_wp2
      go_ret
      refine ⟨_, _, rfl, ⟨none, 0, [], Row.nil _ _, rfl⟩, ?_⟩
      rw [HP.out]
      exact hO.alloc (w := w) _ _
theorem method_ng (d : Nat) (v : Value) (w : World) : (method (d + 1) 64 v "NewGenerator").run Try.prog w = .ok (55, v) w := by kernel_rfl
theorem method_ct (d : Nat) (v : Value) (w : World) : (method (d + 1) 64 v "Contains").run Try.prog w = .ok (53, v) w := by kernel_rfl
theorem method_add (d : Nat) (v : Value) (w : World) : (method (d + 1) 109 v "Add").run Try.prog w = .ok (65, v) w := by kernel_rfl
theorem method_gen (d : Nat) (v : Value) (w : World) : (method (d + 1) 109 v "Generate").run Try.prog w = .ok (66, v) w := by kernel_rfl
set_option maxHeartbeats 800000 in
theorem inFilter_any (g o c kc m : Nat) (kA : Option Addr) (X key : List UInt8) (w : World) (hX : BsAt w (some ⟨g, o, none⟩) X) (hm : X.length = m + 1) (hm0 : 0 < m) (hm1 : m ≤ 100000000) (hk30 : (at_ X m).toNat ≤ 30)
    (hk : BsAt w kA key) (hkl : key.length ≤ 2147483647) (hkc : key.length ≤ kc) (n : Nat) (hn : n = X.length) :
    Calls Try.prog 7 #[.slice (some ⟨g, o, none⟩) n c, .slice kA key.length kc] w fun e w' => e = .returned (.bool (inF X m key)) ∧ Only [] w w' := by
  have hmt := method_ct
  have HC := hid (contains_any (.int .i64 10) g o c kc m kA X key w hX hm hm0 hm1 hk30 hk hkl hkc n hn)
  clear hX hm hk30 hk hn
  go_enter Try.func7, Try.ntmps7
  go_wp2_with (first
    | (go_at_call 12; refine (newBloom _ _).mono ?_; rintro e w1 ⟨rfl, rfl⟩)
    | (go_at_call 53; refine HC.out.mono ?_; rintro e w1 ⟨rfl, ho⟩))
  go_ret
  exact ⟨rfl, ho⟩
theorem buf_zero : ∃ zc : Array Value, zc.toList = [.slice none 0 0, .int .i64 0] ++ List.replicate 64 (.int .u8 0) ∧ (∀ W, (zeroValue 45).run Try.prog W = .ok (.agg zc) W) ∧ ¬ zc = #[] :=
  ⟨(([.slice none 0 0, .int .i64 0] : List Value) ++ List.replicate 64 (Value.int .u8 0)).toArray, by simp, fun W => by kernel_rfl, by simp⟩
/-- The filter of these keys. -/
def FilterOut (n : Nat) (l : List Bs) (R : List Fr) (w0 : World) (e : Ending) (w' : World) : Prop :=
  ∃ P : List UInt8, P.length = fbytes (l.length * n) + 1 ∧ (at_ P (fbytes (l.length * n))).toNat = probes n ∧
    (∀ r ∈ l, hasKey (8 * (fbytes (l.length * n) : Int)) (rot (bhash r.l)) P (probes n) (bhash r.l) = true) ∧ RetH R w0 P e w'
theorem buf_new {g : Nat} {R : List Fr} {w0 w : World} {t : TypeId} (h : Own (fw g t ([.slice none 0 0, .int .i64 0] ++ List.replicate 64 (.int .u8 0)) :: R) w0 w) : ∃ F, BufF g 0 [] F ∧ Own (F ++ R) w0 w :=
  ⟨[fp g 0 [.slice none 0 0, .int .i64 0], fp g 2 (List.replicate 64 (.int .u8 0))], .inl ⟨rfl, _, ⟨by simp, _, bc_zeros 64⟩, rfl⟩, h.part.split (k := 2) rfl⟩
set_option maxHeartbeats 3200000 in
set_option maxRecDepth 100000 in
theorem filter_any (A : Option Addr) (c n : Nat) (l : List Bs) (w : World) (h : Bss w A l) (hn : n ≤ 100) (hl : l.length ≤ 1000) (hk : ∀ r ∈ l, r.l.length ≤ 2147483647) :
    Calls Try.prog 6 #[.slice A l.length c, .int .i64 n] w (FilterOut n l [] w) := by
  have hm1 := method_ng
  have hm2 := method_add
  have hm3 := method_gen
  obtain ⟨zc, hz, hzv, hzn⟩ := buf_zero
  have HZ := hid hz
  have HK := hid hk
  clear hz hk
  go_enter Try.func6, Try.ntmps6
  go_wp2_with (first
    | (go_at_call 12; refine (newBloom _ _).mono ?_; rintro e w1 ⟨rfl, rfl⟩)
    | (go_at_call 55; refine (newGen n hn [] w w (Own.start w)).mono ?_; rintro e w1 ⟨gp, F, rfl, hG, hO⟩; have HG := hid hG; have HO := hid hO; clear hG hO))
  go_loopw [14] (fun i wr => ∃ (j : Nat) (F : List Fr), i = .int .i64 j ∧ j ≤ l.length ∧ GenF gp n (probes n) ((l.take j).map fun r => bhash r.l) F ∧ Own (F ++ []) w wr) (fun i _ => l.length - (intOf i).toNat)
  case atStart => exact ⟨0, F, rfl, Nat.zero_le _, HG.out, HO.out⟩
  case round =>
    obtain ⟨j, F1, rfl, hj, hG, hO⟩ := hrel
    by_cases h4 : j < l.length
    · have h4' : (j : Int) < (l.length : Int) := by omega
      have hr : l[j]? = some l[j] := List.getElem?_eq_getElem h4
      have hmem : l[j] ∈ l := List.getElem_mem h4
      have ht : (l.take (j + 1)).map (fun r => bhash r.l) = (l.take j).map (fun r => bhash r.l) ++ [bhash l[j].l] := by rw [List.take_succ_eq_append_getElem h4, List.map_append]; rfl
      generalize l[j] = r at hr hmem ht
      have hok := h.ok r hmem
      have hkl := HK.out r hmem
      obtain ⟨g, o, rfl, c1⟩ := (h.keep0 hO.only).at_ hr
      obtain ⟨HS, hHS⟩ : ∃ HS, (l.take j).map (fun r => bhash r.l) = HS := ⟨_, rfl⟩
      have hHl : HS.length ≤ 1000 := by rw [← hHS, List.length_map, List.length_take]; omega
      rw [hHS] at hG ht
      have hC := gen_add gp n (probes n) r.c r.a HS r.l F1 [] w wr hG hO (Rd.old hok.hb []) hkl hok.hc (by omega)
      rw [← ht] at hC
      have HC := hid hC
      clear hC hG hO ht
      go_wp2_with (go_at_call 65; refine HC.out.mono ?_; rintro e w4 ⟨rfl, F2, hG2, hO2⟩)
      exact ⟨⟨j + 1, F2, rfl, h4, hG2, hO2⟩, by simp [intOf]; omega⟩
    · have h4' : ¬ (j : Int) < (l.length : Int) := by omega
      rw [List.take_of_length_le (by omega)] at hG
      have HG1 := hid hG
      have HO1 := hid hO
      clear hG hO
      go_wp2_with fail
      have hOa := HO1.out.allocA rfl 45 zc
      rw [HZ.out] at hOa
      obtain ⟨Fb, hFb, hOb⟩ := buf_new hOa
      have hG1 := HG1.out
      obtain ⟨HS, hHS⟩ : ∃ HS, l.map (fun r => bhash r.l) = HS := ⟨_, rfl⟩
      have hHl : HS.length = l.length := by rw [← hHS, List.length_map]
      have hHw : ∀ y ∈ HS, 0 ≤ y ∧ y < 4294967296 := fun y hy => by
        rw [← hHS] at hy
        obtain ⟨r, _, rfl⟩ := List.mem_map.1 hy
        exact bhash_wf r.l
      have hHm : ∀ r ∈ l, bhash r.l ∈ HS := fun r hr => by rw [← hHS]; exact List.mem_map.2 ⟨r, hr, rfl⟩
      rw [hHS] at hG1
      have hC := gen_generate gp n (probes n) wr.heap.size 0 HS [] F1 Fb [] w _ hG1 hFb (hOb.perm (perm_of fun _ _ z => by simp only [List.count_append, List.count_cons, List.cons_append, List.count_nil, List.nil_append, List.append_nil]; omega)) hn (probes_le n) (by omega) (by simp) hHw
      have HC := hid hC
      have HHL := hid hHl
      have HHM := hid hHm
      clear hG1 hHS hHl hHw hHm
      clear hOa hFb hOb hC HG1 HO1
      refine HC.out.mono ?_
      rintro e w4 ⟨rfl, P, F3, Fb2, hPl, hPk, hPh, hG2, hB2, hO2⟩
      rw [HHL.out] at hPl hPk hPh
      rw [List.nil_append] at hB2
      have hb2 := bytes_buf wr.heap.size 0 P Fb2 (F3 ++ []) w w4 hB2 (hO2.perm (perm_of fun _ _ z => by simp only [List.count_append, List.count_cons, List.cons_append, List.count_nil, List.nil_append, List.append_nil]; omega))
      have HB2 := hid hb2
      have HO2 := hid hO2
      have HPL := hid hPl
      have HPK := hid hPk
      have HPH := hid hPh
      clear hPl hPk hPh hG2 hB2 hO2 hb2 HC
      go_wp2_with (go_at_call 14; refine HB2.out.mono ?_; rintro e w5 ⟨A5, c5, rfl, hc5, hR5, hd5⟩; have hO5 := HO2.out.dr hd5; have hb5 := hO5.st hR5 (fun x hx => by simp [hx]); have HO5 := hid hO5; have HB5 := hid hb5; clear hO5 hb5 hR5 hd5)
      have hpl : P.length ≤ 140737488355328 := by
        rw [HPL.out]
        unfold fbytes
        have := Nat.mul_le_mul hl hn
        omega
      refine (copied_own A5 _ c5 P [] w _ HB5.out (HO5.out.sub (List.nil_sublist _)) rfl hpl).mono ?_
      intro e w6 hret
      obtain ⟨A6, c6, F6, n6, hn6, rfl, hr6, hO6⟩ := hret
      go_wp2_with fail
      go_ret
      exact ⟨P, HPL.out, HPK.out, fun r hr => HPH.out _ (HHM.out r hr), A6, c6, F6, n6, hn6, rfl, hr6, hO6⟩
end Go.Proofs.Ytloflmcgbbbnjaa
