/-
  spec.ReadTable: a table by the format is read as its pairs.
-/
import Derived.Test.YtloflmcgbbbnjaaDoorTabM15
import Derived.Test.YtloflmcgbbbnjaaDoorTabM16
namespace Go.Proofs.YtloflmcgbbbnjaaDoor
open Go.RowKit Plain
set_option linter.all false

theorem part_n (A hA : Option Addr) (c hc n m : Nat) (b pre blk post hd hr : List UInt8) (w : World) (h : BsAt w A b) (hb : b = pre ++ (blk ++ trail blk) ++ post) (hh : BsAt w hA hd) (hhd : hd = handle pre.length blk.length ++ hr)
    (hbl : b.length ≤ 1099511627776) (hdl : hd.length ≤ 1099511627776) (hbc : b.length ≤ c) (hdc : hd.length ≤ hc) (hn : n = b.length) (hm : m = hd.length) :
    Calls Tryd.prog 48 #[.slice A n c, .slice hA m hc] w (PartOut blk (handle pre.length blk.length).length c w) := by
  subst hn; subst hm
  exact part_any A hA c hc b pre blk post hd hr w h hb hh hhd hbl hdl hbc hdc
def RBw (L : List KV) (w : World) (e : Ending) (w' : World) : Prop :=
  ∃ (A : Option Addr) (c n : Nat) (l : List Pr) (F : List Fr), e = .returned (.tuple #[.slice A n c, .bool true]) ∧ n = l.length ∧ Hid (kvs l = L) ∧ n ≤ c ∧ c ≤ maxLen ∧ Hid (∀ wb, St F wb fun w => Prs w A l) ∧ Hid (Own F w w')
theorem readBlock_w (A : Option Addr) (c n rs : Nat) (L : List KV) (b : List UInt8) (w : World) (hb : BsAt w A b) (hbb : b = blockB rs [] L 0) (hn : n = b.length) (hc : n ≤ c) (hcm : c ≤ 9223372036854775807) (hrs : 0 < rs) (hw : kvw L ≤ 100000000) :
    Calls Tryd.prog 49 #[.slice A n c] w (RBw L w) := by
  refine (readBlock_any A c n rs L b [] w w (Rd.old hb []) hbb hn hc hcm hrs hw (Own.start w)).mono ?_
  rintro e w' ⟨A', c', n', l, F, h1, h2, h3, h4, h5, h6, h7⟩
  refine ⟨A', c', n', l, F, h1, h2, h3, h4, h5, h6, ?_⟩
  have := h7.out
  rw [List.append_nil] at this
  exact hid this
/-- What the reader of a table wants of it. -/
structure TabR (rs : Nat) (T : List UInt8) (L : List KV) (cl : List (List KV)) (E M : List KV) (fo : List UInt8) : Prop where
  tab : TabB rs T cl E M fo
  flat : cl.flatten = L
  ord : ordB L = true
  kl : kvw L ≤ 1048576
  ke : kvw E ≤ 100000000
  km : kvw M ≤ 400
  el : E.length = cl.length
  ne : ∀ b ∈ cl, b ≠ []
  up : ∀ i, i < cl.length → cmpI (lastK (cl.getD i [])) (key E i) ≤ 0
  last : ∀ i k, i + 1 = E.length → k < L.length → cmpI (key L k) (key E i) ≤ 0
  len : T.length ≤ 1099511627776
  rs : 0 < rs
theorem flat_len : ∀ {cl : List (List KV)}, (∀ b ∈ cl, b ≠ []) → cl.length ≤ cl.flatten.length
  | [], _ => by simp
  | b :: cl, h => by
    have h5 := List.length_pos_iff.2 (h b (by simp))
    have h6 := flat_len (cl := cl) fun x hx => h x (List.mem_cons_of_mem _ hx)
    simp only [List.flatten_cons, List.length_append, List.length_cons]; omega
theorem pr_len (l : List Pr) : (l.flatMap Pr.cells).length = l.length * 2 := flat_length Pr.cells 2 Pr.cells_length l
def RTOut (L : List KV) (on : Bool) (w : World) (e : Ending) (w' : World) : Prop :=
  ∃ (A : Option Addr) (c n : Nat) (l : List Pr), e = .returned (.tuple #[.slice A n c, .bool on, .bool true]) ∧ n = l.length ∧ Hid (kvs l = L) ∧ Hid (Prs w' A l) ∧ Hid (Only [] w w')

set_option maxHeartbeats 6400000 in
set_option maxRecDepth 100000 in
theorem readTable_any (A : Option Addr) (c n rs : Nat) (T fo : List UInt8) (L E M : List KV) (cl : List (List KV)) (w : World) (h : BsAt w A T) (hn : n = T.length) (hc : n ≤ c) (hcm : c ≤ 9223372036854775807) (hT : TabR rs T L cl E M fo) :
    Calls Tryd.prog 21 #[.slice A n c] w (RTOut L (decide (0 < M.length)) w) := by
  have hl48 := hT.tab.len
  have hlen := hT.len
  rw [← hn] at hl48 hlen
  obtain ⟨g, o, rfl, _⟩ := h 0 (by omega)
  obtain ⟨q8, hq8⟩ : ∃ q8, n - 8 = q8 := ⟨_, rfl⟩
  obtain ⟨q48, hq48⟩ : ∃ q48, n - 48 = q48 := ⟨_, rfl⟩
  have e1 : IntKind.i64.wrap ((n : Int) - 8) = (q8 : Int) := by rw [i64_id (by omega) (by omega)]; omega
  have e2 : IntKind.i64.wrap ((n : Int) - 48) = (q48 : Int) := by rw [i64_id (by omega) (by omega)]; omega
  have t1 : decide ((n : Int) < 48) = false := decide_eq_false (by omega)
  have t1' : ¬ (n : Int) < 48 := by omega
  have y1 : ¬ c = q8 := by omega
  have y2 : ¬ c = q48 := by omega
  have y3 : (q8 : Int) ≤ (n : Int) := by omega
  have y4 : (q48 : Int) ≤ (q8 : Int) := by omega
  have y5 : (q8 : Int) ≤ (c : Int) := by omega
  have h8 : BsAt w (some ⟨g, o + q8, none⟩) magicB := by
    have := h.drop q8
    rw [← hq8, hn, hT.tab.mag] at this
    rw [← hq8, hn]; exact this
  have h48 : BsAt w (some ⟨g, o + q48, none⟩) fo := by
    have := (h.drop q48).take 40
    rw [← hq48, hn, hT.tab.foot] at this
    rw [← hq48, hn]; exact this
  have hfo : fo.length = 40 := by rw [← hT.tab.foot, List.length_take, List.length_drop, ← hn]; omega
  have hn8 : n - q8 = 8 := by omega
  have hn40 : q8 - q48 = 40 := by omega
  have hmg : leI magicB = 15800726617472432983 := by decide
  obtain ⟨pre, post, hTe, r, hfr, pre', post', hTe', r', hr'⟩ := hT.tab.mt
  have hmb := block_len (rs := 1) (L := M) (by omega) (by have := hT.km; omega)
  have hib := block_len (rs := 1) (L := E) (by omega) (by have := hT.ke; omega)
  obtain ⟨mb, hmbe⟩ : ∃ mb, blockB 1 [] M 0 = mb := ⟨_, rfl⟩
  obtain ⟨ib, hibe⟩ : ∃ ib, blockB 1 [] E 0 = ib := ⟨_, rfl⟩
  rw [hmbe] at hTe hfr hmb
  rw [hibe] at hTe' hr' hib
  obtain ⟨n1, hn1⟩ : ∃ n1, (handle pre.length mb.length).length = n1 := ⟨_, rfl⟩
  have hn1l : n1 + r.length = 40 := by rw [← hn1, ← hfo, hfr, List.length_append]
  have hrd : fo.drop n1 = r := by rw [hfr, ← hn1, List.drop_left]
  have hp2 : 0 < (handle pre'.length ib.length).length := by
    have := uv_pos pre'.length
    show 0 < (uv pre'.length ++ uv ib.length).length
    rw [List.length_append]; omega
  have hrl : 0 < r.length := by rw [hr', List.length_append]; omega
  have y6 : ¬ c - q48 = n1 := by omega
  have y7 : (n1 : Int) ≤ 40 := by omega
  have HT := hid hT
  have HH := hid h
  have H8 := hid h8
  have H48 := hid h48
  have HN := hid (show _ ∧ _ ∧ _ ∧ _ from ⟨hn, hn8, hn40, hfo⟩)
  have HTE := hid (show _ ∧ _ ∧ _ ∧ _ from ⟨hTe, hfr, hTe', hr'⟩)
  have HMB := hid (show _ ∧ _ ∧ _ ∧ _ from ⟨hmbe, hibe, hmb, hib⟩)
  have HN1 := hid (show _ ∧ _ ∧ _ from ⟨hn1, hn1l, hrd⟩)
  have y8 : n1 ≤ 40 := by omega
  have hq48c : q48 ≤ c := by omega
  have hq48c' : q48 + 40 ≤ c := by omega
  clear h h8 h48 hn hq8 hq48 hn8 hn40 hTe hfr hTe' hr' hmbe hibe hmb hib hn1 hn1l hrd hrl hp2 hT hfo
  go_enter Tryd.func21, Tryd.ntmps21
  go_wp2_with fail
  refine (unlittle_any _ _ _ magicB _ H8.out (by decide) HN.out.2.1).mono ?_
  rintro e w1 ⟨rfl, hd1⟩
  rw [hmg]
  have HO1 := hid hd1.only
  have HH1 := hid (HH.out.keep0 hd1.only)
  have H481 := hid (H48.out.keep0 hd1.only)
  clear hd1 HH H8 H48 hmg
  go_wp2_with fail
  obtain ⟨hTe, hfr, hTe', hr'⟩ := HTE.out
  obtain ⟨hn, hn8, hn40, hfo⟩ := HN.out
  refine (part_n _ _ c (c - q48) n (q8 - q48) T pre mb post fo r _ HH1.out hTe H481.out hfr (by omega) (by omega) (by omega) (by omega) hn (by omega)).mono ?_
  rintro e w2 ⟨mA, mc, rfl, hmc, hmc2, hmB, hO2⟩
  rw [HN1.out.1]
  have HMBY := hid hmB.out
  have HO2 := hid (HO1.out.new hO2.out)
  have HH2 := hid (HH1.out.keep0 hO2.out)
  have h482 := (H481.out.keep0 hO2.out).drop n1
  rw [HN1.out.2.2] at h482
  have H482 := hid h482
  clear hTe hfr hTe' hr' hn hn8 hn40 hfo hmB hO2 h482 HO1 HH1 H481 t1 t1' e1 e2 y1 y2 y3 y4 y5
  have y9 : (n1 : Int) ≤ ((q8 - q48 : Nat) : Int) := by have := HN.out.2.2.1; omega
  go_wp2_with fail
  obtain ⟨hTe, hfr, hTe', hr'⟩ := HTE.out
  obtain ⟨hn, hn8, hn40, hfo⟩ := HN.out
  obtain ⟨hn1, hn1l, hrd⟩ := HN1.out
  refine (part_n _ _ c (c - q48 - n1) n (q8 - q48 - n1) T pre' ib post' r r' _ HH2.out hTe' H482.out hr' (by omega) (by omega) (by omega) (by omega) hn (by omega)).mono ?_
  rintro e w3 ⟨iA, ic, rfl, hic, hic2, hiB, hO3⟩
  have HIBY := hid hiB.out
  have HMBY3 := hid (HMBY.out.keep0 hO3.out)
  have HO3 := hid (HO2.out.new hO3.out)
  have HH3 := hid (HH2.out.keep0 hO3.out)
  obtain ⟨n2, hn2⟩ : ∃ n2, (handle pre'.length ib.length).length = n2 := ⟨_, rfl⟩
  rw [hn2]
  clear hTe hfr hTe' hr' hn hn8 hn40 hfo hn1 hn1l hrd hiB hO3 H482 HO2 HH2 HMBY hn2 y6 y7 y8 y9 hq48c hq48c'
  go_wp2_with fail
  refine (readBlock_w mA mc mb.length 1 M mb _ HMBY3.out HMB.out.1.symm rfl hmc (by omega) (by omega) (by have := HT.out.km; omega)).mono ?_
  rintro e w4 ⟨mA', mc', mn, ml, mF, rfl, hmn, hml, _, _, _, hmO⟩
  have HML := hid (show mn = M.length by rw [hmn, ← kvs_length, hml.out])
  have HIB4 := hid (HIBY.out.keep0 hmO.out.only)
  have HO4 := hid (HO3.out.new hmO.out.only)
  have HH4 := hid (HH3.out.keep0 hmO.out.only)
  clear hmn hml hmO HO3 HH3 HIBY HMBY3 hmc hmc2
  go_wp2_with fail
  refine (readBlock_w iA ic ib.length 1 E ib _ HIB4.out HMB.out.2.1.symm rfl hic (by omega) (by omega) HT.out.ke).mono ?_
  rintro e w5 ⟨eA, ec, en, el, eF, rfl, hen, hel, hec, hec2, heP, heO⟩
  subst hen
  have heP5 : Prs w5 eA el := heP.out w4 w5 heO.out.only fun x hx => heO.out.ins x hx
  have HEL := hid hel.out
  have HEP := hid heP5
  have HO5 := hid (HO4.out.new heO.out.only)
  have HH5 := hid (HH4.out.keep0 heO.out.only)
  have HOS := hid (Own.start w5)
  have hell : el.length = cl.length := by rw [← kvs_length, hel.out, HT.out.el]
  have helb : el.length ≤ 1048576 := by
    have h1 := kvw_len cl.flatten
    rw [HT.out.flat] at h1
    have h2 := HT.out.kl
    have h3 := flat_len HT.out.ne
    rw [HT.out.flat] at h3
    omega
  have HELL := hid hell
  clear hel heP heO heP5 HO4 HH4 HIB4 hic hic2 hell
  go_wp2_with fail
  go_loopw [83, 2] (fun i pv wr => ∃ (k pn pc : Nat) (pA : Option Addr) (l : List Pr) (Fo G : List Fr), i = .int .i64 k ∧ pv = .slice pA pn pc ∧ k ≤ el.length ∧ Hid (pn = l.length) ∧ Hid (kvs l = (cl.take k).flatten) ∧ Hid (Row 38 2 pA pn pc (l.flatMap Pr.cells) Fo) ∧ Hid (∀ r ∈ l, ∀ wb, St G wb fun w => r.Ok w) ∧ Hid (Own (Fo ++ G) w5 wr)) (fun i _ _ => el.length - (intOf i).toNat)
  case atStart => exact ⟨0, 0, 0, none, [], [], [], rfl, rfl, Nat.zero_le _, hid rfl, hid rfl, hid (Row.nil _ _), hid (by simp), HOS⟩
  case round =>
    obtain ⟨k, pn, pc, pA, l, Fo, G, rfl, rfl, hk, HPN, HKV, HROW, HOK, HO⟩ := hrel
    obtain ⟨w6, rfl⟩ : ∃ w6, w6 = wr := ⟨_, rfl⟩
    clear HOS
    by_cases h4 : k < el.length
    · have h4' : (k : Int) < (el.length : Int) := by omega
      have hx : el[k]? = some el[k] := List.getElem?_eq_getElem h4
      have hmem : el[k] ∈ el := List.getElem_mem h4
      have hps := HEP.out.keep0 HO.out.only
      generalize el[k] = r at hx hmem
      have kx := key_kvs hx
      have vx := val_kvs hx
      rw [HEL.out] at kx vx
      obtain ⟨eg, eo, rfl, p0, p1⟩ := hps.at_ hx
      have hok := hps.ok r hmem
      obtain ⟨pb, hpb⟩ : ∃ pb, w6.heap.size = pb := ⟨_, rfl⟩
      have hO6 := HO.out.alloc' hpb 38 r.cells
      have q0 : (w6.alloc (.cells #[.slice r.ka r.k.length r.kc, .slice r.va r.v.length r.vc] 38)).cell? ⟨pb, 0, none⟩ = some (.slice r.ka r.k.length r.kc) := hO6.cell 0 rfl (k := 0) 0 rfl (by simp [Pr.cells])
      have q1 : (w6.alloc (.cells #[.slice r.ka r.k.length r.kc, .slice r.va r.v.length r.vc] 38)).cell? ⟨pb, 1, none⟩ = some (.slice r.va r.v.length r.vc) := hO6.cell 0 rfl (k := 1) 1 rfl (by simp [Pr.cells])
      have HX := hid (show _ ∧ _ from ⟨kx, vx⟩)
      have HRK := hid (hok.keep0 ((Only.refl [] w6).alloc (Obj.cells #[.slice r.ka r.k.length r.kc, .slice r.va r.v.length r.vc] 38)))
      have HO6 := hid hO6
      have HPB := hid hpb
      clear kx vx hok hO6 hps hx hmem hpb
      go_wp2_with fail
      rw [HPB.out]
      obtain ⟨hn, hn8, hn40, hfo⟩ := HN.out
      obtain ⟨kx, vx⟩ := HX.out
      have hkcl : k < cl.length := by rw [← HELL.out]; exact h4
      obtain ⟨bpre, bpost, hbT, hbv⟩ := HT.out.tab.blk k hkcl
      obtain ⟨bl, hbl⟩ : ∃ bl, cl.getD k [] = bl := ⟨_, rfl⟩
      have hbne : bl ≠ [] := by
        rw [← hbl, List.getD_eq_getElem?_getD, List.getElem?_eq_getElem hkcl]
        exact HT.out.ne _ (List.getElem_mem _)
      have hup := HT.out.up k hkcl
      have hbw := kvw_getD cl k
      rw [HT.out.flat, hbl] at hbw
      rw [hbl] at hbT hbv hup
      rw [kx] at hup
      rw [vx] at hbv
      have hrv : r.v.length ≤ r.vc := HRK.out.hvc
      have hvl : r.v.length ≤ 1099511627776 := by
        have h1 := kvw_key E k
        rw [vx] at h1
        have := HT.out.ke
        omega
      have hkl := HT.out.kl
      refine (part_n _ _ c r.vc n r.v.length T bpre (wblk rs bl) bpost r.v [] _ (HH5.out.keep0 HO6.out.only) hbT HRK.out.hv (by rw [List.append_nil]; exact hbv) (by omega) hvl (by omega) hrv hn rfl).mono ?_
      rintro e w7 ⟨bA, bc', rfl, hbc, hbc2, hbB, hO7⟩
      obtain ⟨u2, hu2⟩ : ∃ u2, (handle bpre.length (wblk rs bl).length).length = u2 := ⟨_, rfl⟩
      rw [hu2]
      have HO7 := hid (HO6.out.only0 hO7.out)
      have HBB := hid hbB.out
      have HRK7 := hid (HRK.out.keep0 hO7.out)
      have HUP := hid hup
      have HBL := hid hbl
      have HBN := hid hbne
      have HRV := hid hvl
      have hkr : r.k.length ≤ 140737488351232 := by
        have h1 := kvw_key E k
        rw [kx] at h1
        have := HT.out.ke
        omega
      clear hn hn8 hn40 hfo kx vx hbT hbv hup hbl hu2 hbB hO7 HRK HO6 hbne hrv hvl q0 q1
      go_wp2_with fail
      refine (readBlock_w bA bc' (wblk rs bl).length rs bl (wblk rs bl) _ HBB.out rfl rfl hbc (by omega) HT.out.rs (by omega)).mono ?_
      rintro e w8 ⟨gA, gc, gn, gl, gF, rfl, hgn, hgl, _, _, hgP, hgO⟩
      have HGP := hid hgP.out
      have HO8 := hid (Own.join HO7.out hgO.out)
      have hg8 := hgP.out w7 w8 hgO.out.only fun x hx => hgO.out.ins x hx
      have HRK8 := hid (HRK7.out.keep0 hgO.out.only)
      have hblp : 0 < bl.length := List.length_pos_iff.2 HBN.out
      have hgnb : gn = bl.length := by rw [hgn, ← kvs_length, hgl.out]
      have hg1 : gl.length - 1 < gl.length := by omega
      have hlx : gl[gl.length - 1]? = some gl[gl.length - 1] := List.getElem?_eq_getElem hg1
      have hlm : gl[gl.length - 1] ∈ gl := List.getElem_mem hg1
      generalize gl[gl.length - 1] = z at hlx hlm
      have hzk : lastK bl = z.k := by
        rw [← hgl.out]
        unfold lastK
        rw [kvs_length]
        exact key_kvs hlx
      obtain ⟨gg, go, rfl, p2, p3⟩ := hg8.at_ hlx
      rw [← hgn] at p2 p3
      obtain ⟨gm, hgm⟩ : ∃ gm, gn - 1 = gm := ⟨_, rfl⟩
      rw [hgm] at p2 p3
      have hblk : bl.length ≤ 1048576 := by have := kvw_len bl; omega
      have t1 : IntKind.i64.wrap ((gn : Int) - 1) = (gm : Int) := by rw [i64_id (by omega) (by omega)]; omega
      have t2 : ((gn : Int) == 0) = false := by rw [beq_eq_false_iff_ne]; omega
      have t3 : (gm : Int) < (gn : Int) := by omega
      have hcz : cmpI z.k r.k ≤ 0 := by rw [← hzk]; exact HUP.out
      have t4 : decide (0 < cmpI z.k r.k) = false := decide_eq_false (by omega)
      have q0 : w8.cell? ⟨pb, 0, none⟩ = some (.slice r.ka r.k.length r.kc) := HO8.out.right.cell 0 rfl (k := 0) 0 rfl (by simp [Pr.cells])
      have hzok := hg8.ok z hlm
      have hzl : z.k.length ≤ 140737488351232 := by
        rw [← hzk]
        have h1 := kvw_key bl (bl.length - 1)
        unfold lastK
        omega
      have HG8 := hid hg8
      have HZK := hid hzok.hk
      have HGL := hid hgl.out
      have HGN := hid (show _ ∧ _ from ⟨hgn, hgnb⟩)
      clear hgP hgO HRK7 HO7 HBB hg8 hlx hlm hzk p3 hzok hgl hgn hgnb hgm hcz hg1 hblp
      go_wp2_with fail
      refine AnyT.start (S := fun w' => w'.cell? ⟨gg, go + gm * 2, none⟩ = some (.slice z.ka z.k.length z.kc) ∧ w'.cell? ⟨pb, 0, none⟩ = some (.slice r.ka r.k.length r.kc)) (T := []) (by kernel_rfl) (⟨p2, q0⟩) (fun hHeld => ?_)
      refine AnyT.take (i := 0) (v := ?_) (by simp only [List.getElem?_toArray, List.getElem?_cons_succ, List.getElem?_cons_zero]; rfl) (by kernel_rfl) (by kernel_rfl) (by kernel_rfl) (by kernel_rfl) (by intro _ _ _ h; exact h) (Or.inl ⟨by rfl, fun w hSw => ?_⟩) hHeld ?_
      rotate_left
      · ((try dsimp only at hSw); go_simp; first | done | with_reducible rfl | rfl)
      try simp only [Act.put, List.setIfInBounds_toArray, List.set_cons_zero, List.set_cons_succ]
      refine AnyT.take (i := 1) (v := ?_) (by simp only [List.getElem?_toArray, List.getElem?_cons_succ, List.getElem?_cons_zero]; rfl) (by kernel_rfl) (by kernel_rfl) (by kernel_rfl) (by kernel_rfl) (by intro _ _ _ h; exact h) (Or.inl ⟨by rfl, fun w hSw => ?_⟩) hHeld ?_
      rotate_left
      · ((try dsimp only at hSw); go_simp; first | done | with_reducible rfl | rfl)
      try simp only [Act.put, List.setIfInBounds_toArray, List.set_cons_zero, List.set_cons_succ]
      refine AnyT.take (i := 2) (v := ?_) (by simp only [List.getElem?_toArray, List.getElem?_cons_succ, List.getElem?_cons_zero]; rfl) (by kernel_rfl) (by kernel_rfl) (by kernel_rfl) (by kernel_rfl) (by intro _ _ _ h; exact h) (Or.inl ⟨by rfl, fun w hSw => ?_⟩) hHeld ?_
      rotate_left
      · ((try dsimp only at hSw); go_simp; first | done | with_reducible rfl | rfl)
      try simp only [Act.put, List.setIfInBounds_toArray, List.set_cons_zero, List.set_cons_succ]
      refine AnyT.take (i := 3) (v := ?_) (by simp only [List.getElem?_toArray, List.getElem?_cons_succ, List.getElem?_cons_zero]; rfl) (by kernel_rfl) (by kernel_rfl) (by kernel_rfl) (by kernel_rfl) (by intro _ _ _ h; exact h) (Or.inl ⟨by rfl, fun w hSw => ?_⟩) hHeld ?_
      rotate_left
      · ((try dsimp only at hSw); go_simp; first | done | with_reducible rfl | rfl)
      try simp only [Act.put, List.setIfInBounds_toArray, List.set_cons_zero, List.set_cons_succ]
      refine AnyT.take (i := 4) (v := ?_) (by simp only [List.getElem?_toArray, List.getElem?_cons_succ, List.getElem?_cons_zero]; rfl) (by kernel_rfl) (by kernel_rfl) (by kernel_rfl) (by kernel_rfl) (by intro _ _ _ h; exact h) (Or.inl ⟨by rfl, fun w hSw => ?_⟩) hHeld ?_
      rotate_left
      · ((try dsimp only at hSw); go_simp; first | done | with_reducible rfl | rfl)
      try simp only [Act.put, List.setIfInBounds_toArray, List.set_cons_zero, List.set_cons_succ]
      refine AnyT.take (i := 5) (v := ?_) (by simp only [List.getElem?_toArray, List.getElem?_cons_succ, List.getElem?_cons_zero]; rfl) (by kernel_rfl) (by kernel_rfl) (by kernel_rfl) (by kernel_rfl) (by intro _ _ _ h; exact h) (Or.inl ⟨by rfl, fun w hSw => ?_⟩) hHeld ?_
      rotate_left
      · ((try dsimp only at hSw); go_simp; first | done | with_reducible rfl | rfl)
      try simp only [Act.put, List.setIfInBounds_toArray, List.set_cons_zero, List.set_cons_succ]
      refine AnyT.take (i := 6) (v := ?_) (by simp only [List.getElem?_toArray, List.getElem?_cons_succ, List.getElem?_cons_zero]; rfl) (by kernel_rfl) (by kernel_rfl) (by kernel_rfl) (by kernel_rfl) (by intro _ _ _ h; exact h) (Or.inl ⟨by rfl, fun w hSw => ?_⟩) hHeld ?_
      rotate_left
      · ((try dsimp only at hSw); go_simp; first | done | with_reducible rfl | rfl)
      try simp only [Act.put, List.setIfInBounds_toArray, List.set_cons_zero, List.set_cons_succ]
      refine AnyT.take (i := 7) (v := ?_) (by simp only [List.getElem?_toArray, List.getElem?_cons_succ, List.getElem?_cons_zero]; rfl) (by kernel_rfl) (by kernel_rfl) (by kernel_rfl) (by kernel_rfl) (by intro _ _ _ h; exact h) (Or.inl ⟨by rfl, fun w hSw => ?_⟩) hHeld ?_
      rotate_left
      · ((try dsimp only at hSw); go_simp; first | done | with_reducible rfl | rfl)
      try simp only [Act.put, List.setIfInBounds_toArray, List.set_cons_zero, List.set_cons_succ]
      refine AnyT.take (i := 8) (v := ?_) (by simp only [List.getElem?_toArray, List.getElem?_cons_succ, List.getElem?_cons_zero]; rfl) (by kernel_rfl) (by kernel_rfl) (by kernel_rfl) (by kernel_rfl) (by intro _ _ _ h; exact h) (Or.inl ⟨by rfl, fun w hSw => ?_⟩) hHeld ?_
      rotate_left
      · ((try dsimp only at hSw); go_simp; first | done | with_reducible rfl | rfl)
      try simp only [Act.put, List.setIfInBounds_toArray, List.set_cons_zero, List.set_cons_succ]
      refine AnyT.take (i := 9) (v := ?_) (by simp only [List.getElem?_toArray, List.getElem?_cons_succ, List.getElem?_cons_zero]; rfl) (by kernel_rfl) (by kernel_rfl) (by kernel_rfl) (by kernel_rfl) (by intro _ _ _ h; exact h) (Or.inl ⟨by rfl, fun w hSw => ?_⟩) hHeld ?_
      rotate_left
      · ((try dsimp only at hSw); go_simp; first | done | with_reducible rfl | rfl)
      try simp only [Act.put, List.setIfInBounds_toArray, List.set_cons_zero, List.set_cons_succ]
      refine AnyT.take (i := 10) (v := ?_) (by simp only [List.getElem?_toArray, List.getElem?_cons_succ, List.getElem?_cons_zero]; rfl) (by kernel_rfl) (by kernel_rfl) (by kernel_rfl) (by kernel_rfl) (by intro _ _ _ h; exact h) (Or.inl ⟨by rfl, fun w hSw => ?_⟩) hHeld ?_
      rotate_left
      · ((try dsimp only at hSw); go_simp; first | done | with_reducible rfl | rfl)
      try simp only [Act.put, List.setIfInBounds_toArray, List.set_cons_zero, List.set_cons_succ]
      refine AnyT.take (i := 11) (v := ?_) (by simp only [List.getElem?_toArray, List.getElem?_cons_succ, List.getElem?_cons_zero]; rfl) (by kernel_rfl) (by kernel_rfl) (by kernel_rfl) (by kernel_rfl) (by intro _ _ _ h; exact h) (Or.inl ⟨by rfl, fun w hSw => ?_⟩) hHeld ?_
      rotate_left
      · ((try dsimp only at hSw); go_simp; first | done | with_reducible rfl | rfl)
      try simp only [Act.put, List.setIfInBounds_toArray, List.set_cons_zero, List.set_cons_succ]
      refine AnyT.take (i := 12) (v := ?_) (by simp only [List.getElem?_toArray, List.getElem?_cons_succ, List.getElem?_cons_zero]; rfl) (by kernel_rfl) (by kernel_rfl) (by kernel_rfl) (by kernel_rfl) (by intro _ _ _ h; exact h) (Or.inl ⟨by rfl, fun w hSw => ?_⟩) hHeld ?_
      rotate_left
      · ((try dsimp only at hSw); go_simp; first | done | with_reducible rfl | rfl)
      try simp only [Act.put, List.setIfInBounds_toArray, List.set_cons_zero, List.set_cons_succ]
      refine AnyT.take (i := 13) (v := ?_) (by simp only [List.getElem?_toArray, List.getElem?_cons_succ, List.getElem?_cons_zero]; rfl) (by kernel_rfl) (by kernel_rfl) (by kernel_rfl) (by kernel_rfl) (by intro _ _ _ h; exact h) (Or.inl ⟨by rfl, fun w hSw => ?_⟩) hHeld ?_
      rotate_left
      · ((try dsimp only at hSw); go_simp; first | done | with_reducible rfl | rfl)
      try simp only [Act.put, List.setIfInBounds_toArray, List.set_cons_zero, List.set_cons_succ]
      refine AnyT.take (i := 14) (v := ?_) (by simp only [List.getElem?_toArray, List.getElem?_cons_succ, List.getElem?_cons_zero]; rfl) (by kernel_rfl) (by kernel_rfl) (by kernel_rfl) (by kernel_rfl) (by intro _ _ _ h; exact h) (Or.inl ⟨by rfl, fun w hSw => ?_⟩) hHeld ?_
      rotate_left
      · ((try dsimp only at hSw); go_simp; first | done | with_reducible rfl | rfl)
      try simp only [Act.put, List.setIfInBounds_toArray, List.set_cons_zero, List.set_cons_succ]
      refine AnyT.take (i := 15) (v := ?_) (by simp only [List.getElem?_toArray, List.getElem?_cons_succ, List.getElem?_cons_zero]; rfl) (by kernel_rfl) (by kernel_rfl) (by kernel_rfl) (by kernel_rfl) (by intro _ _ _ h; exact h) (Or.inl ⟨by rfl, fun w hSw => ?_⟩) hHeld ?_
      rotate_left
      · ((try dsimp only at hSw); go_simp; first | done | with_reducible rfl | rfl)
      try simp only [Act.put, List.setIfInBounds_toArray, List.set_cons_zero, List.set_cons_succ]
      refine AnyT.take (i := 16) (v := ?_) (by simp only [List.getElem?_toArray, List.getElem?_cons_succ, List.getElem?_cons_zero]; rfl) (by kernel_rfl) (by kernel_rfl) (by kernel_rfl) (by kernel_rfl) (by intro _ _ _ h; exact h) (Or.inl ⟨by rfl, fun w hSw => ?_⟩) hHeld ?_
      rotate_left
      · ((try dsimp only at hSw); go_simp; first | done | with_reducible rfl | rfl)
      try simp only [Act.put, List.setIfInBounds_toArray, List.set_cons_zero, List.set_cons_succ]
      refine AnyT.take (i := 17) (v := ?_) (by simp only [List.getElem?_toArray, List.getElem?_cons_succ, List.getElem?_cons_zero]; rfl) (by kernel_rfl) (by kernel_rfl) (by kernel_rfl) (by kernel_rfl) (by intro _ _ _ h; exact h) (Or.inl ⟨by rfl, fun w hSw => ?_⟩) hHeld ?_
      rotate_left
      · ((try dsimp only at hSw); go_simp; first | done | with_reducible rfl | rfl)
      try simp only [Act.put, List.setIfInBounds_toArray, List.set_cons_zero, List.set_cons_succ]
      refine AnyT.take (i := 18) (v := ?_) (by simp only [List.getElem?_toArray, List.getElem?_cons_succ, List.getElem?_cons_zero]; rfl) (by kernel_rfl) (by kernel_rfl) (by kernel_rfl) (by kernel_rfl) (by intro _ _ _ h; exact h) (Or.inl ⟨by rfl, fun w hSw => ?_⟩) hHeld ?_
      rotate_left
      · ((try dsimp only at hSw); go_simp; first | done | with_reducible rfl | rfl)
      try simp only [Act.put, List.setIfInBounds_toArray, List.set_cons_zero, List.set_cons_succ]
      refine AnyT.take (i := 19) (v := ?_) (by simp only [List.getElem?_toArray, List.getElem?_cons_succ, List.getElem?_cons_zero]; rfl) (by kernel_rfl) (by kernel_rfl) (by kernel_rfl) (by kernel_rfl) (by intro _ _ _ h; exact h) (Or.inl ⟨by rfl, fun w hSw => ?_⟩) hHeld ?_
      rotate_left
      · ((try dsimp only at hSw); go_simp; first | done | with_reducible rfl | rfl)
      try simp only [Act.put, List.setIfInBounds_toArray, List.set_cons_zero, List.set_cons_succ]
      refine AnyT.take (i := 20) (v := ?_) (by simp only [List.getElem?_toArray, List.getElem?_cons_succ, List.getElem?_cons_zero]; rfl) (by kernel_rfl) (by kernel_rfl) (by kernel_rfl) (by kernel_rfl) (by intro _ _ _ h; exact h) (Or.inl ⟨by rfl, fun w hSw => ?_⟩) hHeld ?_
      rotate_left
      · ((try dsimp only at hSw); go_simp; first | done | with_reducible rfl | rfl)
      try simp only [Act.put, List.setIfInBounds_toArray, List.set_cons_zero, List.set_cons_succ]
      refine AnyT.ready (rs := [21]) (by kernel_rfl) (by simp) ?_
      refine AllT.cons (by simp only [List.getElem?_toArray, List.getElem?_cons_succ, List.getElem?_cons_zero]; rfl) (fun K hK => ?_) AllT.nil
      go_simp
      have hdd : Dr w8 w8.drew := (Dr.refl w8).drew
      refine (compare_any _ _ _ _ _ _ _ (HZK.out.keep0 hdd.only) (HRK8.out.hk.keep0 hdd.only) hzl hkr).mono ?_
      rintro e w9 ⟨rfl, hd9'⟩
      have hd9 := hdd.trans hd9'
      have HO9 := hid (HO8.out.dr hd9)
      have p2' := (hd9.only.cell (p := ⟨gg, go + gm * 2, none⟩) (cell_lt p2) (by simp)).trans p2
      have q0' := (hd9.only.cell (p := ⟨pb, 0, none⟩) (cell_lt q0) (by simp)).trans q0
      have HG9 := hid (HG8.out.keep0 hd9.only)
      clear hd9 hd9' hdd HO8 HG8 HRK8 HZK
      try go_wp2_with fail
      refine hK.out _ _ ?_ (fun hHeld => ?_)
      · exact ⟨p2', q0'⟩
      clear hK
      try simp only [Act.put, List.setIfInBounds_toArray, List.set_cons_zero, List.set_cons_succ]
      refine AnyT.take (i := 22) (v := ?_) (by simp only [List.getElem?_toArray, List.getElem?_cons_succ, List.getElem?_cons_zero]; rfl) (by kernel_rfl) (by kernel_rfl) (by kernel_rfl) (by kernel_rfl) (by intro _ _ _ h; exact h) (Or.inl ⟨by rfl, fun w hSw => ?_⟩) hHeld ?_
      rotate_left
      · ((try dsimp only at hSw); go_simp; first | done | with_reducible rfl | rfl)
      try simp only [Act.put, List.setIfInBounds_toArray, List.set_cons_zero, List.set_cons_succ]
      refine AnyT.take (i := 23) (v := ?_) (by simp only [List.getElem?_toArray, List.getElem?_cons_succ, List.getElem?_cons_zero]; rfl) (by kernel_rfl) (by kernel_rfl) (by kernel_rfl) (by kernel_rfl) (by intro _ _ _ h; exact h) (Or.inl ⟨by rfl, fun w hSw => ?_⟩) hHeld ?_
      rotate_left
      · ((try dsimp only at hSw); go_simp; first | done | with_reducible rfl | rfl)
      try simp only [Act.put, List.setIfInBounds_toArray, List.set_cons_zero, List.set_cons_succ]
      refine AnyT.done (by kernel_rfl) ?_ _
      clear hHeld p2 q0 p2' q0' t1 t2 t3
      have hpl : pn ≤ 1048576 := by
        have h1 := kvw_len (cl.take k).flatten
        have h2 := kvw_take_flat cl k
        rw [HT.out.flat] at h2
        rw [HPN.out, ← kvs_length, HKV.out]; omega
      have hgl1 : gn ≤ 1048576 := by rw [HGN.out.2]; exact hblk
      have hgf : (gl.flatMap Pr.cells).length = gn * 2 := by rw [HGN.out.1]; exact pr_len gl
      have HGF := hid hgf
      clear hgf
      go_wp2_with (at_builtin; refine own_append rfl (.tmp 124) (.tmp 125) 28 rfl 38 (.agg #[.slice none 0 0, .slice none 0 0]) 2 48 Tryd.underlying28 Tryd.info_pair rfl (by decide) pA pn pc (l.flatMap Pr.cells) Fo rfl HROW.out (R := gF ++ (fw pb 38 r.cells :: G)) (HO9.out.perm (perm_of fun _ _ z => by simp only [List.count_append, List.count_cons, List.cons_append, List.count_nil, List.nil_append, List.append_nil]; omega)) (some ⟨gg, go, none⟩) gn gc (gl.flatMap Pr.cells) rfl HGF.out HG9.out.row pr_one (by simp [maxLen]; omega) (by omega) ?_; intro A2 c2 F2 w10 hr2 hO10 _; have HR2 := hid hr2; have HO10 := hid hO10; clear hr2 hO10)
      go_roundw
      case rel =>
        refine ⟨k + 1, pn + gn, c2, A2, l ++ gl, F2, gF ++ G, by go_num, rfl, by omega, hid ?_, hid ?_, hid ?_, hid fun r' hr' wb => ?_, hid ?_⟩
        · rw [List.length_append, ← HPN.out, ← HGN.out.1]
        · have hkcl : k < cl.length := by rw [← HELL.out]; exact h4
          have e1 : kvs (l ++ gl) = kvs l ++ kvs gl := by simp [kvs]
          rw [e1, HKV.out, HGL.out, List.take_succ_eq_append_getElem hkcl, List.flatten_append, List.flatten_singleton, ← HBL.out, List.getD_eq_getElem?_getD, List.getElem?_eq_getElem hkcl]
          rfl
        · rw [List.flatMap_append]; exact HR2.out
        · rcases List.mem_append.1 hr' with hr' | hr'
          · exact (HOK.out r' hr' wb).right gF
          · exact ((HGP.out wb).imp fun w hw => hw.ok r' hr').left G
        · exact (HO10.out.perm (L' := fw pb 38 r.cells :: (F2 ++ (gF ++ G))) (perm_of fun _ _ z => by simp only [List.count_append, List.count_cons, List.cons_append, List.count_nil, List.nil_append, List.append_nil]; omega)).drop
      case measure => simp [intOf]; omega
    · have h4' : ¬ (k : Int) < (el.length : Int) := by omega
      have hke : k = el.length := by omega
      have hlL : kvs l = L := by rw [HKV.out, hke, HELL.out, List.take_length, HT.out.flat]
      have hln : l.length = L.length := by rw [← kvs_length, hlL]
      have hlb : L.length ≤ 1048576 := by have := kvw_len L; have := HT.out.kl; omega
      have hP6 : Prs w6 pA l := ⟨HROW.out.csO HO.out, fun r hr => HO.out.st (HOK.out r hr w5) fun x hx => List.mem_append_right _ hx⟩
      have HP6 := hid hP6
      have HLL := hid hlL
      have HLN := hid hln
      have HE6 := hid (HEP.out.keep0 HO.out.only)
      have HO6 := hid (HO5.out.new HO.out.only)
      have hpnl : pn = L.length := by rw [HPN.out, hln]
      subst hpnl
      clear hP6 hlL hln hke h4 HPN HKV HROW HOK HO
      have hkb : ∀ r ∈ l, r.k.length ≤ 140737488351232 := fun r hr => by
        have h1 := kvw_mem (l := L) (p := (r.k, r.v)) (by rw [← HLL.out]; exact List.mem_map.2 ⟨r, hr, rfl⟩)
        have := HT.out.kl
        simp only at h1; omega
      have HKB := hid hkb
      clear hkb
      have hmb : decide ((0 : Int) < (mn : Int)) = decide (0 < M.length) := by rw [HML.out, Bool.eq_iff_iff]; simp
      have HMB2 := hid hmb
      clear hmb
      go_wp2_with fail
      go_loopw [2, 21, 22] (fun pv iv kv wr => ∃ i k : Nat, pv = .slice pA L.length pc ∧ iv = .int .i64 i ∧ kv = .int .i64 k ∧ i ≤ el.length ∧ k ≤ L.length ∧ Hid (Dr w6 wr)) (fun _ i _ _ => el.length - (intOf i).toNat)
      case atStart => exact ⟨0, 0, rfl, rfl, rfl, Nat.zero_le _, Nat.zero_le _, hid (Dr.refl _)⟩
      case round =>
        obtain ⟨i, k, rfl, rfl, rfl, hi, hk2, HD⟩ := hrel
        obtain ⟨w7, rfl⟩ : ∃ w7, w7 = wr := ⟨_, rfl⟩
        by_cases hi2 : i < el.length
        · have t1 : decide ((i : Int) < (el.length : Int)) = true := decide_eq_true (by omega)
          by_cases hk3 : k < L.length
          · have t2 : decide ((k : Int) < (L.length : Int)) = true := decide_eq_true (by omega)
            go_wp2_with fail
            go_loopw [22] (fun kv wr => ∃ k : Nat, kv = .int .i64 k ∧ k ≤ L.length ∧ Hid (Dr w6 wr)) (fun k _ => L.length - (intOf k).toNat)
            case atStart => exact ⟨k, rfl, hk2, HD⟩
            case round =>
              clear hk2 hk3 HD t2 t1
              obtain ⟨k, rfl, hk2, HD⟩ := hrel
              obtain ⟨w8, rfl⟩ : ∃ w8, w8 = wr := ⟨_, rfl⟩
              have i1 : IntKind.i64.wrap ((i : Int) + 1) = (i : Int) + 1 := i64_id (by omega) (by omega)
              by_cases hk3 : k < L.length
              · have t1 : decide ((k : Int) < (L.length : Int)) = true := decide_eq_true (by omega)
                have hkl : k < l.length := by rw [HLN.out]; exact hk3
                have hx : l[k]? = some l[k] := List.getElem?_eq_getElem hkl
                have hmx : l[k] ∈ l := List.getElem_mem hkl
                generalize l[k] = x at hx hmx
                have hy : el[i]? = some el[i] := List.getElem?_eq_getElem hi2
                have hmy : el[i] ∈ el := List.getElem_mem hi2
                generalize el[i] = y at hy hmy
                have hP8 := HP6.out.keep0 HD.out.only
                have hE8 := HE6.out.keep0 HD.out.only
                obtain ⟨pg, po, rfl, p0, p1⟩ := hP8.at_ hx
                obtain ⟨eg, eo, rfl, p2, p3⟩ := hE8.at_ hy
                have hxl := HKB.out x hmx
                have hkx : key L k = x.k := by rw [← HLL.out]; exact key_kvs hx
                have hky : key E i = y.k := by rw [← HEL.out]; exact key_kvs hy
                have hyl : y.k.length ≤ 140737488351232 := by
                  have h1 := kvw_key E i
                  rw [hky] at h1
                  have := HT.out.ke
                  omega
                have HXK := hid (hP8.ok x hmx).hk
                have HYK := hid (hE8.ok y hmy).hk
                have hlast : i + 1 = el.length → cmpI x.k y.k ≤ 0 := fun h1 => by
                  rw [← hkx, ← hky]
                  exact HT.out.last i k (by rw [h1, ← kvs_length, HEL.out]) hk3
                have HLA := hid hlast
                have hkl2 : (k : Int) < (L.length : Int) := by omega
                have hil2 : (i : Int) < (el.length : Int) := by omega
                clear hx hmx hy hmy hP8 hE8 p1 p3 hkx hky hlast
                cases hc : decide (cmpI x.k y.k ≤ 0) with
                | true =>
                  go_wp2_with fail
                  refine AnyT.start (S := fun w' => w'.cell? ⟨pg, po + k * 2, none⟩ = some (.slice x.ka x.k.length x.kc) ∧ w'.cell? ⟨eg, eo + i * 2, none⟩ = some (.slice y.ka y.k.length y.kc)) (T := []) (by kernel_rfl) (⟨p0, p2⟩) (fun hHeld => ?_)
                  refine AnyT.take (i := 0) (v := ?_) (by simp only [List.getElem?_toArray, List.getElem?_cons_succ, List.getElem?_cons_zero]; rfl) (by kernel_rfl) (by kernel_rfl) (by kernel_rfl) (by kernel_rfl) (by intro _ _ _ h; exact h) (Or.inl ⟨by rfl, fun w hSw => ?_⟩) hHeld ?_
                  rotate_left
                  · ((try dsimp only at hSw); go_simp; first | done | with_reducible rfl | rfl)
                  try simp only [Act.put, List.setIfInBounds_toArray, List.set_cons_zero, List.set_cons_succ]
                  refine AnyT.take (i := 1) (v := ?_) (by simp only [List.getElem?_toArray, List.getElem?_cons_succ, List.getElem?_cons_zero]; rfl) (by kernel_rfl) (by kernel_rfl) (by kernel_rfl) (by kernel_rfl) (by intro _ _ _ h; exact h) (Or.inl ⟨by rfl, fun w hSw => ?_⟩) hHeld ?_
                  rotate_left
                  · ((try dsimp only at hSw); go_simp; first | done | with_reducible rfl | rfl)
                  try simp only [Act.put, List.setIfInBounds_toArray, List.set_cons_zero, List.set_cons_succ]
                  refine AnyT.take (i := 2) (v := ?_) (by simp only [List.getElem?_toArray, List.getElem?_cons_succ, List.getElem?_cons_zero]; rfl) (by kernel_rfl) (by kernel_rfl) (by kernel_rfl) (by kernel_rfl) (by intro _ _ _ h; exact h) (Or.inl ⟨by rfl, fun w hSw => ?_⟩) hHeld ?_
                  rotate_left
                  · ((try dsimp only at hSw); go_simp; first | done | with_reducible rfl | rfl)
                  try simp only [Act.put, List.setIfInBounds_toArray, List.set_cons_zero, List.set_cons_succ]
                  refine AnyT.take (i := 3) (v := ?_) (by simp only [List.getElem?_toArray, List.getElem?_cons_succ, List.getElem?_cons_zero]; rfl) (by kernel_rfl) (by kernel_rfl) (by kernel_rfl) (by kernel_rfl) (by intro _ _ _ h; exact h) (Or.inl ⟨by rfl, fun w hSw => ?_⟩) hHeld ?_
                  rotate_left
                  · ((try dsimp only at hSw); go_simp; first | done | with_reducible rfl | rfl)
                  try simp only [Act.put, List.setIfInBounds_toArray, List.set_cons_zero, List.set_cons_succ]
                  refine AnyT.take (i := 4) (v := ?_) (by simp only [List.getElem?_toArray, List.getElem?_cons_succ, List.getElem?_cons_zero]; rfl) (by kernel_rfl) (by kernel_rfl) (by kernel_rfl) (by kernel_rfl) (by intro _ _ _ h; exact h) (Or.inl ⟨by rfl, fun w hSw => ?_⟩) hHeld ?_
                  rotate_left
                  · ((try dsimp only at hSw); go_simp; first | done | with_reducible rfl | rfl)
                  try simp only [Act.put, List.setIfInBounds_toArray, List.set_cons_zero, List.set_cons_succ]
                  refine AnyT.take (i := 5) (v := ?_) (by simp only [List.getElem?_toArray, List.getElem?_cons_succ, List.getElem?_cons_zero]; rfl) (by kernel_rfl) (by kernel_rfl) (by kernel_rfl) (by kernel_rfl) (by intro _ _ _ h; exact h) (Or.inl ⟨by rfl, fun w hSw => ?_⟩) hHeld ?_
                  rotate_left
                  · ((try dsimp only at hSw); go_simp; first | done | with_reducible rfl | rfl)
                  try simp only [Act.put, List.setIfInBounds_toArray, List.set_cons_zero, List.set_cons_succ]
                  refine AnyT.take (i := 6) (v := ?_) (by simp only [List.getElem?_toArray, List.getElem?_cons_succ, List.getElem?_cons_zero]; rfl) (by kernel_rfl) (by kernel_rfl) (by kernel_rfl) (by kernel_rfl) (by intro _ _ _ h; exact h) (Or.inl ⟨by rfl, fun w hSw => ?_⟩) hHeld ?_
                  rotate_left
                  · ((try dsimp only at hSw); go_simp; first | done | with_reducible rfl | rfl)
                  try simp only [Act.put, List.setIfInBounds_toArray, List.set_cons_zero, List.set_cons_succ]
                  refine AnyT.take (i := 7) (v := ?_) (by simp only [List.getElem?_toArray, List.getElem?_cons_succ, List.getElem?_cons_zero]; rfl) (by kernel_rfl) (by kernel_rfl) (by kernel_rfl) (by kernel_rfl) (by intro _ _ _ h; exact h) (Or.inl ⟨by rfl, fun w hSw => ?_⟩) hHeld ?_
                  rotate_left
                  · ((try dsimp only at hSw); go_simp; first | done | with_reducible rfl | rfl)
                  try simp only [Act.put, List.setIfInBounds_toArray, List.set_cons_zero, List.set_cons_succ]
                  refine AnyT.take (i := 8) (v := ?_) (by simp only [List.getElem?_toArray, List.getElem?_cons_succ, List.getElem?_cons_zero]; rfl) (by kernel_rfl) (by kernel_rfl) (by kernel_rfl) (by kernel_rfl) (by intro _ _ _ h; exact h) (Or.inl ⟨by rfl, fun w hSw => ?_⟩) hHeld ?_
                  rotate_left
                  · ((try dsimp only at hSw); go_simp; first | done | with_reducible rfl | rfl)
                  try simp only [Act.put, List.setIfInBounds_toArray, List.set_cons_zero, List.set_cons_succ]
                  refine AnyT.take (i := 9) (v := ?_) (by simp only [List.getElem?_toArray, List.getElem?_cons_succ, List.getElem?_cons_zero]; rfl) (by kernel_rfl) (by kernel_rfl) (by kernel_rfl) (by kernel_rfl) (by intro _ _ _ h; exact h) (Or.inl ⟨by rfl, fun w hSw => ?_⟩) hHeld ?_
                  rotate_left
                  · ((try dsimp only at hSw); go_simp; first | done | with_reducible rfl | rfl)
                  try simp only [Act.put, List.setIfInBounds_toArray, List.set_cons_zero, List.set_cons_succ]
                  refine AnyT.take (i := 10) (v := ?_) (by simp only [List.getElem?_toArray, List.getElem?_cons_succ, List.getElem?_cons_zero]; rfl) (by kernel_rfl) (by kernel_rfl) (by kernel_rfl) (by kernel_rfl) (by intro _ _ _ h; exact h) (Or.inl ⟨by rfl, fun w hSw => ?_⟩) hHeld ?_
                  rotate_left
                  · ((try dsimp only at hSw); go_simp; first | done | with_reducible rfl | rfl)
                  try simp only [Act.put, List.setIfInBounds_toArray, List.set_cons_zero, List.set_cons_succ]
                  refine AnyT.take (i := 11) (v := ?_) (by simp only [List.getElem?_toArray, List.getElem?_cons_succ, List.getElem?_cons_zero]; rfl) (by kernel_rfl) (by kernel_rfl) (by kernel_rfl) (by kernel_rfl) (by intro _ _ _ h; exact h) (Or.inl ⟨by rfl, fun w hSw => ?_⟩) hHeld ?_
                  rotate_left
                  · ((try dsimp only at hSw); go_simp; first | done | with_reducible rfl | rfl)
                  try simp only [Act.put, List.setIfInBounds_toArray, List.set_cons_zero, List.set_cons_succ]
                  refine AnyT.take (i := 12) (v := ?_) (by simp only [List.getElem?_toArray, List.getElem?_cons_succ, List.getElem?_cons_zero]; rfl) (by kernel_rfl) (by kernel_rfl) (by kernel_rfl) (by kernel_rfl) (by intro _ _ _ h; exact h) (Or.inl ⟨by rfl, fun w hSw => ?_⟩) hHeld ?_
                  rotate_left
                  · ((try dsimp only at hSw); go_simp; first | done | with_reducible rfl | rfl)
                  try simp only [Act.put, List.setIfInBounds_toArray, List.set_cons_zero, List.set_cons_succ]
                  refine AnyT.take (i := 13) (v := ?_) (by simp only [List.getElem?_toArray, List.getElem?_cons_succ, List.getElem?_cons_zero]; rfl) (by kernel_rfl) (by kernel_rfl) (by kernel_rfl) (by kernel_rfl) (by intro _ _ _ h; exact h) (Or.inl ⟨by rfl, fun w hSw => ?_⟩) hHeld ?_
                  rotate_left
                  · ((try dsimp only at hSw); go_simp; first | done | with_reducible rfl | rfl)
                  try simp only [Act.put, List.setIfInBounds_toArray, List.set_cons_zero, List.set_cons_succ]
                  refine AnyT.take (i := 14) (v := ?_) (by simp only [List.getElem?_toArray, List.getElem?_cons_succ, List.getElem?_cons_zero]; rfl) (by kernel_rfl) (by kernel_rfl) (by kernel_rfl) (by kernel_rfl) (by intro _ _ _ h; exact h) (Or.inl ⟨by rfl, fun w hSw => ?_⟩) hHeld ?_
                  rotate_left
                  · ((try dsimp only at hSw); go_simp; first | done | with_reducible rfl | rfl)
                  try simp only [Act.put, List.setIfInBounds_toArray, List.set_cons_zero, List.set_cons_succ]
                  refine AnyT.ready (rs := [15]) (by kernel_rfl) (by simp) ?_
                  refine AllT.cons (by simp only [List.getElem?_toArray, List.getElem?_cons_succ, List.getElem?_cons_zero]; rfl) (fun K hK => ?_) AllT.nil
                  go_simp
                  have hdd : Dr w8 w8.drew := (Dr.refl w8).drew
                  refine (compare_any _ _ _ _ _ _ _ (HXK.out.keep0 hdd.only) (HYK.out.keep0 hdd.only) hxl hyl).mono ?_
                  rintro e w9 ⟨rfl, hd9'⟩
                  have hd9 := hdd.trans hd9'
                  have HD9 := hid (HD.out.trans hd9)
                  have p0' := (hd9.only.cell (p := ⟨pg, po + k * 2, none⟩) (cell_lt p0) (by simp)).trans p0
                  have p2' := (hd9.only.cell (p := ⟨eg, eo + i * 2, none⟩) (cell_lt p2) (by simp)).trans p2
                  clear hd9 hd9' hdd
                  try go_wp2_with fail
                  refine hK.out _ _ ?_ (fun hHeld => ?_)
                  · exact ⟨p0', p2'⟩
                  clear hK
                  try simp only [Act.put, List.setIfInBounds_toArray, List.set_cons_zero, List.set_cons_succ]
                  refine AnyT.take (i := 16) (v := ?_) (by simp only [List.getElem?_toArray, List.getElem?_cons_succ, List.getElem?_cons_zero]; rfl) (by kernel_rfl) (by kernel_rfl) (by kernel_rfl) (by kernel_rfl) (by intro _ _ _ h; exact h) (Or.inl ⟨by rfl, fun w hSw => ?_⟩) hHeld ?_
                  rotate_left
                  · ((try dsimp only at hSw); go_simp; first | done | with_reducible rfl | rfl)
                  try simp only [Act.put, List.setIfInBounds_toArray, List.set_cons_zero, List.set_cons_succ]
                  refine AnyT.take (i := 17) (v := ?_) (by simp only [List.getElem?_toArray, List.getElem?_cons_succ, List.getElem?_cons_zero]; rfl) (by kernel_rfl) (by kernel_rfl) (by kernel_rfl) (by kernel_rfl) (by intro _ _ _ h; exact h) (Or.inl ⟨by rfl, fun w hSw => ?_⟩) hHeld ?_
                  rotate_left
                  · ((try dsimp only at hSw); go_simp; first | done | with_reducible rfl | rfl)
                  try simp only [Act.put, List.setIfInBounds_toArray, List.set_cons_zero, List.set_cons_succ]
                  refine AnyT.done (by kernel_rfl) ?_ _
                  clear hHeld p0 p2 p0' p2'
                  go_wp2_with fail
                  go_roundw
                  case rel => exact ⟨k + 1, by go_num, by omega, HD9⟩
                  case measure => simp [intOf]; omega
                | false =>
                  have hi3 : ¬ i + 1 = el.length := fun h1 => by have := HLA.out h1; rw [decide_eq_false_iff_not] at hc; omega
                  have t5 : ((i : Int) + 1 == (el.length : Int)) = false := by rw [beq_eq_false_iff_ne]; omega
                  go_wp2_with fail
                  refine AnyT.start (S := fun w' => w'.cell? ⟨pg, po + k * 2, none⟩ = some (.slice x.ka x.k.length x.kc) ∧ w'.cell? ⟨eg, eo + i * 2, none⟩ = some (.slice y.ka y.k.length y.kc)) (T := []) (by kernel_rfl) (⟨p0, p2⟩) (fun hHeld => ?_)
                  refine AnyT.take (i := 0) (v := ?_) (by simp only [List.getElem?_toArray, List.getElem?_cons_succ, List.getElem?_cons_zero]; rfl) (by kernel_rfl) (by kernel_rfl) (by kernel_rfl) (by kernel_rfl) (by intro _ _ _ h; exact h) (Or.inl ⟨by rfl, fun w hSw => ?_⟩) hHeld ?_
                  rotate_left
                  · ((try dsimp only at hSw); go_simp; first | done | with_reducible rfl | rfl)
                  try simp only [Act.put, List.setIfInBounds_toArray, List.set_cons_zero, List.set_cons_succ]
                  refine AnyT.take (i := 1) (v := ?_) (by simp only [List.getElem?_toArray, List.getElem?_cons_succ, List.getElem?_cons_zero]; rfl) (by kernel_rfl) (by kernel_rfl) (by kernel_rfl) (by kernel_rfl) (by intro _ _ _ h; exact h) (Or.inl ⟨by rfl, fun w hSw => ?_⟩) hHeld ?_
                  rotate_left
                  · ((try dsimp only at hSw); go_simp; first | done | with_reducible rfl | rfl)
                  try simp only [Act.put, List.setIfInBounds_toArray, List.set_cons_zero, List.set_cons_succ]
                  refine AnyT.take (i := 2) (v := ?_) (by simp only [List.getElem?_toArray, List.getElem?_cons_succ, List.getElem?_cons_zero]; rfl) (by kernel_rfl) (by kernel_rfl) (by kernel_rfl) (by kernel_rfl) (by intro _ _ _ h; exact h) (Or.inl ⟨by rfl, fun w hSw => ?_⟩) hHeld ?_
                  rotate_left
                  · ((try dsimp only at hSw); go_simp; first | done | with_reducible rfl | rfl)
                  try simp only [Act.put, List.setIfInBounds_toArray, List.set_cons_zero, List.set_cons_succ]
                  refine AnyT.take (i := 3) (v := ?_) (by simp only [List.getElem?_toArray, List.getElem?_cons_succ, List.getElem?_cons_zero]; rfl) (by kernel_rfl) (by kernel_rfl) (by kernel_rfl) (by kernel_rfl) (by intro _ _ _ h; exact h) (Or.inl ⟨by rfl, fun w hSw => ?_⟩) hHeld ?_
                  rotate_left
                  · ((try dsimp only at hSw); go_simp; first | done | with_reducible rfl | rfl)
                  try simp only [Act.put, List.setIfInBounds_toArray, List.set_cons_zero, List.set_cons_succ]
                  refine AnyT.take (i := 4) (v := ?_) (by simp only [List.getElem?_toArray, List.getElem?_cons_succ, List.getElem?_cons_zero]; rfl) (by kernel_rfl) (by kernel_rfl) (by kernel_rfl) (by kernel_rfl) (by intro _ _ _ h; exact h) (Or.inl ⟨by rfl, fun w hSw => ?_⟩) hHeld ?_
                  rotate_left
                  · ((try dsimp only at hSw); go_simp; first | done | with_reducible rfl | rfl)
                  try simp only [Act.put, List.setIfInBounds_toArray, List.set_cons_zero, List.set_cons_succ]
                  refine AnyT.take (i := 5) (v := ?_) (by simp only [List.getElem?_toArray, List.getElem?_cons_succ, List.getElem?_cons_zero]; rfl) (by kernel_rfl) (by kernel_rfl) (by kernel_rfl) (by kernel_rfl) (by intro _ _ _ h; exact h) (Or.inl ⟨by rfl, fun w hSw => ?_⟩) hHeld ?_
                  rotate_left
                  · ((try dsimp only at hSw); go_simp; first | done | with_reducible rfl | rfl)
                  try simp only [Act.put, List.setIfInBounds_toArray, List.set_cons_zero, List.set_cons_succ]
                  refine AnyT.take (i := 6) (v := ?_) (by simp only [List.getElem?_toArray, List.getElem?_cons_succ, List.getElem?_cons_zero]; rfl) (by kernel_rfl) (by kernel_rfl) (by kernel_rfl) (by kernel_rfl) (by intro _ _ _ h; exact h) (Or.inl ⟨by rfl, fun w hSw => ?_⟩) hHeld ?_
                  rotate_left
                  · ((try dsimp only at hSw); go_simp; first | done | with_reducible rfl | rfl)
                  try simp only [Act.put, List.setIfInBounds_toArray, List.set_cons_zero, List.set_cons_succ]
                  refine AnyT.take (i := 7) (v := ?_) (by simp only [List.getElem?_toArray, List.getElem?_cons_succ, List.getElem?_cons_zero]; rfl) (by kernel_rfl) (by kernel_rfl) (by kernel_rfl) (by kernel_rfl) (by intro _ _ _ h; exact h) (Or.inl ⟨by rfl, fun w hSw => ?_⟩) hHeld ?_
                  rotate_left
                  · ((try dsimp only at hSw); go_simp; first | done | with_reducible rfl | rfl)
                  try simp only [Act.put, List.setIfInBounds_toArray, List.set_cons_zero, List.set_cons_succ]
                  refine AnyT.take (i := 8) (v := ?_) (by simp only [List.getElem?_toArray, List.getElem?_cons_succ, List.getElem?_cons_zero]; rfl) (by kernel_rfl) (by kernel_rfl) (by kernel_rfl) (by kernel_rfl) (by intro _ _ _ h; exact h) (Or.inl ⟨by rfl, fun w hSw => ?_⟩) hHeld ?_
                  rotate_left
                  · ((try dsimp only at hSw); go_simp; first | done | with_reducible rfl | rfl)
                  try simp only [Act.put, List.setIfInBounds_toArray, List.set_cons_zero, List.set_cons_succ]
                  refine AnyT.take (i := 9) (v := ?_) (by simp only [List.getElem?_toArray, List.getElem?_cons_succ, List.getElem?_cons_zero]; rfl) (by kernel_rfl) (by kernel_rfl) (by kernel_rfl) (by kernel_rfl) (by intro _ _ _ h; exact h) (Or.inl ⟨by rfl, fun w hSw => ?_⟩) hHeld ?_
                  rotate_left
                  · ((try dsimp only at hSw); go_simp; first | done | with_reducible rfl | rfl)
                  try simp only [Act.put, List.setIfInBounds_toArray, List.set_cons_zero, List.set_cons_succ]
                  refine AnyT.take (i := 10) (v := ?_) (by simp only [List.getElem?_toArray, List.getElem?_cons_succ, List.getElem?_cons_zero]; rfl) (by kernel_rfl) (by kernel_rfl) (by kernel_rfl) (by kernel_rfl) (by intro _ _ _ h; exact h) (Or.inl ⟨by rfl, fun w hSw => ?_⟩) hHeld ?_
                  rotate_left
                  · ((try dsimp only at hSw); go_simp; first | done | with_reducible rfl | rfl)
                  try simp only [Act.put, List.setIfInBounds_toArray, List.set_cons_zero, List.set_cons_succ]
                  refine AnyT.take (i := 11) (v := ?_) (by simp only [List.getElem?_toArray, List.getElem?_cons_succ, List.getElem?_cons_zero]; rfl) (by kernel_rfl) (by kernel_rfl) (by kernel_rfl) (by kernel_rfl) (by intro _ _ _ h; exact h) (Or.inl ⟨by rfl, fun w hSw => ?_⟩) hHeld ?_
                  rotate_left
                  · ((try dsimp only at hSw); go_simp; first | done | with_reducible rfl | rfl)
                  try simp only [Act.put, List.setIfInBounds_toArray, List.set_cons_zero, List.set_cons_succ]
                  refine AnyT.take (i := 12) (v := ?_) (by simp only [List.getElem?_toArray, List.getElem?_cons_succ, List.getElem?_cons_zero]; rfl) (by kernel_rfl) (by kernel_rfl) (by kernel_rfl) (by kernel_rfl) (by intro _ _ _ h; exact h) (Or.inl ⟨by rfl, fun w hSw => ?_⟩) hHeld ?_
                  rotate_left
                  · ((try dsimp only at hSw); go_simp; first | done | with_reducible rfl | rfl)
                  try simp only [Act.put, List.setIfInBounds_toArray, List.set_cons_zero, List.set_cons_succ]
                  refine AnyT.take (i := 13) (v := ?_) (by simp only [List.getElem?_toArray, List.getElem?_cons_succ, List.getElem?_cons_zero]; rfl) (by kernel_rfl) (by kernel_rfl) (by kernel_rfl) (by kernel_rfl) (by intro _ _ _ h; exact h) (Or.inl ⟨by rfl, fun w hSw => ?_⟩) hHeld ?_
                  rotate_left
                  · ((try dsimp only at hSw); go_simp; first | done | with_reducible rfl | rfl)
                  try simp only [Act.put, List.setIfInBounds_toArray, List.set_cons_zero, List.set_cons_succ]
                  refine AnyT.take (i := 14) (v := ?_) (by simp only [List.getElem?_toArray, List.getElem?_cons_succ, List.getElem?_cons_zero]; rfl) (by kernel_rfl) (by kernel_rfl) (by kernel_rfl) (by kernel_rfl) (by intro _ _ _ h; exact h) (Or.inl ⟨by rfl, fun w hSw => ?_⟩) hHeld ?_
                  rotate_left
                  · ((try dsimp only at hSw); go_simp; first | done | with_reducible rfl | rfl)
                  try simp only [Act.put, List.setIfInBounds_toArray, List.set_cons_zero, List.set_cons_succ]
                  refine AnyT.ready (rs := [15]) (by kernel_rfl) (by simp) ?_
                  refine AllT.cons (by simp only [List.getElem?_toArray, List.getElem?_cons_succ, List.getElem?_cons_zero]; rfl) (fun K hK => ?_) AllT.nil
                  go_simp
                  have hdd : Dr w8 w8.drew := (Dr.refl w8).drew
                  refine (compare_any _ _ _ _ _ _ _ (HXK.out.keep0 hdd.only) (HYK.out.keep0 hdd.only) hxl hyl).mono ?_
                  rintro e w9 ⟨rfl, hd9'⟩
                  have hd9 := hdd.trans hd9'
                  have HD9 := hid (HD.out.trans hd9)
                  have p0' := (hd9.only.cell (p := ⟨pg, po + k * 2, none⟩) (cell_lt p0) (by simp)).trans p0
                  have p2' := (hd9.only.cell (p := ⟨eg, eo + i * 2, none⟩) (cell_lt p2) (by simp)).trans p2
                  clear hd9 hd9' hdd
                  try go_wp2_with fail
                  refine hK.out _ _ ?_ (fun hHeld => ?_)
                  · exact ⟨p0', p2'⟩
                  clear hK
                  try simp only [Act.put, List.setIfInBounds_toArray, List.set_cons_zero, List.set_cons_succ]
                  refine AnyT.take (i := 16) (v := ?_) (by simp only [List.getElem?_toArray, List.getElem?_cons_succ, List.getElem?_cons_zero]; rfl) (by kernel_rfl) (by kernel_rfl) (by kernel_rfl) (by kernel_rfl) (by intro _ _ _ h; exact h) (Or.inl ⟨by rfl, fun w hSw => ?_⟩) hHeld ?_
                  rotate_left
                  · ((try dsimp only at hSw); go_simp; first | done | with_reducible rfl | rfl)
                  try simp only [Act.put, List.setIfInBounds_toArray, List.set_cons_zero, List.set_cons_succ]
                  refine AnyT.take (i := 17) (v := ?_) (by simp only [List.getElem?_toArray, List.getElem?_cons_succ, List.getElem?_cons_zero]; rfl) (by kernel_rfl) (by kernel_rfl) (by kernel_rfl) (by kernel_rfl) (by intro _ _ _ h; exact h) (Or.inl ⟨by rfl, fun w hSw => ?_⟩) hHeld ?_
                  rotate_left
                  · ((try dsimp only at hSw); go_simp; first | done | with_reducible rfl | rfl)
                  try simp only [Act.put, List.setIfInBounds_toArray, List.set_cons_zero, List.set_cons_succ]
                  refine AnyT.done (by kernel_rfl) ?_ _
                  clear hHeld p0 p2 p0' p2'
                  go_wp2_with fail
                  go_roundw
                  case rel => exact ⟨i + 1, k, rfl, by go_num, rfl, by omega, by omega, HD9⟩
                  case measure => simp [intOf]; omega
              · have t1 : decide ((k : Int) < (L.length : Int)) = false := decide_eq_false (by omega)
                have hkk : k = L.length := by omega
                go_wp2_with fail
                refine AnyT.start (S := fun w' => True) (T := []) (by kernel_rfl) (trivial) (fun hHeld => ?_)
                refine AnyT.take (i := 0) (v := ?_) (by simp only [List.getElem?_toArray, List.getElem?_cons_succ, List.getElem?_cons_zero]; rfl) (by kernel_rfl) (by kernel_rfl) (by kernel_rfl) (by kernel_rfl) (by intro _ _ _ h; exact h) (Or.inl ⟨by rfl, fun w hSw => ?_⟩) hHeld ?_
                rotate_left
                · ((try dsimp only at hSw); go_simp; first | done | with_reducible rfl | rfl)
                try simp only [Act.put, List.setIfInBounds_toArray, List.set_cons_zero, List.set_cons_succ]
                refine AnyT.take (i := 1) (v := ?_) (by simp only [List.getElem?_toArray, List.getElem?_cons_succ, List.getElem?_cons_zero]; rfl) (by kernel_rfl) (by kernel_rfl) (by kernel_rfl) (by kernel_rfl) (by intro _ _ _ h; exact h) (Or.inl ⟨by rfl, fun w hSw => ?_⟩) hHeld ?_
                rotate_left
                · ((try dsimp only at hSw); go_simp; first | done | with_reducible rfl | rfl)
                try simp only [Act.put, List.setIfInBounds_toArray, List.set_cons_zero, List.set_cons_succ]
                refine AnyT.take (i := 2) (v := ?_) (by simp only [List.getElem?_toArray, List.getElem?_cons_succ, List.getElem?_cons_zero]; rfl) (by kernel_rfl) (by kernel_rfl) (by kernel_rfl) (by kernel_rfl) (by intro _ _ _ h; exact h) (Or.inl ⟨by rfl, fun w hSw => ?_⟩) hHeld ?_
                rotate_left
                · ((try dsimp only at hSw); go_simp; first | done | with_reducible rfl | rfl)
                try simp only [Act.put, List.setIfInBounds_toArray, List.set_cons_zero, List.set_cons_succ]
                refine AnyT.take (i := 3) (v := ?_) (by simp only [List.getElem?_toArray, List.getElem?_cons_succ, List.getElem?_cons_zero]; rfl) (by kernel_rfl) (by kernel_rfl) (by kernel_rfl) (by kernel_rfl) (by intro _ _ _ h; exact h) (Or.inl ⟨by rfl, fun w hSw => ?_⟩) hHeld ?_
                rotate_left
                · ((try dsimp only at hSw); go_simp; first | done | with_reducible rfl | rfl)
                try simp only [Act.put, List.setIfInBounds_toArray, List.set_cons_zero, List.set_cons_succ]
                refine AnyT.take (i := 4) (v := ?_) (by simp only [List.getElem?_toArray, List.getElem?_cons_succ, List.getElem?_cons_zero]; rfl) (by kernel_rfl) (by kernel_rfl) (by kernel_rfl) (by kernel_rfl) (by intro _ _ _ h; exact h) (Or.inl ⟨by rfl, fun w hSw => ?_⟩) hHeld ?_
                rotate_left
                · ((try dsimp only at hSw); go_simp; first | done | with_reducible rfl | rfl)
                try simp only [Act.put, List.setIfInBounds_toArray, List.set_cons_zero, List.set_cons_succ]
                refine AnyT.take (i := 5) (v := undef) (by simp only [List.getElem?_toArray, List.getElem?_cons_succ, List.getElem?_cons_zero]; rfl) (by kernel_rfl) (by kernel_rfl) (by kernel_rfl) (by kernel_rfl) (by intro _ _ _ h; exact h) (Or.inr ⟨by rfl, rfl⟩) hHeld ?_
                try simp only [Act.put, List.setIfInBounds_toArray, List.set_cons_zero, List.set_cons_succ]
                refine AnyT.take (i := 6) (v := undef) (by simp only [List.getElem?_toArray, List.getElem?_cons_succ, List.getElem?_cons_zero]; rfl) (by kernel_rfl) (by kernel_rfl) (by kernel_rfl) (by kernel_rfl) (by intro _ _ _ h; exact h) (Or.inr ⟨by rfl, rfl⟩) hHeld ?_
                try simp only [Act.put, List.setIfInBounds_toArray, List.set_cons_zero, List.set_cons_succ]
                refine AnyT.take (i := 7) (v := undef) (by simp only [List.getElem?_toArray, List.getElem?_cons_succ, List.getElem?_cons_zero]; rfl) (by kernel_rfl) (by kernel_rfl) (by kernel_rfl) (by kernel_rfl) (by intro _ _ _ h; exact h) (Or.inr ⟨by rfl, rfl⟩) hHeld ?_
                try simp only [Act.put, List.setIfInBounds_toArray, List.set_cons_zero, List.set_cons_succ]
                refine AnyT.take (i := 8) (v := undef) (by simp only [List.getElem?_toArray, List.getElem?_cons_succ, List.getElem?_cons_zero]; rfl) (by kernel_rfl) (by kernel_rfl) (by kernel_rfl) (by kernel_rfl) (by intro _ _ _ h; exact h) (Or.inr ⟨by rfl, rfl⟩) hHeld ?_
                try simp only [Act.put, List.setIfInBounds_toArray, List.set_cons_zero, List.set_cons_succ]
                refine AnyT.take (i := 9) (v := undef) (by simp only [List.getElem?_toArray, List.getElem?_cons_succ, List.getElem?_cons_zero]; rfl) (by kernel_rfl) (by kernel_rfl) (by kernel_rfl) (by kernel_rfl) (by intro _ _ _ h; exact h) (Or.inr ⟨by rfl, rfl⟩) hHeld ?_
                try simp only [Act.put, List.setIfInBounds_toArray, List.set_cons_zero, List.set_cons_succ]
                refine AnyT.take (i := 10) (v := undef) (by simp only [List.getElem?_toArray, List.getElem?_cons_succ, List.getElem?_cons_zero]; rfl) (by kernel_rfl) (by kernel_rfl) (by kernel_rfl) (by kernel_rfl) (by intro _ _ _ h; exact h) (Or.inr ⟨by rfl, rfl⟩) hHeld ?_
                try simp only [Act.put, List.setIfInBounds_toArray, List.set_cons_zero, List.set_cons_succ]
                refine AnyT.take (i := 11) (v := undef) (by simp only [List.getElem?_toArray, List.getElem?_cons_succ, List.getElem?_cons_zero]; rfl) (by kernel_rfl) (by kernel_rfl) (by kernel_rfl) (by kernel_rfl) (by intro _ _ _ h; exact h) (Or.inr ⟨by rfl, rfl⟩) hHeld ?_
                try simp only [Act.put, List.setIfInBounds_toArray, List.set_cons_zero, List.set_cons_succ]
                refine AnyT.take (i := 12) (v := undef) (by simp only [List.getElem?_toArray, List.getElem?_cons_succ, List.getElem?_cons_zero]; rfl) (by kernel_rfl) (by kernel_rfl) (by kernel_rfl) (by kernel_rfl) (by intro _ _ _ h; exact h) (Or.inr ⟨by rfl, rfl⟩) hHeld ?_
                try simp only [Act.put, List.setIfInBounds_toArray, List.set_cons_zero, List.set_cons_succ]
                refine AnyT.take (i := 13) (v := undef) (by simp only [List.getElem?_toArray, List.getElem?_cons_succ, List.getElem?_cons_zero]; rfl) (by kernel_rfl) (by kernel_rfl) (by kernel_rfl) (by kernel_rfl) (by intro _ _ _ h; exact h) (Or.inr ⟨by rfl, rfl⟩) hHeld ?_
                try simp only [Act.put, List.setIfInBounds_toArray, List.set_cons_zero, List.set_cons_succ]
                refine AnyT.take (i := 14) (v := undef) (by simp only [List.getElem?_toArray, List.getElem?_cons_succ, List.getElem?_cons_zero]; rfl) (by kernel_rfl) (by kernel_rfl) (by kernel_rfl) (by kernel_rfl) (by intro _ _ _ h; exact h) (Or.inr ⟨by rfl, rfl⟩) hHeld ?_
                try simp only [Act.put, List.setIfInBounds_toArray, List.set_cons_zero, List.set_cons_succ]
                refine AnyT.take (i := 15) (v := undef) (by simp only [List.getElem?_toArray, List.getElem?_cons_succ, List.getElem?_cons_zero]; rfl) (by kernel_rfl) (by kernel_rfl) (by kernel_rfl) (by kernel_rfl) (by intro _ _ _ h; exact h) (Or.inr ⟨by rfl, rfl⟩) hHeld ?_
                try simp only [Act.put, List.setIfInBounds_toArray, List.set_cons_zero, List.set_cons_succ]
                refine AnyT.take (i := 16) (v := undef) (by simp only [List.getElem?_toArray, List.getElem?_cons_succ, List.getElem?_cons_zero]; rfl) (by kernel_rfl) (by kernel_rfl) (by kernel_rfl) (by kernel_rfl) (by intro _ _ _ h; exact h) (Or.inr ⟨by rfl, rfl⟩) hHeld ?_
                try simp only [Act.put, List.setIfInBounds_toArray, List.set_cons_zero, List.set_cons_succ]
                refine AnyT.take (i := 17) (v := ?_) (by simp only [List.getElem?_toArray, List.getElem?_cons_succ, List.getElem?_cons_zero]; rfl) (by kernel_rfl) (by kernel_rfl) (by kernel_rfl) (by kernel_rfl) (by intro _ _ _ h; exact h) (Or.inl ⟨by rfl, fun w hSw => ?_⟩) hHeld ?_
                rotate_left
                · ((try dsimp only at hSw); go_simp; first | done | with_reducible rfl | rfl)
                try simp only [Act.put, List.setIfInBounds_toArray, List.set_cons_zero, List.set_cons_succ]
                refine AnyT.done (by kernel_rfl) ?_ _
                clear hHeld
                obtain ⟨cb, hcb⟩ : ∃ cb : Bool, ((i : Int) + 1 == (el.length : Int)) = cb := ⟨_, rfl⟩
                have hdd : Dr w8 w8.drew := (Dr.refl w8).drew
                have HD9 := hid (HD.out.trans hdd)
                clear hdd
                cases cb with
                | true =>
                  go_wp2_with fail
                  go_roundw
                  case rel => exact ⟨i + 1, k, rfl, by go_num, rfl, by omega, by omega, HD9⟩
                  case measure => simp [intOf]; omega
                | false =>
                  go_wp2_with fail
                  go_roundw
                  case rel => exact ⟨i + 1, k, rfl, by go_num, rfl, by omega, by omega, HD9⟩
                  case measure => simp [intOf]; omega
          · have t2 : decide ((k : Int) < (L.length : Int)) = false := decide_eq_false (by omega)
            go_wp2_with fail
            rw [← HLN.out]
            refine (ordered_any pA pc l _ (HP6.out.keep0 HD.out.only) (by rw [HLN.out]; omega) HKB.out).mono ?_
            rintro e w9 ⟨rfl, hd9⟩
            rw [HLL.out, HT.out.ord]
            have HO9 := hid ((HO6.out.dr HD.out).dr hd9)
            have HP9 := hid ((HP6.out.keep0 HD.out.only).keep0 hd9.only)
            clear hd9
            go_wp2_with fail
            go_ret3
            exact ⟨pA, pc, _, l, by rw [← HMB2.out]; first | rfl | simp, rfl, HLL, HP9, HO9⟩
        · have t1 : decide ((i : Int) < (el.length : Int)) = false := decide_eq_false (by omega)
          go_wp2_with fail
          rw [← HLN.out]
          refine (ordered_any pA pc l _ (HP6.out.keep0 HD.out.only) (by rw [HLN.out]; omega) HKB.out).mono ?_
          rintro e w9 ⟨rfl, hd9⟩
          rw [HLL.out, HT.out.ord]
          have HO9 := hid ((HO6.out.dr HD.out).dr hd9)
          have HP9 := hid ((HP6.out.keep0 HD.out.only).keep0 hd9.only)
          clear hd9
          go_wp2_with fail
          go_ret3
          exact ⟨pA, pc, _, l, by rw [← HMB2.out]; first | rfl | simp, rfl, HLL, HP9, HO9⟩
end Go.Proofs.YtloflmcgbbbnjaaDoor
