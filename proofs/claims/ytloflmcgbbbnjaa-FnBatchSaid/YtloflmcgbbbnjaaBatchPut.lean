/-
  appendRec for a call of Put: the record is appended.
-/
import Derived.Test.YtloflmcgbbbnjaaBatch
import Derived.Deep.RegionLaw
import Derived.Deep.AppendLies
import Derived.Deep.CutRange
import Derived.StillTailTactics
namespace Go.Proofs.Ytloflmcgbbbnjaa
open Go.RowKit Plain

set_option maxHeartbeats 6400000 in
set_option maxRecDepth 100000 in
theorem appendPut_any (b n kc vc : Nat) (kA vA : Option Addr) (data k v : List UInt8) (w0 w : World) (hB : BatAt w0 w b data n) (ho : Only [] w0 w) (hk : BsAt w0 kA k) (hv : BsAt w0 vA v)
    (h1 : data.length ≤ 549755813888) (h2 : k.length ≤ 2147483648) (h2v : v.length ≤ 2147483648) (h3 : n ≤ 1073741824) :
    Calls Try.prog 25 #[.pointer (some ⟨b, 0, none⟩), .int .u64 1, .slice kA k.length kc, .slice vA v.length vc] w fun e w' => e = .returned (.tuple #[]) ∧
      BatAt w0 w' b (data ++ recPut k v) (n + 1) ∧ Only [] w0 w' := by
  obtain ⟨hBb, dA, dc, iA, ic, il, xs, hb, hd, hdc, hown, hfrom⟩ := hB
  obtain ⟨m, hm⟩ : ∃ m, m = k.length + 6 + (5 + v.length) := ⟨_, rfl⟩
  have hgrow := grow_bat b m n dc ic dA iA il data _ w hb hd ho.size (by omega) (by omega) hdc (by omega) (by omega)
  have hG := hid hgrow
  have hu0 := uv_pos k.length
  have hu5 : (uv k.length).length ≤ 5 := uv_len5 (show k.length < 34359738368 by omega)
  have hu1 : k.length = 0 → (uv k.length).length = 1 := fun h => by rw [h, uv_small (by decide)]; rfl
  have hx0 := uv_pos v.length
  have hx5 : (uv v.length).length ≤ 5 := uv_len5 (show v.length < 34359738368 by omega)
  have hx1 : v.length = 0 → (uv v.length).length = 1 := fun h => by rw [h, uv_small (by decide)]; rfl
  obtain ⟨o2, ho2⟩ : ∃ o, o = data.length + 1 + (uv k.length).length := ⟨_, rfl⟩
  obtain ⟨o3, ho3⟩ : ∃ o, o = o2 + k.length := ⟨_, rfl⟩
  obtain ⟨o4, ho4⟩ : ∃ o, o = o3 + (uv v.length).length := ⟨_, rfl⟩
  obtain ⟨o5, ho5⟩ : ∃ o, o = o4 + v.length := ⟨_, rfl⟩
  have e1 : IntKind.i64.wrap (6 + (k.length : Int)) = (k.length : Int) + 6 := by rw [i64_id (by omega) (by omega)]; omega
  have e1a : IntKind.i64.wrap (5 + (v.length : Int)) = 5 + (v.length : Int) := i64_id (by omega) (by omega)
  have e1b : IntKind.i64.wrap ((k.length : Int) + 6 + (5 + (v.length : Int))) = (m : Int) := by rw [i64_id (by omega) (by omega)]; omega
  have e2 : IntKind.i64.wrap ((data.length : Int) + (m : Int)) = (data.length : Int) + (m : Int) := i64_id (by omega) (by omega)
  have e3 : IntKind.i64.wrap ((data.length : Int) + 1) = (data.length : Int) + 1 := i64_id (by omega) (by omega)
  have e4 : IntKind.i64.wrap ((data.length : Int) + 1 + ((uv k.length).length : Int)) = (o2 : Int) := by rw [i64_id (by omega) (by omega)]; omega
  have e5 : IntKind.i64.wrap ((o2 : Int) + (k.length : Int)) = (o3 : Int) := by rw [i64_id (by omega) (by omega)]; omega
  have e6 : IntKind.i64.wrap ((o3 : Int) + ((uv v.length).length : Int)) = (o4 : Int) := by rw [i64_id (by omega) (by omega)]; omega
  have e7 : IntKind.i64.wrap ((o4 : Int) + (v.length : Int)) = (o5 : Int) := by rw [i64_id (by omega) (by omega)]; omega
  clear hgrow
  have hlb := hb.lt
  have hown' := own_lt hown
  have hownb := own_ne hown hb (by decide)
  have HO := hid hown
  have HK := hid hk
  have HV := hid hv
  have HF := hid hfrom
  have HM := hid hm
  have E2 := hid ho2; have E3 := hid ho3; have E4 := hid ho4; have E5 := hid ho5
  have s0 : o5 ≤ data.length + m := by omega
  have s0' : o4 < data.length + m := by omega
  have s0'' : o3 < o4 := by omega
  have s0''' : o2 ≤ o3 := by omega
  have s2 : (o2 : Int) ≤ (data.length : Int) + (m : Int) := by omega
  have s3 : (o3 : Int) ≤ (data.length : Int) + (m : Int) := by omega
  have s4 : (o4 : Int) ≤ (data.length : Int) + (m : Int) := by omega
  have hmpos : 0 < m := by omega
  have D1 := hid (show k.length = min k.length (data.length + m - o2) by omega)
  have D2 := hid (show v.length = min v.length (data.length + m - o4) by omega)
  clear hm ho2 ho3 ho4 ho5
  go_enter Try.func25, Try.ntmps25
  go_wp2_with (first
    | (go_at_call 29; refine hG.out.mono ?_; rintro e w1 ⟨rfl, g, cs, dc', hb1, hle, hmax, ho1, hBg, hbg, hcl, htk⟩
       have hgb : g ≠ b := hbg.ne_ hb1 (by decide)
       have hbg' : b ≠ g := fun e => hgb e.symm
       have hl1 := hb1.lt
       have hl2 := hbg.lt
       have k0 : w1.cell? ⟨b, 0, none⟩ = some (.slice (some ⟨g, 0, none⟩) data.length dc') := hb1.cell 0
       have kf := hb1.frozen 0
       have g0 := (hbg.cell data.length).trans (List.getElem?_eq_getElem (by omega))
       have gf := hbg.frozen data.length
       have hcap1 : ¬ dc' = data.length + 1 := by have := HM.out; omega
       have s1 : (data.length : Int) + (m : Int) ≤ (dc' : Int) := by omega
       have s1' : (data.length : Int) < (data.length : Int) + (m : Int) := by omega
       have s1'' : (data.length : Int) + 1 ≤ (data.length : Int) + (m : Int) := by omega
       have o1 := HO.out
       replace o1 := own_only o1 ho1 (by simpa using hownb)
       have hog := own_ne o1 hbg (by decide)
       have HO1 := hid o1
       have HB1 := hid hb1
       have HBG := hid hbg
       have HTK := hid htk
       clear hb1 hbg htk o1))
  refine (putUvarint_any g (data.length + 1) (data.length + m - (data.length + 1)) (dc' - (data.length + 1)) k.length _ _ ((HBG.out.set_ data.length (.int .u8 1)).alloc _) (by rw [List.length_set]; omega) (by have := HM.out; omega) (by omega) (by have := HM.out; omega)).mono ?_
  rintro e w2 ⟨rfl, hbg2, ho2, hz2⟩
  obtain ⟨c2, hc2⟩ : ∃ c, c = splice (cs.set data.length (.int .u8 1)) (data.length + 1) (bc (uv k.length)) := ⟨_, rfl⟩
  rw [← hc2] at hbg2
  have hl2' : c2.length = dc' := by rw [hc2, length_splice _ _ _ (by rw [bc_length, List.length_set]; have := HM.out; omega), List.length_set, hcl]
  have hb2 := ((HB1.out.far (p := ⟨g, data.length, none⟩) hbg' (.int .u8 1)).alloc (Obj.cells #[Value.int IntKind.u64 1, Value.int IntKind.i64 0, Value.int IntKind.i64 0, Value.int IntKind.i64 0, Value.int IntKind.i64 0] 71)).only ho2 (by simpa using hbg')
  have hx2 := (Blk.new' (size_setCell w1 ⟨g, data.length, none⟩ (.int .u8 1)) 71 [Value.int IntKind.u64 1, Value.int IntKind.i64 0, Value.int IntKind.i64 0, Value.int IntKind.i64 0, Value.int IntKind.i64 0]).only ho2 (by simp; omega)
  have xl := hx2.lt
  have x1 : w2.cell? ⟨w1.heap.size, 1, none⟩ = some (.int .i64 0) := hx2.cell 1
  have x2 : w2.cell? ⟨w1.heap.size, 2, none⟩ = some (.int .i64 0) := hx2.cell 2
  have xf : ∀ i, w2.frozen? ⟨w1.heap.size, i, none⟩ = false := fun i => hx2.frozen i
  have hcap2 : ¬ dc' = o2 := by omega
  have c2o : Only [g, b] w1 w2 := (((Only.refl [g, b] w1).setCell (p := ⟨g, data.length, none⟩) (.inl (by simp)) (.int .u8 1)).alloc (Obj.cells #[Value.int IntKind.u64 1, Value.int IntKind.i64 0, Value.int IntKind.i64 0, Value.int IntKind.i64 0, Value.int IntKind.i64 0] 71)).trans' ho2 (fun i _ h => by simp at h; simp [h])
  have q1 : Only [] w0 w1 := ho.trans' ho1 (by simp; omega)
  have hsz1 := q1.size
  have HC2 := hid c2o
  have HQ1 := hid q1
  have HB2 := hid hb2
  have HBG2 := hid hbg2
  have HX2 := hid hx2
  have HS2 := hid hc2
  clear hb2 hbg2 hx2 hc2 hz2 c2o q1
  have hH1 : w1.heap.size ≠ g := by omega
  have hH2 : w1.heap.size ≠ b := by omega
  have c2' : Only [g, b] w1 ((w2.setCell ⟨w1.heap.size, 1, none⟩ (.int .i64 (o2 : Int))).setCell ⟨w1.heap.size, 2, none⟩ (.int .i64 (k.length : Int))) := (HC2.out.setCell (p := ⟨w1.heap.size, 1, none⟩) (.inr (Nat.le_refl _)) _).setCell (p := ⟨w1.heap.size, 2, none⟩) (.inr (Nat.le_refl _)) _
  have hbs := HK.out.keep0 (HQ1.out.trans' c2' (by simp; omega))
  have hfit2 : o2 + k.length ≤ c2.length := by have := E3.out; omega
  have HC2' := hid c2'
  have HBS := hid hbs
  clear c2' hbs
  go_wp2_with (first
    | (refine wp_copy rfl (.tmp 64) (.tmp 65) 24 24 rfl 5 Try.underlying24 Try.size_b g o2 (data.length + m - o2) (dc' - o2) kA k.length kc rfl rfl _ _ ((HBG2.out.far hH1.symm _).far hH1.symm _) k HBS.out D1.out hfit2 ?_; intro w3 hbg3 hz3 ho3; clear hz3
       have hb3 := (((HB2.out.far (p := ⟨w1.heap.size, 1, none⟩) hH2.symm (.int .i64 (o2 : Int))).far (p := ⟨w1.heap.size, 2, none⟩) hH2.symm (.int .i64 (k.length : Int))).only ho3 (by simpa using hbg'))
       have hx3 := ((HX2.out.set_ 1 (.int .i64 (o2 : Int))).set_ 2 (.int .i64 (k.length : Int))).only ho3 (by simpa using hH1)
       have c3 : Only [g, b] w1 w3 := HC2'.out.trans' ho3 (fun i _ h => by simp at h; simp [h])
       have HB3 := hid hb3; have HX3 := hid hx3; have HBG3 := hid hbg3; have HC3 := hid c3; clear hb3 hx3 hbg3 c3 ho3))
  have hcap3 : ¬ dc' = o3 := by omega
  obtain ⟨c3, hc3⟩ : ∃ c, c = splice c2 o2 (bc k) := ⟨_, rfl⟩
  have hbg3 := HBG3.out
  rw [← hc3] at hbg3
  have hl3' : c3.length = dc' := by rw [hc3, length_splice _ _ _ (by rw [bc_length]; omega), hl2']
  refine (putUvarint_any g o3 (data.length + m - o3) (dc' - o3) v.length _ _ hbg3 (by omega) (by have := E4.out; omega) (by omega) (by have := HM.out; omega)).mono ?_
  rintro e w4 ⟨rfl, hbg4, ho4, hz4⟩
  obtain ⟨c4, hc4⟩ : ∃ c, c = splice c3 o3 (bc (uv v.length)) := ⟨_, rfl⟩
  rw [← hc4] at hbg4
  have hl4' : c4.length = dc' := by rw [hc4, length_splice _ _ _ (by rw [bc_length]; have := E4.out; omega), hl3']
  have hb4 := HB3.out.only ho4 (by simpa using hbg')
  have hx4 := HX3.out.only ho4 (by simpa using hH1)
  have c4o := HC3.out.trans' ho4 (S := [g, b]) (fun i _ h => by simp at h; simp [h])
  have xl4 := hx4.lt
  have x3 : w4.cell? ⟨w1.heap.size, 3, none⟩ = some (.int .i64 0) := hx4.cell 3
  have x4 : w4.cell? ⟨w1.heap.size, 4, none⟩ = some (.int .i64 0) := hx4.cell 4
  have xf4 : ∀ i, w4.frozen? ⟨w1.heap.size, i, none⟩ = false := fun i => hx4.frozen i
  have hcap4 : ¬ dc' = o4 := by omega
  have c4' : Only [g, b] w1 ((w4.setCell ⟨w1.heap.size, 3, none⟩ (.int .i64 (o4 : Int))).setCell ⟨w1.heap.size, 4, none⟩ (.int .i64 (v.length : Int))) := (c4o.setCell (p := ⟨w1.heap.size, 3, none⟩) (.inr (Nat.le_refl _)) _).setCell (p := ⟨w1.heap.size, 4, none⟩) (.inr (Nat.le_refl _)) _
  have hbs4 := HV.out.keep0 (HQ1.out.trans' c4' (by simp; omega))
  have hfit4 : o4 + v.length ≤ c4.length := by have := E5.out; omega
  have hsp := splice4 cs data.length o2 o3 o4 (.int .u8 1) (bc (uv k.length)) (bc k) (bc (uv v.length)) (bc v) (by rw [bc_length]; exact E2.out) (by rw [bc_length]; exact E3.out) (by rw [bc_length]; exact E4.out) (by rw [bc_length]; have := E5.out; omega)
  have hrec : Value.int .u8 1 :: (bc (uv k.length) ++ bc k ++ (bc (uv v.length) ++ bc v)) = bc (recPut k v) := by simp [recPut, bc_append, bc_cons]
  rw [hrec, ← HS2.out, ← hc3, ← hc4] at hsp
  have hrl : (recPut k v).length = 1 + (uv k.length).length + k.length + ((uv v.length).length + v.length) := by simp [recPut]; omega
  have HS := hid hsp
  have HB4 := hid hb4; have HX4 := hid hx4; have HBG4 := hid hbg4; have HC4' := hid c4'; have HBS4 := hid hbs4
  clear hb4 hx4 hbg4 c4' hbs4 c4o hsp hrec hc3 hc4 hz4 hbg3
  go_wp2_with (first
    | (refine wp_copy rfl (.tmp 87) (.tmp 88) 24 24 rfl 5 Try.underlying24 Try.size_b g o4 (data.length + m - o4) (dc' - o4) vA v.length vc rfl rfl _ _ ((HBG4.out.far hH1.symm _).far hH1.symm _) v HBS4.out D2.out hfit4 ?_; intro w5 hbg5 hz5 ho5; clear hz5; rw [HS.out] at hbg5
       have hb5 := (((HB4.out.far (p := ⟨w1.heap.size, 3, none⟩) hH2.symm (.int .i64 (o4 : Int))).far (p := ⟨w1.heap.size, 4, none⟩) hH2.symm (.int .i64 (v.length : Int))).only ho5 (by simpa using hbg'))
       have hx5 := ((HX4.out.set_ 3 (.int .i64 (o4 : Int))).set_ 4 (.int .i64 (v.length : Int))).only ho5 (by simpa using hH1)
       have c5 : Only [g, b] w1 w5 := HC4'.out.trans' ho5 (fun i _ h => by simp at h; simp [h])
       have k0 : w5.cell? ⟨b, 0, none⟩ = some (.slice (some ⟨g, 0, none⟩) data.length dc') := hb5.cell 0
       have kf : ∀ i, w5.frozen? ⟨b, i, none⟩ = false := fun i => hb5.frozen i
       have kl := hb5.lt
       have y0 : w5.cell? ⟨w1.heap.size, 0, none⟩ = some (.int .u64 1) := hx5.cell 0
       have y1 : w5.cell? ⟨w1.heap.size, 1, none⟩ = some (.int .i64 (o2 : Int)) := hx5.cell 1
       have y2 : w5.cell? ⟨w1.heap.size, 2, none⟩ = some (.int .i64 (k.length : Int)) := hx5.cell 2
       have y3 : w5.cell? ⟨w1.heap.size, 3, none⟩ = some (.int .i64 (o4 : Int)) := hx5.cell 3
       have y4 : w5.cell? ⟨w1.heap.size, 4, none⟩ = some (.int .i64 (v.length : Int)) := hx5.cell 4
       have k1 : w5.cell? ⟨b, 1, none⟩ = some (.slice iA n ic) := hb5.cell 1
       have yl := hx5.lt
       have s5 : (o5 : Int) ≤ (dc' : Int) := by omega
       have HB5 := hid hb5; have HX5 := hid hx5; have HBG5 := hid hbg5; have HC5 := hid c5; clear hb5 hx5 hbg5 c5 ho5))
  have hown4 := own_only HO1.out (HC5.out.setCell (p := ⟨b, 0, none⟩) (.inl (by simp)) (.slice (some ⟨g, 0, none⟩) o5 dc')) (by
    intro j hj
    have := hog j hj
    have := hownb j hj
    simp; omega)
  have HO4 := hid hown4
  clear hown4
  obtain ⟨i0, hi0, hz0⟩ := Option.map_eq_some_iff.1 Try.info_idx
  simp only [Prod.mk.injEq] at hz0
  obtain ⟨hz1, hz2, hz3'⟩ := hz0
  have hnews : ∀ (X : World) (h : Nat), X.heap.size = h → ∀ (j : Nat) (u : Value), [Value.int .u64 1, Value.int .i64 (o2 : Int), Value.int .i64 (k.length : Int), Value.int .i64 (o4 : Int), Value.int .i64 (v.length : Int)][j]? = some u →
      (X.alloc (.cells #[Value.int .u64 1, Value.int .i64 (o2 : Int), Value.int .i64 (k.length : Int), Value.int .i64 (o4 : Int), Value.int .i64 (v.length : Int)] 71)).drew.cell? ((⟨h, 0, none⟩ : Addr).add j) = some u := fun X h hh j u hj => by
    subst hh
    rw [add_none, Nat.zero_add, ← hj]
    exact (Blk.new X _ _).cell j
  have HN := hid hnews
  clear hnews
  have hHo : ∀ j, (Value.slice iA n ic).ownBlock = some j → j ≠ w1.heap.size := fun j hj => by have := hown' j hj; have := ho1.size; omega
  have HHo := hid hHo
  have HOb := hid hownb
  have HOg := hid hog
  clear hHo hownb hog
  go_region_law (refine step_append_lies _ rfl (.tmp 101) (.tmp 103) 52 rfl 0 71 i0 (.agg #[.int .u64 0, .int .i64 0, .int .i64 0, .int .i64 0, .int .i64 0]) 5 40 Try.underlying52 hi0 hz1 hz2 hz3' rfl (by decide) (.slice iA n ic) n xs rfl (HO4.out.drew.alloc _) _ 1 1 [Value.int .u64 1, Value.int .i64 (o2 : Int), Value.int .i64 (k.length : Int), Value.int .i64 (o4 : Int), Value.int .i64 (v.length : Int)] rfl rfl (HN.out _ _ (size_setCell _ _ _)) (by simp [Value.oneCell']) (by decide) (by simp [maxLen]; omega) (by omega) (Nat.zero_le _) _ rfl ?_; intro r ic' w6 hown6 hgr6 hat6 hlt6
                 have hO6 := Only.of_grown hgr6 (S := (Value.slice iA n ic).ownBlock.toList) (fun k hk => by simp [hk])
                 have hb6 := Blk.only (((HB5.out.set_ 0 (.slice (some ⟨g, 0, none⟩) o5 dc')).alloc _).drew) hO6 (fun h => HOb.out b (by simpa using h) rfl)
                 have hx6 := Blk.only (((HX5.out.far (p := ⟨b, 0, none⟩) hH2 _).alloc _).drew) hO6 (fun h => HHo.out _ (by simpa using h) rfl)
                 have k1 : w6.cell? ⟨b, 1, none⟩ = some (.slice iA n ic) := hb6.cell 1
                 have kf : ∀ i, w6.frozen? ⟨b, i, none⟩ = false := fun i => hb6.frozen i
                 have kl := hb6.lt; have HO6' := hid hO6; have HB6 := hid hb6; have HX6 := hid hx6; clear hO6 hb6 hx6)
  all_goals go_wp2
  all_goals
    have hb7 := HB6.out.set_ 1 (.slice (some ⟨r, 0, none⟩) (n + 1) ic')
    have hx7 := HX6.out.far (p := ⟨b, 1, none⟩) hH2 (.slice (some ⟨r, 0, none⟩) (n + 1) ic')
    have o7 := (Only.refl [b] w6).setCell (p := ⟨b, 1, none⟩) (.inl (by simp)) (.slice (some ⟨r, 0, none⟩) (n + 1) ic')
    have hg7 := (((HBG5.out.far (p := ⟨b, 0, none⟩) hgb (.slice (some ⟨g, 0, none⟩) o5 dc')).alloc _).drew.only HO6'.out (fun h => HOg.out g (by simpa using h) rfl)).far (p := ⟨b, 1, none⟩) hgb (.slice (some ⟨r, 0, none⟩) (n + 1) ic')
    generalize w6.setCell ⟨b, 1, none⟩ (.slice (some ⟨r, 0, none⟩) (n + 1) ic') = w7 at hb7 hx7 o7 hg7 ⊢
    have k2 : w7.cell? ⟨b, 2, none⟩ = some (.int .i64 il) := hb7.cell 2
    have y2 : w7.cell? ⟨w1.heap.size, 2, none⟩ = some (.int .i64 (k.length : Int)) := hx7.cell 2
    have y4 : w7.cell? ⟨w1.heap.size, 4, none⟩ = some (.int .i64 (v.length : Int)) := hx7.cell 4
    have kf : ∀ i, w7.frozen? ⟨b, i, none⟩ = false := fun i => hb7.frozen i
    have HB7 := hid hb7
    have HO7 := hid o7
    clear hb7 hx7 o7
    go_still_tail 13, (by kernel_rfl)
    go_wp2
    go_end0
    have hrb : r ≠ b := own_ne hown6 HB6.out (by decide) r rfl
    have hr0 : w0.heap.size ≤ r := by
      rcases hat6 with h | h
      · exact HF.out r h
      · have := HC5.out.size
        rw [h]; simp; omega
    have he2 := E2.out; have he3 := E3.out; have he4 := E4.out; have he5 := E5.out
    refine ⟨rfl, bat_fin hBb hBg hmax (by omega) (by omega) hcl HTK.out (hg7.far (p := ⟨b, 2, none⟩) hgb _).drew (HB7.out.set_ 2 _).drew (own_only hown6 ((HO7.out.setCell (p := ⟨b, 2, none⟩) (.inl (by simp)) _).drew) (by simpa [Value.ownBlock] using hrb)) hr0, ?_⟩
    have q3 : Only [] w0 w5 := HQ1.out.trans' HC5.out (by simp; omega)
    have q4 := ((q3.setCell (p := ⟨b, 0, none⟩) (.inr hBb) (.slice (some ⟨g, 0, none⟩) o5 dc')).alloc _).drew.trans' HO6'.out (fun i hi hm => by have := HF.out i (by simpa using hm); omega)
    exact ((q4.trans' HO7.out (by simp; omega)).setCell (p := ⟨b, 2, none⟩) (.inr hBb) _).drew
end Go.Proofs.Ytloflmcgbbbnjaa
