/-
  appendRec for a call of Delete: the record is appended.
-/
import Derived.Test.YtloflmcgbbbnjaaBatch
import Derived.Deep.RegionLaw
import Derived.Deep.AppendLies
import Derived.Deep.CutRange
import Derived.StillTailTactics
namespace Go.Proofs.Ytloflmcgbbbnjaa
open Go.RowKit Plain
set_option linter.all false

set_option maxHeartbeats 3200000 in
set_option maxRecDepth 100000 in
theorem appendDel_any (b n kc : Nat) (kA : Option Addr) (data k : List UInt8) (w0 w : World) (hB : BatAt w0 w b data n) (ho : Only [] w0 w) (hk : BsAt w0 kA k) (hkc : k.length ≤ kc)
    (h1 : data.length ≤ 549755813888) (h2 : k.length ≤ 2147483648) (h3 : n ≤ 1073741824) :
    Calls Try.prog 25 #[.pointer (some ⟨b, 0, none⟩), .int .u64 0, .slice kA k.length kc, .slice none 0 0] w fun e w' => e = .returned (.tuple #[]) ∧
      BatAt w0 w' b (data ++ recDel k) (n + 1) ∧ Only [] w0 w' := by
  obtain ⟨hBb, dA, dc, iA, ic, il, xs, hb, hd, hdc, hown, hfrom⟩ := hB
  have hgrow := grow_bat b (k.length + 6) n dc ic dA iA il data _ w hb hd ho.size (by omega) (by omega) hdc (by omega) (by omega)
  have hG := hid hgrow
  have e1 : IntKind.i64.wrap (6 + (k.length : Int)) = ((k.length + 6 : Nat) : Int) := by rw [i64_id (by omega) (by omega)]; omega
  have e2 : IntKind.i64.wrap ((data.length : Int) + ((k.length : Int) + 6)) = (data.length : Int) + ((k.length : Int) + 6) := i64_id (by omega) (by omega)
  have e3 : IntKind.i64.wrap ((data.length : Int) + 1) = (data.length : Int) + 1 := i64_id (by omega) (by omega)
  clear hgrow
  have hlb := hb.lt
  have hu0 := uv_pos k.length
  have hu5 : (uv k.length).length ≤ 5 := uv_len5 (show k.length < 34359738368 by omega)
  have hu1 : k.length = 0 → (uv k.length).length = 1 := fun h => by rw [h, uv_small (by decide)]; rfl
  have e4 : IntKind.i64.wrap ((data.length : Int) + 1 + ((uv k.length).length : Int)) = (data.length : Int) + 1 + ((uv k.length).length : Int) := i64_id (by omega) (by omega)
  have e5 : IntKind.i64.wrap ((data.length : Int) + 1 + ((uv k.length).length : Int) + (k.length : Int)) = (data.length : Int) + 1 + ((uv k.length).length : Int) + (k.length : Int) := i64_id (by omega) (by omega)
  have hown' := own_lt hown
  have hownb := own_ne hown hb (by decide)
  have HO := hid hown
  have HK := hid hk
  have HF := hid hfrom
  go_enter Try.func25, Try.ntmps25
  go_wp2_with (first
    | (go_at_call 29; refine hG.out.mono ?_; rintro e w1 ⟨rfl, g, cs, dc', hb1, hle, hmax, ho1, hBg, hbg, hcl, htk⟩
       have hgb : g ≠ b := hbg.ne_ hb1 (by decide)
       have hbg' : b ≠ g := fun e => hgb e.symm
       have hl1 := hb1.lt
       have hl2 := hbg.lt
       have k0 : w1.cell? ⟨b, 0, none⟩ = some (.slice (some ⟨g, 0, none⟩) data.length dc') := hb1.cell 0
       have kf := hb1.frozen 0
       have g0 := (hbg.cell data.length).trans (List.getElem?_eq_getElem (by omega))
       have gf := hbg.frozen data.length
       have hcap1 : ¬ dc' = data.length + 1 := by omega
       have s1 : (data.length : Int) + ((k.length : Int) + 6) ≤ (dc' : Int) := by omega
       have o1 := HO.out
       replace o1 := own_only o1 ho1 (by simpa using hownb)
       have hog := own_ne o1 hbg (by decide)
       have HO1 := hid o1
       have HB1 := hid hb1
       have HBG := hid hbg
       have HTK := hid htk
       clear hb1 hbg htk o1))
  refine (putUvarint_any g (data.length + 1) (data.length + (k.length + 6) - (data.length + 1)) (dc' - (data.length + 1)) k.length _ _ ((HBG.out.set_ data.length (.int .u8 0)).alloc _) (by rw [List.length_set]; omega) (by omega) (by omega) (by omega)).mono ?_
  rintro e w2 ⟨rfl, hbg2, ho2, hz2⟩
  have hb2 := ((HB1.out.far (p := ⟨g, data.length, none⟩) hbg' (.int .u8 0)).alloc (Obj.cells #[Value.int IntKind.u64 0, Value.int IntKind.i64 0, Value.int IntKind.i64 0, Value.int IntKind.i64 0, Value.int IntKind.i64 0] 71)).only ho2 (by simpa using hbg')
  have hx2 := (Blk.new' (size_setCell w1 ⟨g, data.length, none⟩ (.int .u8 0)) 71 [Value.int IntKind.u64 0, Value.int IntKind.i64 0, Value.int IntKind.i64 0, Value.int IntKind.i64 0, Value.int IntKind.i64 0]).only ho2 (by simp; omega)
  have xl := hx2.lt
  have x1 : w2.cell? ⟨w1.heap.size, 1, none⟩ = some (.int .i64 0) := hx2.cell 1
  have x2 : w2.cell? ⟨w1.heap.size, 2, none⟩ = some (.int .i64 0) := hx2.cell 2
  have xf : ∀ i, w2.frozen? ⟨w1.heap.size, i, none⟩ = false := fun i => hx2.frozen i
  have hcap2 : ¬ dc' = data.length + 1 + (uv k.length).length := by omega
  have s2 : (data.length : Int) + 1 + ((uv k.length).length : Int) ≤ (data.length : Int) + ((k.length : Int) + 6) := by omega
  have HB2 := hid hb2
  have HBG2 := hid hbg2
  have HX2 := hid hx2
  clear hb2 hbg2 hx2
  have hH1 : w1.heap.size ≠ g := by omega
  have hH2 : w1.heap.size ≠ b := by omega
  have hkA := fun W' (h : Only [] w0 W') => HK.out.keep0 h
  have oW : Only [] w0 (w2.setCell ⟨w1.heap.size, 1, none⟩ (.int .i64 ((data.length : Int) + 1 + ((uv k.length).length : Int)))) := by
    have q1 : Only [] w0 w1 := (ho.trans' ho1 (by simp; omega))
    have q2 := (q1.setCell (p := ⟨g, data.length, none⟩) (.inr hBg) (.int .u8 0)).alloc (Obj.cells #[Value.int IntKind.u64 0, Value.int IntKind.i64 0, Value.int IntKind.i64 0, Value.int IntKind.i64 0, Value.int IntKind.i64 0] 71)
    have q3 : Only [] w0 w2 := q2.trans' ho2 (by simp; omega)
    exact q3.setCell (.inr (by have := q1.size; simpa using this)) _
  have oW2 := oW.setCell (p := ⟨w1.heap.size, 2, none⟩) (.inr (by have := (ho.trans' ho1 (by simp; omega) : Only [] w0 w1).size; simpa using this)) (.int .i64 (k.length : Int))
  have hbs := HK.out.keep0 oW2
  have hsp1 := splice_splice cs data.length [.int .u8 0] (bc (uv k.length)) (by simp; omega)
  rw [← splice_one cs data.length _ (by omega), List.length_singleton] at hsp1
  have hsp2 := splice_splice cs data.length ([.int .u8 0] ++ bc (uv k.length)) (bc k) (by simp [bc_length]; omega)
  rw [List.length_append, List.length_singleton, bc_length, ← Nat.add_assoc, ← hsp1] at hsp2
  have hrec : [Value.int .u8 0] ++ bc (uv k.length) ++ bc k = bc (recDel k) := by simp [recDel, bc_append, bc_cons]
  rw [hrec] at hsp2
  have hrl : (recDel k).length = 1 + (uv k.length).length + k.length := by simp [recDel]; omega
  have hslen : (splice (cs.set data.length (Value.int .u8 0)) (data.length + 1) (bc (uv k.length))).length = dc' := by rw [length_splice _ _ _ (by rw [bc_length, List.length_set]; omega), List.length_set, hcl]
  have HS := hid hsp2
  clear hsp1 hsp2 hrec oW hkA
  have d1 : k.length = min k.length (data.length + (k.length + 6) - (data.length + 1 + (uv k.length).length)) := by omega
  have HD1 := hid d1
  have s3 : data.length + 1 + (uv k.length).length + k.length ≤ data.length + (k.length + 6) := by omega
  have s4 : (data.length : Int) + 1 + ((uv k.length).length : Int) + (k.length : Int) ≤ (dc' : Int) := by omega
  clear d1
  go_wp2_with (first
    | (refine wp_copy rfl (.tmp 64) (.tmp 65) 24 24 rfl 5 Try.underlying24 Try.size_b g (data.length + 1 + (uv k.length).length) (data.length + (k.length + 6) - (data.length + 1 + (uv k.length).length)) (dc' - (data.length + 1 + (uv k.length).length)) kA k.length kc rfl rfl _ _ ((HBG2.out.far hH1.symm _).far hH1.symm _) k hbs HD1.out (by rw [hslen]; omega) ?_; intro w3 hbg3 hz3 ho3; clear hz3 hz2; rw [HS.out] at hbg3; have HBG3 := hid hbg3; clear hbg3; have HO3 := hid ho3; clear ho3
       have hb3 := (((HB2.out.far (p := ⟨w1.heap.size, 1, none⟩) hH2.symm _).far (p := ⟨w1.heap.size, 2, none⟩) hH2.symm _).only HO3.out (by simpa using hbg')); have k0 : w3.cell? ⟨b, 0, none⟩ = some (.slice (some ⟨g, 0, none⟩) data.length dc') := hb3.cell 0; have kf : ∀ i, w3.frozen? ⟨b, i, none⟩ = false := fun i => hb3.frozen i; have HB3 := hid hb3; have kl := hb3.lt; clear hb3
       have hx3 := ((HX2.out.set_ 1 (.int .i64 ((data.length : Int) + 1 + ((uv k.length).length : Int)))).set_ 2 (.int .i64 (k.length : Int))).only HO3.out (by simpa using hH1)
       have y0 : w3.cell? ⟨w1.heap.size, 0, none⟩ = some (.int .u64 0) := hx3.cell 0
       have y1 : w3.cell? ⟨w1.heap.size, 1, none⟩ = some (.int .i64 ((data.length : Int) + 1 + ((uv k.length).length : Int))) := hx3.cell 1
       have y2 : w3.cell? ⟨w1.heap.size, 2, none⟩ = some (.int .i64 (k.length : Int)) := hx3.cell 2
       have y3 : w3.cell? ⟨w1.heap.size, 3, none⟩ = some (.int .i64 0) := hx3.cell 3
       have y4 : w3.cell? ⟨w1.heap.size, 4, none⟩ = some (.int .i64 0) := hx3.cell 4
       have k1 : w3.cell? ⟨b, 1, none⟩ = some (.slice iA n ic) := HB3.out.cell 1
       have k2 : w3.cell? ⟨b, 2, none⟩ = some (.int .i64 il) := HB3.out.cell 2
       have yl := hx3.lt
       have HX3 := hid hx3; clear hx3
       have c3 : Only [g, b] w1 w3 := (((((((Only.refl [g, b] w1).setCell (p := ⟨g, data.length, none⟩) (.inl (by simp)) (.int .u8 0)).alloc (Obj.cells #[Value.int IntKind.u64 0, Value.int IntKind.i64 0, Value.int IntKind.i64 0, Value.int IntKind.i64 0, Value.int IntKind.i64 0] 71)).trans' ho2 (fun i _ h => by simp at h; simp [h])).setCell (p := ⟨w1.heap.size, 1, none⟩) (.inr (Nat.le_refl _)) _).setCell (p := ⟨w1.heap.size, 2, none⟩) (.inr (Nat.le_refl _)) _).trans' HO3.out (fun i _ h => by simp at h; simp [h]))
       have HC3 := hid c3; clear c3))
  have hown4 := own_only HO1.out (HC3.out.setCell (p := ⟨b, 0, none⟩) (.inl (by simp)) (.slice (some ⟨g, 0, none⟩) (data.length + 1 + (uv k.length).length + k.length) dc')) (by
    intro j hj
    have := hog j hj
    have := hownb j hj
    simp; omega)
  have HO4 := hid hown4
  clear hown4
  obtain ⟨i0, hi0, hz0⟩ := Option.map_eq_some_iff.1 Try.info_idx
  simp only [Prod.mk.injEq] at hz0
  obtain ⟨hz1, hz2, hz3'⟩ := hz0
  have hnews : ∀ (X : World) (h : Nat), X.heap.size = h → ∀ (j : Nat) (u : Value), [Value.int .u64 0, Value.int .i64 ((data.length : Int) + 1 + ((uv k.length).length : Int)), Value.int .i64 (k.length : Int), .int .i64 0, .int .i64 0][j]? = some u →
      (X.alloc (.cells #[Value.int .u64 0, Value.int .i64 ((data.length : Int) + 1 + ((uv k.length).length : Int)), Value.int .i64 (k.length : Int), .int .i64 0, .int .i64 0] 71)).drew.cell? ((⟨h, 0, none⟩ : Addr).add j) = some u := fun X h hh j u hj => by
    subst hh
    rw [add_none, Nat.zero_add, ← hj]
    exact (Blk.new X _ _).cell j
  have HN := hid hnews
  clear hnews
  have hHo : ∀ j, (Value.slice iA n ic).ownBlock = some j → j ≠ w1.heap.size := fun j hj => by have := hown' j hj; have := ho1.size; omega
  have HHo := hid hHo
  have HOb := hid hownb
  have HOg := hid hog
  clear hHo hownb hog
  go_region_law (refine step_append_lies _ rfl (.tmp 101) (.tmp 103) 52 rfl 0 71 i0 (.agg #[.int .u64 0, .int .i64 0, .int .i64 0, .int .i64 0, .int .i64 0]) 5 40 Try.underlying52 hi0 hz1 hz2 hz3' rfl (by decide) (.slice iA n ic) n xs rfl (HO4.out.drew.alloc _) _ 1 1 [.int .u64 0, .int .i64 ((data.length : Int) + 1 + ((uv k.length).length : Int)), .int .i64 (k.length : Int), .int .i64 0, .int .i64 0] rfl rfl (HN.out _ _ (size_setCell _ _ _)) (by simp [Value.oneCell']) (by decide) (by simp [maxLen]; omega) (by omega) (Nat.zero_le _) _ rfl ?_; intro r ic' w4 hown4 hgr4 hat4 hlt4
                 have hO4 := Only.of_grown hgr4 (S := (Value.slice iA n ic).ownBlock.toList) (fun k hk => by simp [hk])
                 have hb4 := Blk.only (((HB3.out.set_ 0 (.slice (some ⟨g, 0, none⟩) (data.length + 1 + (uv k.length).length + k.length) dc')).alloc _).drew) hO4 (fun h => HOb.out b (by simpa using h) rfl)
                 have hx4 := Blk.only (((HX3.out.far (p := ⟨b, 0, none⟩) hH2 _).alloc _).drew) hO4 (fun h => HHo.out _ (by simpa using h) rfl)
                 have k1 : w4.cell? ⟨b, 1, none⟩ = some (.slice iA n ic) := hb4.cell 1
                 have k2 : w4.cell? ⟨b, 2, none⟩ = some (.int .i64 il) := hb4.cell 2
                 have y2 : w4.cell? ⟨w1.heap.size, 2, none⟩ = some (.int .i64 (k.length : Int)) := hx4.cell 2
                 have y4 : w4.cell? ⟨w1.heap.size, 4, none⟩ = some (.int .i64 0) := hx4.cell 4
                 have kf : ∀ i, w4.frozen? ⟨b, i, none⟩ = false := fun i => hb4.frozen i
                 have kl := hb4.lt; have HO4' := hid hO4; have HB4 := hid hb4; have HX4 := hid hx4; clear hO4 hb4 hx4)
  all_goals go_wp2
  all_goals
    have hb5 := HB4.out.set_ 1 (.slice (some ⟨r, 0, none⟩) (n + 1) ic')
    have hx5 := HX4.out.far (p := ⟨b, 1, none⟩) hH2 (.slice (some ⟨r, 0, none⟩) (n + 1) ic')
    have o5 := (Only.refl [b] w4).setCell (p := ⟨b, 1, none⟩) (.inl (by simp)) (.slice (some ⟨r, 0, none⟩) (n + 1) ic')
    have hg5 := (((HBG3.out.far (p := ⟨b, 0, none⟩) hgb (.slice (some ⟨g, 0, none⟩) (data.length + 1 + (uv k.length).length + k.length) dc')).alloc _).drew.only HO4'.out (fun h => HOg.out g (by simpa using h) rfl)).far (p := ⟨b, 1, none⟩) hgb (.slice (some ⟨r, 0, none⟩) (n + 1) ic')
    generalize w4.setCell ⟨b, 1, none⟩ (.slice (some ⟨r, 0, none⟩) (n + 1) ic') = w5 at hb5 hx5 o5 hg5 ⊢
    have k2 : w5.cell? ⟨b, 2, none⟩ = some (.int .i64 il) := hb5.cell 2
    have y2 : w5.cell? ⟨w1.heap.size, 2, none⟩ = some (.int .i64 (k.length : Int)) := hx5.cell 2
    have y4 : w5.cell? ⟨w1.heap.size, 4, none⟩ = some (.int .i64 0) := hx5.cell 4
    have kf : ∀ i, w5.frozen? ⟨b, i, none⟩ = false := fun i => hb5.frozen i
    have HB5 := hid hb5
    have HO5 := hid o5
    clear hb5 hx5 o5
    go_still_tail 13, (by kernel_rfl)
    go_wp2
    go_end0
    have hrb : r ≠ b := own_ne hown4 HB4.out (by decide) r rfl
    have hr0 : w0.heap.size ≤ r := by
      rcases hat4 with h | h
      · exact HF.out r h
      · have := (ho.trans' ho1 (by simp; omega) : Only [] w0 w1).size
        have := HC3.out.size
        rw [h]; simp; omega
    have hbF := HB5.out.set_ 2 (.int .i64 (wrap64 (il + ((k.length : Int) + 8))))
    refine ⟨rfl, bat_fin hBb hBg hmax (by omega) (by omega) hcl HTK.out (hg5.far (p := ⟨b, 2, none⟩) hgb _).drew hbF.drew (own_only hown4 ((HO5.out.setCell (p := ⟨b, 2, none⟩) (.inl (by simp)) _).drew) (by simpa [Value.ownBlock] using hrb)) hr0, ?_⟩
    have q3 : Only [] w0 w3 := (ho.trans' ho1 (by simp; omega) : Only [] w0 w1).trans' HC3.out (by simp; omega)
    have q4 := ((q3.setCell (p := ⟨b, 0, none⟩) (.inr hBb) (.slice (some ⟨g, 0, none⟩) (data.length + 1 + (uv k.length).length + k.length) dc')).alloc _).drew.trans' HO4'.out (fun i hi hm => by have := HF.out i (by simpa using hm); omega)
    exact ((q4.trans' HO5.out (by simp; omega)).setCell (p := ⟨b, 2, none⟩) (.inr hBb) _).drew
end Go.Proofs.Ytloflmcgbbbnjaa
