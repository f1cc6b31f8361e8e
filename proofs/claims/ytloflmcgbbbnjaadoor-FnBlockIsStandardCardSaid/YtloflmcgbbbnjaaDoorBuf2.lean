/-
  util.Buffer, written to: Write, Alloc, Bytes.
-/
import Derived.Test.YtloflmcgbbbnjaaDoorBuffer
namespace Go.Proofs.YtloflmcgbbbnjaaDoor
open Go.RowKit Plain

theorem BufF.of {b o : Nat} {data : List UInt8} {S : Fr} {J F : List Fr} (h : BufG b o data data.length S J F) : BufF b o data F := .inr ⟨S, J, h⟩
theorem BufF.some_ {b o : Nat} {data : List UInt8} {F : List Fr} (h : BufF b o data F) (hd : data ≠ []) : ∃ S J, BufG b o data data.length S J F := by
  rcases h with ⟨h, _⟩ | h
  · exact absurd h hd
  · exact h
set_option maxHeartbeats 1600000 in
theorem write_some (b o pc : Nat) (pA : Option Addr) (data p : List UInt8) (F R : List Fr) (w0 w : World) (h : BufF b o data F) (hO : Own (F ++ R) w0 w) (hp : Rd R w0 pA p) (hp0 : 0 < p.length) (hm : data.length + p.length ≤ 1099511627776) :
    Calls Tryd.prog 104 #[.pointer (some ⟨b, o, none⟩), .slice pA p.length pc] w fun e w' => e = .returned (.tuple #[.int .i64 (p.length : Int), .nilIface]) ∧
      ∃ F', BufF b o (data ++ p) F' ∧ Own (F' ++ R) w0 w' := by
  have HC := hid (grow_any b o p.length data F R w0 w h hO (.inl hp0) hm)
  clear h hO
  go_enter Tryd.func104, Tryd.ntmps104
  go_wp2_with (first
    | (go_at_call 120; refine HC.out.mono ?_; rintro e w1 ⟨rfl, S, J, F1, hG, hO1⟩
       obtain ⟨c0, c1, f0⟩ := hG.hdr hO1
       obtain ⟨_, hle, hc⟩ := hG.le
       have hcap : ¬ S.cs.length = data.length := by omega
       have hbp := hO1.stR hp
       have HG := hid hG
       have HO := hid hO1
       clear hG hO1)
    | (refine own_copy rfl (.tmp 16) (.tmp 17) 25 25 rfl 5 Tryd.underlying25 Tryd.size_u8 S data.length (S.off + data.length) p.length (S.cs.length - data.length) pA p.length pc rfl rfl rfl (R := [fp b o [.slice (some ⟨S.g, S.off, none⟩) (data.length + p.length) S.cs.length, .int .i64 0]] ++ (J ++ R)) (HO.out.perm (by rw [HG.out.2.2.2.2]; exact List.Perm.swap _ _ _)) p hbp (by omega) (by omega) ?_; intro w2 hO2; have HO2 := hid hO2; clear hO2))
  go_ret2
  refine ⟨rfl, ?_⟩
  obtain ⟨h1, h2, h3, h4, h5⟩ := HG.out
  have hl : (splice S.cs data.length (bc p)).length = S.cs.length := length_splice _ _ _ (by rw [bc_length]; omega)
  refine ⟨_, .of (S := { S with cs := splice S.cs data.length (bc p) }) (J := J) ⟨Nat.le_refl _, ?_, ?_, ?_, rfl⟩, ?_⟩
  · rw [List.length_append]; simp only [hl]; omega
  · simp only [hl]; omega
  · have := splice_take S.cs data.length (bc p) (by rw [bc_length]; omega)
    rw [bc_length, h4, ← bc_append] at this
    rw [List.length_append]; exact this
  · simp only [hl, List.length_append]
    exact HO2.out.perm (List.Perm.swap _ _ _)
set_option maxHeartbeats 1600000 in
/-- Nothing written. -/
theorem write_none (b o pc : Nat) (pA : Option Addr) (data : List UInt8) (F R : List Fr) (w0 w : World) (h : BufF b o data F) (hd : data ≠ []) (hO : Own (F ++ R) w0 w) (hm : data.length ≤ 1099511627776) :
    Calls Tryd.prog 104 #[.pointer (some ⟨b, o, none⟩), .slice pA 0 pc] w fun e w' => e = .returned (.tuple #[.int .i64 0, .nilIface]) ∧
      ∃ F', BufF b o data F' ∧ Own (F' ++ R) w0 w' := by
  have HC := hid (grow_any b o 0 data F R w0 w h hO (.inr hd) hm)
  clear h hO
  go_enter Tryd.func104, Tryd.ntmps104
  go_wp2_with (first
    | (go_at_call 120; refine HC.out.mono ?_; rintro e w1 ⟨rfl, S, J, F1, hG, hO1⟩
       obtain ⟨c0, c1, f0⟩ := hG.hdr hO1
       obtain ⟨_, hle, hc⟩ := hG.le
       have HG := hid hG
       have HO := hid hO1
       clear hG hO1)
    | (refine wpList_copy_nothing rfl (.tmp 16) (.tmp 17) 25 25 rfl 5 Tryd.underlying25 Tryd.size_u8 _ _ _ _ _ _ rfl rfl (by simp) ?_))
  all_goals
    go_ret2
    exact ⟨rfl, _, .of HG.out, HO.out⟩
theorem write_any (b o n pc : Nat) (pA : Option Addr) (data p : List UInt8) (F R : List Fr) (w0 w : World) (h : BufF b o data F) (hO : Own (F ++ R) w0 w) (hp : Rd R w0 pA p) (hn : n = p.length) (hne : p ≠ [] ∨ data ≠ []) (hm : data.length + p.length ≤ 1099511627776) :
    Calls Tryd.prog 104 #[.pointer (some ⟨b, o, none⟩), .slice pA n pc] w fun e w' => e = .returned (.tuple #[.int .i64 (p.length : Int), .nilIface]) ∧
      ∃ F', BufF b o (data ++ p) F' ∧ Own (F' ++ R) w0 w' := by
  subst hn
  cases p with
  | nil =>
    have := write_none b o pc pA data F R w0 w h (by simpa using hne) hO (by simpa using hm)
    simpa using this
  | cons x p => exact write_some b o pc pA data (x :: p) F R w0 w h hO hp (by simp) hm
set_option maxHeartbeats 1600000 in
theorem alloc_any (b o n : Nat) (data : List UInt8) (F R : List Fr) (w0 w : World) (h : BufF b o data F) (hO : Own (F ++ R) w0 w) (hn : 0 < n) (hm : data.length + n ≤ 1099511627776) :
    Calls Tryd.prog 105 #[.pointer (some ⟨b, o, none⟩), .int .i64 n] w fun e w' => ∃ S J F', e = .returned (.slice (some ⟨S.g, S.off + data.length, none⟩) n (S.cs.length - data.length)) ∧
      BufG b o data (data.length + n) S J F' ∧ Own (F' ++ R) w0 w' := by
  have HC := hid (grow_any b o n data F R w0 w h hO (.inl hn) hm)
  clear h hO
  have hn' : ¬ (n : Int) < 0 := by omega
  go_enter Tryd.func105, Tryd.ntmps105
  go_wp2_with (first
    | (go_at_call 120; refine HC.out.mono ?_; rintro e w1 ⟨rfl, S, J, F1, hG, hO1⟩
       obtain ⟨c0, c1, f0⟩ := hG.hdr hO1
       obtain ⟨_, hle, hc⟩ := hG.le
       have hcap : ¬ S.cs.length = data.length := by omega
       have HG := hid hG
       have HO := hid hO1
       clear hG hO1))
  go_ret
  exact ⟨S, J, F1, by simp, HG.out, HO.out⟩
/-- What was laid by Alloc is filled. -/
theorem BufG.fill {b o n : Nat} {data p : List UInt8} {S : Fr} {J F R : List Fr} {w0 w : World} (h : BufG b o data (data.length + n) S J F) (hp : p.length = n)
    (hO : Own ({ S with cs := splice S.cs data.length (bc p) } :: (F.eraseIdx 1 ++ R)) w0 w) : ∃ F', BufF b o (data ++ p) F' ∧ Own (F' ++ R) w0 w := by
  obtain ⟨h1, h2, h3, h4, rfl⟩ := h
  have hl : (splice S.cs data.length (bc p)).length = S.cs.length := length_splice _ _ _ (by rw [bc_length]; omega)
  refine ⟨_, .of (S := { S with cs := splice S.cs data.length (bc p) }) (J := J) ⟨Nat.le_refl _, ?_, ?_, ?_, rfl⟩, ?_⟩
  · rw [List.length_append]; simp only [hl]; omega
  · simp only [hl]; omega
  · have := splice_take S.cs data.length (bc p) (by rw [bc_length]; omega)
    rw [bc_length, h4, ← bc_append] at this
    rw [List.length_append]; exact this
  · simp only [hl, List.length_append, hp]
    exact hO.swap01
set_option maxHeartbeats 800000 in
theorem bytes_any (b o L c : Nat) (A : Option Addr) (w : World) (c0 : w.cell? ⟨b, o, none⟩ = some (.slice A L c)) (c1 : w.cell? ⟨b, o + 1, none⟩ = some (.int .i64 0)) :
    Calls Tryd.prog 78 #[.pointer (some ⟨b, o, none⟩)] w fun e w' => e = .returned (.slice A L c) ∧ Dr w w' := by
  go_enter Tryd.func78, Tryd.ntmps78
  go_wp2
  go_quiet (fail)
  go_wp2
  go_ret
  refine ⟨?_, ⟨_, rfl⟩⟩
  cases A <;> simp
theorem len_buf (b o : Nat) (data : List UInt8) (F R : List Fr) (w0 w : World) (h : BufF b o data F) (hO : Own (F ++ R) w0 w) (hm : data.length ≤ 4398046511104) :
    Calls Tryd.prog 92 #[.pointer (some ⟨b, o, none⟩)] w fun e w' => e = .returned (.int .i64 (data.length : Int)) ∧ Dr w w' := by
  rcases h with ⟨rfl, boot, h⟩ | ⟨S, J, h⟩
  · obtain ⟨c0, c1, _⟩ := h.hdr hO
    exact len_raw b o 0 0 none w c0 c1 (by omega)
  · obtain ⟨c0, c1, _⟩ := h.hdr hO
    exact len_raw b o data.length S.cs.length _ w c0 c1 hm
theorem bytes_buf (b o : Nat) (data : List UInt8) (F R : List Fr) (w0 w : World) (h : BufF b o data F) (hO : Own (F ++ R) w0 w) :
    Calls Tryd.prog 78 #[.pointer (some ⟨b, o, none⟩)] w fun e w' => ∃ A c, e = .returned (.slice A data.length c) ∧ data.length ≤ c ∧ Rd F w0 A data ∧ Dr w w' := by
  rcases h with ⟨rfl, boot, h⟩ | ⟨S, J, h⟩
  · obtain ⟨c0, c1, _⟩ := h.hdr hO
    exact (bytes_any b o 0 0 none w c0 c1).mono fun e w' ⟨he, hd⟩ => ⟨none, 0, he, Nat.le_refl _, Rd.nil _ _ _, hd⟩
  · obtain ⟨c0, c1, _⟩ := h.hdr hO
    refine (bytes_any b o data.length S.cs.length _ w c0 c1).mono fun e w' ⟨he, hd⟩ => ⟨_, _, he, h.2.1, ?_, hd⟩
    obtain ⟨_, h2, _, h4, rfl⟩ := h
    exact Rd.fr (x := S) (by simp) (i := 0) rfl (by omega) (by simpa using h4)
end Go.Proofs.YtloflmcgbbbnjaaDoor
