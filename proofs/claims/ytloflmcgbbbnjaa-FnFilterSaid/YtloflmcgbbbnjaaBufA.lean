/-
  util.Buffer, written to: Alloc, Bytes, Len.
-/
import Derived.Test.YtloflmcgbbbnjaaBuffer
namespace Go.Proofs.Ytloflmcgbbbnjaa
open Go.RowKit Plain

theorem BufF.of {b o : Nat} {data : List UInt8} {S : Fr} {J F : List Fr} (h : BufG b o data data.length S J F) : BufF b o data F := .inr ⟨S, J, h⟩
theorem BufF.some_ {b o : Nat} {data : List UInt8} {F : List Fr} (h : BufF b o data F) (hd : data ≠ []) : ∃ S J, BufG b o data data.length S J F := by
  rcases h with ⟨h, _⟩ | h
  · exact absurd h hd
  · exact h
set_option maxHeartbeats 1600000 in
theorem alloc_any (b o n : Nat) (data : List UInt8) (F R : List Fr) (w0 w : World) (h : BufF b o data F) (hO : Own (F ++ R) w0 w) (hn : 0 < n) (hm : data.length + n ≤ 1099511627776) :
    Calls Try.prog 69 #[.pointer (some ⟨b, o, none⟩), .int .i64 n] w fun e w' => ∃ S J F', e = .returned (.slice (some ⟨S.g, S.off + data.length, none⟩) n (S.cs.length - data.length)) ∧
      BufG b o data (data.length + n) S J F' ∧ Own (F' ++ R) w0 w' := by
  have HC := hid (grow_any b o n data F R w0 w h hO (.inl hn) hm)
  clear h hO
  have hn' : ¬ (n : Int) < 0 := by omega
  go_enter Try.func69, Try.ntmps69
  go_wp2_with (first
    | (go_at_call 72; refine HC.out.mono ?_; rintro e w1 ⟨rfl, S, J, F1, hG, hO1⟩
       obtain ⟨c0, c1, f0⟩ := hG.hdr hO1
       obtain ⟨_, hle, hc⟩ := hG.le
       have hcap : ¬ S.cs.length = data.length := by omega
       have HG := hid hG
       have HO := hid hO1
       clear hG hO1))
  go_ret
  exact ⟨S, J, F1, by simp, HG.out, HO.out⟩
/-- What was laid by Alloc is filled. -/
theorem BufG.fill {b o n : Nat} {data p : List UInt8} {S : Fr} {J F R : List Fr} {w0 w : World} (h : BufG b o data (data.length + n) S J F) (hp : p.length = n)
    (hO : Own ({ S with cs := splice S.cs data.length (bc p) } :: (F.eraseIdx 1 ++ R)) w0 w) : ∃ F', BufF b o (data ++ p) F' ∧ Own (F' ++ R) w0 w := by
  obtain ⟨h1, h2, h3, h4, rfl⟩ := h
  have hl : (splice S.cs data.length (bc p)).length = S.cs.length := length_splice _ _ _ (by rw [bc_length]; omega)
  refine ⟨_, .of (S := { S with cs := splice S.cs data.length (bc p) }) (J := J) ⟨Nat.le_refl _, ?_, ?_, ⟨?_, by obtain ⟨full, hf⟩ := h4.2; exact ⟨_, by simp only [hf, bc_splice]; rfl⟩⟩, rfl⟩, ?_⟩
  · rw [List.length_append]; simp only [hl]; omega
  · simp only [hl]; omega
  · have := splice_take S.cs data.length (bc p) (by rw [bc_length]; omega)
    rw [bc_length, h4.1, ← bc_append] at this
    rw [List.length_append]; exact this
  · simp only [hl, List.length_append, hp]
    exact hO.swap01
set_option maxHeartbeats 800000 in
theorem bytes_any (b o L c : Nat) (A : Option Addr) (w : World) (c0 : w.cell? ⟨b, o, none⟩ = some (.slice A L c)) (c1 : w.cell? ⟨b, o + 1, none⟩ = some (.int .i64 0)) :
    Calls Try.prog 14 #[.pointer (some ⟨b, o, none⟩)] w fun e w' => e = .returned (.slice A L c) ∧ Dr w w' := by
  go_enter Try.func14, Try.ntmps14
  go_wp2
  go_quiet (fail)
  go_wp2
  go_ret
  refine ⟨?_, ⟨_, rfl⟩⟩
  cases A <;> simp
theorem len_buf (b o : Nat) (data : List UInt8) (F R : List Fr) (w0 w : World) (h : BufF b o data F) (hO : Own (F ++ R) w0 w) (hm : data.length ≤ 4398046511104) :
    Calls Try.prog 73 #[.pointer (some ⟨b, o, none⟩)] w fun e w' => e = .returned (.int .i64 (data.length : Int)) ∧ Dr w w' := by
  rcases h with ⟨rfl, boot, h⟩ | ⟨S, J, h⟩
  · obtain ⟨c0, c1, _⟩ := h.hdr hO
    exact len_raw b o 0 0 none w c0 c1 (by omega)
  · obtain ⟨c0, c1, _⟩ := h.hdr hO
    exact len_raw b o data.length S.cs.length _ w c0 c1 hm
theorem bytes_buf (b o : Nat) (data : List UInt8) (F R : List Fr) (w0 w : World) (h : BufF b o data F) (hO : Own (F ++ R) w0 w) :
    Calls Try.prog 14 #[.pointer (some ⟨b, o, none⟩)] w fun e w' => ∃ A c, e = .returned (.slice A data.length c) ∧ data.length ≤ c ∧ Rd F w0 A data ∧ Dr w w' := by
  rcases h with ⟨rfl, boot, h⟩ | ⟨S, J, h⟩
  · obtain ⟨c0, c1, _⟩ := h.hdr hO
    exact (bytes_any b o 0 0 none w c0 c1).mono fun e w' ⟨he, hd⟩ => ⟨none, 0, he, Nat.le_refl _, Rd.nil _ _ _, hd⟩
  · obtain ⟨c0, c1, _⟩ := h.hdr hO
    refine (bytes_any b o data.length S.cs.length _ w c0 c1).mono fun e w' ⟨he, hd⟩ => ⟨_, _, he, h.2.1, ?_, hd⟩
    obtain ⟨_, h2, _, h4, rfl⟩ := h
    exact Rd.fr (x := S) (by simp) (i := 0) rfl (by omega) (by simpa using h4.1)
end Go.Proofs.Ytloflmcgbbbnjaa
