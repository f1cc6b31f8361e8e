/-
  filter.bloomFilterGenerator: Add; the bits that Generate sets.
-/
import Derived.Test.YtloflmcgbbbnjaaBloom
import Derived.Test.YtloflmcgbbbnjaaBufA
import Derived.Test.YtloflmcgbbbnjaaOwnStep
namespace Go.Proofs.Ytloflmcgbbbnjaa
open Go.RowKit Plain
set_option linter.all false

theorem Try.info_u32 : (Try.prog.info? 97).map (fun i => (i.zero, i.size, i.bytes)) = some (some (.int .u32 0), 1, 4) := by kernel_rfl
def cu32 (l : List Int) : List Value := l.map fun x => .int .u32 x
theorem cu32_length (l : List Int) : (cu32 l).length = l.length := by simp [cu32]
theorem cu32_get {l : List Int} {i : Nat} (h : i < l.length) : (cu32 l)[i]? = some (.int .u32 l[i]) := by simp [cu32, List.getElem?_eq_getElem h]
/-- A generator that has taken these hashes. -/
def GenF (gp n k : Nat) (hs : List Int) (F : List Fr) : Prop :=
  ∃ hA hc Fh, Row 97 1 hA hs.length hc (cu32 hs) Fh ∧ F = fw gp 112 [.int .i64 n, .int .u8 k, .slice hA hs.length hc] :: Fh
theorem gen_hdr {gp n k m hc : Nat} {hA : Option Addr} {R : List Fr} {w0 w : World} (hO : Own (fw gp 112 [.int .i64 n, .int .u8 k, .slice hA m hc] :: R) w0 w) :
    w.cell? ⟨gp, 0, none⟩ = some (.int .i64 n) ∧ w.cell? ⟨gp, 1, none⟩ = some (.int .u8 k) ∧ w.cell? ⟨gp, 2, none⟩ = some (.slice hA m hc) ∧ (∀ j, w.frozen? ⟨gp, j, none⟩ = false) ∧ gp < w.heap.size :=
  ⟨hO.cell 0 rfl 0 rfl (by simp), hO.cell 0 rfl 1 rfl (by simp), hO.cell 0 rfl 2 rfl (by simp), fun j => hO.frozen 0 rfl j, hO.head.lt⟩
set_option maxHeartbeats 1600000 in
theorem gen_add (gp n k kc : Nat) (kA : Option Addr) (hs : List Int) (key : List UInt8) (F R : List Fr) (w0 w : World) (h : GenF gp n k hs F) (hO : Own (F ++ R) w0 w) (hk : Rd R w0 kA key) (hkl : key.length ≤ 2147483647) (hkc : key.length ≤ kc)
    (hm : hs.length ≤ 1073741824) :
    Calls Try.prog 65 #[.pointer (some ⟨gp, 0, none⟩), .slice kA key.length kc] w fun e w' => e = .returned (.tuple #[]) ∧
      ∃ F', GenF gp n k (hs ++ [bhash key]) F' ∧ Own (F' ++ R) w0 w' := by
  obtain ⟨hA, hc, Fh, hR, rfl⟩ := h
  obtain ⟨c0, c1, c2, f0, bl⟩ := gen_hdr hO
  have hkr := fun n => (hO.drewN n).st hk (fun x hx => by simp [hx])
  have HK := hid hkr
  have HO := hid hO
  have HR := hid hR
  clear hO hR hkr hk
  go_enter Try.func65, Try.ntmps65
  go_wp2
  go_region_law (first
    | (go_simp; go_at_call 56; refine (bloomHash_any kA kc key _ (HK.out 1) hkl hkc).mono ?_; rintro e w1 ⟨rfl, ho⟩; have hO1 := HO.out.drew.only0 ho; clear ho c0 c1 c2 f0 bl; obtain ⟨c0, c1, c2, f0, bl⟩ := gen_hdr hO1; have HO1 := hid hO1; clear hO1)
    | (refine own_step_append rfl (.tmp 8) (.tmp 11) 110 rfl 97 (.int .u32 0) 1 4 Try.underlying110 Try.info_u32 rfl (by decide) hA hs.length hc (cu32 hs) Fh rfl HR.out (R := fw gp 112 [.int .i64 n, .int .u8 k, .slice hA hs.length hc] :: R) ((HO1.out.skip _).perm (perm_of fun _ _ z => by simp only [List.count_append, List.count_cons, List.cons_append, List.count_nil, List.nil_append, List.append_nil]; omega)) (some ⟨w1.heap.size, 0, none⟩) 1 1 [.int .u32 (bhash key)] rfl rfl (csAt_one _ _ _) (by simp [Value.oneCell']) (by simp [maxLen]; omega) (by omega) ?_; intro rA' rc' Fq' w2 hQ2 hO2 _; clear c0 c1 c2 f0 bl HO1; obtain ⟨c0, c1, c2, f0, bl⟩ := gen_hdr hO2.right; have HO2 := hid hO2; have HQ := hid hQ2; clear hO2 hQ2))
  all_goals
    go_end0
    refine ⟨rfl, _, ⟨rA', rc', Fq', by rw [List.length_append]; simpa [cu32] using HQ.out, rfl⟩, ?_⟩
    rw [List.length_append, List.length_singleton]
    have h8 : Own (fw gp 112 [.int .i64 n, .int .u8 k, .slice rA' (hs.length + 1) rc'] :: (Fq' ++ R)) w0 _ := (HO2.out.perm (L' := fw gp 112 [.int .i64 n, .int .u8 k, .slice hA hs.length hc] :: (Fq' ++ R)) (perm_of fun _ _ z => by simp only [List.count_append, List.count_cons, List.cons_append, List.count_nil, List.nil_append, List.append_nil]; omega)).set (k := 2) 2 rfl (by simp) (.slice rA' (hs.length + 1) rc')
    exact h8
end Go.Proofs.Ytloflmcgbbbnjaa
