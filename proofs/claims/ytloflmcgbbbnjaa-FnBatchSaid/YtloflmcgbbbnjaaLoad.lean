/-
  A batch that is loaded: decode, Load.
-/
import Derived.Test.YtloflmcgbbbnjaaDecode
namespace Go.Proofs.Ytloflmcgbbbnjaa
open Go.RowKit Plain
set_option linter.all false

/-- A batch at b with these data and these places of its records. -/
def LoadOut (b dc : Nat) (dA : Option Addr) (l : List P2) (R : List Fr) (w0 : World) (e : Ending) (w' : World) : Prop :=
  e = .returned .nilIface ∧ ∃ iA ic il Fi, Row 71 5 iA l.length ic ((ixs 0 l).flatMap Ix.cells) Fi ∧ Own (fw b 54 [.slice dA (dmp l).length dc, .slice iA l.length ic, .int .i64 il] :: (Fi ++ R)) w0 w'
theorem nil_cut (w : World) : Row 71 5 none 0 0 [] [] := Row.nil _ _
set_option maxHeartbeats 3200000 in
set_option maxRecDepth 100000 in
theorem decode_any (b dc : Nat) (dA : Option Addr) (l : List P2) (R : List Fr) (w0 w : World) (hO : Own (fw b 54 [.slice none 0 0, .slice none 0 0, .int .i64 0] :: R) w0 w)
    (hD : Rd R w0 dA (dmp l)) (hdc : (dmp l).length ≤ dc) (hdl : (dmp l).length ≤ 1099511627776) (hl : l.length ≤ 1073741824) (hok : okR l) (n : Nat) (hn : n = (dmp l).length) :
    Calls Try.prog 22 #[.pointer (some ⟨b, 0, none⟩), .slice dA n dc, .int .i64 (-1)] w (LoadOut b dc dA l R w0) := by
  subst hn
  have hmf : ∀ (fn : Fn) (first cap : Array Value) (w : World), (Instr.makeFunc fn first cap).run Try.prog w = .ok (.func fn first cap) w := fun _ _ _ _ => rfl
  obtain ⟨p, hp⟩ : ∃ p, w.heap.size = p := ⟨_, rfl⟩
  have hO1 := hO.alloc 51 [.pointer (some ⟨b, 0, none⟩)]
  rw [hp] at hO1
  obtain ⟨q0, q1, q2, q3, q4, q5, q6, q7, q8⟩ := dec_hdr hO1
  have HO := hid hO1
  have HD := hid hD
  have HOK := hid hok
  obtain ⟨N, hN⟩ : ∃ N, (dmp l).length = N := ⟨_, rfl⟩
  have HN := hid hN
  rw [hN] at hdc hdl ⊢
  clear hO hO1 hD hok hN
  go_enter Try.func22, Try.ntmps22
  go_wp2_with fail
  try rw [hp]
  have hO2 : Own (decF p b N dc 0 0 dA none 0 ++ R) w0 ((w.alloc (.cells #[.pointer (some ⟨b, 0, none⟩)] 51)).setCell ⟨b, 0, none⟩ (.slice dA N dc)) := HO.out.setN 1 rfl (k := 0) 0 rfl (by simp) (.slice dA N dc)
  generalize (w.alloc _).setCell ⟨b, 0, none⟩ (.slice dA N dc) = W at hO2 ⊢
  clear q0 q1 q2 q3 q4 q5 q6 q7 q8 hp HO
  obtain ⟨q0, q1, q2, q3, q4, q5, q6, q7, q8⟩ := dec_hdr hO2
  have HO := hid hO2
  clear hO2
  go_still_tail 8, (by kernel_rfl)
  go_wp2_with fail
  have hO3 : Own (decF p b N dc 0 0 dA none 0 ++ R) w0 ((W.setCell ⟨b, 1, none⟩ (.slice none 0 0)).setCell ⟨b, 2, none⟩ (.int .i64 0)).drew := ((HO.out.setN 1 rfl (k := 1) 1 rfl (by simp) (.slice none 0 0)).setN 1 rfl (k := 2) 2 rfl (by simp) (.int .i64 0)).drew
  have hC := decodeBatch_any p b dc 0 dA none 0 l [] R w0 _ (Row.nil _ _) (by rw [HN.out]; exact hO3) HD.out (by rw [HN.out]; exact hdc) (by rw [HN.out]; exact hdl) hl HOK.out
  rw [HN.out] at hC
  refine hC.mono ?_
  rintro e w4 ⟨rfl, iA4, ic4, il4, Fi4, hR4, hO4⟩
  clear hC hO3 q0 q1 q2 q3 q4 q5 q6 q7 q8
  obtain ⟨q0, q1, q2, q3, q4, q5, q6, q7, q8⟩ := dec_hdr hO4
  have HR4 := hid hR4
  have HO4 := hid hO4
  clear hR4 hO4
  go_wp2_with fail
  go_ret
  refine ⟨rfl, iA4, ic4, il4, Fi4, HR4.out, ?_⟩
  rw [HN.out]
  exact HO4.out.drop
set_option maxHeartbeats 800000 in
theorem load_any (b dc : Nat) (dA : Option Addr) (l : List P2) (R : List Fr) (w0 w : World) (hO : Own (fw b 54 [.slice none 0 0, .slice none 0 0, .int .i64 0] :: R) w0 w)
    (hD : Rd R w0 dA (dmp l)) (hdc : (dmp l).length ≤ dc) (hdl : (dmp l).length ≤ 1099511627776) (hl : l.length ≤ 1073741824) (hok : okR l) (n : Nat) (hn : n = (dmp l).length) :
    Calls Try.prog 16 #[.pointer (some ⟨b, 0, none⟩), .slice dA n dc] w (LoadOut b dc dA l R w0) := by
  have HC := hid (decode_any b dc dA l R w0 w hO hD hdc hdl hl hok n hn)
  clear hO hD hdc hdl hok hn
  go_enter Try.func16, Try.ntmps16
  go_wp2_with fail
  refine HC.out.mono ?_
  rintro e w4 ⟨rfl, h4⟩
  have H4 := hid h4
  clear h4
  go_wp2_with fail
  go_ret
  exact ⟨rfl, H4.out⟩
end Go.Proofs.Ytloflmcgbbbnjaa
