/-
  table.NewWriter.
  impl.Table: pairs that are in order become a table; pairs that are not are refused.
  PLAIN: what the reference reads out of a block and out of a table.
  MAPS from int to bool that the call makes: what is found true was put.
-/
import Derived.Test.YtloflmcgbbbnjaaDoorTabM10
import Derived.Test.YtloflmcgbbbnjaaDoorTabM13
import Derived.Test.YtloflmcgbbbnjaaDoorTabM2
import Derived.Maps.OwnOps
import Derived.Maps.Views
namespace Go.Proofs.YtloflmcgbbbnjaaDoor
open Go.RowKit Plain
set_option linter.all false

def ts0 : TS := ⟨0, 0, 0, 0, 0, 0, [], [], [], [], [], [], []⟩
def NWOut (bs rs g nb B Q : Nat) (on : Bool) (R : List Fr) (w0 : World) (e : Ending) (w' : World) : Prop :=
  ∃ (wp : Nat) (F : List Fr), e = .returned (.pointer (some ⟨wp, 0, none⟩)) ∧ WS wp bs rs g on nb B Q .nilIface ts0 F ∧ Own (F ++ R) w0 w'
/-- A part of a block, cut into parts. -/
def cuts (g : Nat) : Nat → List (List Value) → List Fr
  | _, [] => []
  | off, b :: bs => fp g off b :: cuts g (off + b.length) bs
theorem own_cuts {w0 w : World} {g : Nat} : ∀ (bs : List (List Value)) (off : Nat) (L : List Fr), Own (fp g off bs.flatten :: L) w0 w → Own (cuts g off bs ++ L) w0 w
  | [], _, _, h => h.drop
  | b :: bs, off, L, h => by
    rw [List.flatten_cons] at h
    have h1 := (h.split rfl).swap01
    have h2 := own_cuts bs (off + b.length) (fp g off b :: L) h1
    exact h2.perm (perm_of fun _ _ z => by simp only [cuts, List.count_append, List.count_cons, List.cons_append]; omega)
def z64 : List Value := List.replicate 64 (.int .u8 0)
def twCells (v0 v2 v3 v5 v271 : Value) : List (List Value) := [[v0], [.nilIface], [v2, v3, .int .u64 1, v5], [.int .i64 0], [.slice none 0 0, .int .i64 0], z64, [.int .i64 0, .slice none 0 0, .slice none 0 0, .slice none 0 0],
  [.int .i64 0], [.slice none 0 0, .int .i64 0], z64, [.int .i64 0, .slice none 0 0, .slice none 0 0, .slice none 0 0], [.nilIface], [.slice none 0 0, .int .i64 0], z64, [.int .i64 0, .slice none 0 0],
  [.int .u64 0, .int .u64 0], [.int .u64 0], [.int .i64 0], List.replicate 20 (.int .u8 0), List.replicate 30 (.int .u8 0), [v271], [.slice none 0 0]]
theorem twCells_eq (v0 v2 v3 v5 v271 : Value) : ((((((Tryd.zeroCells160.setIfInBounds 0 v0).setIfInBounds 2 v2).setIfInBounds 3 v3).setIfInBounds 4 (.int .u64 1)).setIfInBounds 5 v5).setIfInBounds 271 v271).toList = (twCells v0 v2 v3 v5 v271).flatten := by
  kernel_rfl
set_option maxHeartbeats 6400000 in
set_option maxRecDepth 100000 in
theorem newWriter_on (g p bs rs nb B Q : Nat) (cs : List Value) (G R : List Fr) (w0 w : World) (hG : OB g [] G) (hO : Own (fw p 168 cs :: (G ++ R)) w0 w) (h3 : cs[3]? = some (.int .i64 rs)) (h4 : cs[4]? = some (.int .i64 bs)) (h15 : cs[15]? = some .nilIface) (h16 : cs[16]? = some (.int .u64 1))
    (h23 : cs[23]? = some (.iface 240 (.int .i64 nb))) (hcl : cs.length = 33) (hrs : 0 < rs) (hbs : 0 < bs) (hnb : nb ≤ 20) (hB : B ≤ 26000000) (hQ : Q ≤ 1000000) :
    Calls Tryd.prog 42 #[.iface 91 (.pointer (some ⟨g, 0, none⟩)), .pointer (some ⟨p, 0, none⟩)] w (NWOut bs rs g nb B Q true R w0) := by
  have q3 := (hO.cell 0 rfl (k := 3) 3 rfl (by simp only; omega)).trans h3
  have q4 := (hO.cell 0 rfl (k := 4) 4 rfl (by simp only; omega)).trans h4
  have q15 := (hO.cell 0 rfl (k := 15) 15 rfl (by simp only; omega)).trans h15
  have q16 := (hO.cell 0 rfl (k := 16) 16 rfl (by simp only; omega)).trans h16
  have q23 := (hO.cell 0 rfl (k := 23) 23 rfl (by simp only; omega)).trans h23
  have HO := hid hO
  have HG := hid hG
  have HQ := hid (show _ ∧ _ ∧ _ ∧ _ ∧ _ from ⟨h3, h4, h15, h16, h23⟩)
  clear hO hG h3 h4 h15 h16 h23
  have hmk := fun w => run_make_own (P := Tryd.prog) 25 5 (.int .u8 0) 1 Tryd.underlying25 Tryd.info_u8 rfl .i64 .i64 0 0 0 0 rfl rfl (by omega) (by omega) (by omega) w
  go_enter Tryd.func42, Tryd.ntmps42
  go_wp2_with fail
  refine AnyT.start (S := fun w' => w'.cell? ⟨p, 3, none⟩ = some (.int .i64 rs) ∧ w'.cell? ⟨p, 4, none⟩ = some (.int .i64 bs) ∧ w'.cell? ⟨p, 15, none⟩ = some .nilIface ∧ w'.cell? ⟨p, 16, none⟩ = some (.int .u64 1) ∧ w'.cell? ⟨p, 23, none⟩ = some (.iface 240 (.int .i64 nb))) (T := []) (by kernel_rfl) (⟨q3, q4, q15, q16, q23⟩) (fun hHeld => ?_)
  refine AnyT.take (i := 0) (v := ?_) (by simp only [List.getElem?_toArray, List.getElem?_cons_succ, List.getElem?_cons_zero]; rfl) (by kernel_rfl) (by kernel_rfl) (by kernel_rfl) (by kernel_rfl) (by intro _ _ _ h; exact h) (Or.inl ⟨by rfl, fun w hSw => ?_⟩) hHeld ?_
  rotate_left
  · ((try dsimp only at hSw); go_simp; first | done | with_reducible rfl | rfl)
  try simp only [Act.put, List.setIfInBounds_toArray, List.set_cons_zero, List.set_cons_succ]
  refine AnyT.take (i := 1) (v := ?_) (by simp only [List.getElem?_toArray, List.getElem?_cons_succ, List.getElem?_cons_zero]; rfl) (by kernel_rfl) (by kernel_rfl) (by kernel_rfl) (by kernel_rfl) (by intro _ _ _ h; exact h) (Or.inl ⟨by rfl, fun w hSw => ?_⟩) hHeld ?_
  rotate_left
  · ((try dsimp only at hSw); go_simp; first | done | with_reducible rfl | rfl)
  try simp only [Act.put, List.setIfInBounds_toArray, List.set_cons_zero, List.set_cons_succ]
  refine AnyT.take (i := 3) (v := ?_) (by simp only [List.getElem?_toArray, List.getElem?_cons_succ, List.getElem?_cons_zero]; rfl) (by kernel_rfl) (by kernel_rfl) (by kernel_rfl) (by kernel_rfl) (by intro _ _ _ h; exact h) (Or.inl ⟨by rfl, fun w hSw => ?_⟩) hHeld ?_
  rotate_left
  · ((try dsimp only at hSw); go_simp; first | done | with_reducible rfl | rfl)
  try simp only [Act.put, List.setIfInBounds_toArray, List.set_cons_zero, List.set_cons_succ]
  refine AnyT.take (i := 5) (v := ?_) (by simp only [List.getElem?_toArray, List.getElem?_cons_succ, List.getElem?_cons_zero]; rfl) (by kernel_rfl) (by kernel_rfl) (by kernel_rfl) (by kernel_rfl) (by intro _ _ _ h; exact h) (Or.inl ⟨by rfl, fun w hSw => ?_⟩) hHeld ?_
  rotate_left
  · ((try dsimp only at hSw); go_simp; first | done | with_reducible rfl | rfl)
  try simp only [Act.put, List.setIfInBounds_toArray, List.set_cons_zero, List.set_cons_succ]
  refine AnyT.take (i := 7) (v := ?_) (by simp only [List.getElem?_toArray, List.getElem?_cons_succ, List.getElem?_cons_zero]; rfl) (by kernel_rfl) (by kernel_rfl) (by kernel_rfl) (by kernel_rfl) (by intro _ _ _ h; exact h) (Or.inl ⟨by rfl, fun w hSw => ?_⟩) hHeld ?_
  rotate_left
  · ((try dsimp only at hSw); go_simp; first | done | with_reducible rfl | rfl)
  try simp only [Act.put, List.setIfInBounds_toArray, List.set_cons_zero, List.set_cons_succ]
  refine AnyT.takeC (i := 2) (v := .iface 112 (.agg #[])) (by simp only [List.getElem?_toArray, List.getElem?_cons_succ, List.getElem?_cons_zero]; rfl) (by kernel_rfl) (by kernel_rfl) (by kernel_rfl) (by kernel_rfl) (by intro _ _ _ h; exact h) (Or.inl ⟨by rfl, fun w hSw => ?_⟩) hHeld ?_
  · ((try dsimp only at hSw); go_simp; exact getComparer p _ hSw.2.2.1)
  try simp only [Act.put, List.setIfInBounds_toArray, List.set_cons_zero, List.set_cons_succ]
  refine AnyT.takeC (i := 4) (v := (.iface 240 (.int .i64 nb))) (by simp only [List.getElem?_toArray, List.getElem?_cons_succ, List.getElem?_cons_zero]; rfl) (by kernel_rfl) (by kernel_rfl) (by kernel_rfl) (by kernel_rfl) (by intro _ _ _ h; exact h) (Or.inl ⟨by rfl, fun w hSw => ?_⟩) hHeld ?_
  · ((try dsimp only at hSw); go_simp; exact getFilter p (.iface 240 (.int .i64 nb)) _ hSw.2.2.2.2)
  try simp only [Act.put, List.setIfInBounds_toArray, List.set_cons_zero, List.set_cons_succ]
  refine AnyT.takeC (i := 6) (v := .int .u64 1) (by simp only [List.getElem?_toArray, List.getElem?_cons_succ, List.getElem?_cons_zero]; rfl) (by kernel_rfl) (by kernel_rfl) (by kernel_rfl) (by kernel_rfl) (by intro _ _ _ h; exact h) (Or.inl ⟨by rfl, fun w hSw => ?_⟩) hHeld ?_
  · ((try dsimp only at hSw); go_simp; exact getCompression p _ hSw.2.2.2.1)
  try simp only [Act.put, List.setIfInBounds_toArray, List.set_cons_zero, List.set_cons_succ]
  refine AnyT.takeC (i := 8) (v := .int .i64 bs) (by simp only [List.getElem?_toArray, List.getElem?_cons_succ, List.getElem?_cons_zero]; rfl) (by kernel_rfl) (by kernel_rfl) (by kernel_rfl) (by kernel_rfl) (by intro _ _ _ h; exact h) (Or.inl ⟨by rfl, fun w hSw => ?_⟩) hHeld ?_
  · ((try dsimp only at hSw); go_simp; exact getBlockSize p bs _ hbs hSw.2.1)
  try simp only [Act.put, List.setIfInBounds_toArray, List.set_cons_zero, List.set_cons_succ]
  refine AnyT.ready (rs := [9]) (by kernel_rfl) (by simp) ?_
  refine AllT.cons (by simp only [List.getElem?_toArray, List.getElem?_cons_succ, List.getElem?_cons_zero]; rfl) (fun K hK => ?_) AllT.nil
  go_simp
  obtain ⟨sg, hsg⟩ : ∃ sg, w.heap.size = sg := ⟨_, rfl⟩
  try rw [hsg]
  have hO1 := HO.out.alloc' hsg 5 []
  clear HO q3 q4 q15 q16 q23
  obtain ⟨h3, h4, h15, h16, h23⟩ := HQ.out
  have q3 := (hO1.cell 1 rfl (k := 3) 3 rfl (by simp only; omega)).trans h3
  have q4 := (hO1.cell 1 rfl (k := 4) 4 rfl (by simp only; omega)).trans h4
  have q15 := (hO1.cell 1 rfl (k := 15) 15 rfl (by simp only; omega)).trans h15
  have q16 := (hO1.cell 1 rfl (k := 16) 16 rfl (by simp only; omega)).trans h16
  have q23 := (hO1.cell 1 rfl (k := 23) 23 rfl (by simp only; omega)).trans h23
  clear h3 h4 h15 h16 h23
  have HO1 := hid hO1
  clear hO1
  refine hK.out _ _ ?_ (fun hHeld => ?_)
  · exact ⟨q3, q4, q15, q16, q23⟩
  clear hK
  try simp only [Act.put, List.setIfInBounds_toArray, List.set_cons_zero, List.set_cons_succ]
  refine AnyT.take (i := 10) (v := ?_) (by simp only [List.getElem?_toArray, List.getElem?_cons_succ, List.getElem?_cons_zero]; rfl) (by kernel_rfl) (by kernel_rfl) (by kernel_rfl) (by kernel_rfl) (by intro _ _ _ h; exact h) (Or.inl ⟨by rfl, fun w hSw => ?_⟩) hHeld ?_
  rotate_left
  · ((try dsimp only at hSw); go_simp; first | done | with_reducible rfl | rfl)
  try simp only [Act.put, List.setIfInBounds_toArray, List.set_cons_zero, List.set_cons_succ]
  refine AnyT.ready (rs := [11]) (by kernel_rfl) (by simp) ?_
  refine AllT.cons (by simp only [List.getElem?_toArray, List.getElem?_cons_succ, List.getElem?_cons_zero]; rfl) (fun K hK => ?_) AllT.nil
  go_simp
  have hO2 := (HO1.out.allocA (g := sg + 1) (by simp [hsg]) 160 (((((((Tryd.zeroCells160.setIfInBounds 0 (.iface 91 (.pointer (some ⟨g, 0, none⟩)))).setIfInBounds 2 (.iface 112 (.agg #[]))).setIfInBounds 3 (.iface 240 (.int .i64 nb))).setIfInBounds 4 (.int .u64 1)).setIfInBounds 5 (.int .i64 bs)).setIfInBounds 271 (.slice (some ⟨sg, 0, none⟩) 0 0)))).drew
  rw [twCells_eq] at hO2
  generalize (World.drew _) = W at hO2 ⊢
  have hO3 := own_cuts _ _ _ hO2.part
  obtain ⟨wp, hwp⟩ : ∃ wp, sg + 1 = wp := ⟨_, rfl⟩
  rw [hwp] at hO3 ⊢
  have hO4 : Own (fp wp 0 [.iface 91 (.pointer (some ⟨g, 0, none⟩))] :: fp wp 1 [.nilIface] :: fp wp 2 [.iface 112 (.agg #[]), .iface 240 (.int .i64 nb), .int .u64 1, .int .i64 bs] :: fp wp 6 [.int .i64 0] :: fp wp 7 [.slice none 0 0, .int .i64 0] :: fp wp 9 z64 ::
    fp wp 73 [.int .i64 0, .slice none 0 0, .slice none 0 0, .slice none 0 0] :: fp wp 77 [.int .i64 0] :: fp wp 78 [.slice none 0 0, .int .i64 0] :: fp wp 80 z64 :: fp wp 144 [.int .i64 0, .slice none 0 0, .slice none 0 0, .slice none 0 0] :: fp wp 148 [.nilIface] :: fp wp 149 [.slice none 0 0, .int .i64 0] :: fp wp 151 z64 :: fp wp 215 [.int .i64 0, .slice none 0 0] ::
    fp wp 217 [.int .u64 0, .int .u64 0] :: fp wp 219 [.int .u64 0] :: fp wp 220 [.int .i64 0] :: fp wp 221 (List.replicate 20 (.int .u8 0)) :: fp wp 241 (List.replicate 30 (.int .u8 0)) :: fp wp 271 [.slice (some ⟨sg, 0, none⟩) 0 0] :: fp wp 272 [.slice none 0 0] :: (fw sg 5 [] :: fw p 168 cs :: (G ++ R))) w0 W := hO3
  obtain ⟨h3, h4, h15, h16, h23⟩ := HQ.out
  have q3 := (hO4.cell 23 rfl (k := 3) 3 rfl (by simp only; omega)).trans h3
  have q4 := (hO4.cell 23 rfl (k := 4) 4 rfl (by simp only; omega)).trans h4
  have q15 := (hO4.cell 23 rfl (k := 15) 15 rfl (by simp only; omega)).trans h15
  have q16 := (hO4.cell 23 rfl (k := 16) 16 rfl (by simp only; omega)).trans h16
  have q23 := (hO4.cell 23 rfl (k := 23) 23 rfl (by simp only; omega)).trans h23
  have c3 := hO4.cell 2 rfl (k := 3) 1 rfl (by simp)
  have c6 := hO4.cell 3 rfl (k := 6) 0 rfl (by simp)
  have c76 := hO4.cell 6 rfl (k := 76) 3 rfl (by simp)
  have c77 := hO4.cell 7 rfl (k := 77) 0 rfl (by simp)
  have c147 := hO4.cell 10 rfl (k := 147) 3 rfl (by simp)
  have c148 := hO4.cell 11 rfl (k := 148) 0 rfl (by simp)
  have f0 := fun k => hO4.frozen 0 rfl k
  have bl := hO4.head.lt
  have HO4 := hid hO4
  clear h3 h4 h15 h16 h23 hO4 hO2 hO3 HO1
  refine hK.out _ _ ?_ (fun hHeld => ?_)
  · exact ⟨q3, q4, q15, q16, q23⟩
  clear hK
  try simp only [Act.put, List.setIfInBounds_toArray, List.set_cons_zero, List.set_cons_succ]
  refine AnyT.take (i := 12) (v := ?_) (by simp only [List.getElem?_toArray, List.getElem?_cons_succ, List.getElem?_cons_zero]; rfl) (by kernel_rfl) (by kernel_rfl) (by kernel_rfl) (by kernel_rfl) (by intro _ _ _ h; exact h) (Or.inl ⟨by rfl, fun w hSw => ?_⟩) hHeld ?_
  rotate_left
  · ((try dsimp only at hSw); go_simp; first | done | with_reducible rfl | rfl)
  try simp only [Act.put, List.setIfInBounds_toArray, List.set_cons_zero, List.set_cons_succ]
  refine AnyT.done (by kernel_rfl) ?_ _
  clear q4 q15 q16 q23
  go_wp2_with fail
  have hm := method_ng
  refine (getRestart p rs _ hrs q3).mono ?_
  rintro e w5 ⟨rfl, rfl⟩
  clear q3
  go_wp2_with fail
  have hO5 : Own (fp wp 0 [.iface 91 (.pointer (some ⟨g, 0, none⟩))] :: fp wp 1 [.nilIface] :: fp wp 2 [.iface 112 (.agg #[]), .iface 240 (.int .i64 nb), .int .u64 1, .int .i64 bs] :: fp wp 6 [.int .i64 rs] :: fp wp 7 [.slice none 0 0, .int .i64 0] :: fp wp 9 z64 ::
    fp wp 73 [.int .i64 0, .slice none 0 0, .slice none 0 0, .slice (some ⟨wp, 241, none⟩) 30 30] :: fp wp 77 [.int .i64 1] :: fp wp 78 [.slice none 0 0, .int .i64 0] :: fp wp 80 z64 :: fp wp 144 [.int .i64 0, .slice none 0 0, .slice none 0 0, .slice (some ⟨wp, 241, none⟩) 30 30] :: fp wp 148 [.nilIface] :: fp wp 149 [.slice none 0 0, .int .i64 0] :: fp wp 151 z64 :: fp wp 215 [.int .i64 0, .slice none 0 0] ::
    fp wp 217 [.int .u64 0, .int .u64 0] :: fp wp 219 [.int .u64 0] :: fp wp 220 [.int .i64 0] :: fp wp 221 (List.replicate 20 (.int .u8 0)) :: fp wp 241 (List.replicate 30 (.int .u8 0)) :: fp wp 271 [.slice (some ⟨sg, 0, none⟩) 0 0] :: fp wp 272 [.slice none 0 0] :: (fw sg 5 [] :: fw p 168 cs :: (G ++ R))) w0 _ := (((HO4.out.setN 3 rfl (k := 6) 0 rfl (by simp) (.int .i64 rs)).setN 6 rfl (k := 76) 3 rfl (by simp) (.slice (some ⟨wp, 241, none⟩) 30 30)).setN 7 rfl (k := 77) 0 rfl (by simp) (.int .i64 1)).setN 10 rfl (k := 147) 3 rfl (by simp) (.slice (some ⟨wp, 241, none⟩) 30 30)
  clear HO4 c3 c6 c76 c77 c147 c148 f0 bl
  refine (newGen nb (by omega) _ w0 _ hO5).mono ?_
  rintro e w6 ⟨gp, FG, rfl, hFG, hO6⟩
  have hO7 := (hO6.perm (L' := fp wp 148 [.nilIface] :: (FG ++ (fp wp 0 [.iface 91 (.pointer (some ⟨g, 0, none⟩))] :: fp wp 1 [.nilIface] :: fp wp 2 [.iface 112 (.agg #[]), .iface 240 (.int .i64 nb), .int .u64 1, .int .i64 bs] :: fp wp 6 [.int .i64 rs] :: fp wp 7 [.slice none 0 0, .int .i64 0] :: fp wp 9 z64 :: fp wp 73 [.int .i64 0, .slice none 0 0, .slice none 0 0, .slice (some ⟨wp, 241, none⟩) 30 30] :: fp wp 77 [.int .i64 1] :: fp wp 78 [.slice none 0 0, .int .i64 0] :: fp wp 80 z64 :: fp wp 144 [.int .i64 0, .slice none 0 0, .slice none 0 0, .slice (some ⟨wp, 241, none⟩) 30 30] :: fp wp 149 [.slice none 0 0, .int .i64 0] :: fp wp 151 z64 :: fp wp 215 [.int .i64 0, .slice none 0 0] :: fp wp 217 [.int .u64 0, .int .u64 0] :: fp wp 219 [.int .u64 0] :: fp wp 220 [.int .i64 0] :: fp wp 221 (List.replicate 20 (.int .u8 0)) :: fp wp 241 (List.replicate 30 (.int .u8 0)) :: fp wp 271 [.slice (some ⟨sg, 0, none⟩) 0 0] :: fp wp 272 [.slice none 0 0] :: (fw sg 5 [] :: fw p 168 cs :: (G ++ R))))) (perm_of fun _ _ z => by simp only [List.count_append, List.count_cons, List.cons_append, List.count_nil, List.nil_append, List.append_nil]; omega))
  have c148 := hO7.cell 0 rfl (k := 148) 0 rfl (by simp)
  have f0 := fun k => hO7.frozen 0 rfl k
  have HO7 := hid hO7
  have HFG := hid hFG
  clear hO5 hO6 hO7 hFG
  go_wp2_with fail
  have hO8 : Own (fp wp 148 [.iface 314 (.pointer (some ⟨gp, 0, none⟩))] :: (FG ++ (fp wp 0 [.iface 91 (.pointer (some ⟨g, 0, none⟩))] :: fp wp 1 [.nilIface] :: fp wp 2 [.iface 112 (.agg #[]), .iface 240 (.int .i64 nb), .int .u64 1, .int .i64 bs] :: fp wp 6 [.int .i64 rs] :: fp wp 7 [.slice none 0 0, .int .i64 0] :: fp wp 9 z64 :: fp wp 73 [.int .i64 0, .slice none 0 0, .slice none 0 0, .slice (some ⟨wp, 241, none⟩) 30 30] :: fp wp 77 [.int .i64 1] :: fp wp 78 [.slice none 0 0, .int .i64 0] :: fp wp 80 z64 :: fp wp 144 [.int .i64 0, .slice none 0 0, .slice none 0 0, .slice (some ⟨wp, 241, none⟩) 30 30] :: fp wp 149 [.slice none 0 0, .int .i64 0] :: fp wp 151 z64 :: fp wp 215 [.int .i64 0, .slice none 0 0] :: fp wp 217 [.int .u64 0, .int .u64 0] :: fp wp 219 [.int .u64 0] :: fp wp 220 [.int .i64 0] :: fp wp 221 (List.replicate 20 (.int .u8 0)) :: fp wp 241 (List.replicate 30 (.int .u8 0)) :: fp wp 271 [.slice (some ⟨sg, 0, none⟩) 0 0] :: fp wp 272 [.slice none 0 0] :: (fw sg 5 [] :: fw p 168 cs :: (G ++ R))))) w0 _ := HO7.out.set (k := 148) 0 rfl (by simp) (.iface 314 (.pointer (some ⟨gp, 0, none⟩)))
  have hFW : FWB wp 148 true nb B Q (fp wp 148 [.iface 314 (.pointer (some ⟨gp, 0, none⟩))] :: fp wp (148 + 67) [.int .i64 (([] : List Int).length : Nat), .slice none ([] : List Nat).length 0] :: ([fp wp 149 [.slice none 0 0, .int .i64 0], fp wp 151 z64] ++ (FG ++ []))) := ⟨probes nb, [], [], [], ⟨gp, none, 0, [fp wp 149 [.slice none 0 0, .int .i64 0], fp wp 151 z64], FG, [], .inl ⟨rfl, _, ⟨by simp [z64], _, bc_zeros 64⟩, rfl⟩, HFG.out, Row.nil _ _, rfl⟩, probes_le nb, hnb, by simp, by simp, by simp, by simp⟩
  have h9 := hO8.perm (L' := (fp wp 148 [.iface 314 (.pointer (some ⟨gp, 0, none⟩))] :: fp wp 215 [.int .i64 0, .slice none 0 0] :: ([fp wp 149 [.slice none 0 0, .int .i64 0], fp wp 151 z64] ++ (FG ++ []))) ++ (fp wp 0 [.iface 91 (.pointer (some ⟨g, 0, none⟩))] :: fp wp 1 [.nilIface] :: fp wp 2 [.iface 112 (.agg #[]), .iface 240 (.int .i64 nb), .int .u64 1, .int .i64 bs] :: fp wp 6 [.int .i64 rs] :: fp wp 7 [.slice none 0 0, .int .i64 0] :: fp wp 9 z64 :: fp wp 73 [.int .i64 0, .slice none 0 0, .slice none 0 0, .slice (some ⟨wp, 241, none⟩) 30 30] :: fp wp 77 [.int .i64 1] :: fp wp 78 [.slice none 0 0, .int .i64 0] :: fp wp 80 z64 :: fp wp 144 [.int .i64 0, .slice none 0 0, .slice none 0 0, .slice (some ⟨wp, 241, none⟩) 30 30] :: fp wp 217 [.int .u64 0, .int .u64 0] :: fp wp 219 [.int .u64 0] :: fp wp 220 [.int .i64 0] :: fp wp 221 (List.replicate 20 (.int .u8 0)) :: fp wp 241 (List.replicate 30 (.int .u8 0)) :: fp wp 271 [.slice (some ⟨sg, 0, none⟩) 0 0] :: fp wp 272 [.slice none 0 0] :: (fw sg 5 [] :: fw p 168 cs :: (G ++ R)))) (perm_of fun _ _ z => by simp only [List.count_append, List.count_cons, List.cons_append, List.count_nil, List.nil_append, List.append_nil]; omega)
  have HFW := hid hFW
  have H9 := hid h9
  clear hFW h9 hO8 HO7 HFG c148 f0
  refine (fwb_flush wp 148 nb B Q 0 true _ _ w0 _ HFW.out H9.out hB (by omega) (by omega) (by omega)).mono ?_
  rintro e w8 ⟨rfl, F3, hF3, hO10⟩
  have HF3 := hid hF3
  have HO7 := hid hO10
  clear hF3 hO10 H9 HFW
  go_wp2_with fail
  go_ret
  refine ⟨wp, _, rfl, ⟨.iface 240 (.int .i64 nb), some ⟨sg, 0, none⟩, none, none, 0, 0, 0, [], List.replicate 20 (.int .u8 0), List.replicate 30 (.int .u8 0), [fp wp 7 [.slice none 0 0, .int .i64 0], fp wp 9 z64], [], [], fp wp 77 [.int .i64 ((1 : Nat) : Int)] :: fp wp 144 [.int .i64 ((0 : Nat) : Int), .slice none 0 0, .slice none 0 0, .slice (some ⟨wp, 241, none⟩) 30 30] :: ([fp wp 78 [.slice none 0 0, .int .i64 0], fp wp 80 z64] ++ ([] ++ [])), F3, G, [fw sg 5 []], by simp, .inl ⟨rfl, _, ⟨by simp [z64], _, bc_zeros 64⟩, rfl⟩, Row.nil _ _, Row.nil _ _, ⟨none, 0, none, 0, _, [], [], .inl ⟨rfl, _, ⟨by simp [z64], _, bc_zeros 64⟩, rfl⟩, Row.nil _ _, Row.nil _ _, rfl⟩, HF3.out, HG.out, by simp, by simp, ⟨by simp [bc], .inr ⟨sg, [], rfl, rfl, by simp, by simp [maxLen], by simp, by simp [bc]⟩⟩, rfl⟩, ?_⟩
  have hfin : Own ([fp wp 272 [.slice none 0 0], fw p 168 cs] ++ ((fp wp 0 [.iface 91 (.pointer (some ⟨g, 0, none⟩))] :: fp wp 1 [.nilIface] :: fp wp 2 [.iface 112 (.agg #[]), .iface 240 (.int .i64 nb), .int .u64 1, .int .i64 bs] :: fp wp 217 [.int .u64 0, .int .u64 0] :: fp wp 219 [.int .u64 0] :: fp wp 220 [.int .i64 0] :: fp wp 221 (List.replicate 20 (.int .u8 0)) :: fp wp 241 (List.replicate 30 (.int .u8 0)) :: fp wp 271 [.slice (some ⟨sg, 0, none⟩) 0 0] :: fp wp 6 [.int .i64 rs] :: fp wp 73 [.int .i64 0, .slice none 0 0, .slice none 0 0, .slice (some ⟨wp, 241, none⟩) 30 30] ::
    ([fp wp 7 [.slice none 0 0, .int .i64 0], fp wp 9 z64] ++ ([] ++ ([] ++ ((fp wp 77 [.int .i64 1] :: fp wp 144 [.int .i64 0, .slice none 0 0, .slice none 0 0, .slice (some ⟨wp, 241, none⟩) 30 30] :: ([fp wp 78 [.slice none 0 0, .int .i64 0], fp wp 80 z64] ++ ([] ++ []))) ++ (F3 ++ (G ++ [fw sg 5 []]))))))) ++ R)) w0 _ := HO7.out.perm (perm_of fun _ _ z => by simp only [List.count_append, List.count_cons, List.cons_append, List.count_nil, List.nil_append, List.append_nil]; omega)
  exact hfin.right
set_option maxHeartbeats 6400000 in
set_option maxRecDepth 100000 in
theorem newWriter_off (g p bs rs nb B Q : Nat) (cs : List Value) (G R : List Fr) (w0 w : World) (hG : OB g [] G) (hO : Own (fw p 168 cs :: (G ++ R)) w0 w) (h3 : cs[3]? = some (.int .i64 rs)) (h4 : cs[4]? = some (.int .i64 bs)) (h15 : cs[15]? = some .nilIface) (h16 : cs[16]? = some (.int .u64 1))
    (h23 : cs[23]? = some (.nilIface)) (hcl : cs.length = 33) (hrs : 0 < rs) (hbs : 0 < bs) (hnb : nb ≤ 20) (hB : B ≤ 26000000) (hQ : Q ≤ 1000000) :
    Calls Tryd.prog 42 #[.iface 91 (.pointer (some ⟨g, 0, none⟩)), .pointer (some ⟨p, 0, none⟩)] w (NWOut bs rs g nb B Q false R w0) := by
  have q3 := (hO.cell 0 rfl (k := 3) 3 rfl (by simp only; omega)).trans h3
  have q4 := (hO.cell 0 rfl (k := 4) 4 rfl (by simp only; omega)).trans h4
  have q15 := (hO.cell 0 rfl (k := 15) 15 rfl (by simp only; omega)).trans h15
  have q16 := (hO.cell 0 rfl (k := 16) 16 rfl (by simp only; omega)).trans h16
  have q23 := (hO.cell 0 rfl (k := 23) 23 rfl (by simp only; omega)).trans h23
  have HO := hid hO
  have HG := hid hG
  have HQ := hid (show _ ∧ _ ∧ _ ∧ _ ∧ _ from ⟨h3, h4, h15, h16, h23⟩)
  clear hO hG h3 h4 h15 h16 h23
  have hmk := fun w => run_make_own (P := Tryd.prog) 25 5 (.int .u8 0) 1 Tryd.underlying25 Tryd.info_u8 rfl .i64 .i64 0 0 0 0 rfl rfl (by omega) (by omega) (by omega) w
  go_enter Tryd.func42, Tryd.ntmps42
  go_wp2_with fail
  refine AnyT.start (S := fun w' => w'.cell? ⟨p, 3, none⟩ = some (.int .i64 rs) ∧ w'.cell? ⟨p, 4, none⟩ = some (.int .i64 bs) ∧ w'.cell? ⟨p, 15, none⟩ = some .nilIface ∧ w'.cell? ⟨p, 16, none⟩ = some (.int .u64 1) ∧ w'.cell? ⟨p, 23, none⟩ = some (.nilIface)) (T := []) (by kernel_rfl) (⟨q3, q4, q15, q16, q23⟩) (fun hHeld => ?_)
  refine AnyT.take (i := 0) (v := ?_) (by simp only [List.getElem?_toArray, List.getElem?_cons_succ, List.getElem?_cons_zero]; rfl) (by kernel_rfl) (by kernel_rfl) (by kernel_rfl) (by kernel_rfl) (by intro _ _ _ h; exact h) (Or.inl ⟨by rfl, fun w hSw => ?_⟩) hHeld ?_
  rotate_left
  · ((try dsimp only at hSw); go_simp; first | done | with_reducible rfl | rfl)
  try simp only [Act.put, List.setIfInBounds_toArray, List.set_cons_zero, List.set_cons_succ]
  refine AnyT.take (i := 1) (v := ?_) (by simp only [List.getElem?_toArray, List.getElem?_cons_succ, List.getElem?_cons_zero]; rfl) (by kernel_rfl) (by kernel_rfl) (by kernel_rfl) (by kernel_rfl) (by intro _ _ _ h; exact h) (Or.inl ⟨by rfl, fun w hSw => ?_⟩) hHeld ?_
  rotate_left
  · ((try dsimp only at hSw); go_simp; first | done | with_reducible rfl | rfl)
  try simp only [Act.put, List.setIfInBounds_toArray, List.set_cons_zero, List.set_cons_succ]
  refine AnyT.take (i := 3) (v := ?_) (by simp only [List.getElem?_toArray, List.getElem?_cons_succ, List.getElem?_cons_zero]; rfl) (by kernel_rfl) (by kernel_rfl) (by kernel_rfl) (by kernel_rfl) (by intro _ _ _ h; exact h) (Or.inl ⟨by rfl, fun w hSw => ?_⟩) hHeld ?_
  rotate_left
  · ((try dsimp only at hSw); go_simp; first | done | with_reducible rfl | rfl)
  try simp only [Act.put, List.setIfInBounds_toArray, List.set_cons_zero, List.set_cons_succ]
  refine AnyT.take (i := 5) (v := ?_) (by simp only [List.getElem?_toArray, List.getElem?_cons_succ, List.getElem?_cons_zero]; rfl) (by kernel_rfl) (by kernel_rfl) (by kernel_rfl) (by kernel_rfl) (by intro _ _ _ h; exact h) (Or.inl ⟨by rfl, fun w hSw => ?_⟩) hHeld ?_
  rotate_left
  · ((try dsimp only at hSw); go_simp; first | done | with_reducible rfl | rfl)
  try simp only [Act.put, List.setIfInBounds_toArray, List.set_cons_zero, List.set_cons_succ]
  refine AnyT.take (i := 7) (v := ?_) (by simp only [List.getElem?_toArray, List.getElem?_cons_succ, List.getElem?_cons_zero]; rfl) (by kernel_rfl) (by kernel_rfl) (by kernel_rfl) (by kernel_rfl) (by intro _ _ _ h; exact h) (Or.inl ⟨by rfl, fun w hSw => ?_⟩) hHeld ?_
  rotate_left
  · ((try dsimp only at hSw); go_simp; first | done | with_reducible rfl | rfl)
  try simp only [Act.put, List.setIfInBounds_toArray, List.set_cons_zero, List.set_cons_succ]
  refine AnyT.takeC (i := 2) (v := .iface 112 (.agg #[])) (by simp only [List.getElem?_toArray, List.getElem?_cons_succ, List.getElem?_cons_zero]; rfl) (by kernel_rfl) (by kernel_rfl) (by kernel_rfl) (by kernel_rfl) (by intro _ _ _ h; exact h) (Or.inl ⟨by rfl, fun w hSw => ?_⟩) hHeld ?_
  · ((try dsimp only at hSw); go_simp; exact getComparer p _ hSw.2.2.1)
  try simp only [Act.put, List.setIfInBounds_toArray, List.set_cons_zero, List.set_cons_succ]
  refine AnyT.takeC (i := 4) (v := (.nilIface)) (by simp only [List.getElem?_toArray, List.getElem?_cons_succ, List.getElem?_cons_zero]; rfl) (by kernel_rfl) (by kernel_rfl) (by kernel_rfl) (by kernel_rfl) (by intro _ _ _ h; exact h) (Or.inl ⟨by rfl, fun w hSw => ?_⟩) hHeld ?_
  · ((try dsimp only at hSw); go_simp; exact getFilter p (.nilIface) _ hSw.2.2.2.2)
  try simp only [Act.put, List.setIfInBounds_toArray, List.set_cons_zero, List.set_cons_succ]
  refine AnyT.takeC (i := 6) (v := .int .u64 1) (by simp only [List.getElem?_toArray, List.getElem?_cons_succ, List.getElem?_cons_zero]; rfl) (by kernel_rfl) (by kernel_rfl) (by kernel_rfl) (by kernel_rfl) (by intro _ _ _ h; exact h) (Or.inl ⟨by rfl, fun w hSw => ?_⟩) hHeld ?_
  · ((try dsimp only at hSw); go_simp; exact getCompression p _ hSw.2.2.2.1)
  try simp only [Act.put, List.setIfInBounds_toArray, List.set_cons_zero, List.set_cons_succ]
  refine AnyT.takeC (i := 8) (v := .int .i64 bs) (by simp only [List.getElem?_toArray, List.getElem?_cons_succ, List.getElem?_cons_zero]; rfl) (by kernel_rfl) (by kernel_rfl) (by kernel_rfl) (by kernel_rfl) (by intro _ _ _ h; exact h) (Or.inl ⟨by rfl, fun w hSw => ?_⟩) hHeld ?_
  · ((try dsimp only at hSw); go_simp; exact getBlockSize p bs _ hbs hSw.2.1)
  try simp only [Act.put, List.setIfInBounds_toArray, List.set_cons_zero, List.set_cons_succ]
  refine AnyT.ready (rs := [9]) (by kernel_rfl) (by simp) ?_
  refine AllT.cons (by simp only [List.getElem?_toArray, List.getElem?_cons_succ, List.getElem?_cons_zero]; rfl) (fun K hK => ?_) AllT.nil
  go_simp
  obtain ⟨sg, hsg⟩ : ∃ sg, w.heap.size = sg := ⟨_, rfl⟩
  try rw [hsg]
  have hO1 := HO.out.alloc' hsg 5 []
  clear HO q3 q4 q15 q16 q23
  obtain ⟨h3, h4, h15, h16, h23⟩ := HQ.out
  have q3 := (hO1.cell 1 rfl (k := 3) 3 rfl (by simp only; omega)).trans h3
  have q4 := (hO1.cell 1 rfl (k := 4) 4 rfl (by simp only; omega)).trans h4
  have q15 := (hO1.cell 1 rfl (k := 15) 15 rfl (by simp only; omega)).trans h15
  have q16 := (hO1.cell 1 rfl (k := 16) 16 rfl (by simp only; omega)).trans h16
  have q23 := (hO1.cell 1 rfl (k := 23) 23 rfl (by simp only; omega)).trans h23
  clear h3 h4 h15 h16 h23
  have HO1 := hid hO1
  clear hO1
  refine hK.out _ _ ?_ (fun hHeld => ?_)
  · exact ⟨q3, q4, q15, q16, q23⟩
  clear hK
  try simp only [Act.put, List.setIfInBounds_toArray, List.set_cons_zero, List.set_cons_succ]
  refine AnyT.take (i := 10) (v := ?_) (by simp only [List.getElem?_toArray, List.getElem?_cons_succ, List.getElem?_cons_zero]; rfl) (by kernel_rfl) (by kernel_rfl) (by kernel_rfl) (by kernel_rfl) (by intro _ _ _ h; exact h) (Or.inl ⟨by rfl, fun w hSw => ?_⟩) hHeld ?_
  rotate_left
  · ((try dsimp only at hSw); go_simp; first | done | with_reducible rfl | rfl)
  try simp only [Act.put, List.setIfInBounds_toArray, List.set_cons_zero, List.set_cons_succ]
  refine AnyT.ready (rs := [11]) (by kernel_rfl) (by simp) ?_
  refine AllT.cons (by simp only [List.getElem?_toArray, List.getElem?_cons_succ, List.getElem?_cons_zero]; rfl) (fun K hK => ?_) AllT.nil
  go_simp
  have hO2 := (HO1.out.allocA (g := sg + 1) (by simp [hsg]) 160 (((((((Tryd.zeroCells160.setIfInBounds 0 (.iface 91 (.pointer (some ⟨g, 0, none⟩)))).setIfInBounds 2 (.iface 112 (.agg #[]))).setIfInBounds 3 (.nilIface)).setIfInBounds 4 (.int .u64 1)).setIfInBounds 5 (.int .i64 bs)).setIfInBounds 271 (.slice (some ⟨sg, 0, none⟩) 0 0)))).drew
  rw [twCells_eq] at hO2
  generalize (World.drew _) = W at hO2 ⊢
  have hO3 := own_cuts _ _ _ hO2.part
  obtain ⟨wp, hwp⟩ : ∃ wp, sg + 1 = wp := ⟨_, rfl⟩
  rw [hwp] at hO3 ⊢
  have hO4 : Own (fp wp 0 [.iface 91 (.pointer (some ⟨g, 0, none⟩))] :: fp wp 1 [.nilIface] :: fp wp 2 [.iface 112 (.agg #[]), .nilIface, .int .u64 1, .int .i64 bs] :: fp wp 6 [.int .i64 0] :: fp wp 7 [.slice none 0 0, .int .i64 0] :: fp wp 9 z64 ::
    fp wp 73 [.int .i64 0, .slice none 0 0, .slice none 0 0, .slice none 0 0] :: fp wp 77 [.int .i64 0] :: fp wp 78 [.slice none 0 0, .int .i64 0] :: fp wp 80 z64 :: fp wp 144 [.int .i64 0, .slice none 0 0, .slice none 0 0, .slice none 0 0] :: fp wp 148 [.nilIface] :: fp wp 149 [.slice none 0 0, .int .i64 0] :: fp wp 151 z64 :: fp wp 215 [.int .i64 0, .slice none 0 0] ::
    fp wp 217 [.int .u64 0, .int .u64 0] :: fp wp 219 [.int .u64 0] :: fp wp 220 [.int .i64 0] :: fp wp 221 (List.replicate 20 (.int .u8 0)) :: fp wp 241 (List.replicate 30 (.int .u8 0)) :: fp wp 271 [.slice (some ⟨sg, 0, none⟩) 0 0] :: fp wp 272 [.slice none 0 0] :: (fw sg 5 [] :: fw p 168 cs :: (G ++ R))) w0 W := hO3
  obtain ⟨h3, h4, h15, h16, h23⟩ := HQ.out
  have q3 := (hO4.cell 23 rfl (k := 3) 3 rfl (by simp only; omega)).trans h3
  have q4 := (hO4.cell 23 rfl (k := 4) 4 rfl (by simp only; omega)).trans h4
  have q15 := (hO4.cell 23 rfl (k := 15) 15 rfl (by simp only; omega)).trans h15
  have q16 := (hO4.cell 23 rfl (k := 16) 16 rfl (by simp only; omega)).trans h16
  have q23 := (hO4.cell 23 rfl (k := 23) 23 rfl (by simp only; omega)).trans h23
  have c3 := hO4.cell 2 rfl (k := 3) 1 rfl (by simp)
  have c6 := hO4.cell 3 rfl (k := 6) 0 rfl (by simp)
  have c76 := hO4.cell 6 rfl (k := 76) 3 rfl (by simp)
  have c77 := hO4.cell 7 rfl (k := 77) 0 rfl (by simp)
  have c147 := hO4.cell 10 rfl (k := 147) 3 rfl (by simp)
  have c148 := hO4.cell 11 rfl (k := 148) 0 rfl (by simp)
  have f0 := fun k => hO4.frozen 0 rfl k
  have bl := hO4.head.lt
  have HO4 := hid hO4
  clear h3 h4 h15 h16 h23 hO4 hO2 hO3 HO1
  refine hK.out _ _ ?_ (fun hHeld => ?_)
  · exact ⟨q3, q4, q15, q16, q23⟩
  clear hK
  try simp only [Act.put, List.setIfInBounds_toArray, List.set_cons_zero, List.set_cons_succ]
  refine AnyT.take (i := 12) (v := ?_) (by simp only [List.getElem?_toArray, List.getElem?_cons_succ, List.getElem?_cons_zero]; rfl) (by kernel_rfl) (by kernel_rfl) (by kernel_rfl) (by kernel_rfl) (by intro _ _ _ h; exact h) (Or.inl ⟨by rfl, fun w hSw => ?_⟩) hHeld ?_
  rotate_left
  · ((try dsimp only at hSw); go_simp; first | done | with_reducible rfl | rfl)
  try simp only [Act.put, List.setIfInBounds_toArray, List.set_cons_zero, List.set_cons_succ]
  refine AnyT.done (by kernel_rfl) ?_ _
  clear q4 q15 q16 q23
  go_wp2_with fail
  have hm := method_ng
  refine (getRestart p rs _ hrs q3).mono ?_
  rintro e w5 ⟨rfl, rfl⟩
  clear q3
  go_wp2_with fail
  have hO5 : Own (fp wp 0 [.iface 91 (.pointer (some ⟨g, 0, none⟩))] :: fp wp 1 [.nilIface] :: fp wp 2 [.iface 112 (.agg #[]), .nilIface, .int .u64 1, .int .i64 bs] :: fp wp 6 [.int .i64 rs] :: fp wp 7 [.slice none 0 0, .int .i64 0] :: fp wp 9 z64 ::
    fp wp 73 [.int .i64 0, .slice none 0 0, .slice none 0 0, .slice (some ⟨wp, 241, none⟩) 30 30] :: fp wp 77 [.int .i64 1] :: fp wp 78 [.slice none 0 0, .int .i64 0] :: fp wp 80 z64 :: fp wp 144 [.int .i64 0, .slice none 0 0, .slice none 0 0, .slice (some ⟨wp, 241, none⟩) 30 30] :: fp wp 148 [.nilIface] :: fp wp 149 [.slice none 0 0, .int .i64 0] :: fp wp 151 z64 :: fp wp 215 [.int .i64 0, .slice none 0 0] ::
    fp wp 217 [.int .u64 0, .int .u64 0] :: fp wp 219 [.int .u64 0] :: fp wp 220 [.int .i64 0] :: fp wp 221 (List.replicate 20 (.int .u8 0)) :: fp wp 241 (List.replicate 30 (.int .u8 0)) :: fp wp 271 [.slice (some ⟨sg, 0, none⟩) 0 0] :: fp wp 272 [.slice none 0 0] :: (fw sg 5 [] :: fw p 168 cs :: (G ++ R))) w0 _ := (((HO4.out.setN 3 rfl (k := 6) 0 rfl (by simp) (.int .i64 rs)).setN 6 rfl (k := 76) 3 rfl (by simp) (.slice (some ⟨wp, 241, none⟩) 30 30)).setN 7 rfl (k := 77) 0 rfl (by simp) (.int .i64 1)).setN 10 rfl (k := 147) 3 rfl (by simp) (.slice (some ⟨wp, 241, none⟩) 30 30)
  clear HO4 c3 c6 c76 c77 c147 c148 f0 bl
  have HO5 := hid hO5
  clear hO5
  go_wp2_with fail
  go_ret
  have hF3 : FWB wp 148 false nb B Q (fp wp 148 [.nilIface] :: fp wp (148 + 67) [.int .i64 0, .slice none 0 0] :: [fp wp 149 [.slice none 0 0, .int .i64 0], fp wp 151 z64]) := ⟨_, .inl ⟨rfl, _, ⟨by simp [z64], _, bc_zeros 64⟩, rfl⟩, rfl⟩
  have HF3 := hid hF3
  have HO7 := hid (HO5.out.perm (L' := (fp wp 148 [.nilIface] :: fp wp 215 [.int .i64 0, .slice none 0 0] :: [fp wp 149 [.slice none 0 0, .int .i64 0], fp wp 151 z64]) ++ (fp wp 0 [.iface 91 (.pointer (some ⟨g, 0, none⟩))] :: fp wp 1 [.nilIface] :: fp wp 2 [.iface 112 (.agg #[]), .nilIface, .int .u64 1, .int .i64 bs] :: fp wp 6 [.int .i64 rs] :: fp wp 7 [.slice none 0 0, .int .i64 0] :: fp wp 9 z64 :: fp wp 73 [.int .i64 0, .slice none 0 0, .slice none 0 0, .slice (some ⟨wp, 241, none⟩) 30 30] :: fp wp 77 [.int .i64 1] :: fp wp 78 [.slice none 0 0, .int .i64 0] :: fp wp 80 z64 :: fp wp 144 [.int .i64 0, .slice none 0 0, .slice none 0 0, .slice (some ⟨wp, 241, none⟩) 30 30] :: fp wp 217 [.int .u64 0, .int .u64 0] :: fp wp 219 [.int .u64 0] :: fp wp 220 [.int .i64 0] :: fp wp 221 (List.replicate 20 (.int .u8 0)) :: fp wp 241 (List.replicate 30 (.int .u8 0)) :: fp wp 271 [.slice (some ⟨sg, 0, none⟩) 0 0] :: fp wp 272 [.slice none 0 0] :: (fw sg 5 [] :: fw p 168 cs :: (G ++ R)))) (perm_of fun _ _ z => by simp only [List.count_append, List.count_cons, List.cons_append, List.count_nil, List.nil_append, List.append_nil]; omega))
  clear hF3
  refine ⟨wp, _, rfl, ⟨.nilIface, some ⟨sg, 0, none⟩, none, none, 0, 0, 0, [], List.replicate 20 (.int .u8 0), List.replicate 30 (.int .u8 0), [fp wp 7 [.slice none 0 0, .int .i64 0], fp wp 9 z64], [], [], fp wp 77 [.int .i64 ((1 : Nat) : Int)] :: fp wp 144 [.int .i64 ((0 : Nat) : Int), .slice none 0 0, .slice none 0 0, .slice (some ⟨wp, 241, none⟩) 30 30] :: ([fp wp 78 [.slice none 0 0, .int .i64 0], fp wp 80 z64] ++ ([] ++ [])), _, G, [fw sg 5 []], by simp, .inl ⟨rfl, _, ⟨by simp [z64], _, bc_zeros 64⟩, rfl⟩, Row.nil _ _, Row.nil _ _, ⟨none, 0, none, 0, _, [], [], .inl ⟨rfl, _, ⟨by simp [z64], _, bc_zeros 64⟩, rfl⟩, Row.nil _ _, Row.nil _ _, rfl⟩, HF3.out, HG.out, by simp, by simp, ⟨by simp [bc], .inr ⟨sg, [], rfl, rfl, by simp, by simp [maxLen], by simp, by simp [bc]⟩⟩, rfl⟩, ?_⟩
  have hfin : Own ([fp wp 272 [.slice none 0 0], fw p 168 cs] ++ ((fp wp 0 [.iface 91 (.pointer (some ⟨g, 0, none⟩))] :: fp wp 1 [.nilIface] :: fp wp 2 [.iface 112 (.agg #[]), .nilIface, .int .u64 1, .int .i64 bs] :: fp wp 217 [.int .u64 0, .int .u64 0] :: fp wp 219 [.int .u64 0] :: fp wp 220 [.int .i64 0] :: fp wp 221 (List.replicate 20 (.int .u8 0)) :: fp wp 241 (List.replicate 30 (.int .u8 0)) :: fp wp 271 [.slice (some ⟨sg, 0, none⟩) 0 0] :: fp wp 6 [.int .i64 rs] :: fp wp 73 [.int .i64 0, .slice none 0 0, .slice none 0 0, .slice (some ⟨wp, 241, none⟩) 30 30] ::
    ([fp wp 7 [.slice none 0 0, .int .i64 0], fp wp 9 z64] ++ ([] ++ ([] ++ ((fp wp 77 [.int .i64 1] :: fp wp 144 [.int .i64 0, .slice none 0 0, .slice none 0 0, .slice (some ⟨wp, 241, none⟩) 30 30] :: ([fp wp 78 [.slice none 0 0, .int .i64 0], fp wp 80 z64] ++ ([] ++ []))) ++ ((fp wp 148 [.nilIface] :: fp wp 215 [.int .i64 0, .slice none 0 0] :: [fp wp 149 [.slice none 0 0, .int .i64 0], fp wp 151 z64]) ++ (G ++ [fw sg 5 []]))))))) ++ R)) w0 _ := HO7.out.perm (perm_of fun _ _ z => by simp only [List.count_append, List.count_cons, List.cons_append, List.count_nil, List.nil_append, List.append_nil]; omega)
  exact hfin.right
end Go.Proofs.YtloflmcgbbbnjaaDoor
namespace Go.Proofs.YtloflmcgbbbnjaaDoor
open Go.RowKit Plain
set_option linter.all false

set_option maxHeartbeats 800000 in
theorem obBytes (g : Nat) (data : List UInt8) (F R : List Fr) (w0 w : World) (h : OB g data F) (hO : Own (F ++ R) w0 w) :
    Calls Tryd.prog 46 #[.pointer (some ⟨g, 0, none⟩)] w fun e w' => ∃ A c, e = .returned (.slice A data.length c) ∧ data.length ≤ c ∧ c ≤ maxLen ∧ Rd F w0 A data ∧ Own (F ++ R) w0 w' := by
  obtain ⟨A, c, v2, F1, hB, rfl⟩ := h
  have c0 := hO.cell 0 rfl (k := 0) 0 rfl (by simp)
  have c1 := hO.cell 0 rfl (k := 1) 1 rfl (by simp)
  have hrd := hid ((hB.rd w0).cons (fw g 88 [.slice A data.length c, .int .i64 0, v2]))
  have hl := hB.len
  have HL := hid hl
  have hle : (0 : Int) ≤ (data.length : Int) := by omega
  have hlc : data.length ≤ c := hl.2.1
  clear hl hB
  have HO := hid hO
  clear hO
  go_enter Tryd.func46, Tryd.ntmps46
  go_wp2_with fail
  go_quiet (fail)
  go_wp2_with fail
  go_ret
  refine ⟨A, c, ?_, HL.out.2.1, HL.out.2.2, hrd.out, HO.out.drewN _⟩
  cases A <;> simp
theorem newWriter_any (g p bs rs nb B Q : Nat) (cs : List Value) (G R : List Fr) (w0 w : World) (hG : OB g [] G) (hO : Own (fw p 168 cs :: (G ++ R)) w0 w) (h3 : cs[3]? = some (.int .i64 rs)) (h4 : cs[4]? = some (.int .i64 bs)) (h15 : cs[15]? = some .nilIface) (h16 : cs[16]? = some (.int .u64 1))
    (h23 : cs[23]? = some (fltV nb)) (hcl : cs.length = 33) (hrs : 0 < rs) (hbs : 0 < bs) (hnb : nb ≤ 20) (hB : B ≤ 26000000) (hQ : Q ≤ 1000000) :
    Calls Tryd.prog 42 #[.iface 91 (.pointer (some ⟨g, 0, none⟩)), .pointer (some ⟨p, 0, none⟩)] w (NWOut bs rs g nb B Q (decide (0 < nb)) R w0) := by
  unfold fltV at h23
  by_cases h : 0 < nb
  · rw [if_pos (by omega)] at h23
    rw [decide_eq_true h]
    exact newWriter_on g p bs rs nb B Q cs G R w0 w hG hO h3 h4 h15 h16 h23 hcl hrs hbs hnb hB hQ
  · rw [if_neg (by omega)] at h23
    rw [decide_eq_false h]
    exact newWriter_off g p bs rs nb B Q cs G R w0 w hG hO h3 h4 h15 h16 h23 hcl hrs hbs hnb hB hQ
/-- What impl.Table gives for pairs in order. -/
def TabOut (bs rs : Nat) (on : Bool) (L : List KV) (R : List Fr) (w0 : World) (e : Ending) (w' : World) : Prop :=
  ∃ (fd key : List UInt8) (A : Option Addr) (c n : Nat) (F : List Fr), (fd = [] ↔ on = false) ∧ fd.length ≤ 18000000 ∧ key.length ≤ 200 ∧ e = .returned (.tuple #[.slice A n c, .bool true]) ∧
    Hid (n = (tTable (tFlush (tCl (tsAt bs rs L L.length)) []) fd key).length) ∧ n ≤ c ∧ c ≤ maxLen ∧ Hid (Rd F w0 A (tTable (tFlush (tCl (tsAt bs rs L L.length)) []) fd key)) ∧ Hid (Own (F ++ R) w0 w')
def TabBad (R : List Fr) (w0 : World) (e : Ending) (w' : World) : Prop := e = .returned (.tuple #[.slice none 0 0, .bool false]) ∧ Own R w0 w'
def TabRes (bs rs : Nat) (on : Bool) (L : List KV) (R : List Fr) (w0 : World) (e : Ending) (w' : World) : Prop :=
  (ordB L = true ∧ TabOut bs rs on L R w0 e w') ∨ (ordB L = false ∧ TabBad R w0 e w')
set_option maxHeartbeats 6400000 in
set_option maxRecDepth 100000 in
theorem implTable (A : Option Addr) (c bs rs nb : Nat) (fb : Int) (l : List Pr) (R : List Fr) (w0 w : World) (hp : St R w0 fun w => Prs w A l) (hO : Own R w0 w) (hbs : 0 < bs) (hbs2 : bs ≤ 1000000) (hrs : 0 < rs) (hrs2 : rs ≤ 1000) (hnb : nb ≤ 20) (hw : kvw (kvs l) ≤ 1048576) (h0 : 0 < l.length) :
    Calls Tryd.prog 19 #[.slice A l.length c, .agg #[.int .i64 bs, .int .i64 rs, .int .i64 nb, .int .i64 fb]] w (TabRes bs rs (decide (0 < nb)) (kvs l) R w0) := by
  have hll : l.length ≤ 1048576 := by have := kvw_len (kvs l); rw [kvs_length] at this; omega
  have HP := hid hp
  have HW := hid hw
  obtain ⟨q, hq⟩ : ∃ q, w.heap.size = q := ⟨_, rfl⟩
  have hO1 := hO.skip (.cells #[.int .i64 bs, .int .i64 rs, .int .i64 nb, .int .i64 fb] 32)
  have hO2 := hO1.alloc' (g := q + 1) (by simp [hq]) 88 [.slice none 0 0, .int .i64 0, .int .i8 0]
  have HO2 := hid hO2
  clear hO hO1 hO2 hp hw
  go_enter Tryd.func19, Tryd.ntmps19
  go_wp2_with fail
  generalize World.alloc (World.alloc w _) _ = W at HO2 ⊢
  refine (implOptions bs rs nb fb _ w0 _ HO2.out).mono ?_
  rintro e w1 ⟨p, cs, rfl, h3, h4, h15, h16, h23, hcl, hO3⟩
  have HO3 := hid hO3
  have HQ := hid (show _ ∧ _ ∧ _ ∧ _ ∧ _ ∧ _ from ⟨h3, h4, h15, h16, h23, hcl⟩)
  clear hO3 h3 h4 h15 h16 h23 hcl HO2
  go_wp2_with fail
  obtain ⟨h3, h4, h15, h16, h23, hcl⟩ := HQ.out
  refine (newWriter_any (q + 1) p bs rs nb (13 * 0) 1000000 cs [fw (q + 1) 88 [.slice none 0 0, .int .i64 0, .int .i8 0]] R w0 _ ⟨none, 0, _, [], .inl ⟨rfl, rfl, rfl, rfl, rfl⟩, rfl⟩ HO3.out h3 h4 h15 h16 h23 hcl hrs hbs hnb (by omega) (by omega)).mono ?_
  rintro e w2 ⟨wp, F, rfl, hWS, hO4⟩
  have HWS := hid hWS
  have HO4 := hid hO4
  clear h3 h4 h15 h16 h23 hcl hWS hO4 HO3 HQ
  obtain ⟨on, hon⟩ : ∃ on, decide (0 < nb) = on := ⟨_, rfl⟩
  rw [hon] at HWS
  have HON := hid hon
  clear hon
  obtain ⟨g, hg⟩ : ∃ g, q + 1 = g := ⟨_, rfl⟩
  rw [hg] at HWS ⊢
  clear hg
  go_wp2_with fail
  go_loopw [16] (fun i wr => ∃ (k : Nat) (F : List Fr), i = .int .i64 k ∧ k ≤ l.length ∧ Hid (∀ j, j + 1 < k → cmpI (key (kvs l) j) (key (kvs l) (j + 1)) < 0) ∧ Hid (WS wp bs rs g on nb (13 * k) 1000000 .nilIface (tsAt bs rs (kvs l) k) F) ∧ Hid (Own (F ++ R) w0 wr)) (fun i _ => l.length - (intOf i).toNat)
  case atStart => exact ⟨0, F, rfl, Nat.zero_le _, hid (fun j hj => by omega), HWS, HO4⟩
  case round =>
    obtain ⟨k, F5, rfl, hk, HORD, HW5, HO5⟩ := hrel
    clear HWS HO4
    by_cases h4 : k < l.length
    · have h4' : (k : Int) < (l.length : Int) := by omega
      have hx : l[k]? = some l[k] := List.getElem?_eq_getElem h4
      have hmem : l[k] ∈ l := List.getElem_mem h4
      have hps := HO5.out.st HP.out (by intro x hx; simp [hx])
      have kx := key_kvs hx
      have vx := val_kvs hx
      have hkw := kvw_key (kvs l) k
      rw [kx, vx] at hkw
      have hWl := HW.out
      have hkl : k + 1 ≤ (kvs l).length := by rw [kvs_length]; omega
      generalize l[k] = r at hx hmem kx vx hkw
      have KX := hid kx
      have VX := hid vx
      have HMEM := hid hmem
      obtain ⟨ga, o, rfl, p0, p1⟩ := hps.at_ hx
      have hok := hps.ok r hmem
      have hkc := hok.hkc
      have hvc := hok.hvc
      obtain ⟨pb, hpb⟩ : ∃ pb, wr.heap.size = pb := ⟨_, rfl⟩
      have hO6 := HO5.out.alloc' hpb 36 [.slice r.ka r.k.length r.kc, .slice r.va r.v.length r.vc]
      have q0 := hO6.cell 0 rfl (k := 0) 0 rfl (by simp)
      have q1 := hO6.cell 0 rfl (k := 1) 1 rfl (by simp)
      have HRK := hid (show Rd (fw pb 36 [.slice r.ka r.k.length r.kc, .slice r.va r.v.length r.vc] :: R) w0 r.ka r.k from (HP.out.imp fun w h => (h.ok r HMEM.out).hk).cons _)
      have HRV := hid (show Rd (fw pb 36 [.slice r.ka r.k.length r.kc, .slice r.va r.v.length r.vc] :: R) w0 r.va r.v from (HP.out.imp fun w h => (h.ok r HMEM.out).hv).cons _)
      have HO6 := hid (hO6.perm (L' := F5 ++ (fw pb 36 [.slice r.ka r.k.length r.kc, .slice r.va r.v.length r.vc] :: R)) (perm_of fun _ _ z => by simp only [List.count_append, List.count_cons, List.cons_append, List.count_nil, List.nil_append, List.append_nil]; omega))
      have HTB := hid (tsAt_tb bs rs (kvs l) hrs HW.out k (by omega))
      have HOF := hid (tsAt_off bs rs (kvs l) hrs HW.out k hkl)
      have HNA := hid (tsAt_nAll bs rs (kvs l) hrs k (by omega))
      have HPV := hid (fun h0 => tsAt_prev bs rs (kvs l) hrs k (by omega) h0)
      clear hps hok hx kx vx hmem hO6
      go_wp2_with fail
      obtain ⟨st, hst⟩ : ∃ st, tsAt bs rs (kvs l) k = st := ⟨_, rfl⟩
      have HST := hid hst
      rw [hst] at HW5 HTB HOF HNA HPV
      clear hst
      by_cases hbad : 0 < k ∧ 0 ≤ bcmp st.prev r.k
      · refine (append_bad wp bs rs g nb (13 * k) 1000000 r.k.length r.kc r.v.length r.vc on st r.k r.ka r.va F5 _ w0 _ HW5.out HO6.out HRK.out rfl (by rw [HNA.out]; exact hbad.1) hbad.2).mono ?_
        rintro e w5 ⟨⟨qe, rfl⟩, hO7⟩
        have HO7 := hid hO7
        have HBAD := hid hbad
        clear hO7 hbad q0 q1 p0 p1
        go_wp2_with fail
        go_ret2
        refine .inr ⟨?_, rfl, HO7.out.drop⟩
        cases hb : ordB (kvs l) with
        | false => rfl
        | true =>
          exfalso
          have hk0 := HBAD.out.1
          have h1 := ordB_iff.1 hb (k - 1) (by rw [kvs_length]; omega)
          have h2 := HBAD.out.2
          rw [HPV.out HBAD.out.1, bcmp_ge, ← KX.out] at h2
          rw [show k - 1 + 1 = k by omega] at h1
          omega
      · have hgood : st.nAll = 0 ∨ bcmp st.prev r.k < 0 := by
          rw [HNA.out]
          omega
        have hof := HOF.out
        rw [KX.out, VX.out] at hof
        refine (append_ok wp bs rs g nb (13 * k) 1000000 r.k.length r.kc r.v.length r.vc on st r.k r.v r.ka r.va F5 _ w0 _ HW5.out HO6.out HTB.out HRK.out HRV.out rfl rfl hkc (by omega) (by omega) hrs hrs2 (by omega) (by omega) hbs2 (by omega) hgood).mono ?_
        rintro e w5 ⟨rfl, F6, hW6, hO7⟩
        have HO7 := hid hO7
        have HW6 := hid hW6
        have HGOOD := hid hgood
        clear hO7 hbad q0 q1 p0 p1 hW6 hof hgood
        go_wp2_with fail
        go_roundw
        case rel =>
          refine ⟨k + 1, F6, by go_num, by omega, hid fun j hj => ?_, hid ?_, hid (HO7.out.perm (L' := fw pb 36 [.slice r.ka r.k.length r.kc, .slice r.va r.v.length r.vc] :: (F6 ++ R)) (perm_of fun _ _ z => by simp only [List.count_append, List.count_cons, List.cons_append, List.count_nil, List.nil_append, List.append_nil]; omega)).drop⟩
          · rcases Nat.lt_or_ge (j + 1) k with h5 | h5
            · exact HORD.out j h5
            · obtain rfl : k = j + 1 := by omega
              have h6 := HGOOD.out
              rw [HNA.out] at h6
              rcases h6 with h6 | h6
              · omega
              · rw [HPV.out (by omega), bcmp_lt, ← KX.out] at h6
                exact h6
          · have h7 := HW6.out
            rw [← HST.out] at h7
            have e1 : tsAt bs rs (kvs l) (k + 1) = tApp bs rs (tsAt bs rs (kvs l) k) r.k r.v := by
              show tApp bs rs (tsAt bs rs (kvs l) k) (key (kvs l) k) (val (kvs l) k) = _
              rw [KX.out, VX.out]
            rw [e1]
            exact h7
        case measure => simp [intOf]; omega
    · have h4' : ¬ (k : Int) < (l.length : Int) := by omega
      have hkl : k = l.length := by omega
      have hord : ordB (kvs l) = true := ordB_iff.2 fun i hi => HORD.out i (by rw [kvs_length] at hi; omega)
      have HOR := hid hord
      rw [hkl] at HW5
      have hdone := tsAt_done bs rs (kvs l) hrs HW.out (by rw [kvs_length]; exact h0)
      rw [kvs_length] at hdone
      obtain ⟨cl, E, hd, hoff⟩ := hdone
      have htb := tsAt_tb bs rs (kvs l) hrs HW.out l.length (by rw [kvs_length]; exact Nat.le_refl _)
      have HD := hid hd
      have HTB := hid htb
      have HOF := hid hoff
      clear hord hd htb hoff h4
      go_wp2_with fail
      have hix : (∀ x ∈ (tFlush (tCl (tsAt bs rs (kvs l) l.length)) []).irst, x < 4294967296) ∧ (tFlush (tCl (tsAt bs rs (kvs l) l.length)) []).idata.length ≤ 536870912 ∧ (tFlush (tCl (tsAt bs rs (kvs l) l.length)) []).irst.length ≤ 536870912 := by
        have hE := HD.out.kvwE
        obtain ⟨r3, r4⟩ := rsts_bound (rs := 1) (L := E) (by omega) E.length (Nat.le_refl _)
        obtain ⟨i1, _, _, _⟩ := bst_le (rs := 1) (ns := []) (c0 := 0) (l := E) (by omega) E.length (Nat.le_refl _)
        rw [List.take_length] at i1
        have hEl := kvw_len E
        rw [HD.out.irst, HD.out.idata]
        exact ⟨fun x hx => by have := r4 x hx; omega, by omega, by omega⟩
      refine (close_any wp bs rs g nb (13 * l.length) 1000000 on _ F5 R w0 _ HW5.out HO5.out HTB.out HD.out.tb hrs hrs2 (by omega) (by omega) (by have := HOF.out; omega) HD.out.z hix).mono ?_
      rintro e w5 ⟨rfl, fd, key, G', hfo, hfl, hkl2, hG, hO7⟩
      have HO7 := hid hO7
      have HG := hid hG
      have HF := hid (show _ ∧ _ ∧ _ from ⟨hfo, hfl, hkl2⟩)
      clear hO7 hG hfo hfl hkl2 hix
      go_wp2_with fail
      obtain ⟨tb, htb⟩ : ∃ tb, tTable (tFlush (tCl (tsAt bs rs (kvs l) l.length)) []) fd key = tb := ⟨_, rfl⟩
      have HT := hid htb
      rw [htb] at HG
      clear htb
      refine (obBytes g tb G' R w0 _ HG.out HO7.out).mono ?_
      rintro e w6 ⟨A6, c6, rfl, hc6, hm6, hr6, hO8⟩
      have HR6 := hid hr6
      have HO8 := hid hO8
      clear hr6 hO8
      go_wp2_with fail
      go_ret2
      obtain ⟨hfo, hfl, hkl2⟩ := HF.out
      refine .inl ⟨HOR.out, fd, key, A6, c6, tb.length, G', by rw [HON.out]; exact hfo, by omega, hkl2, rfl, hid ?_, hc6, hm6, hid ?_, HO8⟩
      · rw [kvs_length, HT.out]
      · rw [kvs_length, HT.out]; exact HR6.out
end Go.Proofs.YtloflmcgbbbnjaaDoor
namespace Go.Proofs.YtloflmcgbbbnjaaDoor
open Go.RowKit Plain
set_option linter.all false

/-- Where entry j begins. -/
def atE (rs : Nat) (L : List KV) (j : Nat) : Nat := (bst rs [] L 0 j).b.length
def entN (rs : Nat) (L : List KV) (j : Nat) : Nat := bwN rs j (pk L j) (key L j)
def blkD (rs : Nat) (L : List KV) : List UInt8 := (bst rs [] L 0 L.length).b
def blkR (rs : Nat) (L : List KV) : List Nat := finR L.length (rsts rs L L.length)
theorem atE_succ (rs : Nat) (L : List KV) (j : Nat) : atE rs L (j + 1) = atE rs L j + (ent (entN rs L j) (key L j) (val L j)).length := by
  unfold atE entN; rw [bst_nil, List.length_append, bwN_pk]
theorem atE_lt {rs : Nat} {L : List KV} {i j : Nat} (h : i < j) : atE rs L i < atE rs L j := by
  induction j with
  | zero => omega
  | succ j ih =>
    have h1 := atE_succ rs L j
    have h2 := ent_pos (entN rs L j) (key L j) (val L j)
    rcases Nat.lt_or_ge i j with h3 | h3
    · have := ih h3; omega
    · obtain rfl : i = j := by omega
      omega
theorem bst_split (rs : Nat) (L : List KV) (j : Nat) : ∀ d, ∃ r, (bst rs [] L 0 (j + d)).b = (bst rs [] L 0 j).b ++ r
  | 0 => ⟨[], by simp⟩
  | d + 1 => by
    obtain ⟨r, h⟩ := bst_split rs L j d
    exact ⟨r ++ _, by rw [← Nat.add_assoc, bst_nil, h, List.append_assoc]⟩
theorem ent_at {rs : Nat} {L : List KV} {j : Nat} (hj : j < L.length) : ∃ r, (blkD rs L).drop (atE rs L j) = ent (entN rs L j) (key L j) (val L j) ++ r := by
  obtain ⟨r, h⟩ := bst_split rs L (j + 1) (L.length - (j + 1))
  rw [show j + 1 + (L.length - (j + 1)) = L.length by omega, bst_nil] at h
  refine ⟨r, ?_⟩
  unfold blkD atE entN
  rw [h, bwN_pk, List.append_assoc, List.drop_left]
theorem entN_le (rs : Nat) (L : List KV) (j : Nat) : entN rs L j ≤ (pk L j).length ∧ entN rs L j ≤ (key L j).length ∧ (pk L j).take (entN rs L j) = (key L j).take (entN rs L j) := by
  unfold entN bwN
  split
  · simp
  · have := shared_le (pk L j) (key L j)
    exact ⟨this.1, this.2, shared_take _ _⟩
theorem rsts_mem {rs : Nat} {L : List KV} {x : Nat} : ∀ m, x ∈ rsts rs L m → ∃ i, i < m ∧ i % rs = 0 ∧ x = atE rs L i
  | 0, h => by simp [rsts] at h
  | m + 1, h => by
    simp only [rsts, bwR] at h
    split at h
    · rcases List.mem_append.1 h with h | h
      · obtain ⟨i, h1, h2⟩ := rsts_mem m h
        exact ⟨i, by omega, h2⟩
      · simp at h
        exact ⟨m, by omega, by assumption, h⟩
    · obtain ⟨i, h1, h2⟩ := rsts_mem m h
      exact ⟨i, by omega, h2⟩
theorem block_eq {rs : Nat} {L : List KV} (hrs : 0 < rs) : blockB rs [] L 0 = blkD rs L ++ le4s (blkR rs L ++ [(blkR rs L).length]) := by
  rcases Nat.eq_zero_or_pos L.length with h | h
  · obtain rfl := List.eq_nil_of_length_eq_zero h
    simp [blockB, bst, blkD, blkR, finR, rsts, le4s]
  · exact (fin_block h hrs).symm
theorem blkR_entN {rs : Nat} {L : List KV} {j : Nat} (hj : j < L.length) (h : atE rs L j ∈ blkR rs L) : entN rs L j = 0 := by
  unfold blkR finR at h
  rw [if_neg (by omega)] at h
  obtain ⟨i, h1, h2, h3⟩ := rsts_mem _ h
  have : i = j := by
    rcases Nat.lt_trichotomy i j with h4 | h4 | h4
    · have := atE_lt (rs := rs) (L := L) h4; omega
    · exact h4
    · have := atE_lt (rs := rs) (L := L) h4; omega
  subst this
  unfold entN bwN
  rw [if_pos h2]
theorem rsts_pos {rs : Nat} {L : List KV} : ∀ j, 0 < j → 0 < (rsts rs L j).length := by
  intro j hj
  induction j with
  | zero => omega
  | succ j ih =>
    rcases Nat.eq_zero_or_pos j with h | h
    · subst h; simp [rsts, bwR]
    · have := ih h
      simp only [rsts, bwR]; split
      · simp
      · exact this
theorem blkR_pos (rs : Nat) (L : List KV) : 0 < (blkR rs L).length := by
  unfold blkR finR
  split
  · simp
  · exact rsts_pos _ (by omega)
theorem blkR_bound {rs : Nat} {L : List KV} (hw : kvw L < 34359738368) : (blkR rs L).length ≤ L.length + 1 ∧ ∀ x ∈ blkR rs L, x ≤ 16 * kvw L := by
  obtain ⟨h1, h2⟩ := rsts_bound (rs := rs) hw L.length (Nat.le_refl _)
  unfold blkR finR
  split
  · refine ⟨by simp; omega, fun x hx => ?_⟩
    rcases List.mem_append.1 hx with hx | hx
    · exact h2 x hx
    · simp at hx; omega
  · exact ⟨by omega, h2⟩
theorem blkD_le {rs : Nat} {L : List KV} (hw : kvw L < 34359738368) : (blkD rs L).length ≤ 16 * kvw L := by
  have := (bst_le (rs := rs) (ns := []) (c0 := 0) hw L.length (Nat.le_refl _)).1
  rwa [List.take_length] at this
theorem atE_le {rs : Nat} {L : List KV} {j : Nat} (hj : j ≤ L.length) : atE rs L j ≤ (blkD rs L).length := by
  rcases Nat.lt_or_ge j L.length with h | h
  · exact Nat.le_of_lt (atE_lt h)
  · obtain rfl : j = L.length := by omega
    exact Nat.le_refl _
theorem atE_end (rs : Nat) (L : List KV) : atE rs L L.length = (blkD rs L).length := rfl
theorem le4s_at {l : List Nat} {i : Nat} (h : i < l.length) : ((le4s l).drop (4 * i)).take 4 = leB (l[i] : Int) 4 := by
  induction l generalizing i with
  | nil => simp at h
  | cons x l ih =>
    have e : le4s (x :: l) = leB (x : Int) 4 ++ le4s l := by simp [le4s]
    cases i with
    | zero =>
      rw [e]
      show ((leB (x : Int) 4 ++ le4s l).drop 0).take 4 = _
      rw [List.drop_zero, List.take_left' (leB_length _ _)]; rfl
    | succ i =>
      have := ih (i := i) (by simpa using h)
      rw [e, show 4 * (i + 1) = 4 + 4 * i by omega, ← List.drop_drop, List.drop_left' (leB_length _ _), this]
      rfl
/-- The bytes of an entry. -/
structure EntB (D : List UInt8) (a n m q : Nat) (k v : List UInt8) : Prop where
  d0 : ∃ r, D.drop a = uv n ++ r
  d1 : ∃ r, D.drop (a + (uv n).length) = uv m ++ r
  d2 : ∃ r, D.drop (a + (uv n).length + (uv m).length) = uv q ++ r
  d3 : (D.drop (a + (uv n).length + (uv m).length + (uv q).length)).take m = k
  d4 : (D.drop (a + (uv n).length + (uv m).length + (uv q).length + m)).take q = v
  le : a + (uv n).length + (uv m).length + (uv q).length + m + q ≤ D.length
theorem entB {rs : Nat} {L : List KV} {j : Nat} (hj : j < L.length) :
    EntB (blkD rs L) (atE rs L j) (entN rs L j) ((key L j).length - entN rs L j) (val L j).length ((key L j).drop (entN rs L j)) (val L j) ∧
      atE rs L (j + 1) = atE rs L j + (uv (entN rs L j)).length + (uv ((key L j).length - entN rs L j)).length + (uv (val L j).length).length + ((key L j).length - entN rs L j) + (val L j).length := by
  obtain ⟨r, h⟩ := ent_at (rs := rs) hj
  have hs := atE_succ rs L j
  have hle := atE_le (rs := rs) (L := L) (j := j + 1) (by omega)
  generalize entN rs L j = n at *
  generalize val L j = v at *
  generalize key L j = k at *
  generalize atE rs L j = a at *
  generalize blkD rs L = D at *
  unfold ent at h hs
  have hs' : atE rs L (j + 1) = a + (uv n).length + (uv (k.length - n)).length + (uv v.length).length + (k.length - n) + v.length := by
    rw [hs]; simp only [List.length_append, List.length_drop]; omega
  have h1 : D.drop (a + (uv n).length) = uv (k.length - n) ++ (uv v.length ++ ((k.drop n ++ v) ++ r)) := by
    rw [← List.drop_drop, h]; simp only [List.append_assoc, List.drop_left]
  have h2 : D.drop (a + (uv n).length + (uv (k.length - n)).length) = uv v.length ++ ((k.drop n ++ v) ++ r) := by
    rw [← List.drop_drop, h1, List.drop_left]
  have h3 : D.drop (a + (uv n).length + (uv (k.length - n)).length + (uv v.length).length) = k.drop n ++ (v ++ r) := by
    rw [← List.drop_drop, h2, List.drop_left, List.append_assoc]
  have hkl : (k.drop n).length = k.length - n := List.length_drop ..
  have h4 : D.drop (a + (uv n).length + (uv (k.length - n)).length + (uv v.length).length + (k.length - n)) = v ++ r := by
    rw [← List.drop_drop, h3, List.drop_left' hkl]
  have h0 : D.drop a = uv n ++ (uv (k.length - n) ++ (uv v.length ++ (k.drop n ++ (v ++ r)))) := by rw [h]; simp only [List.append_assoc]
  refine ⟨⟨⟨_, h0⟩, ⟨_, h1⟩, ⟨_, h2⟩, ?_, ?_, by omega⟩, hs'⟩
  · rw [h3, List.take_left' hkl]
  · rw [h4, List.take_left]

/-! ### a table -/
theorem outs_app (rs : Nat) (a b : List (List KV)) : outs rs (a ++ b) = outs rs a ++ outs rs b := by simp [outs]
theorem outs_at {rs : Nat} {cl : List (List KV)} {i : Nat} (h : i < cl.length) : outs rs cl = outs rs (cl.take i) ++ (wblk rs (cl.getD i []) ++ trail (wblk rs (cl.getD i []))) ++ outs rs (cl.drop (i + 1)) := by
  have e : cl = cl.take i ++ ([cl[i]] ++ cl.drop (i + 1)) := by
    rw [List.singleton_append, ← List.drop_eq_getElem_cons h, List.take_append_drop]
  have hg : cl.getD i [] = cl[i] := by rw [List.getD_eq_getElem?_getD, List.getElem?_eq_getElem h]; rfl
  conv => lhs; rw [e]
  rw [outs_app, outs_app, hg, ← List.append_assoc]
  simp [outs]
def metaL (fd key : List UInt8) (p l : Nat) : List KV := if fd = [] then [] else [(key, handle p l)]
theorem meta_blk (fd key : List UInt8) (p l : Nat) : blkOf (mN fd) (mD fd p l key) (mR fd) = blockB 1 [] (metaL fd key p l) 0 := by
  rw [block_eq (by omega)]
  unfold blkOf blkD blkR metaL mN mD mR
  by_cases h : fd = []
  · simp [h, bst, rsts]
  · simp [h, bst, rsts, bstep, bwR, Plain.key, Plain.val, finR]
theorem idx_blk {rs : Nat} {L : List KV} {s s1 : TS} {cl : List (List KV)} {E : List KV} (h : TDone rs L s s1 cl E) : blkOf s1.nI s1.idata s1.irst = blockB 1 [] E 0 := by
  rw [block_eq (by omega)]
  unfold blkOf blkD blkR
  rw [h.nI, h.idata, h.irst]
/-- A table's parts. -/
structure TabB (rs : Nat) (T : List UInt8) (cl : List (List KV)) (E M : List KV) (fo : List UInt8) : Prop where
  mt : ∃ pre post, T = pre ++ (blockB 1 [] M 0 ++ trail (blockB 1 [] M 0)) ++ post ∧ ∃ r, fo = handle pre.length (blockB 1 [] M 0).length ++ r ∧
    ∃ pre' post', T = pre' ++ (blockB 1 [] E 0 ++ trail (blockB 1 [] E 0)) ++ post' ∧ ∃ r', r = handle pre'.length (blockB 1 [] E 0).length ++ r'
  blk : ∀ i, i < cl.length → ∃ pre post, T = pre ++ (wblk rs (cl.getD i []) ++ trail (wblk rs (cl.getD i []))) ++ post ∧ val E i = handle pre.length (wblk rs (cl.getD i [])).length
  len : 48 ≤ T.length
  foot : (T.drop (T.length - 48)).take 40 = fo
  mag : T.drop (T.length - 8) = magicB
theorem handle_len {a b : Nat} (h1 : a < 34359738368) (h2 : b < 34359738368) : (handle a b).length ≤ 10 := by
  have := uv_len5 h1; have := uv_len5 h2
  show (uv a ++ uv b).length ≤ 10
  rw [List.length_append]; omega
theorem block_len {rs : Nat} {L : List KV} (hrs : 0 < rs) (hw : kvw L < 34359738368) : (blockB rs [] L 0).length ≤ 20 * kvw L + 8 := by
  rw [block_eq hrs, List.length_append, le4s_length, List.length_append]
  have h1 := blkD_le (rs := rs) hw
  have h2 := (blkR_bound (rs := rs) hw).1
  have h3 := kvw_len L
  simp only [List.length_singleton]; omega
theorem table_parts {rs : Nat} {L : List KV} {s s1 : TS} {cl : List (List KV)} {E : List KV} (h : TDone rs L s s1 cl E) (fd key : List UInt8) (hrs : 0 < rs) (hw : kvw L ≤ 1048576) (hfd : fd.length ≤ 18000000) (hkl : key.length ≤ 200) :
    ∃ M fo, TabB rs (tTable s1 fd key) cl E M fo ∧ (M = [] ↔ fd = []) ∧ kvw M ≤ 400 ∧ (tTable s1 fd key).length ≤ 1099511627776 := by
  obtain ⟨F, hF, hFl⟩ : ∃ F, fOut s1 fd = outs rs cl ++ F ∧ F.length ≤ 18000005 := by
    unfold fOut
    rw [h.out]
    split
    · exact ⟨[], by simp, by simp⟩
    · exact ⟨_, rfl, by rw [List.length_append, trail_length]; omega⟩
  have hoff : fOff s1 fd = (outs rs cl ++ F).length := by
    rw [← hF]
    unfold fOff fOut
    rw [h.off, h.out]
    split
    · rfl
    · rw [List.length_append, List.length_append, trail_length]; omega
  have hol := outs_le (rs := rs) h.idx.ne (by rw [h.flat]; omega)
  rw [h.flat] at hol
  obtain ⟨M, hM⟩ : ∃ M, metaL fd key (fPos s1 fd) fd.length = M := ⟨_, rfl⟩
  have hmb : blkOf (mN fd) (mD fd (fPos s1 fd) fd.length key) (mR fd) = blockB 1 [] M 0 := by rw [meta_blk, hM]
  have hib := idx_blk h
  have hpos : fPos s1 fd ≤ 34603008 := by
    unfold fPos
    split
    · omega
    · rw [h.off]; omega
  have hMe : (M = [] ↔ fd = []) ∧ kvw M ≤ 400 := by
    rw [← hM]
    unfold metaL
    split
    · exact ⟨by simp_all, by simp [kvw]⟩
    · refine ⟨by simp_all, ?_⟩
      have := handle_len (a := fPos s1 fd) (b := fd.length) (by omega) (by omega)
      simp only [kvw, List.map_cons, List.map_nil, List.sum_cons, List.sum_nil]; omega
  have hml := block_len (rs := 1) (L := M) (by omega) (by have := hMe.2; omega)
  have hil := block_len (rs := 1) (L := E) (by omega) (by have := h.kvwE; omega)
  have hMk := hMe.2
  have hEk := h.kvwE
  obtain ⟨mb, hmbe⟩ : ∃ mb, blockB 1 [] M 0 = mb := ⟨_, rfl⟩
  obtain ⟨ib, hibe⟩ : ∃ ib, blockB 1 [] E 0 = ib := ⟨_, rfl⟩
  have hT : tTable s1 fd key = (outs rs cl ++ F) ++ (mb ++ trail mb) ++ (ib ++ trail ib) ++ footB (handle (outs rs cl ++ F).length mb.length ++ handle ((outs rs cl ++ F) ++ (mb ++ trail mb)).length ib.length) := by
    unfold tTable
    rw [hmb, hib, hF, hoff, hmbe, hibe]
    congr 5
    simp only [List.length_append, trail_length]; omega
  rw [hmbe] at hml
  rw [hibe] at hil
  have hFo : (outs rs cl ++ F).length ≤ 60000000 := by rw [List.length_append]; omega
  have h1 := handle_len (a := (outs rs cl ++ F).length) (b := mb.length) (by omega) (by omega)
  have h2 := handle_len (a := ((outs rs cl ++ F) ++ (mb ++ trail mb)).length) (b := ib.length) (by simp only [List.length_append, trail_length] at hFo ⊢; omega) (by omega)
  obtain ⟨h', hh'⟩ : ∃ h', handle (outs rs cl ++ F).length mb.length ++ handle ((outs rs cl ++ F) ++ (mb ++ trail mb)).length ib.length = h' := ⟨_, rfl⟩
  have hl' : h'.length ≤ 40 := by rw [← hh', List.length_append]; omega
  have hfl := footB_length hl'
  rw [hh'] at hT
  have hmg : magicB.length = 8 := rfl
  refine ⟨M, h' ++ List.replicate (40 - h'.length) 0, ⟨⟨outs rs cl ++ F, (ib ++ trail ib) ++ footB h', by rw [hmbe, hT, List.append_assoc _ (ib ++ trail ib)], handle ((outs rs cl ++ F) ++ (mb ++ trail mb)).length ib.length ++ List.replicate (40 - h'.length) 0, by rw [← hh', hmbe, List.append_assoc],
    (outs rs cl ++ F) ++ (mb ++ trail mb), footB h', by rw [hibe, hT], _, by rw [hibe]⟩, fun i hi => ?_, ?_, ?_, ?_⟩, hMe.1, hMe.2, ?_⟩
  · refine ⟨outs rs (cl.take i), outs rs (cl.drop (i + 1)) ++ (F ++ (mb ++ trail mb) ++ (ib ++ trail ib) ++ footB h'), ?_, h.idx.eh i hi⟩
    rw [hT]
    conv => lhs; rw [outs_at hi]
    simp only [List.append_assoc]
  · rw [hT, List.length_append, hfl]; omega
  · rw [hT, List.length_append, hfl, Nat.add_sub_cancel, List.drop_left]
    unfold footB
    rw [List.take_left' (by rw [List.length_append, List.length_replicate]; omega)]
  · rw [hT, List.length_append, hfl]
    generalize (outs rs cl ++ F) ++ (mb ++ trail mb) ++ (ib ++ trail ib) = X
    unfold footB
    rw [← List.append_assoc X, List.drop_left']
    simp only [List.length_append, List.length_replicate]
    omega
  · rw [hT]
    simp only [List.length_append, hfl, trail_length] at hFo ⊢
    omega
theorem sepKey_ge (prev k : List UInt8) : cmpI prev (sepKey prev k) ≤ 0 := by
  unfold sepKey
  split
  · cases h : succ prev 0 with
    | none => show cmpI prev prev ≤ 0; rw [cmpI_refl]; omega
    | some x =>
      have := (succ_law h).1
      show cmpI prev x ≤ 0
      rw [cmpI_anti]; omega
  · cases h : sep prev k with
    | none => show cmpI prev prev ≤ 0; rw [cmpI_refl]; omega
    | some x =>
      have := (sep_law h).1
      show cmpI prev x ≤ 0
      rw [cmpI_anti]; omega
theorem ord_le {L : List KV} (h : ordB L = true) : ∀ (d i : Nat), i + d < L.length → cmpI (key L i) (key L (i + d)) ≤ 0
  | 0, i, _ => by rw [Nat.add_zero, cmpI_refl]; omega
  | d + 1, i, hd => cmpI_le_trans (ord_le h d i (by omega)) (Int.le_of_lt (ordB_iff.1 h (i + d) (by omega)))
theorem idx_last {rs : Nat} {L : List KV} {s s1 : TS} {cl : List (List KV)} {E : List KV} (h : TDone rs L s s1 cl E) (ho : ordB L = true) {i : Nat} (hi : i + 1 = E.length) {k : Nat} (hk : k < L.length) : cmpI (key L k) (key E i) ≤ 0 := by
  have hl := h.idx.len
  rw [h.idx.ek i (by omega)]
  have h1 : lastK L = lastK (cl.getD i []) := by
    have hi' : i < cl.length := by omega
    have e : cl = cl.take i ++ [cl[i]] := by
      conv => lhs; rw [← List.take_append_drop i cl]
      rw [List.drop_eq_getElem_cons hi', List.drop_of_length_le (by omega)]
    have hg : cl.getD i [] = cl[i] := by rw [List.getD_eq_getElem?_getD, List.getElem?_eq_getElem hi']; rfl
    rw [← h.flat, hg]
    conv => lhs; rw [e]
    rw [List.flatten_append, List.flatten_singleton, lastK_app (h.idx.ne _ (List.getElem_mem hi'))]
  have h2 := ord_le ho (L.length - 1 - k) k (by omega)
  rw [show k + (L.length - 1 - k) = L.length - 1 by omega] at h2
  refine cmpI_le_trans ?_ (sepKey_ge _ _)
  rw [← h1]; exact h2
end Go.Proofs.YtloflmcgbbbnjaaDoor
namespace Go.Proofs.YtloflmcgbbbnjaaDoor
open Go.RowKit Plain Go.Maps
set_option linter.all false

theorem plainElem_bool_inv {H : Type} {P : Program} {e : TypeId} (he : P.underlying e = some .bool) {v : Value} {z : DataW H × List MemPlace} (h : plainElem P e v = some z) : ∃ x, v = .bool x ∧ z = (.lit (.bool x), []) := by
  unfold plainElem at h
  rw [he] at h
  cases v <;> simp at h
  obtain rfl := h
  exact ⟨_, rfl, rfl⟩
/-- Block b is a map of at most n entries; what it finds true is of S. -/
def BMap (w : World) (b n : Nat) (S : Int → Prop) : Prop :=
  ∃ D : DataW Unit, w.ownsMap Tryd.prog 3 (plainElem Tryd.prog 4) b n D ∧ ∀ x, D.atKey (.int .i64 x) (.lit (.bool false)) = .lit (.bool true) → S x
theorem BMap.made {w w' : World} {b : Nat} (S : Int → Prop) (hw : w' = w.alloc (.map #[] 0)) (hb : w.heap.size = b) : BMap w' b 0 S := by
  subst hw; subst hb
  exact ⟨.map [], World.ownsMap_made _ _ _ _, fun x h => by cases h⟩
theorem BMap.keep0 {w w' : World} {b n : Nat} {S : Int → Prop} (h : BMap w b n S) (ho : Only [] w w') : BMap w' b n S := by
  obtain ⟨D, h1, h2⟩ := h
  exact ⟨D, h1.kept (row := none) ⟨ho.os, ho.tape, ho.output, ho.size, fun i hi _ => ho.block i hi (by simp)⟩ (by simp), h2⟩
theorem BMap.look {w : World} {b n : Nat} {S : Int → Prop} (h : BMap w b n S) (x : Int) (hx : (Lit.int .i64 x).wf = true) :
    ∃ c, (Instr.lookup 183 (.map (some b)) (.int .i64 x) false).run Tryd.prog w = .ok (.bool c) w ∧ (c = true → S x) := by
  obtain ⟨D, h1, h2⟩ := h
  obtain ⟨v, ps, hrun, hv⟩ := h1.lookup (int_keyed Tryd.underlying3) Tryd.underlying183 (z := .bool false) (by kernel_rfl) (plainElem_bool Tryd.underlying4 false) (keyOf_int_mk Tryd.underlying3 hx)
  obtain ⟨c, rfl, hc⟩ := plainElem_bool_inv Tryd.underlying4 hv
  simp only [Prod.mk.injEq] at hc
  exact ⟨c, hrun, fun e => h2 x (by rw [hc.1, e])⟩
theorem BMap.put {w : World} {b n : Nat} {S : Int → Prop} (h : BMap w b n S) (hn : n < maxLen) (x : Int) (hx : (Lit.int .i64 x).wf = true) (hS : S x) :
    ∃ w', (Instr.mapUpdate 183 (.map (some b)) (.int .i64 x) (.bool true)).run Tryd.prog w = .ok () w' ∧ BMap w' b (n + 1) S ∧ w.grownBy w' (some b) := by
  obtain ⟨D, h1, h2⟩ := h
  obtain ⟨w', hrun, h3, h4⟩ := h1.update (int_keyed Tryd.underlying3) Tryd.underlying183 hn (keyOf_int_mk Tryd.underlying3 hx) (plainElem_bool Tryd.underlying4 true)
  refine ⟨w', hrun, ⟨_, h3, fun y hy => ?_⟩, h4⟩
  by_cases e : y = x
  · rw [e]; exact hS
  · rw [atKey_put_other (by simpa using e)] at hy
    exact h2 y hy
/-- 'm[x] = true' at the operation. -/
theorem wp_mapPut {w : World} {ops : Array Oper} {rest : List Oper} {o : Oper} {a : Act} {Q : Exit → Act → World → Prop} (hg : o.guard = none) (m x v : Operand) (hop : o.op = Op.mapUpdate 183 m x v) {b n : Nat} {S : Int → Prop}
    (hm : a.eval m = .map (some b)) (hB : BMap w b n S) (hn : n < maxLen) (xi : Int) (hx : a.eval x = .int .i64 xi) (hv : a.eval v = .bool true) (hwf : (Lit.int .i64 xi).wf = true) (hS : S xi)
    (hK : ∀ w', BMap w' b (n + 1) S → w.grownBy w' (some b) → wpList Tryd.prog ops Q rest (a.put o.dst undef) w') : wpList Tryd.prog ops Q (o :: rest) a w := by
  refine wpList_plain hg fun K' hK' => ?_
  obtain ⟨w', hrun, r1, r2⟩ := hB.put hn xi hwf hS
  unfold Oper.wp
  simp [execOp, hop, hm, hx, hv, hrun, Result.andThen]
  exact hK' _ _ (hK w' r1 r2)
end Go.Proofs.YtloflmcgbbbnjaaDoor
