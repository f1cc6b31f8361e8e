/-
  table.NewWriter.
  impl.Table: pairs that are in order become a table; pairs that are not are refused.
  spec.Map: At.
  copy(dst, src) with elements of several cells, dst in a whole block that is owned.
-/
import Derived.Test.YtloflmcgbbbnjaaDoorOrdM10
import Derived.Test.YtloflmcgbbbnjaaDoorOrdM13
import Derived.Test.YtloflmcgbbbnjaaDoorOrdM7
import Derived.Test.YtloflmcgbbbnjaaDoorOrdM12
import Derived.Test.YtloflmcgbbbnjaaDoorOrdM1
import Derived.Test.YtloflmcgbbbnjaaDoorOrdM2
import Derived.Lib.SlBuf
namespace Go.Proofs.YtloflmcgbbbnjaaDoor
open Go.RowKit Plain
set_option linter.all false

def ts0 : TS := ⟨0, 0, 0, 0, 0, 0, [], [], [], [], [], [], []⟩
def NWOut (bs rs g nb B Q : Nat) (on : Bool) (R : List Fr) (w0 : World) (e : Ending) (w' : World) : Prop :=
  ∃ (wp : Nat) (F : List Fr), e = .returned (.pointer (some ⟨wp, 0, none⟩)) ∧ WS wp bs rs g on nb B Q .nilIface ts0 F ∧ Own (F ++ R) w0 w'
/-- A part of a block, cut into parts. -/
def cuts (g : Nat) : Nat → List (List Value) → List Fr
  | _, [] => []
  | off, b :: bs => fp g off b :: cuts g (off + b.length) bs
theorem own_cuts {w0 w : World} {g : Nat} : ∀ (bs : List (List Value)) (off : Nat) (L : List Fr), Own (fp g off bs.flatten :: L) w0 w → Own (cuts g off bs ++ L) w0 w
  | [], _, _, h => h.drop
  | b :: bs, off, L, h => by
    rw [List.flatten_cons] at h
    have h1 := (h.split rfl).swap01
    have h2 := own_cuts bs (off + b.length) (fp g off b :: L) h1
    exact h2.perm (perm_of fun _ _ z => by simp only [cuts, List.count_append, List.count_cons, List.cons_append]; omega)
def z64 : List Value := List.replicate 64 (.int .u8 0)
def twCells (v0 v2 v3 v5 v271 : Value) : List (List Value) := [[v0], [.nilIface], [v2, v3, .int .u64 1, v5], [.int .i64 0], [.slice none 0 0, .int .i64 0], z64, [.int .i64 0, .slice none 0 0, .slice none 0 0, .slice none 0 0],
  [.int .i64 0], [.slice none 0 0, .int .i64 0], z64, [.int .i64 0, .slice none 0 0, .slice none 0 0, .slice none 0 0], [.nilIface], [.slice none 0 0, .int .i64 0], z64, [.int .i64 0, .slice none 0 0],
  [.int .u64 0, .int .u64 0], [.int .u64 0], [.int .i64 0], List.replicate 20 (.int .u8 0), List.replicate 30 (.int .u8 0), [v271], [.slice none 0 0]]
theorem twCells_eq (v0 v2 v3 v5 v271 : Value) : ((((((Tryd.zeroCells160.setIfInBounds 0 v0).setIfInBounds 2 v2).setIfInBounds 3 v3).setIfInBounds 4 (.int .u64 1)).setIfInBounds 5 v5).setIfInBounds 271 v271).toList = (twCells v0 v2 v3 v5 v271).flatten := by
  kernel_rfl
set_option maxHeartbeats 6400000 in
set_option maxRecDepth 100000 in
theorem newWriter_on (g p bs rs nb B Q : Nat) (cs : List Value) (G R : List Fr) (w0 w : World) (hG : OB g [] G) (hO : Own (fw p 168 cs :: (G ++ R)) w0 w) (h3 : cs[3]? = some (.int .i64 rs)) (h4 : cs[4]? = some (.int .i64 bs)) (h15 : cs[15]? = some .nilIface) (h16 : cs[16]? = some (.int .u64 1))
    (h23 : cs[23]? = some (.iface 240 (.int .i64 nb))) (hcl : cs.length = 33) (hrs : 0 < rs) (hbs : 0 < bs) (hnb : nb ≤ 20) (hB : B ≤ 26000000) (hQ : Q ≤ 1000000) :
    Calls Tryd.prog 42 #[.iface 91 (.pointer (some ⟨g, 0, none⟩)), .pointer (some ⟨p, 0, none⟩)] w (NWOut bs rs g nb B Q true R w0) := by
  have q3 := (hO.cell 0 rfl (k := 3) 3 rfl (by simp only; omega)).trans h3
  have q4 := (hO.cell 0 rfl (k := 4) 4 rfl (by simp only; omega)).trans h4
  have q15 := (hO.cell 0 rfl (k := 15) 15 rfl (by simp only; omega)).trans h15
  have q16 := (hO.cell 0 rfl (k := 16) 16 rfl (by simp only; omega)).trans h16
  have q23 := (hO.cell 0 rfl (k := 23) 23 rfl (by simp only; omega)).trans h23
  have HO := hid hO
  have HG := hid hG
  have HQ := hid (show _ ∧ _ ∧ _ ∧ _ ∧ _ from ⟨h3, h4, h15, h16, h23⟩)
  clear hO hG h3 h4 h15 h16 h23
  have hmk := fun w => run_make_own (P := Tryd.prog) 25 5 (.int .u8 0) 1 Tryd.underlying25 Tryd.info_u8 rfl .i64 .i64 0 0 0 0 rfl rfl (by omega) (by omega) (by omega) w
  go_enter Tryd.func42, Tryd.ntmps42
  go_wp2_with fail
  refine AnyT.start (S := fun w' => w'.cell? ⟨p, 3, none⟩ = some (.int .i64 rs) ∧ w'.cell? ⟨p, 4, none⟩ = some (.int .i64 bs) ∧ w'.cell? ⟨p, 15, none⟩ = some .nilIface ∧ w'.cell? ⟨p, 16, none⟩ = some (.int .u64 1) ∧ w'.cell? ⟨p, 23, none⟩ = some (.iface 240 (.int .i64 nb))) (T := []) (by kernel_rfl) (⟨q3, q4, q15, q16, q23⟩) (fun hHeld => ?_)
  refine AnyT.take (i := 0) (v := ?_) (by simp only [List.getElem?_toArray, List.getElem?_cons_succ, List.getElem?_cons_zero]; rfl) (by kernel_rfl) (by kernel_rfl) (by kernel_rfl) (by kernel_rfl) (by intro _ _ _ h; exact h) (Or.inl ⟨by rfl, fun w hSw => ?_⟩) hHeld ?_
  rotate_left
  · ((try dsimp only at hSw); go_simp; first | done | with_reducible rfl | rfl)
  try simp only [Act.put, List.setIfInBounds_toArray, List.set_cons_zero, List.set_cons_succ]
  refine AnyT.take (i := 1) (v := ?_) (by simp only [List.getElem?_toArray, List.getElem?_cons_succ, List.getElem?_cons_zero]; rfl) (by kernel_rfl) (by kernel_rfl) (by kernel_rfl) (by kernel_rfl) (by intro _ _ _ h; exact h) (Or.inl ⟨by rfl, fun w hSw => ?_⟩) hHeld ?_
  rotate_left
  · ((try dsimp only at hSw); go_simp; first | done | with_reducible rfl | rfl)
  try simp only [Act.put, List.setIfInBounds_toArray, List.set_cons_zero, List.set_cons_succ]
  refine AnyT.take (i := 3) (v := ?_) (by simp only [List.getElem?_toArray, List.getElem?_cons_succ, List.getElem?_cons_zero]; rfl) (by kernel_rfl) (by kernel_rfl) (by kernel_rfl) (by kernel_rfl) (by intro _ _ _ h; exact h) (Or.inl ⟨by rfl, fun w hSw => ?_⟩) hHeld ?_
  rotate_left
  · ((try dsimp only at hSw); go_simp; first | done | with_reducible rfl | rfl)
  try simp only [Act.put, List.setIfInBounds_toArray, List.set_cons_zero, List.set_cons_succ]
  refine AnyT.take (i := 5) (v := ?_) (by simp only [List.getElem?_toArray, List.getElem?_cons_succ, List.getElem?_cons_zero]; rfl) (by kernel_rfl) (by kernel_rfl) (by kernel_rfl) (by kernel_rfl) (by intro _ _ _ h; exact h) (Or.inl ⟨by rfl, fun w hSw => ?_⟩) hHeld ?_
  rotate_left
  · ((try dsimp only at hSw); go_simp; first | done | with_reducible rfl | rfl)
  try simp only [Act.put, List.setIfInBounds_toArray, List.set_cons_zero, List.set_cons_succ]
  refine AnyT.take (i := 7) (v := ?_) (by simp only [List.getElem?_toArray, List.getElem?_cons_succ, List.getElem?_cons_zero]; rfl) (by kernel_rfl) (by kernel_rfl) (by kernel_rfl) (by kernel_rfl) (by intro _ _ _ h; exact h) (Or.inl ⟨by rfl, fun w hSw => ?_⟩) hHeld ?_
  rotate_left
  · ((try dsimp only at hSw); go_simp; first | done | with_reducible rfl | rfl)
  try simp only [Act.put, List.setIfInBounds_toArray, List.set_cons_zero, List.set_cons_succ]
  refine AnyT.takeC (i := 2) (v := .iface 112 (.agg #[])) (by simp only [List.getElem?_toArray, List.getElem?_cons_succ, List.getElem?_cons_zero]; rfl) (by kernel_rfl) (by kernel_rfl) (by kernel_rfl) (by kernel_rfl) (by intro _ _ _ h; exact h) (Or.inl ⟨by rfl, fun w hSw => ?_⟩) hHeld ?_
  · ((try dsimp only at hSw); go_simp; exact getComparer p _ hSw.2.2.1)
  try simp only [Act.put, List.setIfInBounds_toArray, List.set_cons_zero, List.set_cons_succ]
  refine AnyT.takeC (i := 4) (v := (.iface 240 (.int .i64 nb))) (by simp only [List.getElem?_toArray, List.getElem?_cons_succ, List.getElem?_cons_zero]; rfl) (by kernel_rfl) (by kernel_rfl) (by kernel_rfl) (by kernel_rfl) (by intro _ _ _ h; exact h) (Or.inl ⟨by rfl, fun w hSw => ?_⟩) hHeld ?_
  · ((try dsimp only at hSw); go_simp; exact getFilter p (.iface 240 (.int .i64 nb)) _ hSw.2.2.2.2)
  try simp only [Act.put, List.setIfInBounds_toArray, List.set_cons_zero, List.set_cons_succ]
  refine AnyT.takeC (i := 6) (v := .int .u64 1) (by simp only [List.getElem?_toArray, List.getElem?_cons_succ, List.getElem?_cons_zero]; rfl) (by kernel_rfl) (by kernel_rfl) (by kernel_rfl) (by kernel_rfl) (by intro _ _ _ h; exact h) (Or.inl ⟨by rfl, fun w hSw => ?_⟩) hHeld ?_
  · ((try dsimp only at hSw); go_simp; exact getCompression p _ hSw.2.2.2.1)
  try simp only [Act.put, List.setIfInBounds_toArray, List.set_cons_zero, List.set_cons_succ]
  refine AnyT.takeC (i := 8) (v := .int .i64 bs) (by simp only [List.getElem?_toArray, List.getElem?_cons_succ, List.getElem?_cons_zero]; rfl) (by kernel_rfl) (by kernel_rfl) (by kernel_rfl) (by kernel_rfl) (by intro _ _ _ h; exact h) (Or.inl ⟨by rfl, fun w hSw => ?_⟩) hHeld ?_
  · ((try dsimp only at hSw); go_simp; exact getBlockSize p bs _ hbs hSw.2.1)
  try simp only [Act.put, List.setIfInBounds_toArray, List.set_cons_zero, List.set_cons_succ]
  refine AnyT.ready (rs := [9]) (by kernel_rfl) (by simp) ?_
  refine AllT.cons (by simp only [List.getElem?_toArray, List.getElem?_cons_succ, List.getElem?_cons_zero]; rfl) (fun K hK => ?_) AllT.nil
  go_simp
  obtain ⟨sg, hsg⟩ : ∃ sg, w.heap.size = sg := ⟨_, rfl⟩
  try rw [hsg]
  have hO1 := HO.out.alloc' hsg 5 []
  clear HO q3 q4 q15 q16 q23
  obtain ⟨h3, h4, h15, h16, h23⟩ := HQ.out
  have q3 := (hO1.cell 1 rfl (k := 3) 3 rfl (by simp only; omega)).trans h3
  have q4 := (hO1.cell 1 rfl (k := 4) 4 rfl (by simp only; omega)).trans h4
  have q15 := (hO1.cell 1 rfl (k := 15) 15 rfl (by simp only; omega)).trans h15
  have q16 := (hO1.cell 1 rfl (k := 16) 16 rfl (by simp only; omega)).trans h16
  have q23 := (hO1.cell 1 rfl (k := 23) 23 rfl (by simp only; omega)).trans h23
  clear h3 h4 h15 h16 h23
  have HO1 := hid hO1
  clear hO1
  refine hK.out _ _ ?_ (fun hHeld => ?_)
  · exact ⟨q3, q4, q15, q16, q23⟩
  clear hK
  try simp only [Act.put, List.setIfInBounds_toArray, List.set_cons_zero, List.set_cons_succ]
  refine AnyT.take (i := 10) (v := ?_) (by simp only [List.getElem?_toArray, List.getElem?_cons_succ, List.getElem?_cons_zero]; rfl) (by kernel_rfl) (by kernel_rfl) (by kernel_rfl) (by kernel_rfl) (by intro _ _ _ h; exact h) (Or.inl ⟨by rfl, fun w hSw => ?_⟩) hHeld ?_
  rotate_left
  · ((try dsimp only at hSw); go_simp; first | done | with_reducible rfl | rfl)
  try simp only [Act.put, List.setIfInBounds_toArray, List.set_cons_zero, List.set_cons_succ]
  refine AnyT.ready (rs := [11]) (by kernel_rfl) (by simp) ?_
  refine AllT.cons (by simp only [List.getElem?_toArray, List.getElem?_cons_succ, List.getElem?_cons_zero]; rfl) (fun K hK => ?_) AllT.nil
  go_simp
  have hO2 := (HO1.out.allocA (g := sg + 1) (by simp [hsg]) 160 (((((((Tryd.zeroCells160.setIfInBounds 0 (.iface 91 (.pointer (some ⟨g, 0, none⟩)))).setIfInBounds 2 (.iface 112 (.agg #[]))).setIfInBounds 3 (.iface 240 (.int .i64 nb))).setIfInBounds 4 (.int .u64 1)).setIfInBounds 5 (.int .i64 bs)).setIfInBounds 271 (.slice (some ⟨sg, 0, none⟩) 0 0)))).drew
  rw [twCells_eq] at hO2
  generalize (World.drew _) = W at hO2 ⊢
  have hO3 := own_cuts _ _ _ hO2.part
  obtain ⟨wp, hwp⟩ : ∃ wp, sg + 1 = wp := ⟨_, rfl⟩
  rw [hwp] at hO3 ⊢
  have hO4 : Own (fp wp 0 [.iface 91 (.pointer (some ⟨g, 0, none⟩))] :: fp wp 1 [.nilIface] :: fp wp 2 [.iface 112 (.agg #[]), .iface 240 (.int .i64 nb), .int .u64 1, .int .i64 bs] :: fp wp 6 [.int .i64 0] :: fp wp 7 [.slice none 0 0, .int .i64 0] :: fp wp 9 z64 ::
    fp wp 73 [.int .i64 0, .slice none 0 0, .slice none 0 0, .slice none 0 0] :: fp wp 77 [.int .i64 0] :: fp wp 78 [.slice none 0 0, .int .i64 0] :: fp wp 80 z64 :: fp wp 144 [.int .i64 0, .slice none 0 0, .slice none 0 0, .slice none 0 0] :: fp wp 148 [.nilIface] :: fp wp 149 [.slice none 0 0, .int .i64 0] :: fp wp 151 z64 :: fp wp 215 [.int .i64 0, .slice none 0 0] ::
    fp wp 217 [.int .u64 0, .int .u64 0] :: fp wp 219 [.int .u64 0] :: fp wp 220 [.int .i64 0] :: fp wp 221 (List.replicate 20 (.int .u8 0)) :: fp wp 241 (List.replicate 30 (.int .u8 0)) :: fp wp 271 [.slice (some ⟨sg, 0, none⟩) 0 0] :: fp wp 272 [.slice none 0 0] :: (fw sg 5 [] :: fw p 168 cs :: (G ++ R))) w0 W := hO3
  obtain ⟨h3, h4, h15, h16, h23⟩ := HQ.out
  have q3 := (hO4.cell 23 rfl (k := 3) 3 rfl (by simp only; omega)).trans h3
  have q4 := (hO4.cell 23 rfl (k := 4) 4 rfl (by simp only; omega)).trans h4
  have q15 := (hO4.cell 23 rfl (k := 15) 15 rfl (by simp only; omega)).trans h15
  have q16 := (hO4.cell 23 rfl (k := 16) 16 rfl (by simp only; omega)).trans h16
  have q23 := (hO4.cell 23 rfl (k := 23) 23 rfl (by simp only; omega)).trans h23
  have c3 := hO4.cell 2 rfl (k := 3) 1 rfl (by simp)
  have c6 := hO4.cell 3 rfl (k := 6) 0 rfl (by simp)
  have c76 := hO4.cell 6 rfl (k := 76) 3 rfl (by simp)
  have c77 := hO4.cell 7 rfl (k := 77) 0 rfl (by simp)
  have c147 := hO4.cell 10 rfl (k := 147) 3 rfl (by simp)
  have c148 := hO4.cell 11 rfl (k := 148) 0 rfl (by simp)
  have f0 := fun k => hO4.frozen 0 rfl k
  have bl := hO4.head.lt
  have HO4 := hid hO4
  clear h3 h4 h15 h16 h23 hO4 hO2 hO3 HO1
  refine hK.out _ _ ?_ (fun hHeld => ?_)
  · exact ⟨q3, q4, q15, q16, q23⟩
  clear hK
  try simp only [Act.put, List.setIfInBounds_toArray, List.set_cons_zero, List.set_cons_succ]
  refine AnyT.take (i := 12) (v := ?_) (by simp only [List.getElem?_toArray, List.getElem?_cons_succ, List.getElem?_cons_zero]; rfl) (by kernel_rfl) (by kernel_rfl) (by kernel_rfl) (by kernel_rfl) (by intro _ _ _ h; exact h) (Or.inl ⟨by rfl, fun w hSw => ?_⟩) hHeld ?_
  rotate_left
  · ((try dsimp only at hSw); go_simp; first | done | with_reducible rfl | rfl)
  try simp only [Act.put, List.setIfInBounds_toArray, List.set_cons_zero, List.set_cons_succ]
  refine AnyT.done (by kernel_rfl) ?_ _
  clear q4 q15 q16 q23
  go_wp2_with fail
  have hm := method_ng
  refine (getRestart p rs _ hrs q3).mono ?_
  rintro e w5 ⟨rfl, rfl⟩
  clear q3
  go_wp2_with fail
  have hO5 : Own (fp wp 0 [.iface 91 (.pointer (some ⟨g, 0, none⟩))] :: fp wp 1 [.nilIface] :: fp wp 2 [.iface 112 (.agg #[]), .iface 240 (.int .i64 nb), .int .u64 1, .int .i64 bs] :: fp wp 6 [.int .i64 rs] :: fp wp 7 [.slice none 0 0, .int .i64 0] :: fp wp 9 z64 ::
    fp wp 73 [.int .i64 0, .slice none 0 0, .slice none 0 0, .slice (some ⟨wp, 241, none⟩) 30 30] :: fp wp 77 [.int .i64 1] :: fp wp 78 [.slice none 0 0, .int .i64 0] :: fp wp 80 z64 :: fp wp 144 [.int .i64 0, .slice none 0 0, .slice none 0 0, .slice (some ⟨wp, 241, none⟩) 30 30] :: fp wp 148 [.nilIface] :: fp wp 149 [.slice none 0 0, .int .i64 0] :: fp wp 151 z64 :: fp wp 215 [.int .i64 0, .slice none 0 0] ::
    fp wp 217 [.int .u64 0, .int .u64 0] :: fp wp 219 [.int .u64 0] :: fp wp 220 [.int .i64 0] :: fp wp 221 (List.replicate 20 (.int .u8 0)) :: fp wp 241 (List.replicate 30 (.int .u8 0)) :: fp wp 271 [.slice (some ⟨sg, 0, none⟩) 0 0] :: fp wp 272 [.slice none 0 0] :: (fw sg 5 [] :: fw p 168 cs :: (G ++ R))) w0 _ := (((HO4.out.setN 3 rfl (k := 6) 0 rfl (by simp) (.int .i64 rs)).setN 6 rfl (k := 76) 3 rfl (by simp) (.slice (some ⟨wp, 241, none⟩) 30 30)).setN 7 rfl (k := 77) 0 rfl (by simp) (.int .i64 1)).setN 10 rfl (k := 147) 3 rfl (by simp) (.slice (some ⟨wp, 241, none⟩) 30 30)
  clear HO4 c3 c6 c76 c77 c147 c148 f0 bl
  refine (newGen nb (by omega) _ w0 _ hO5).mono ?_
  rintro e w6 ⟨gp, FG, rfl, hFG, hO6⟩
  have hO7 := (hO6.perm (L' := fp wp 148 [.nilIface] :: (FG ++ (fp wp 0 [.iface 91 (.pointer (some ⟨g, 0, none⟩))] :: fp wp 1 [.nilIface] :: fp wp 2 [.iface 112 (.agg #[]), .iface 240 (.int .i64 nb), .int .u64 1, .int .i64 bs] :: fp wp 6 [.int .i64 rs] :: fp wp 7 [.slice none 0 0, .int .i64 0] :: fp wp 9 z64 :: fp wp 73 [.int .i64 0, .slice none 0 0, .slice none 0 0, .slice (some ⟨wp, 241, none⟩) 30 30] :: fp wp 77 [.int .i64 1] :: fp wp 78 [.slice none 0 0, .int .i64 0] :: fp wp 80 z64 :: fp wp 144 [.int .i64 0, .slice none 0 0, .slice none 0 0, .slice (some ⟨wp, 241, none⟩) 30 30] :: fp wp 149 [.slice none 0 0, .int .i64 0] :: fp wp 151 z64 :: fp wp 215 [.int .i64 0, .slice none 0 0] :: fp wp 217 [.int .u64 0, .int .u64 0] :: fp wp 219 [.int .u64 0] :: fp wp 220 [.int .i64 0] :: fp wp 221 (List.replicate 20 (.int .u8 0)) :: fp wp 241 (List.replicate 30 (.int .u8 0)) :: fp wp 271 [.slice (some ⟨sg, 0, none⟩) 0 0] :: fp wp 272 [.slice none 0 0] :: (fw sg 5 [] :: fw p 168 cs :: (G ++ R))))) (perm_of fun _ _ z => by simp only [List.count_append, List.count_cons, List.cons_append, List.count_nil, List.nil_append, List.append_nil]; omega))
  have c148 := hO7.cell 0 rfl (k := 148) 0 rfl (by simp)
  have f0 := fun k => hO7.frozen 0 rfl k
  have HO7 := hid hO7
  have HFG := hid hFG
  clear hO5 hO6 hO7 hFG
  go_wp2_with fail
  have hO8 : Own (fp wp 148 [.iface 314 (.pointer (some ⟨gp, 0, none⟩))] :: (FG ++ (fp wp 0 [.iface 91 (.pointer (some ⟨g, 0, none⟩))] :: fp wp 1 [.nilIface] :: fp wp 2 [.iface 112 (.agg #[]), .iface 240 (.int .i64 nb), .int .u64 1, .int .i64 bs] :: fp wp 6 [.int .i64 rs] :: fp wp 7 [.slice none 0 0, .int .i64 0] :: fp wp 9 z64 :: fp wp 73 [.int .i64 0, .slice none 0 0, .slice none 0 0, .slice (some ⟨wp, 241, none⟩) 30 30] :: fp wp 77 [.int .i64 1] :: fp wp 78 [.slice none 0 0, .int .i64 0] :: fp wp 80 z64 :: fp wp 144 [.int .i64 0, .slice none 0 0, .slice none 0 0, .slice (some ⟨wp, 241, none⟩) 30 30] :: fp wp 149 [.slice none 0 0, .int .i64 0] :: fp wp 151 z64 :: fp wp 215 [.int .i64 0, .slice none 0 0] :: fp wp 217 [.int .u64 0, .int .u64 0] :: fp wp 219 [.int .u64 0] :: fp wp 220 [.int .i64 0] :: fp wp 221 (List.replicate 20 (.int .u8 0)) :: fp wp 241 (List.replicate 30 (.int .u8 0)) :: fp wp 271 [.slice (some ⟨sg, 0, none⟩) 0 0] :: fp wp 272 [.slice none 0 0] :: (fw sg 5 [] :: fw p 168 cs :: (G ++ R))))) w0 _ := HO7.out.set (k := 148) 0 rfl (by simp) (.iface 314 (.pointer (some ⟨gp, 0, none⟩)))
  have hFW : FWB wp 148 true nb B Q (fp wp 148 [.iface 314 (.pointer (some ⟨gp, 0, none⟩))] :: fp wp (148 + 67) [.int .i64 (([] : List Int).length : Nat), .slice none ([] : List Nat).length 0] :: ([fp wp 149 [.slice none 0 0, .int .i64 0], fp wp 151 z64] ++ (FG ++ []))) := ⟨probes nb, [], [], [], ⟨gp, none, 0, [fp wp 149 [.slice none 0 0, .int .i64 0], fp wp 151 z64], FG, [], .inl ⟨rfl, _, ⟨by simp [z64], _, bc_zeros 64⟩, rfl⟩, HFG.out, Row.nil _ _, rfl⟩, probes_le nb, hnb, by simp, by simp, by simp, by simp⟩
  have h9 := hO8.perm (L' := (fp wp 148 [.iface 314 (.pointer (some ⟨gp, 0, none⟩))] :: fp wp 215 [.int .i64 0, .slice none 0 0] :: ([fp wp 149 [.slice none 0 0, .int .i64 0], fp wp 151 z64] ++ (FG ++ []))) ++ (fp wp 0 [.iface 91 (.pointer (some ⟨g, 0, none⟩))] :: fp wp 1 [.nilIface] :: fp wp 2 [.iface 112 (.agg #[]), .iface 240 (.int .i64 nb), .int .u64 1, .int .i64 bs] :: fp wp 6 [.int .i64 rs] :: fp wp 7 [.slice none 0 0, .int .i64 0] :: fp wp 9 z64 :: fp wp 73 [.int .i64 0, .slice none 0 0, .slice none 0 0, .slice (some ⟨wp, 241, none⟩) 30 30] :: fp wp 77 [.int .i64 1] :: fp wp 78 [.slice none 0 0, .int .i64 0] :: fp wp 80 z64 :: fp wp 144 [.int .i64 0, .slice none 0 0, .slice none 0 0, .slice (some ⟨wp, 241, none⟩) 30 30] :: fp wp 217 [.int .u64 0, .int .u64 0] :: fp wp 219 [.int .u64 0] :: fp wp 220 [.int .i64 0] :: fp wp 221 (List.replicate 20 (.int .u8 0)) :: fp wp 241 (List.replicate 30 (.int .u8 0)) :: fp wp 271 [.slice (some ⟨sg, 0, none⟩) 0 0] :: fp wp 272 [.slice none 0 0] :: (fw sg 5 [] :: fw p 168 cs :: (G ++ R)))) (perm_of fun _ _ z => by simp only [List.count_append, List.count_cons, List.cons_append, List.count_nil, List.nil_append, List.append_nil]; omega)
  have HFW := hid hFW
  have H9 := hid h9
  clear hFW h9 hO8 HO7 HFG c148 f0
  refine (fwb_flush wp 148 nb B Q 0 true _ _ w0 _ HFW.out H9.out hB (by omega) (by omega) (by omega)).mono ?_
  rintro e w8 ⟨rfl, F3, hF3, hO10⟩
  have HF3 := hid hF3
  have HO7 := hid hO10
  clear hF3 hO10 H9 HFW
  go_wp2_with fail
  go_ret
  refine ⟨wp, _, rfl, ⟨.iface 240 (.int .i64 nb), some ⟨sg, 0, none⟩, none, none, 0, 0, 0, [], List.replicate 20 (.int .u8 0), List.replicate 30 (.int .u8 0), [fp wp 7 [.slice none 0 0, .int .i64 0], fp wp 9 z64], [], [], fp wp 77 [.int .i64 ((1 : Nat) : Int)] :: fp wp 144 [.int .i64 ((0 : Nat) : Int), .slice none 0 0, .slice none 0 0, .slice (some ⟨wp, 241, none⟩) 30 30] :: ([fp wp 78 [.slice none 0 0, .int .i64 0], fp wp 80 z64] ++ ([] ++ [])), F3, G, [fw sg 5 []], by simp, .inl ⟨rfl, _, ⟨by simp [z64], _, bc_zeros 64⟩, rfl⟩, Row.nil _ _, Row.nil _ _, ⟨none, 0, none, 0, _, [], [], .inl ⟨rfl, _, ⟨by simp [z64], _, bc_zeros 64⟩, rfl⟩, Row.nil _ _, Row.nil _ _, rfl⟩, HF3.out, HG.out, by simp, by simp, ⟨by simp [bc], .inr ⟨sg, [], rfl, rfl, by simp, by simp [maxLen], by simp, by simp [bc]⟩⟩, rfl⟩, ?_⟩
  have hfin : Own ([fp wp 272 [.slice none 0 0], fw p 168 cs] ++ ((fp wp 0 [.iface 91 (.pointer (some ⟨g, 0, none⟩))] :: fp wp 1 [.nilIface] :: fp wp 2 [.iface 112 (.agg #[]), .iface 240 (.int .i64 nb), .int .u64 1, .int .i64 bs] :: fp wp 217 [.int .u64 0, .int .u64 0] :: fp wp 219 [.int .u64 0] :: fp wp 220 [.int .i64 0] :: fp wp 221 (List.replicate 20 (.int .u8 0)) :: fp wp 241 (List.replicate 30 (.int .u8 0)) :: fp wp 271 [.slice (some ⟨sg, 0, none⟩) 0 0] :: fp wp 6 [.int .i64 rs] :: fp wp 73 [.int .i64 0, .slice none 0 0, .slice none 0 0, .slice (some ⟨wp, 241, none⟩) 30 30] ::
    ([fp wp 7 [.slice none 0 0, .int .i64 0], fp wp 9 z64] ++ ([] ++ ([] ++ ((fp wp 77 [.int .i64 1] :: fp wp 144 [.int .i64 0, .slice none 0 0, .slice none 0 0, .slice (some ⟨wp, 241, none⟩) 30 30] :: ([fp wp 78 [.slice none 0 0, .int .i64 0], fp wp 80 z64] ++ ([] ++ []))) ++ (F3 ++ (G ++ [fw sg 5 []]))))))) ++ R)) w0 _ := HO7.out.perm (perm_of fun _ _ z => by simp only [List.count_append, List.count_cons, List.cons_append, List.count_nil, List.nil_append, List.append_nil]; omega)
  exact hfin.right
set_option maxHeartbeats 6400000 in
set_option maxRecDepth 100000 in
theorem newWriter_off (g p bs rs nb B Q : Nat) (cs : List Value) (G R : List Fr) (w0 w : World) (hG : OB g [] G) (hO : Own (fw p 168 cs :: (G ++ R)) w0 w) (h3 : cs[3]? = some (.int .i64 rs)) (h4 : cs[4]? = some (.int .i64 bs)) (h15 : cs[15]? = some .nilIface) (h16 : cs[16]? = some (.int .u64 1))
    (h23 : cs[23]? = some (.nilIface)) (hcl : cs.length = 33) (hrs : 0 < rs) (hbs : 0 < bs) (hnb : nb ≤ 20) (hB : B ≤ 26000000) (hQ : Q ≤ 1000000) :
    Calls Tryd.prog 42 #[.iface 91 (.pointer (some ⟨g, 0, none⟩)), .pointer (some ⟨p, 0, none⟩)] w (NWOut bs rs g nb B Q false R w0) := by
  have q3 := (hO.cell 0 rfl (k := 3) 3 rfl (by simp only; omega)).trans h3
  have q4 := (hO.cell 0 rfl (k := 4) 4 rfl (by simp only; omega)).trans h4
  have q15 := (hO.cell 0 rfl (k := 15) 15 rfl (by simp only; omega)).trans h15
  have q16 := (hO.cell 0 rfl (k := 16) 16 rfl (by simp only; omega)).trans h16
  have q23 := (hO.cell 0 rfl (k := 23) 23 rfl (by simp only; omega)).trans h23
  have HO := hid hO
  have HG := hid hG
  have HQ := hid (show _ ∧ _ ∧ _ ∧ _ ∧ _ from ⟨h3, h4, h15, h16, h23⟩)
  clear hO hG h3 h4 h15 h16 h23
  have hmk := fun w => run_make_own (P := Tryd.prog) 25 5 (.int .u8 0) 1 Tryd.underlying25 Tryd.info_u8 rfl .i64 .i64 0 0 0 0 rfl rfl (by omega) (by omega) (by omega) w
  go_enter Tryd.func42, Tryd.ntmps42
  go_wp2_with fail
  refine AnyT.start (S := fun w' => w'.cell? ⟨p, 3, none⟩ = some (.int .i64 rs) ∧ w'.cell? ⟨p, 4, none⟩ = some (.int .i64 bs) ∧ w'.cell? ⟨p, 15, none⟩ = some .nilIface ∧ w'.cell? ⟨p, 16, none⟩ = some (.int .u64 1) ∧ w'.cell? ⟨p, 23, none⟩ = some (.nilIface)) (T := []) (by kernel_rfl) (⟨q3, q4, q15, q16, q23⟩) (fun hHeld => ?_)
  refine AnyT.take (i := 0) (v := ?_) (by simp only [List.getElem?_toArray, List.getElem?_cons_succ, List.getElem?_cons_zero]; rfl) (by kernel_rfl) (by kernel_rfl) (by kernel_rfl) (by kernel_rfl) (by intro _ _ _ h; exact h) (Or.inl ⟨by rfl, fun w hSw => ?_⟩) hHeld ?_
  rotate_left
  · ((try dsimp only at hSw); go_simp; first | done | with_reducible rfl | rfl)
  try simp only [Act.put, List.setIfInBounds_toArray, List.set_cons_zero, List.set_cons_succ]
  refine AnyT.take (i := 1) (v := ?_) (by simp only [List.getElem?_toArray, List.getElem?_cons_succ, List.getElem?_cons_zero]; rfl) (by kernel_rfl) (by kernel_rfl) (by kernel_rfl) (by kernel_rfl) (by intro _ _ _ h; exact h) (Or.inl ⟨by rfl, fun w hSw => ?_⟩) hHeld ?_
  rotate_left
  · ((try dsimp only at hSw); go_simp; first | done | with_reducible rfl | rfl)
  try simp only [Act.put, List.setIfInBounds_toArray, List.set_cons_zero, List.set_cons_succ]
  refine AnyT.take (i := 3) (v := ?_) (by simp only [List.getElem?_toArray, List.getElem?_cons_succ, List.getElem?_cons_zero]; rfl) (by kernel_rfl) (by kernel_rfl) (by kernel_rfl) (by kernel_rfl) (by intro _ _ _ h; exact h) (Or.inl ⟨by rfl, fun w hSw => ?_⟩) hHeld ?_
  rotate_left
  · ((try dsimp only at hSw); go_simp; first | done | with_reducible rfl | rfl)
  try simp only [Act.put, List.setIfInBounds_toArray, List.set_cons_zero, List.set_cons_succ]
  refine AnyT.take (i := 5) (v := ?_) (by simp only [List.getElem?_toArray, List.getElem?_cons_succ, List.getElem?_cons_zero]; rfl) (by kernel_rfl) (by kernel_rfl) (by kernel_rfl) (by kernel_rfl) (by intro _ _ _ h; exact h) (Or.inl ⟨by rfl, fun w hSw => ?_⟩) hHeld ?_
  rotate_left
  · ((try dsimp only at hSw); go_simp; first | done | with_reducible rfl | rfl)
  try simp only [Act.put, List.setIfInBounds_toArray, List.set_cons_zero, List.set_cons_succ]
  refine AnyT.take (i := 7) (v := ?_) (by simp only [List.getElem?_toArray, List.getElem?_cons_succ, List.getElem?_cons_zero]; rfl) (by kernel_rfl) (by kernel_rfl) (by kernel_rfl) (by kernel_rfl) (by intro _ _ _ h; exact h) (Or.inl ⟨by rfl, fun w hSw => ?_⟩) hHeld ?_
  rotate_left
  · ((try dsimp only at hSw); go_simp; first | done | with_reducible rfl | rfl)
  try simp only [Act.put, List.setIfInBounds_toArray, List.set_cons_zero, List.set_cons_succ]
  refine AnyT.takeC (i := 2) (v := .iface 112 (.agg #[])) (by simp only [List.getElem?_toArray, List.getElem?_cons_succ, List.getElem?_cons_zero]; rfl) (by kernel_rfl) (by kernel_rfl) (by kernel_rfl) (by kernel_rfl) (by intro _ _ _ h; exact h) (Or.inl ⟨by rfl, fun w hSw => ?_⟩) hHeld ?_
  · ((try dsimp only at hSw); go_simp; exact getComparer p _ hSw.2.2.1)
  try simp only [Act.put, List.setIfInBounds_toArray, List.set_cons_zero, List.set_cons_succ]
  refine AnyT.takeC (i := 4) (v := (.nilIface)) (by simp only [List.getElem?_toArray, List.getElem?_cons_succ, List.getElem?_cons_zero]; rfl) (by kernel_rfl) (by kernel_rfl) (by kernel_rfl) (by kernel_rfl) (by intro _ _ _ h; exact h) (Or.inl ⟨by rfl, fun w hSw => ?_⟩) hHeld ?_
  · ((try dsimp only at hSw); go_simp; exact getFilter p (.nilIface) _ hSw.2.2.2.2)
  try simp only [Act.put, List.setIfInBounds_toArray, List.set_cons_zero, List.set_cons_succ]
  refine AnyT.takeC (i := 6) (v := .int .u64 1) (by simp only [List.getElem?_toArray, List.getElem?_cons_succ, List.getElem?_cons_zero]; rfl) (by kernel_rfl) (by kernel_rfl) (by kernel_rfl) (by kernel_rfl) (by intro _ _ _ h; exact h) (Or.inl ⟨by rfl, fun w hSw => ?_⟩) hHeld ?_
  · ((try dsimp only at hSw); go_simp; exact getCompression p _ hSw.2.2.2.1)
  try simp only [Act.put, List.setIfInBounds_toArray, List.set_cons_zero, List.set_cons_succ]
  refine AnyT.takeC (i := 8) (v := .int .i64 bs) (by simp only [List.getElem?_toArray, List.getElem?_cons_succ, List.getElem?_cons_zero]; rfl) (by kernel_rfl) (by kernel_rfl) (by kernel_rfl) (by kernel_rfl) (by intro _ _ _ h; exact h) (Or.inl ⟨by rfl, fun w hSw => ?_⟩) hHeld ?_
  · ((try dsimp only at hSw); go_simp; exact getBlockSize p bs _ hbs hSw.2.1)
  try simp only [Act.put, List.setIfInBounds_toArray, List.set_cons_zero, List.set_cons_succ]
  refine AnyT.ready (rs := [9]) (by kernel_rfl) (by simp) ?_
  refine AllT.cons (by simp only [List.getElem?_toArray, List.getElem?_cons_succ, List.getElem?_cons_zero]; rfl) (fun K hK => ?_) AllT.nil
  go_simp
  obtain ⟨sg, hsg⟩ : ∃ sg, w.heap.size = sg := ⟨_, rfl⟩
  try rw [hsg]
  have hO1 := HO.out.alloc' hsg 5 []
  clear HO q3 q4 q15 q16 q23
  obtain ⟨h3, h4, h15, h16, h23⟩ := HQ.out
  have q3 := (hO1.cell 1 rfl (k := 3) 3 rfl (by simp only; omega)).trans h3
  have q4 := (hO1.cell 1 rfl (k := 4) 4 rfl (by simp only; omega)).trans h4
  have q15 := (hO1.cell 1 rfl (k := 15) 15 rfl (by simp only; omega)).trans h15
  have q16 := (hO1.cell 1 rfl (k := 16) 16 rfl (by simp only; omega)).trans h16
  have q23 := (hO1.cell 1 rfl (k := 23) 23 rfl (by simp only; omega)).trans h23
  clear h3 h4 h15 h16 h23
  have HO1 := hid hO1
  clear hO1
  refine hK.out _ _ ?_ (fun hHeld => ?_)
  · exact ⟨q3, q4, q15, q16, q23⟩
  clear hK
  try simp only [Act.put, List.setIfInBounds_toArray, List.set_cons_zero, List.set_cons_succ]
  refine AnyT.take (i := 10) (v := ?_) (by simp only [List.getElem?_toArray, List.getElem?_cons_succ, List.getElem?_cons_zero]; rfl) (by kernel_rfl) (by kernel_rfl) (by kernel_rfl) (by kernel_rfl) (by intro _ _ _ h; exact h) (Or.inl ⟨by rfl, fun w hSw => ?_⟩) hHeld ?_
  rotate_left
  · ((try dsimp only at hSw); go_simp; first | done | with_reducible rfl | rfl)
  try simp only [Act.put, List.setIfInBounds_toArray, List.set_cons_zero, List.set_cons_succ]
  refine AnyT.ready (rs := [11]) (by kernel_rfl) (by simp) ?_
  refine AllT.cons (by simp only [List.getElem?_toArray, List.getElem?_cons_succ, List.getElem?_cons_zero]; rfl) (fun K hK => ?_) AllT.nil
  go_simp
  have hO2 := (HO1.out.allocA (g := sg + 1) (by simp [hsg]) 160 (((((((Tryd.zeroCells160.setIfInBounds 0 (.iface 91 (.pointer (some ⟨g, 0, none⟩)))).setIfInBounds 2 (.iface 112 (.agg #[]))).setIfInBounds 3 (.nilIface)).setIfInBounds 4 (.int .u64 1)).setIfInBounds 5 (.int .i64 bs)).setIfInBounds 271 (.slice (some ⟨sg, 0, none⟩) 0 0)))).drew
  rw [twCells_eq] at hO2
  generalize (World.drew _) = W at hO2 ⊢
  have hO3 := own_cuts _ _ _ hO2.part
  obtain ⟨wp, hwp⟩ : ∃ wp, sg + 1 = wp := ⟨_, rfl⟩
  rw [hwp] at hO3 ⊢
  have hO4 : Own (fp wp 0 [.iface 91 (.pointer (some ⟨g, 0, none⟩))] :: fp wp 1 [.nilIface] :: fp wp 2 [.iface 112 (.agg #[]), .nilIface, .int .u64 1, .int .i64 bs] :: fp wp 6 [.int .i64 0] :: fp wp 7 [.slice none 0 0, .int .i64 0] :: fp wp 9 z64 ::
    fp wp 73 [.int .i64 0, .slice none 0 0, .slice none 0 0, .slice none 0 0] :: fp wp 77 [.int .i64 0] :: fp wp 78 [.slice none 0 0, .int .i64 0] :: fp wp 80 z64 :: fp wp 144 [.int .i64 0, .slice none 0 0, .slice none 0 0, .slice none 0 0] :: fp wp 148 [.nilIface] :: fp wp 149 [.slice none 0 0, .int .i64 0] :: fp wp 151 z64 :: fp wp 215 [.int .i64 0, .slice none 0 0] ::
    fp wp 217 [.int .u64 0, .int .u64 0] :: fp wp 219 [.int .u64 0] :: fp wp 220 [.int .i64 0] :: fp wp 221 (List.replicate 20 (.int .u8 0)) :: fp wp 241 (List.replicate 30 (.int .u8 0)) :: fp wp 271 [.slice (some ⟨sg, 0, none⟩) 0 0] :: fp wp 272 [.slice none 0 0] :: (fw sg 5 [] :: fw p 168 cs :: (G ++ R))) w0 W := hO3
  obtain ⟨h3, h4, h15, h16, h23⟩ := HQ.out
  have q3 := (hO4.cell 23 rfl (k := 3) 3 rfl (by simp only; omega)).trans h3
  have q4 := (hO4.cell 23 rfl (k := 4) 4 rfl (by simp only; omega)).trans h4
  have q15 := (hO4.cell 23 rfl (k := 15) 15 rfl (by simp only; omega)).trans h15
  have q16 := (hO4.cell 23 rfl (k := 16) 16 rfl (by simp only; omega)).trans h16
  have q23 := (hO4.cell 23 rfl (k := 23) 23 rfl (by simp only; omega)).trans h23
  have c3 := hO4.cell 2 rfl (k := 3) 1 rfl (by simp)
  have c6 := hO4.cell 3 rfl (k := 6) 0 rfl (by simp)
  have c76 := hO4.cell 6 rfl (k := 76) 3 rfl (by simp)
  have c77 := hO4.cell 7 rfl (k := 77) 0 rfl (by simp)
  have c147 := hO4.cell 10 rfl (k := 147) 3 rfl (by simp)
  have c148 := hO4.cell 11 rfl (k := 148) 0 rfl (by simp)
  have f0 := fun k => hO4.frozen 0 rfl k
  have bl := hO4.head.lt
  have HO4 := hid hO4
  clear h3 h4 h15 h16 h23 hO4 hO2 hO3 HO1
  refine hK.out _ _ ?_ (fun hHeld => ?_)
  · exact ⟨q3, q4, q15, q16, q23⟩
  clear hK
  try simp only [Act.put, List.setIfInBounds_toArray, List.set_cons_zero, List.set_cons_succ]
  refine AnyT.take (i := 12) (v := ?_) (by simp only [List.getElem?_toArray, List.getElem?_cons_succ, List.getElem?_cons_zero]; rfl) (by kernel_rfl) (by kernel_rfl) (by kernel_rfl) (by kernel_rfl) (by intro _ _ _ h; exact h) (Or.inl ⟨by rfl, fun w hSw => ?_⟩) hHeld ?_
  rotate_left
  · ((try dsimp only at hSw); go_simp; first | done | with_reducible rfl | rfl)
  try simp only [Act.put, List.setIfInBounds_toArray, List.set_cons_zero, List.set_cons_succ]
  refine AnyT.done (by kernel_rfl) ?_ _
  clear q4 q15 q16 q23
  go_wp2_with fail
  have hm := method_ng
  refine (getRestart p rs _ hrs q3).mono ?_
  rintro e w5 ⟨rfl, rfl⟩
  clear q3
  go_wp2_with fail
  have hO5 : Own (fp wp 0 [.iface 91 (.pointer (some ⟨g, 0, none⟩))] :: fp wp 1 [.nilIface] :: fp wp 2 [.iface 112 (.agg #[]), .nilIface, .int .u64 1, .int .i64 bs] :: fp wp 6 [.int .i64 rs] :: fp wp 7 [.slice none 0 0, .int .i64 0] :: fp wp 9 z64 ::
    fp wp 73 [.int .i64 0, .slice none 0 0, .slice none 0 0, .slice (some ⟨wp, 241, none⟩) 30 30] :: fp wp 77 [.int .i64 1] :: fp wp 78 [.slice none 0 0, .int .i64 0] :: fp wp 80 z64 :: fp wp 144 [.int .i64 0, .slice none 0 0, .slice none 0 0, .slice (some ⟨wp, 241, none⟩) 30 30] :: fp wp 148 [.nilIface] :: fp wp 149 [.slice none 0 0, .int .i64 0] :: fp wp 151 z64 :: fp wp 215 [.int .i64 0, .slice none 0 0] ::
    fp wp 217 [.int .u64 0, .int .u64 0] :: fp wp 219 [.int .u64 0] :: fp wp 220 [.int .i64 0] :: fp wp 221 (List.replicate 20 (.int .u8 0)) :: fp wp 241 (List.replicate 30 (.int .u8 0)) :: fp wp 271 [.slice (some ⟨sg, 0, none⟩) 0 0] :: fp wp 272 [.slice none 0 0] :: (fw sg 5 [] :: fw p 168 cs :: (G ++ R))) w0 _ := (((HO4.out.setN 3 rfl (k := 6) 0 rfl (by simp) (.int .i64 rs)).setN 6 rfl (k := 76) 3 rfl (by simp) (.slice (some ⟨wp, 241, none⟩) 30 30)).setN 7 rfl (k := 77) 0 rfl (by simp) (.int .i64 1)).setN 10 rfl (k := 147) 3 rfl (by simp) (.slice (some ⟨wp, 241, none⟩) 30 30)
  clear HO4 c3 c6 c76 c77 c147 c148 f0 bl
  have HO5 := hid hO5
  clear hO5
  go_wp2_with fail
  go_ret
  have hF3 : FWB wp 148 false nb B Q (fp wp 148 [.nilIface] :: fp wp (148 + 67) [.int .i64 0, .slice none 0 0] :: [fp wp 149 [.slice none 0 0, .int .i64 0], fp wp 151 z64]) := ⟨_, .inl ⟨rfl, _, ⟨by simp [z64], _, bc_zeros 64⟩, rfl⟩, rfl⟩
  have HF3 := hid hF3
  have HO7 := hid (HO5.out.perm (L' := (fp wp 148 [.nilIface] :: fp wp 215 [.int .i64 0, .slice none 0 0] :: [fp wp 149 [.slice none 0 0, .int .i64 0], fp wp 151 z64]) ++ (fp wp 0 [.iface 91 (.pointer (some ⟨g, 0, none⟩))] :: fp wp 1 [.nilIface] :: fp wp 2 [.iface 112 (.agg #[]), .nilIface, .int .u64 1, .int .i64 bs] :: fp wp 6 [.int .i64 rs] :: fp wp 7 [.slice none 0 0, .int .i64 0] :: fp wp 9 z64 :: fp wp 73 [.int .i64 0, .slice none 0 0, .slice none 0 0, .slice (some ⟨wp, 241, none⟩) 30 30] :: fp wp 77 [.int .i64 1] :: fp wp 78 [.slice none 0 0, .int .i64 0] :: fp wp 80 z64 :: fp wp 144 [.int .i64 0, .slice none 0 0, .slice none 0 0, .slice (some ⟨wp, 241, none⟩) 30 30] :: fp wp 217 [.int .u64 0, .int .u64 0] :: fp wp 219 [.int .u64 0] :: fp wp 220 [.int .i64 0] :: fp wp 221 (List.replicate 20 (.int .u8 0)) :: fp wp 241 (List.replicate 30 (.int .u8 0)) :: fp wp 271 [.slice (some ⟨sg, 0, none⟩) 0 0] :: fp wp 272 [.slice none 0 0] :: (fw sg 5 [] :: fw p 168 cs :: (G ++ R)))) (perm_of fun _ _ z => by simp only [List.count_append, List.count_cons, List.cons_append, List.count_nil, List.nil_append, List.append_nil]; omega))
  clear hF3
  refine ⟨wp, _, rfl, ⟨.nilIface, some ⟨sg, 0, none⟩, none, none, 0, 0, 0, [], List.replicate 20 (.int .u8 0), List.replicate 30 (.int .u8 0), [fp wp 7 [.slice none 0 0, .int .i64 0], fp wp 9 z64], [], [], fp wp 77 [.int .i64 ((1 : Nat) : Int)] :: fp wp 144 [.int .i64 ((0 : Nat) : Int), .slice none 0 0, .slice none 0 0, .slice (some ⟨wp, 241, none⟩) 30 30] :: ([fp wp 78 [.slice none 0 0, .int .i64 0], fp wp 80 z64] ++ ([] ++ [])), _, G, [fw sg 5 []], by simp, .inl ⟨rfl, _, ⟨by simp [z64], _, bc_zeros 64⟩, rfl⟩, Row.nil _ _, Row.nil _ _, ⟨none, 0, none, 0, _, [], [], .inl ⟨rfl, _, ⟨by simp [z64], _, bc_zeros 64⟩, rfl⟩, Row.nil _ _, Row.nil _ _, rfl⟩, HF3.out, HG.out, by simp, by simp, ⟨by simp [bc], .inr ⟨sg, [], rfl, rfl, by simp, by simp [maxLen], by simp, by simp [bc]⟩⟩, rfl⟩, ?_⟩
  have hfin : Own ([fp wp 272 [.slice none 0 0], fw p 168 cs] ++ ((fp wp 0 [.iface 91 (.pointer (some ⟨g, 0, none⟩))] :: fp wp 1 [.nilIface] :: fp wp 2 [.iface 112 (.agg #[]), .nilIface, .int .u64 1, .int .i64 bs] :: fp wp 217 [.int .u64 0, .int .u64 0] :: fp wp 219 [.int .u64 0] :: fp wp 220 [.int .i64 0] :: fp wp 221 (List.replicate 20 (.int .u8 0)) :: fp wp 241 (List.replicate 30 (.int .u8 0)) :: fp wp 271 [.slice (some ⟨sg, 0, none⟩) 0 0] :: fp wp 6 [.int .i64 rs] :: fp wp 73 [.int .i64 0, .slice none 0 0, .slice none 0 0, .slice (some ⟨wp, 241, none⟩) 30 30] ::
    ([fp wp 7 [.slice none 0 0, .int .i64 0], fp wp 9 z64] ++ ([] ++ ([] ++ ((fp wp 77 [.int .i64 1] :: fp wp 144 [.int .i64 0, .slice none 0 0, .slice none 0 0, .slice (some ⟨wp, 241, none⟩) 30 30] :: ([fp wp 78 [.slice none 0 0, .int .i64 0], fp wp 80 z64] ++ ([] ++ []))) ++ ((fp wp 148 [.nilIface] :: fp wp 215 [.int .i64 0, .slice none 0 0] :: [fp wp 149 [.slice none 0 0, .int .i64 0], fp wp 151 z64]) ++ (G ++ [fw sg 5 []]))))))) ++ R)) w0 _ := HO7.out.perm (perm_of fun _ _ z => by simp only [List.count_append, List.count_cons, List.cons_append, List.count_nil, List.nil_append, List.append_nil]; omega)
  exact hfin.right
end Go.Proofs.YtloflmcgbbbnjaaDoor
namespace Go.Proofs.YtloflmcgbbbnjaaDoor
open Go.RowKit Plain
set_option linter.all false

set_option maxHeartbeats 800000 in
theorem obBytes (g : Nat) (data : List UInt8) (F R : List Fr) (w0 w : World) (h : OB g data F) (hO : Own (F ++ R) w0 w) :
    Calls Tryd.prog 46 #[.pointer (some ⟨g, 0, none⟩)] w fun e w' => ∃ A c, e = .returned (.slice A data.length c) ∧ data.length ≤ c ∧ c ≤ maxLen ∧ Rd F w0 A data ∧ Own (F ++ R) w0 w' := by
  obtain ⟨A, c, v2, F1, hB, rfl⟩ := h
  have c0 := hO.cell 0 rfl (k := 0) 0 rfl (by simp)
  have c1 := hO.cell 0 rfl (k := 1) 1 rfl (by simp)
  have hrd := hid ((hB.rd w0).cons (fw g 88 [.slice A data.length c, .int .i64 0, v2]))
  have hl := hB.len
  have HL := hid hl
  have hle : (0 : Int) ≤ (data.length : Int) := by omega
  have hlc : data.length ≤ c := hl.2.1
  clear hl hB
  have HO := hid hO
  clear hO
  go_enter Tryd.func46, Tryd.ntmps46
  go_wp2_with fail
  go_quiet (fail)
  go_wp2_with fail
  go_ret
  refine ⟨A, c, ?_, HL.out.2.1, HL.out.2.2, hrd.out, HO.out.drewN _⟩
  cases A <;> simp
theorem newWriter_any (g p bs rs nb B Q : Nat) (cs : List Value) (G R : List Fr) (w0 w : World) (hG : OB g [] G) (hO : Own (fw p 168 cs :: (G ++ R)) w0 w) (h3 : cs[3]? = some (.int .i64 rs)) (h4 : cs[4]? = some (.int .i64 bs)) (h15 : cs[15]? = some .nilIface) (h16 : cs[16]? = some (.int .u64 1))
    (h23 : cs[23]? = some (fltV nb)) (hcl : cs.length = 33) (hrs : 0 < rs) (hbs : 0 < bs) (hnb : nb ≤ 20) (hB : B ≤ 26000000) (hQ : Q ≤ 1000000) :
    Calls Tryd.prog 42 #[.iface 91 (.pointer (some ⟨g, 0, none⟩)), .pointer (some ⟨p, 0, none⟩)] w (NWOut bs rs g nb B Q (decide (0 < nb)) R w0) := by
  unfold fltV at h23
  by_cases h : 0 < nb
  · rw [if_pos (by omega)] at h23
    rw [decide_eq_true h]
    exact newWriter_on g p bs rs nb B Q cs G R w0 w hG hO h3 h4 h15 h16 h23 hcl hrs hbs hnb hB hQ
  · rw [if_neg (by omega)] at h23
    rw [decide_eq_false h]
    exact newWriter_off g p bs rs nb B Q cs G R w0 w hG hO h3 h4 h15 h16 h23 hcl hrs hbs hnb hB hQ
/-- What impl.Table gives for pairs in order. -/
def TabOut (bs rs : Nat) (on : Bool) (L : List KV) (R : List Fr) (w0 : World) (e : Ending) (w' : World) : Prop :=
  ∃ (fd key : List UInt8) (A : Option Addr) (c n : Nat) (F : List Fr), (fd = [] ↔ on = false) ∧ fd.length ≤ 18000000 ∧ key.length ≤ 200 ∧ e = .returned (.tuple #[.slice A n c, .bool true]) ∧
    Hid (n = (tTable (tFlush (tCl (tsAt bs rs L L.length)) []) fd key).length) ∧ n ≤ c ∧ c ≤ maxLen ∧ Hid (Rd F w0 A (tTable (tFlush (tCl (tsAt bs rs L L.length)) []) fd key)) ∧ Hid (Own (F ++ R) w0 w')
def TabBad (R : List Fr) (w0 : World) (e : Ending) (w' : World) : Prop := e = .returned (.tuple #[.slice none 0 0, .bool false]) ∧ Own R w0 w'
def TabRes (bs rs : Nat) (on : Bool) (L : List KV) (R : List Fr) (w0 : World) (e : Ending) (w' : World) : Prop :=
  (ordB L = true ∧ TabOut bs rs on L R w0 e w') ∨ (ordB L = false ∧ TabBad R w0 e w')
set_option maxHeartbeats 6400000 in
set_option maxRecDepth 100000 in
theorem implTable (A : Option Addr) (c bs rs nb : Nat) (fb : Int) (l : List Pr) (R : List Fr) (w0 w : World) (hp : St R w0 fun w => Prs w A l) (hO : Own R w0 w) (hbs : 0 < bs) (hbs2 : bs ≤ 1000000) (hrs : 0 < rs) (hrs2 : rs ≤ 1000) (hnb : nb ≤ 20) (hw : kvw (kvs l) ≤ 1048576) (h0 : 0 < l.length) :
    Calls Tryd.prog 19 #[.slice A l.length c, .agg #[.int .i64 bs, .int .i64 rs, .int .i64 nb, .int .i64 fb]] w (TabRes bs rs (decide (0 < nb)) (kvs l) R w0) := by
  have hll : l.length ≤ 1048576 := by have := kvw_len (kvs l); rw [kvs_length] at this; omega
  have HP := hid hp
  have HW := hid hw
  obtain ⟨q, hq⟩ : ∃ q, w.heap.size = q := ⟨_, rfl⟩
  have hO1 := hO.skip (.cells #[.int .i64 bs, .int .i64 rs, .int .i64 nb, .int .i64 fb] 32)
  have hO2 := hO1.alloc' (g := q + 1) (by simp [hq]) 88 [.slice none 0 0, .int .i64 0, .int .i8 0]
  have HO2 := hid hO2
  clear hO hO1 hO2 hp hw
  go_enter Tryd.func19, Tryd.ntmps19
  go_wp2_with fail
  generalize World.alloc (World.alloc w _) _ = W at HO2 ⊢
  refine (implOptions bs rs nb fb _ w0 _ HO2.out).mono ?_
  rintro e w1 ⟨p, cs, rfl, h3, h4, h15, h16, h23, hcl, hO3⟩
  have HO3 := hid hO3
  have HQ := hid (show _ ∧ _ ∧ _ ∧ _ ∧ _ ∧ _ from ⟨h3, h4, h15, h16, h23, hcl⟩)
  clear hO3 h3 h4 h15 h16 h23 hcl HO2
  go_wp2_with fail
  obtain ⟨h3, h4, h15, h16, h23, hcl⟩ := HQ.out
  refine (newWriter_any (q + 1) p bs rs nb (13 * 0) 1000000 cs [fw (q + 1) 88 [.slice none 0 0, .int .i64 0, .int .i8 0]] R w0 _ ⟨none, 0, _, [], .inl ⟨rfl, rfl, rfl, rfl, rfl⟩, rfl⟩ HO3.out h3 h4 h15 h16 h23 hcl hrs hbs hnb (by omega) (by omega)).mono ?_
  rintro e w2 ⟨wp, F, rfl, hWS, hO4⟩
  have HWS := hid hWS
  have HO4 := hid hO4
  clear h3 h4 h15 h16 h23 hcl hWS hO4 HO3 HQ
  obtain ⟨on, hon⟩ : ∃ on, decide (0 < nb) = on := ⟨_, rfl⟩
  rw [hon] at HWS
  have HON := hid hon
  clear hon
  obtain ⟨g, hg⟩ : ∃ g, q + 1 = g := ⟨_, rfl⟩
  rw [hg] at HWS ⊢
  clear hg
  go_wp2_with fail
  go_loopw [16] (fun i wr => ∃ (k : Nat) (F : List Fr), i = .int .i64 k ∧ k ≤ l.length ∧ Hid (∀ j, j + 1 < k → cmpI (key (kvs l) j) (key (kvs l) (j + 1)) < 0) ∧ Hid (WS wp bs rs g on nb (13 * k) 1000000 .nilIface (tsAt bs rs (kvs l) k) F) ∧ Hid (Own (F ++ R) w0 wr)) (fun i _ => l.length - (intOf i).toNat)
  case atStart => exact ⟨0, F, rfl, Nat.zero_le _, hid (fun j hj => by omega), HWS, HO4⟩
  case round =>
    obtain ⟨k, F5, rfl, hk, HORD, HW5, HO5⟩ := hrel
    clear HWS HO4
    by_cases h4 : k < l.length
    · have h4' : (k : Int) < (l.length : Int) := by omega
      have hx : l[k]? = some l[k] := List.getElem?_eq_getElem h4
      have hmem : l[k] ∈ l := List.getElem_mem h4
      have hps := HO5.out.st HP.out (by intro x hx; simp [hx])
      have kx := key_kvs hx
      have vx := val_kvs hx
      have hkw := kvw_key (kvs l) k
      rw [kx, vx] at hkw
      have hWl := HW.out
      have hkl : k + 1 ≤ (kvs l).length := by rw [kvs_length]; omega
      generalize l[k] = r at hx hmem kx vx hkw
      have KX := hid kx
      have VX := hid vx
      have HMEM := hid hmem
      obtain ⟨ga, o, rfl, p0, p1⟩ := hps.at_ hx
      have hok := hps.ok r hmem
      have hkc := hok.hkc
      have hvc := hok.hvc
      obtain ⟨pb, hpb⟩ : ∃ pb, wr.heap.size = pb := ⟨_, rfl⟩
      have hO6 := HO5.out.alloc' hpb 36 [.slice r.ka r.k.length r.kc, .slice r.va r.v.length r.vc]
      have q0 := hO6.cell 0 rfl (k := 0) 0 rfl (by simp)
      have q1 := hO6.cell 0 rfl (k := 1) 1 rfl (by simp)
      have HRK := hid (show Rd (fw pb 36 [.slice r.ka r.k.length r.kc, .slice r.va r.v.length r.vc] :: R) w0 r.ka r.k from (HP.out.imp fun w h => (h.ok r HMEM.out).hk).cons _)
      have HRV := hid (show Rd (fw pb 36 [.slice r.ka r.k.length r.kc, .slice r.va r.v.length r.vc] :: R) w0 r.va r.v from (HP.out.imp fun w h => (h.ok r HMEM.out).hv).cons _)
      have HO6 := hid (hO6.perm (L' := F5 ++ (fw pb 36 [.slice r.ka r.k.length r.kc, .slice r.va r.v.length r.vc] :: R)) (perm_of fun _ _ z => by simp only [List.count_append, List.count_cons, List.cons_append, List.count_nil, List.nil_append, List.append_nil]; omega))
      have HTB := hid (tsAt_tb bs rs (kvs l) hrs HW.out k (by omega))
      have HOF := hid (tsAt_off bs rs (kvs l) hrs HW.out k hkl)
      have HNA := hid (tsAt_nAll bs rs (kvs l) hrs k (by omega))
      have HPV := hid (fun h0 => tsAt_prev bs rs (kvs l) hrs k (by omega) h0)
      clear hps hok hx kx vx hmem hO6
      go_wp2_with fail
      obtain ⟨st, hst⟩ : ∃ st, tsAt bs rs (kvs l) k = st := ⟨_, rfl⟩
      have HST := hid hst
      rw [hst] at HW5 HTB HOF HNA HPV
      clear hst
      by_cases hbad : 0 < k ∧ 0 ≤ bcmp st.prev r.k
      · refine (append_bad wp bs rs g nb (13 * k) 1000000 r.k.length r.kc r.v.length r.vc on st r.k r.ka r.va F5 _ w0 _ HW5.out HO6.out HRK.out rfl (by rw [HNA.out]; exact hbad.1) hbad.2).mono ?_
        rintro e w5 ⟨⟨qe, rfl⟩, hO7⟩
        have HO7 := hid hO7
        have HBAD := hid hbad
        clear hO7 hbad q0 q1 p0 p1
        go_wp2_with fail
        go_ret2
        refine .inr ⟨?_, rfl, HO7.out.drop⟩
        cases hb : ordB (kvs l) with
        | false => rfl
        | true =>
          exfalso
          have hk0 := HBAD.out.1
          have h1 := ordB_iff.1 hb (k - 1) (by rw [kvs_length]; omega)
          have h2 := HBAD.out.2
          rw [HPV.out HBAD.out.1, bcmp_ge, ← KX.out] at h2
          rw [show k - 1 + 1 = k by omega] at h1
          omega
      · have hgood : st.nAll = 0 ∨ bcmp st.prev r.k < 0 := by
          rw [HNA.out]
          omega
        have hof := HOF.out
        rw [KX.out, VX.out] at hof
        refine (append_ok wp bs rs g nb (13 * k) 1000000 r.k.length r.kc r.v.length r.vc on st r.k r.v r.ka r.va F5 _ w0 _ HW5.out HO6.out HTB.out HRK.out HRV.out rfl rfl hkc (by omega) (by omega) hrs hrs2 (by omega) (by omega) hbs2 (by omega) hgood).mono ?_
        rintro e w5 ⟨rfl, F6, hW6, hO7⟩
        have HO7 := hid hO7
        have HW6 := hid hW6
        have HGOOD := hid hgood
        clear hO7 hbad q0 q1 p0 p1 hW6 hof hgood
        go_wp2_with fail
        go_roundw
        case rel =>
          refine ⟨k + 1, F6, by go_num, by omega, hid fun j hj => ?_, hid ?_, hid (HO7.out.perm (L' := fw pb 36 [.slice r.ka r.k.length r.kc, .slice r.va r.v.length r.vc] :: (F6 ++ R)) (perm_of fun _ _ z => by simp only [List.count_append, List.count_cons, List.cons_append, List.count_nil, List.nil_append, List.append_nil]; omega)).drop⟩
          · rcases Nat.lt_or_ge (j + 1) k with h5 | h5
            · exact HORD.out j h5
            · obtain rfl : k = j + 1 := by omega
              have h6 := HGOOD.out
              rw [HNA.out] at h6
              rcases h6 with h6 | h6
              · omega
              · rw [HPV.out (by omega), bcmp_lt, ← KX.out] at h6
                exact h6
          · have h7 := HW6.out
            rw [← HST.out] at h7
            have e1 : tsAt bs rs (kvs l) (k + 1) = tApp bs rs (tsAt bs rs (kvs l) k) r.k r.v := by
              show tApp bs rs (tsAt bs rs (kvs l) k) (key (kvs l) k) (val (kvs l) k) = _
              rw [KX.out, VX.out]
            rw [e1]
            exact h7
        case measure => simp [intOf]; omega
    · have h4' : ¬ (k : Int) < (l.length : Int) := by omega
      have hkl : k = l.length := by omega
      have hord : ordB (kvs l) = true := ordB_iff.2 fun i hi => HORD.out i (by rw [kvs_length] at hi; omega)
      have HOR := hid hord
      rw [hkl] at HW5
      have hdone := tsAt_done bs rs (kvs l) hrs HW.out (by rw [kvs_length]; exact h0)
      rw [kvs_length] at hdone
      obtain ⟨cl, E, hd, hoff⟩ := hdone
      have htb := tsAt_tb bs rs (kvs l) hrs HW.out l.length (by rw [kvs_length]; exact Nat.le_refl _)
      have HD := hid hd
      have HTB := hid htb
      have HOF := hid hoff
      clear hord hd htb hoff h4
      go_wp2_with fail
      have hix : (∀ x ∈ (tFlush (tCl (tsAt bs rs (kvs l) l.length)) []).irst, x < 4294967296) ∧ (tFlush (tCl (tsAt bs rs (kvs l) l.length)) []).idata.length ≤ 536870912 ∧ (tFlush (tCl (tsAt bs rs (kvs l) l.length)) []).irst.length ≤ 536870912 := by
        have hE := HD.out.kvwE
        obtain ⟨r3, r4⟩ := rsts_bound (rs := 1) (L := E) (by omega) E.length (Nat.le_refl _)
        obtain ⟨i1, _, _, _⟩ := bst_le (rs := 1) (ns := []) (c0 := 0) (l := E) (by omega) E.length (Nat.le_refl _)
        rw [List.take_length] at i1
        have hEl := kvw_len E
        rw [HD.out.irst, HD.out.idata]
        exact ⟨fun x hx => by have := r4 x hx; omega, by omega, by omega⟩
      refine (close_any wp bs rs g nb (13 * l.length) 1000000 on _ F5 R w0 _ HW5.out HO5.out HTB.out HD.out.tb hrs hrs2 (by omega) (by omega) (by have := HOF.out; omega) HD.out.z hix).mono ?_
      rintro e w5 ⟨rfl, fd, key, G', hfo, hfl, hkl2, hG, hO7⟩
      have HO7 := hid hO7
      have HG := hid hG
      have HF := hid (show _ ∧ _ ∧ _ from ⟨hfo, hfl, hkl2⟩)
      clear hO7 hG hfo hfl hkl2 hix
      go_wp2_with fail
      obtain ⟨tb, htb⟩ : ∃ tb, tTable (tFlush (tCl (tsAt bs rs (kvs l) l.length)) []) fd key = tb := ⟨_, rfl⟩
      have HT := hid htb
      rw [htb] at HG
      clear htb
      refine (obBytes g tb G' R w0 _ HG.out HO7.out).mono ?_
      rintro e w6 ⟨A6, c6, rfl, hc6, hm6, hr6, hO8⟩
      have HR6 := hid hr6
      have HO8 := hid hO8
      clear hr6 hO8
      go_wp2_with fail
      go_ret2
      obtain ⟨hfo, hfl, hkl2⟩ := HF.out
      refine .inl ⟨HOR.out, fd, key, A6, c6, tb.length, G', by rw [HON.out]; exact hfo, by omega, hkl2, rfl, hid ?_, hc6, hm6, hid ?_, HO8⟩
      · rw [kvs_length, HT.out]
      · rw [kvs_length, HT.out]; exact HR6.out
end Go.Proofs.YtloflmcgbbbnjaaDoor
namespace Go.Proofs.YtloflmcgbbbnjaaDoor
open Go.RowKit Plain
set_option linter.all false

theorem mAt_go {m : List Pr} {key : List UInt8} {k : Nat} {r : Pr} (hk : k ≤ mAt Pr.k m key) (hx : m[k]? = some r) (hc : cmpI r.k key < 0) : k + 1 ≤ mAt Pr.k m key := by
  rcases Nat.lt_or_ge k (mAt Pr.k m key) with h | h
  · exact h
  · obtain rfl : k = mAt Pr.k m key := by omega
    have := mAt_at Pr.k m key r hx; omega
theorem mAt_stop {m : List Pr} {key : List UInt8} {k : Nat} {r : Pr} (hk : k ≤ mAt Pr.k m key) (hx : m[k]? = some r) (hc : ¬ cmpI r.k key < 0) : mAt Pr.k m key = k ∧ mIs Pr.k m key = decide (cmpI r.k key = 0) := by
  have e : mAt Pr.k m key = k := by
    rcases Nat.lt_or_ge k (mAt Pr.k m key) with h | h
    · exact absurd (mAt_below Pr.k m key k r hx h) hc
    · omega
  exact ⟨e, by unfold mIs; rw [e, hx]⟩
theorem mAt_end {m : List Pr} {key : List UInt8} {k : Nat} (hk : k ≤ mAt Pr.k m key) (hl : m.length ≤ k) : mAt Pr.k m key = k ∧ mIs Pr.k m key = false := by
  have h := mAt_le Pr.k m key
  have e : mAt Pr.k m key = k := by omega
  exact ⟨e, by unfold mIs; rw [e, List.getElem?_eq_none hl]⟩
set_option maxHeartbeats 1600000 in
theorem mapAt (A kA : Option Addr) (c kc : Nat) (m : List Pr) (key : List UInt8) (w : World) (hp : Prs w A m) (hk : BsAt w kA key) (hkl : key.length ≤ 140737488351232) (hml : ∀ r ∈ m, r.k.length ≤ 140737488351232) (hl : m.length ≤ 1099511627776) :
    Calls Tryd.prog 25 #[.slice A m.length c, .slice kA key.length kc] w fun e w' => e = .returned (.tuple #[.int .i64 (mAt Pr.k m key), .bool (mIs Pr.k m key)]) ∧ Dr w w' := by
  have HP := hid hp
  have HK := hid hk
  have HM := hid hml
  clear hp hk hml
  go_enter Tryd.func25, Tryd.ntmps25
  go_wp2_with fail
  go_loopw [6] (fun i wr => ∃ k : Nat, i = .int .i64 k ∧ k ≤ m.length ∧ Hid (k ≤ mAt Pr.k m key) ∧ Dr w wr) (fun i _ => m.length - (intOf i).toNat)
  case atStart => exact ⟨0, rfl, Nat.zero_le _, hid (Nat.zero_le _), Dr.refl _⟩
  case round =>
    obtain ⟨k, rfl, hkl2, HKA, hdr⟩ := hrel
    by_cases h1 : k < m.length
    · have hx : m[k]? = some m[k] := List.getElem?_eq_getElem h1
      have hmem := List.getElem_mem h1
      generalize m[k] = r at hx hmem
      have t1 : decide ((k : Int) < (m.length : Int)) = true := decide_eq_true (by omega)
      have hp' := HP.out.keep0 hdr.only
      obtain ⟨g, o, rfl, p0, p1⟩ := hp'.at_ hx
      have hrk := (hp'.ok r hmem).hk
      have hkr := HK.out.dr hdr
      have hrl := HM.out r hmem
      have HD := hid hdr
      have HX := hid hx
      clear hdr hx hmem hp' p1
      by_cases hc : cmpI r.k key < 0
      · have HC := hid hc
        have t2 : decide (cmpI r.k key < 0) = true := decide_eq_true hc
        go_wp2_with fail
        refine (compare_any _ _ _ _ _ _ _ hrk hkr hrl hkl).mono ?_
        rintro e w2 ⟨rfl, hd2⟩
        have HD2 := hid (HD.out.trans hd2)
        clear hd2 hrk hkr p0
        go_wp2_with fail
        go_roundw
        case rel => exact ⟨k + 1, by go_num, by omega, hid (mAt_go HKA.out HX.out HC.out), HD2.out⟩
        case measure => simp [intOf]; omega
      · have hst := mAt_stop HKA.out HX.out hc
        have HST := hid hst
        have t2 : decide (cmpI r.k key < 0) = false := decide_eq_false hc
        clear hst
        go_wp2_with fail
        refine (compare_any _ _ _ _ _ _ _ hrk hkr hrl hkl).mono ?_
        rintro e w2 ⟨rfl, hd2⟩
        have p0' := (hd2.only.cell (p := ⟨g, o + k * 2, none⟩) (cell_lt p0) (by simp)).trans p0
        have hrk2 := hrk.dr hd2
        have hkr2 := hkr.dr hd2
        have HD2 := hid (HD.out.trans hd2)
        clear hd2 hrk hkr p0
        go_wp2_with fail
        refine (compare_any _ _ _ _ _ _ _ hrk2 hkr2 hrl hkl).mono ?_
        rintro e w3 ⟨rfl, hd3⟩
        have HD3 := hid (HD2.out.trans hd3)
        clear hd3 hrk2 hkr2 p0'
        go_wp2_with fail
        go_ret2
        refine ⟨?_, HD3.out⟩
        rw [HST.out.1, HST.out.2]
        simp
        rw [Bool.eq_iff_iff]; simp
    · have hst := mAt_end HKA.out (by omega)
      have HST := hid hst
      have t1 : decide ((k : Int) < (m.length : Int)) = false := decide_eq_false (by omega)
      have HD := hid hdr
      clear hst hdr
      go_wp2_with fail
      go_ret2
      refine ⟨?_, HD.out⟩
      rw [HST.out.1, HST.out.2]
      rfl
end Go.Proofs.YtloflmcgbbbnjaaDoor
namespace Go.Proofs.YtloflmcgbbbnjaaDoor
open Go.RowKit Plain
set_option linter.all false

theorem Own.cellE {L : List Fr} {w0 w : World} {x : Fr} (h : Own L w0 w) (n : Nat) (hn : L[n]? = some x) {k : Nat} (i : Nat) (hk : k = x.off + i) (hi : i < x.cs.length) : ∃ v, w.cell? ⟨x.g, k, none⟩ = some v :=
  ⟨_, (h.cell n hn i hk hi).trans (List.getElem?_eq_getElem hi)⟩
section
variable {P : Program} {ops : Array Oper} {o : Oper} {a : Act} {w0 w : World} {R : List Fr} {K : Act → World → Prop} {Q : Exit → Act → World → Prop} {E : Prop}
theorem run_copy_rows (w : World) (dT sT ty elem : TypeId) (S g o dLen dCap : Nat) (a : Addr) (sLen sCap : Nat) (cur : Array Value) (t : TypeId) (cs : List Value)
    (hu : P.underlying dT = some (.slice elem)) (hs : (P.info? elem).map (·.size) = some S)
    (hg : w.heap[g]? = some (.cells cur t (0, 0))) (hn : cs.length = Nat.min sLen dLen * S)
    (hsrc : ∀ j v, cs[j]? = some v → w.cell? (a.add j) = some v) (hfit : o + cs.length ≤ cur.size) (h1 : ∀ v ∈ cs, v.oneCell' = true) :
    (Builtin.copy_ #[dT, sT] ty #[.slice (some ⟨g, o, none⟩) dLen dCap, .slice (some a) sLen sCap]).run P w =
      .ok (goInt (Nat.min sLen dLen)) (w.setRow g (cur.toList.take o ++ cs ++ cur.toList.drop (o + cs.length)).toArray) := by
  have hl := run_loadCells_list (P := P) w a cs hsrc
  have hst := run_storeCells_at P g o t cs 0 cur w hg (by simpa using hfit) h1
  cases hq : P.info? elem with
  | none => simp [hq] at hs
  | some i =>
    have hi : i.size = S := by simpa [hq] using hs
    simp [Builtin.copy_, run_underlying hu, Builtin.lenOf, Builtin.firstCells, sizeOf, typeInfo, hq, hi, ← hn, hl, hst]
theorem run_copy_rows_none (w : World) (dT sT ty elem : TypeId) (S : Nat) (d a : Option Addr) (dLen dCap sLen sCap : Nat) (hu : P.underlying dT = some (.slice elem)) (hs : (P.info? elem).map (·.size) = some S) (hn : Nat.min sLen dLen = 0) :
    (Builtin.copy_ #[dT, sT] ty #[.slice d dLen dCap, .slice a sLen sCap]).run P w = .ok (goInt 0) w := by
  cases hq : P.info? elem with
  | none => simp [hq] at hs
  | some i =>
    have hl : ∀ (x : Addr), (loadCells x 0).run P w = .ok #[] w := fun x => by simpa using run_loadCells_list (P := P) w x [] (by simp)
    cases d <;> cases a <;> simp [Builtin.copy_, run_underlying hu, Builtin.lenOf, Builtin.firstCells, sizeOf, typeInfo, hq, hn, storeCells, hl]
theorem own_step_copyN (hgd : o.guard = none) (d s : Operand) (dT sT : TypeId) (ho : o.op = .call { callee := .builtin .copy, args := #[d, s], argTypes := #[dT, sT] }) (elem : TypeId) (hu : P.underlying dT = some (.slice elem))
    (S : Nat) (hS : 0 < S) (hsz : (P.info? elem).map (·.size) = some S) (dp sp : Option Addr) (dLen dCap sLen sCap : Nat) (hd : a.eval d = .slice dp dLen dCap) (hs : a.eval s = .slice sp sLen sCap)
    (g off t : Nat) (cur : List Value) (hO : Own (fw g t cur :: R) w0 w) (cs : List Value) (hn : cs.length = Nat.min sLen dLen * S) (hpos : 0 < cs.length → dp = some ⟨g, off, none⟩ ∧ CsAt w sp cs)
    (hfit : off + cs.length ≤ cur.length) (h1 : ∀ v ∈ cs, v.oneCell' = true)
    (h : ∀ w', Own (fw g t (splice cur off cs) :: R) w0 w' → K (a.put o.dst (goInt (Nat.min sLen dLen))) w') :
    if Region.wanted o (yielded ops a.tmps) = true then Oper.wp P o a w K Q else E := by
  rw [if_pos (by simp [Region.wanted, hgd])]
  have hb : Blk w g t cur := hO.head.blk
  by_cases h0 : cs.length = 0
  · obtain rfl : cs = [] := List.eq_nil_of_length_eq_zero h0
    have hm : Nat.min sLen dLen = 0 := by
      rcases Nat.eq_zero_or_pos (Nat.min sLen dLen) with h' | h'
      · exact h'
      · have := Nat.mul_pos h' hS; simp at hn; omega
    refine Lib.wp_copy_run w d s dT sT ho _ _ hd hs (run_copy_rows_none (P := P) w dT sT o.type elem S dp sp dLen dCap sLen sCap hu hsz hm) ?_
    have := h w (by simpa [splice] using hO)
    rwa [hm] at this
  · obtain ⟨rfl, hsrc⟩ := hpos (by omega)
    obtain ⟨g', o', rfl, _, hc⟩ := hsrc.addr (by omega)
    refine Lib.wp_copy_run w d s dT sT ho _ _ hd hs (run_copy_rows (P := P) w dT sT o.type elem S g off dLen dCap ⟨g', o', none⟩ sLen sCap cur.toArray t cs hu hsz hb hn (fun j v hj => ?_) (by simpa using hfit) h1) ?_
    · rw [add_none, hc j (List.getElem?_eq_some_iff.1 hj).1, hj]
    · refine h _ (Own.swap (M := [fw g t cur]) (M' := [fw g t (splice cur off cs)]) (R := R) hO (by simp) ?_ ?_ (by simp) (by simp))
      · exact ⟨rfl, rfl, rfl, by simp [World.setRow], fun k _ hk => setRow_other w g k _ (by simpa using hk)⟩
      · have hb' : Blk (w.setRow g (cur.toArray.toList.take off ++ cs ++ cur.toArray.toList.drop (off + cs.length)).toArray) g t (splice cur off cs) := by
          have := setRow_heap w g cur.toArray (cur.toArray.toList.take off ++ cs ++ cur.toArray.toList.drop (off + cs.length)).toArray t _ hb
          simpa [Blk, splice] using this
        simpa using Fr.in_fw hb'
end
end Go.Proofs.YtloflmcgbbbnjaaDoor
