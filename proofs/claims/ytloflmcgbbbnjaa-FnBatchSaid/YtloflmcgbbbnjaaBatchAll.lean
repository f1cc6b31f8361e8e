/-
  impl.Batch: what a batch of calls dumps is its records, one behind the other.
-/
import Derived.Test.YtloflmcgbbbnjaaBatchDel
import Derived.Test.YtloflmcgbbbnjaaBatchPut
import Derived.Test.YtloflmcgbbbnjaaFits2
import Derived.Test.YtloflmcgbbbnjaaStep
namespace Go.Proofs.Ytloflmcgbbbnjaa
open Go.RowKit Plain

def recOf (r : P2) : List UInt8 := if r.del then recDel r.k else recPut r.k r.v
def dump (l : List P2) : List UInt8 := l.flatMap recOf
theorem dump_append (a b : List P2) : dump (a ++ b) = dump a ++ dump b := List.flatMap_append
theorem recOf_le {r : P2} (hk : r.k.length ≤ 2147483648) (hv : r.v.length ≤ 2147483648) : (recOf r).length ≤ 12 * (r.k.length + r.v.length + 1) := by
  have h1 : (uv r.k.length).length ≤ 5 := uv_len5 (by omega)
  have h2 : (uv r.v.length).length ≤ 5 := uv_len5 (by omega)
  unfold recOf
  split
  · simp [recDel]; omega
  · simp [recPut]; omega
theorem recOf_ge (r : P2) : 2 ≤ (recOf r).length := by
  have h1 := uv_pos r.k.length
  unfold recOf
  split
  · simp [recDel]; omega
  · simp [recPut]; omega
theorem dump_le : ∀ {l : List P2}, (∀ r ∈ l, r.k.length ≤ 2147483648 ∧ r.v.length ≤ 2147483648) → (dump l).length ≤ 12 * weight2 l
  | [], _ => by simp [dump]
  | r :: l, h => by
    have h1 := recOf_le (h r (by simp)).1 (h r (by simp)).2
    have h2 := dump_le (l := l) fun r hr => h r (by simp [hr])
    simp only [dump, weight2, List.flatMap_cons, List.length_append, List.map_cons, List.sum_cons] at h2 ⊢
    omega
theorem dump_ge : ∀ (l : List P2), 2 * l.length ≤ (dump l).length
  | [] => by simp
  | r :: l => by
    have h1 := recOf_ge r
    have h2 := dump_ge l
    simp only [dump, List.flatMap_cons, List.length_append, List.length_cons] at h2 ⊢
    omega
theorem dump_take {l : List P2} {k : Nat} (h : k < l.length) : dump (l.take (k + 1)) = dump (l.take k) ++ recOf l[k] := by
  rw [List.take_succ_eq_append_getElem h, dump_append]; simp [dump]
theorem weight2_take (l : List P2) (k : Nat) : weight2 (l.take k) ≤ weight2 l := by
  have : weight2 l = weight2 (l.take k) + weight2 (l.drop k) := by
    conv => lhs; rw [← List.take_append_drop k l]
    simp only [weight2, List.map_append, List.sum_append]
  omega
theorem weight2_len (l : List P2) : l.length ≤ weight2 l := by
  induction l with
  | nil => simp
  | cons r l ih => simp only [weight2, List.map_cons, List.sum_cons, List.length_cons] at ih ⊢; omega
theorem weight2_mem {l : List P2} {r : P2} (h : r ∈ l) : r.k.length + r.v.length + 1 ≤ weight2 l := by
  induction l with
  | nil => cases h
  | cons x l ih =>
    simp only [weight2, List.map_cons, List.sum_cons] at ih ⊢
    rcases List.mem_cons.1 h with rfl | h
    · omega
    · have := ih h; omega

set_option maxHeartbeats 800000 in
theorem delete_any (b n kc : Nat) (kA : Option Addr) (data k : List UInt8) (w0 w : World) (hB : BatAt w0 w b data n) (ho : Only [] w0 w) (hk : BsAt w0 kA k) (hkc : k.length ≤ kc)
    (h1 : data.length ≤ 549755813888) (h2 : k.length ≤ 2147483648) (h3 : n ≤ 1073741824) :
    Calls Try.prog 19 #[.pointer (some ⟨b, 0, none⟩), .slice kA k.length kc] w fun e w' => e = .returned (.tuple #[]) ∧
      BatAt w0 w' b (data ++ recDel k) (n + 1) ∧ Only [] w0 w' := by
  have H := hid (appendDel_any b n kc kA data k w0 w hB ho hk hkc h1 h2 h3)
  go_enter Try.func19, Try.ntmps19
  go_wp2_with (go_at_call 25; refine H.out.mono ?_; rintro e w1 ⟨rfl, hb1, ho1⟩)
  go_end0
  exact ⟨rfl, hb1, ho1⟩
set_option maxHeartbeats 800000 in
theorem put_any (b n kc vc : Nat) (kA vA : Option Addr) (data k v : List UInt8) (w0 w : World) (hB : BatAt w0 w b data n) (ho : Only [] w0 w) (hk : BsAt w0 kA k) (hv : BsAt w0 vA v)
    (h1 : data.length ≤ 549755813888) (h2 : k.length ≤ 2147483648) (h2v : v.length ≤ 2147483648) (h3 : n ≤ 1073741824) :
    Calls Try.prog 20 #[.pointer (some ⟨b, 0, none⟩), .slice kA k.length kc, .slice vA v.length vc] w fun e w' => e = .returned (.tuple #[]) ∧
      BatAt w0 w' b (data ++ recPut k v) (n + 1) ∧ Only [] w0 w' := by
  have H := hid (appendPut_any b n kc vc kA vA data k v w0 w hB ho hk hv h1 h2 h2v h3)
  go_enter Try.func20, Try.ntmps20
  go_wp2_with (go_at_call 25; refine H.out.mono ?_; rintro e w1 ⟨rfl, hb1, ho1⟩)
  go_end0
  exact ⟨rfl, hb1, ho1⟩
set_option maxHeartbeats 800000 in
theorem dump_any (b n dc : Nat) (dA : Option Addr) (x y : Value) (w : World) (hb : Blk w b 54 [.slice dA n dc, x, y]) :
    Calls Try.prog 21 #[.pointer (some ⟨b, 0, none⟩)] w fun e w' => e = .returned (.slice dA n dc) ∧ w = w' := by
  have c0 : w.cell? ⟨b, 0, none⟩ = some (.slice dA n dc) := hb.cell 0
  go_enter Try.func21, Try.ntmps21
  go_wp2
  go_ret
  exact ⟨rfl, rfl⟩
set_option maxHeartbeats 800000 in
/-- A copy, a row of the call's own. -/
theorem copied_any (A : Option Addr) (n c : Nat) (l : List UInt8) (w : World) (h : BsAt w A l) (hn : n = l.length) (hl : l.length ≤ 140737488355328) :
    Calls Try.prog 13 #[.slice A n c] w fun e w' => ∃ v, e = .returned v ∧ w'.ownsRow 0 5 1 v l.length (bc l) ∧ From w.heap.size v ∧ Only [] w w' := by
  subst hn
  go_enter Try.func13, Try.ntmps13
  go_wp2_with (at_builtin; refine wp_append rfl _ _ _ rfl 5 (.int .u8 0) 1 1 Try.underlying24 Try.info_b rfl (by decide) _ 0 [] rfl (World.ownsRow_made w #[] 0 (Nat.zero_le _) (Nat.zero_le _) rfl) A l.length c (bc l) rfl (by simp [bc_length]) (h.alloc _).cs (bc_one l) (by simp [maxLen]; omega) (by omega) ?_; intro v' w1 hown hgr hnil hat)
  go_ret
  rw [Nat.zero_add, List.nil_append] at hown
  refine ⟨_, rfl, hown, ?_, ?_⟩
  · exact From.next (From.at_ (Nat.le_refl _) _ _ _) (by simp) hat
  · exact ((Only.refl [] w).alloc _).grow0 hgr (From.at_ (Nat.le_refl _) _ _ _)
theorem bat_new (w : World) : BatAt w (w.alloc (.cells #[.slice none 0 0, .slice none 0 0, .int .i64 0] 54)) w.heap.size [] 0 :=
  ⟨Nat.le_refl _, none, 0, none, 0, 0, [], Blk.new w _ _, .inl ⟨rfl, rfl, rfl⟩, by decide, World.ownsRow_nil _ _ _ _, From.none_ _ _ _⟩
theorem BatAt.alloc {w0 w : World} {b n : Nat} {data : List UInt8} (h : BatAt w0 w b data n) (o : Obj) : BatAt w0 (w.alloc o) b data n := by
  obtain ⟨h0, dA, dc, iA, ic, il, xs, h1, h2, h3, h4, h5⟩ := h
  refine ⟨h0, dA, dc, iA, ic, il, xs, h1.alloc _, ?_, h3, h4.alloc _, h5⟩
  rcases h2 with h | ⟨g, cs, r1, r2, r3, r4⟩
  · exact .inl h
  · exact .inr ⟨g, cs, r1, r2, r3.alloc _, r4⟩

set_option maxHeartbeats 1600000 in
theorem batch_any (A : Option Addr) (c : Nat) (l : List P2) (w : World) (h : P2s w A l) (hw : weight2 l ≤ 1073741824) :
    Calls Try.prog 11 #[.slice A l.length c] w fun e w' => ∃ v, e = .returned v ∧ w'.ownsRow 0 5 1 v (dump l).length (bc (dump l)) ∧ From w.heap.size v ∧ Only [] w w' := by
  have hlen := weight2_len l
  have hdl := dump_le (l := l) (fun r hr => by have := weight2_mem hr; omega)
  have hcap : ∀ k, (dump (l.take k)).length ≤ 549755813888 := fun k => by
    have h1 := dump_le (l := l.take k) (fun r hr => by have := weight2_mem (List.mem_of_mem_take hr); omega)
    have h2 := weight2_take l k
    omega
  have HC := hid hcap
  clear hcap
  go_enter Try.func11, Try.ntmps11
  go_wp2
  go_loopw [9] (fun i wr => ∃ k : Nat, i = .int .i64 k ∧ k ≤ l.length ∧ BatAt w wr w.heap.size (dump (l.take k)) k ∧ Only [] w wr) (fun i _ => l.length - (intOf i).toNat)
  case atStart => exact ⟨0, rfl, Nat.zero_le _, by simpa [dump] using bat_new w, (Only.refl _ _).alloc _⟩
  case round =>
    obtain ⟨k, rfl, hk, hb, ho⟩ := hrel
    by_cases h4 : k < l.length
    · have h4' : (k : Int) < (l.length : Int) := by omega
      have hr : l[k]? = some l[k] := List.getElem?_eq_getElem h4
      have hd := dump_take h4
      have hmem : l[k] ∈ l := List.getElem_mem h4
      generalize l[k] = r at hr hd hmem
      have hwm := weight2_mem hmem
      have hok := h.ok r hmem
      obtain ⟨g, o, rfl, c0, c1, c2⟩ := (h.keep0 ho).at_ hr
      have HB := hid (hb.alloc (Obj.cells #[Value.bool r.del, Value.slice r.ka r.k.length r.kc, Value.slice r.va r.v.length r.vc] 35))
      have HO := hid (ho.alloc (Obj.cells #[Value.bool r.del, Value.slice r.ka r.k.length r.kc, Value.slice r.va r.v.length r.vc] 35))
      have HD := hid hd
      clear hb ho hd h
      cases hdel : r.del with
      | true =>
        rw [hdel] at c0 HB HO
        have HR := hid (show recOf r = recDel r.k by simp [recOf, hdel])
        have HCk := hid (delete_any w.heap.size k r.kc r.ka _ r.k w _ HB.out HO.out hok.hk hok.hkc (HC.out k) (by omega) (by omega))
        go_wp2_with (go_at_call 19; refine HCk.out.mono ?_; rintro e w4 ⟨rfl, hb4, ho4⟩; rw [← HR.out, ← HD.out] at hb4)
        exact ⟨⟨k + 1, rfl, h4, hb4, ho4⟩, by simp [intOf]; omega⟩
      | false =>
        rw [hdel] at c0 HB HO
        have HR := hid (show recOf r = recPut r.k r.v by simp [recOf, hdel])
        have HCk := hid (put_any w.heap.size k r.kc r.vc r.ka r.va _ r.k r.v w _ HB.out HO.out hok.hk hok.hv (HC.out k) (by omega) (by omega) (by omega))
        go_wp2_with (go_at_call 20; refine HCk.out.mono ?_; rintro e w4 ⟨rfl, hb4, ho4⟩; rw [← HR.out, ← HD.out] at hb4)
        exact ⟨⟨k + 1, rfl, h4, hb4, ho4⟩, by simp [intOf]; omega⟩
    · have h4' : ¬ (k : Int) < (l.length : Int) := by omega
      rw [List.take_of_length_le (by omega)] at hb
      obtain ⟨h0, dA, dc, iA, ic, il, xs, hb1, hb2, _⟩ := hb
      have HB1 := hid hb1
      have HB2 := hid hb2.bs
      have hs := ho.size
      clear hb1 hb2
      go_wp2_with (first
        | (go_at_call 21; refine (dump_any w.heap.size _ dc dA _ _ _ HB1.out).mono ?_; rintro e w4 ⟨rfl, rfl⟩)
        | (go_at_call 13; refine (copied_any dA _ dc (dump l) _ HB2.out rfl (by omega)).mono ?_; rintro e w5 ⟨v, rfl, hv1, hv2, hv3⟩))
      go_ret
      exact ⟨v, rfl, hv1, fun j hj => by have := hv2 j hj; omega, ho.new hv3⟩
theorem batch_n (A : Option Addr) (n c : Nat) (l : List P2) (w : World) (hn : n = l.length) (h : P2s w A l) (hw : weight2 l ≤ 1073741824) :
    Calls Try.prog 11 #[.slice A n c] w fun e w' => ∃ B d, e = .returned (.slice B (dump l).length d) ∧ BsAt w' B (dump l) ∧ (dump l).length ≤ d ∧ Only [] w w' := by
  subst hn
  refine (batch_any A c l w h hw).mono ?_
  rintro e w1 ⟨v, rfl, hv, _, ho⟩
  obtain ⟨B, d, rfl, hd, hb⟩ := own_bs hv rfl
  exact ⟨B, d, rfl, hb, hd, ho⟩
end Go.Proofs.Ytloflmcgbbbnjaa
