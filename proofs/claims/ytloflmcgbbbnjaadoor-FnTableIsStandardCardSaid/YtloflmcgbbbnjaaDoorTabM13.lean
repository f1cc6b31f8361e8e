/-
  PLAIN: the writer of tables along a list of pairs: what its state is made of.
  PLAIN: the writer of tables along pairs of at most 1 MB: bounds.
  A region that draws its order: a call that leaves the world as it is may be taken first, too.
  laws.options; impl.options.
  opt.Options: what the table writer asks of them.
-/
import Derived.Test.YtloflmcgbbbnjaaDoorTabM11
import Derived.Test.YtloflmcgbbbnjaaDoorTabM12
import Derived.Test.YtloflmcgbbbnjaaDoorTabM4
import Derived.Deep.Quiet
import Derived.Test.YtloflmcgbbbnjaaDoorTabM6
import Derived.Test.YtloflmcgbbbnjaaDoorTabM2
namespace Go.Proofs.YtloflmcgbbbnjaaDoor
open Go.RowKit Plain
set_option linter.all false

theorem key_app {A B : List KV} {j : Nat} (h : j < A.length) : key (A ++ B) j = key A j := by
  unfold key; rw [List.getD_eq_getElem?_getD, List.getD_eq_getElem?_getD, List.getElem?_append_left h]
theorem val_app {A B : List KV} {j : Nat} (h : j < A.length) : val (A ++ B) j = val A j := by
  unfold val; rw [List.getD_eq_getElem?_getD, List.getD_eq_getElem?_getD, List.getElem?_append_left h]
theorem key_appr {A B : List KV} {j : Nat} : key (A ++ B) (A.length + j) = key B j := by
  unfold key; rw [List.getD_eq_getElem?_getD, List.getD_eq_getElem?_getD, List.getElem?_append_right (by omega), Nat.add_sub_cancel_left]
theorem val_appr {A B : List KV} {j : Nat} : val (A ++ B) (A.length + j) = val B j := by
  unfold val; rw [List.getD_eq_getElem?_getD, List.getD_eq_getElem?_getD, List.getElem?_append_right (by omega), Nat.add_sub_cancel_left]
theorem bst_app (rs : Nat) (ns : List Int) (A B : List KV) (c0 : Nat) : ∀ j, j ≤ A.length → bst rs ns (A ++ B) c0 j = bst rs ns A c0 j
  | 0, _ => rfl
  | j + 1, h => by
    simp only [bst]
    rw [bst_app rs ns A B c0 j (by omega), key_app (show j - 1 < A.length by omega), key_app (show j < A.length by omega), val_app (show j < A.length by omega)]
theorem rsts_app (rs : Nat) (A B : List KV) : ∀ j, j ≤ A.length → rsts rs (A ++ B) j = rsts rs A j
  | 0, _ => rfl
  | j + 1, h => by
    simp only [rsts]
    rw [rsts_app rs A B j (by omega), bst_app rs [] A B 0 j (by omega)]
theorem bst_snoc (rs : Nat) (A : List KV) (k v : List UInt8) : (bst rs [] (A ++ [(k, v)]) 0 (A.length + 1)).b = (bst rs [] A 0 A.length).b ++ ent (bwN rs A.length (key A (A.length - 1)) k) k v := by
  rw [bst_nil, bst_app rs [] A _ 0 A.length (Nat.le_refl _)]
  have e1 : key (A ++ [(k, v)]) A.length = k := by simpa [key] using key_appr (A := A) (B := [(k, v)]) (j := 0)
  have e2 : val (A ++ [(k, v)]) A.length = v := by simpa [val] using val_appr (A := A) (B := [(k, v)]) (j := 0)
  rw [e1, e2]
  rcases Nat.eq_zero_or_pos A.length with h | h
  · rw [h]; simp [bwN]
  · rw [key_app (show A.length - 1 < A.length by omega)]
theorem rsts_snoc (rs : Nat) (A : List KV) (k v : List UInt8) : rsts rs (A ++ [(k, v)]) (A.length + 1) = bwR rs A.length (bst rs [] A 0 A.length).b (rsts rs A A.length) := by
  simp only [rsts]
  rw [rsts_app rs A _ A.length (Nat.le_refl _), bst_app rs [] A _ 0 A.length (Nat.le_refl _)]

def wblk (rs : Nat) (b : List KV) : List UInt8 := blockB rs [] b 0
def outs (rs : Nat) (cl : List (List KV)) : List UInt8 := cl.flatMap fun b => wblk rs b ++ trail (wblk rs b)
theorem outs_snoc (rs : Nat) (cl : List (List KV)) (b : List KV) : outs rs (cl ++ [b]) = outs rs cl ++ (wblk rs b ++ trail (wblk rs b)) := by simp [outs]
def lastK (l : List KV) : List UInt8 := key l (l.length - 1)
theorem lastK_app {A B : List KV} (h : B ≠ []) : lastK (A ++ B) = lastK B := by
  unfold lastK
  have := List.length_pos_iff.2 h
  rw [List.length_append, show A.length + B.length - 1 = A.length + (B.length - 1) by omega, key_appr]
theorem lastK_snoc (A : List KV) (k v : List UInt8) : lastK (A ++ [(k, v)]) = k := by rw [lastK_app (by simp)]; rfl
/-- The state of a writer: cl the blocks that are closed, E the index, cur the block at hand. -/
structure TInv (rs : Nat) (s : TS) (cl : List (List KV)) (E cur : List KV) : Prop where
  ne : ∀ b ∈ cl, b ≠ []
  nAll : s.nAll = cl.flatten.length + cur.length
  out : s.out = outs rs cl
  off : s.off = s.out.length
  data : s.data = (bst rs [] cur 0 cur.length).b
  nE : s.nE = cur.length
  rst : s.rst = rsts rs cur cur.length
  idata : s.idata = (bst 1 [] E 0 E.length).b
  nI : s.nI = E.length
  irst : s.irst = rsts 1 E E.length
  iprev : E ≠ [] → s.iprev = lastK E
  iprev0 : E = [] → s.iprev = []
  prev : s.nAll ≠ 0 → s.prev = lastK (cl.flatten ++ cur)
  prev0 : s.nAll = 0 → s.prev = []
  eh : ∀ i, i < E.length → val E i = handle (outs rs (cl.take i)).length (wblk rs (cl.getD i [])).length
  ek : ∀ i, i < E.length → key E i = sepKey (lastK (cl.getD i [])) (key ((cl.drop (i + 1)).flatten ++ cur) 0)
  pend : (cl.length = E.length ∧ s.pL = 0 ∧ (cl = [] ∨ cur ≠ [])) ∨ (cl.length = E.length + 1 ∧ cur = [] ∧ s.pL = (wblk rs (cl.getD E.length [])).length ∧ 0 < s.pL ∧ s.pO = (outs rs (cl.take E.length)).length)
  pO : s.pO ≤ s.off
theorem tinv0 (rs : Nat) : TInv rs ⟨0, 0, 0, 0, 0, 0, [], [], [], [], [], [], []⟩ [] [] [] :=
  ⟨by simp, rfl, rfl, rfl, rfl, rfl, rfl, rfl, rfl, rfl, fun h => absurd rfl h, fun _ => rfl, fun h => absurd rfl h, fun _ => rfl, by simp, by simp, .inl ⟨rfl, rfl, .inl rfl⟩, Nat.le_refl _⟩
theorem blockB_pos (rs : Nat) (L : List KV) : 4 ≤ (blockB rs [] L 0).length := by
  unfold blockB
  have h4 := leB_length
  simp only
  split <;> simp only [List.length_append, h4] <;> omega
/-- Where the index of a table has n entries, one more. -/
theorem idx_snoc (E : List KV) (k v : List UInt8) : (bst 1 [] (E ++ [(k, v)]) 0 (E.length + 1)).b = (bst 1 [] E 0 E.length).b ++ ent 0 k v ∧ rsts 1 (E ++ [(k, v)]) (E.length + 1) = rsts 1 E E.length ++ [(bst 1 [] E 0 E.length).b.length] := by
  rw [bst_snoc, rsts_snoc]
  simp [bwN, bwR, Nat.mod_one]
/-- One more pair. -/
theorem TInv.put {rs : Nat} {s : TS} {cl : List (List KV)} {E cur : List KV} (h : TInv rs s cl E cur) (k v : List UInt8) :
    ∃ E', TInv rs { tPut rs (tFlush s k) k v with nAll := s.nAll + 1 } cl E' (cur ++ [(k, v)]) := by
  have hkey0 : ∀ x, x ≠ [] → ∀ y : List KV, key (x ++ y) 0 = key x 0 := fun x hx y => key_app (List.length_pos_iff.2 hx)
  rcases h.pend with ⟨h1, h2, h3⟩ | ⟨h1, h2, h3, h4, h5⟩
  · have hf : tFlush s k = s := by unfold tFlush; rw [if_pos h2]
    rw [hf]
    have hlk : bwN rs s.nE s.prev k = bwN rs cur.length (key cur (cur.length - 1)) k := by
      rw [h.nE]
      rcases Nat.eq_zero_or_pos cur.length with h0 | h0
      · rw [h0]; simp [bwN]
      · have hc : cur ≠ [] := fun e => by rw [e] at h0; simp at h0
        have hn : s.nAll ≠ 0 := by rw [h.nAll]; omega
        rw [h.prev hn, lastK_app hc]; rfl
    refine ⟨E, ⟨h.ne, by simp only [h.nAll, List.length_append, List.length_singleton]; omega, h.out, h.off, ?_, by simp only [tPut, h.nE, List.length_append, List.length_singleton], ?_, h.idata, h.nI, h.irst, h.iprev, h.iprev0, fun _ => ?_, fun e => by simp at e, h.eh, fun i hi => ?_, .inl ⟨h1, h2, .inr (by simp)⟩, h.pO⟩⟩
    · show s.data ++ ent (bwN rs s.nE s.prev k) k v = _
      rw [List.length_append, List.length_singleton, bst_snoc, h.data, hlk]
    · show bwR rs s.nE s.data s.rst = _
      rw [List.length_append, List.length_singleton, rsts_snoc, h.data, h.nE, h.rst]
    · show k = _
      rw [← List.append_assoc, lastK_snoc]
    · rw [h.ek i hi]
      congr 1
      rw [← List.append_assoc]
      symm
      refine hkey0 _ (fun e => ?_) _
      obtain ⟨e1, e2⟩ := List.append_eq_nil_iff.1 e
      rcases h3 with h3 | h3
      · rw [h3] at h1; simp at h1; omega
      · exact h3 e2
  · subst h2
    have hpl : s.pL ≠ 0 := by omega
    have hcl : cl ≠ [] := fun e => by rw [e] at h1; simp at h1
    obtain ⟨lb, hlb⟩ : ∃ lb, cl.getD E.length [] = lb := ⟨_, rfl⟩
    have hget : cl[E.length]? = some lb := by
      have : E.length < cl.length := by omega
      rw [List.getD_eq_getElem?_getD, List.getElem?_eq_getElem this] at hlb
      rw [List.getElem?_eq_getElem this]; simpa using hlb
    have hlast : cl = cl.take E.length ++ [lb] := by
      conv => lhs; rw [← List.take_append_drop E.length cl]
      congr 1
      rw [List.drop_eq_getElem_cons (by omega)]
      obtain ⟨hx, hy⟩ := List.getElem?_eq_some_iff.1 hget
      rw [hy, List.drop_of_length_le (by omega)]
    have hlbne : lb ≠ [] := h.ne lb (List.mem_of_getElem? hget)
    have hnA : s.nAll ≠ 0 := by
      rw [h.nAll, hlast, List.flatten_append, List.length_append]
      have := List.length_pos_iff.2 hlbne
      simp only [List.flatten_singleton, List.length_nil]; omega
    have hsp : s.prev = lastK lb := by
      rw [h.prev hnA, List.append_nil, hlast, List.flatten_append, List.flatten_singleton, lastK_app hlbne]
    have hf : tFlush s k = { s with nI := s.nI + 1, idata := s.idata ++ ent 0 (sepKey s.prev k) (handle s.pO s.pL), iprev := sepKey s.prev k, irst := s.irst ++ [s.idata.length], prev := [], pO := 0, pL := 0 } := by unfold tFlush; rw [if_neg hpl]
    rw [hf]
    have hnE : s.nE = 0 := h.nE
    have hd : s.data = [] := h.data
    have hr : s.rst = [] := h.rst
    refine ⟨E ++ [(sepKey s.prev k, handle s.pO s.pL)], ⟨h.ne, by simp only [h.nAll, List.length_append, List.length_singleton, List.length_nil], h.out, h.off, ?_, ?_, ?_, ?_, ?_, ?_, fun _ => ?_, fun e => by simp at e, fun _ => ?_, fun e => by simp at e, fun i hi => ?_, fun i hi => ?_, .inl ⟨by simp [h1], rfl, .inr (by simp)⟩, Nat.zero_le _⟩⟩
    · show s.data ++ ent (bwN rs s.nE [] k) k v = _
      rw [hd, hnE]
      have := bst_snoc rs [] k v
      simp only [List.nil_append, List.length_nil, Nat.zero_add] at this
      simp only [List.nil_append, List.length_singleton, this]
      simp [bst, bwN]
    · show s.nE + 1 = _
      rw [hnE]; rfl
    · show bwR rs s.nE s.data s.rst = _
      rw [hd, hnE, hr]
      have := rsts_snoc rs [] k v
      simp only [List.nil_append, List.length_nil, Nat.zero_add] at this
      simp only [List.nil_append, List.length_singleton, this]
      rfl
    · show s.idata ++ _ = _
      rw [List.length_append, List.length_singleton, (idx_snoc E _ _).1, h.idata]
    · show s.nI + 1 = _
      rw [h.nI]; simp
    · show s.irst ++ _ = _
      rw [List.length_append, List.length_singleton, (idx_snoc E _ _).2, h.irst, h.idata]
    · exact (lastK_snoc _ _ _).symm
    · show k = _
      rw [List.nil_append, lastK_snoc]
    · rw [List.length_append, List.length_singleton] at hi
      rcases Nat.lt_or_ge i E.length with hlt | hge
      · rw [val_app hlt, h.eh i hlt]
      · obtain rfl : i = E.length := by omega
        have := val_appr (A := E) (B := [(sepKey s.prev k, handle s.pO s.pL)]) (j := 0)
        rw [Nat.add_zero] at this
        rw [this, h3, h5]; rfl
    · rw [List.length_append, List.length_singleton] at hi
      rw [List.nil_append]
      rcases Nat.lt_or_ge i E.length with hlt | hge
      · rw [key_app hlt, h.ek i hlt, List.append_nil]
        congr 1
        symm
        refine hkey0 _ (fun e => ?_) _
        have hm : lb ∈ cl.drop (i + 1) := by
          rw [hlast, List.drop_append_of_le_length (by rw [List.length_take]; omega)]; simp
        have := List.eq_nil_iff_forall_not_mem.1 e
        obtain ⟨p, hp⟩ := List.exists_mem_of_ne_nil _ hlbne
        exact this p (List.mem_flatten.2 ⟨lb, hm, hp⟩)
      · obtain rfl : i = E.length := by omega
        have := key_appr (A := E) (B := [(sepKey s.prev k, handle s.pO s.pL)]) (j := 0)
        rw [Nat.add_zero] at this
        rw [this, hlb, List.drop_of_length_le (by omega), hsp]
        rfl
theorem tBlk_eq {rs : Nat} {s : TS} {cl : List (List KV)} {E cur : List KV} (h : TInv rs s cl E cur) (hc : cur ≠ []) (hrs : 0 < rs) : tBlk s = wblk rs cur := by
  unfold tBlk wblk
  rw [h.data, h.nE, h.rst]
  exact fin_block (List.length_pos_iff.2 hc) hrs
/-- The block at hand is closed. -/
theorem TInv.fin {rs : Nat} {s : TS} {cl : List (List KV)} {E cur : List KV} (h : TInv rs s cl E cur) (hc : cur ≠ []) (hrs : 0 < rs) : TInv rs (tFin s) (cl ++ [cur]) E [] := by
  have hb := tBlk_eq h hc hrs
  have hp : cl.length = E.length := by
    rcases h.pend with h1 | h1
    · exact h1.1
    · exact absurd h1.2.1 hc
  have hflat : (cl ++ [cur]).flatten = cl.flatten ++ cur := by simp
  have hgl : ∀ i, i < E.length → (cl ++ [cur]).getD i [] = cl.getD i [] := fun i hi => by
    rw [List.getD_eq_getElem?_getD, List.getD_eq_getElem?_getD, List.getElem?_append_left (by omega)]
  refine ⟨fun b hb' => ?_, ?_, ?_, ?_, rfl, rfl, rfl, h.idata, h.nI, h.irst, h.iprev, h.iprev0, fun hn => ?_, fun hn => h.prev0 hn, fun i hi => ?_, fun i hi => ?_, .inr ⟨by simp [hp], rfl, ?_, ?_, ?_⟩, ?_⟩
  · rcases List.mem_append.1 hb' with hb' | hb'
    · exact h.ne b hb'
    · simp at hb'; rw [hb']; exact hc
  · rw [hflat]
    show s.nAll = _
    rw [h.nAll]; simp
  · show s.out ++ (tBlk s ++ trail (tBlk s)) = _
    rw [outs_snoc, h.out, hb]
  · show s.off + (tBlk s).length + 5 = (s.out ++ (tBlk s ++ trail (tBlk s))).length
    rw [List.length_append, List.length_append, trail_length, h.off]; omega
  · rw [hflat, List.append_nil]
    exact h.prev hn
  · rw [List.take_append_of_le_length (by omega), hgl i hi]
    exact h.eh i hi
  · rw [hgl i hi, h.ek i hi]
    congr 2
    rw [List.drop_append_of_le_length (by omega)]
    simp
  · show (tBlk s).length = _
    rw [hb, ← hp]; simp
  · show 0 < (tBlk s).length
    rw [hb]
    have := blockB_pos rs cur
    unfold wblk; omega
  · show s.off = _
    rw [h.off, h.out, ← hp, List.take_left]
  · show s.off ≤ s.off + (tBlk s).length + 5
    omega
theorem TInv.app {rs : Nat} {s : TS} {cl : List (List KV)} {E cur : List KV} (h : TInv rs s cl E cur) (bs : Nat) (hrs : 0 < rs) (k v : List UInt8) :
    ∃ cl' E' cur', TInv rs (tApp bs rs s k v) cl' E' cur' ∧ cl'.flatten ++ cur' = (cl.flatten ++ cur) ++ [(k, v)] := by
  obtain ⟨E', h1⟩ := h.put k v
  unfold tApp tEnd
  split
  · refine ⟨cl ++ [cur ++ [(k, v)]], E', [], h1.fin (by simp) hrs, by simp⟩
  · exact ⟨cl, E', cur ++ [(k, v)], h1, by simp⟩
/-- The writer's state behind the first j pairs. -/
def tsAt (bs rs : Nat) (L : List KV) : Nat → TS
  | 0 => ⟨0, 0, 0, 0, 0, 0, [], [], [], [], [], [], []⟩
  | j + 1 => tApp bs rs (tsAt bs rs L j) (key L j) (val L j)
theorem take_snocKV {L : List KV} {j : Nat} (h : j < L.length) : L.take (j + 1) = L.take j ++ [(key L j, val L j)] := by
  have e : (key L j, val L j) = L[j] := by simp [key, val, List.getD_eq_getElem?_getD, List.getElem?_eq_getElem h]
  rw [e]
  exact List.take_succ_eq_append_getElem h
theorem tsAt_inv (bs rs : Nat) (L : List KV) (hrs : 0 < rs) : ∀ j, j ≤ L.length → ∃ cl E cur, TInv rs (tsAt bs rs L j) cl E cur ∧ cl.flatten ++ cur = L.take j
  | 0, _ => ⟨[], [], [], tinv0 rs, by simp⟩
  | j + 1, hj => by
    obtain ⟨cl, E, cur, h, he⟩ := tsAt_inv bs rs L hrs j (by omega)
    obtain ⟨cl', E', cur', h', he'⟩ := h.app bs hrs (key L j) (val L j)
    exact ⟨cl', E', cur', h', by rw [he', he, take_snocKV (by omega)]⟩
end Go.Proofs.YtloflmcgbbbnjaaDoor
namespace Go.Proofs.YtloflmcgbbbnjaaDoor
open Go.RowKit Plain
set_option linter.all false

theorem kvw_append (a b : List KV) : kvw (a ++ b) = kvw a + kvw b := by simp only [kvw, List.map_append, List.sum_append]
theorem kvw_len (l : List KV) : l.length ≤ kvw l := by
  induction l with
  | nil => simp
  | cons x l ih => simp only [kvw, List.map_cons, List.sum_cons, List.length_cons] at ih ⊢; omega
theorem wblk_le {rs : Nat} {b : List KV} (hb : b ≠ []) (hw : kvw b < 34359738368) : (wblk rs b).length + 5 ≤ 33 * kvw b := by
  obtain ⟨h1, h2, h3, _⟩ := bst_le (rs := rs) (ns := []) (c0 := 0) hw b.length (Nat.le_refl _)
  rw [List.take_length] at h1
  have hl := kvw_len b
  have hp := List.length_pos_iff.2 hb
  have h4 := leB_length
  unfold wblk blockB
  simp only
  split <;> simp only [List.length_append, h4] <;> omega
theorem outs_le {rs : Nat} : ∀ {cl : List (List KV)}, (∀ b ∈ cl, b ≠ []) → kvw cl.flatten < 34359738368 → (outs rs cl).length ≤ 33 * kvw cl.flatten
  | [], _, _ => by simp [outs]
  | b :: cl, hn, hw => by
    rw [List.flatten_cons, kvw_append] at hw ⊢
    have h1 := wblk_le (rs := rs) (hn b (by simp)) (by omega)
    have h2 := outs_le (rs := rs) (fun x hx => hn x (by simp [hx])) (show kvw cl.flatten < 34359738368 by omega)
    have e : outs rs (b :: cl) = (wblk rs b ++ trail (wblk rs b)) ++ outs rs cl := by simp [outs]
    rw [e, List.length_append, List.length_append, trail_length]; omega
theorem lastK_le (l : List KV) : (lastK l).length ≤ kvw l := by have := kvw_key l (l.length - 1); unfold lastK; omega
theorem key_cons (x : KV) (l : List KV) (i : Nat) : key (x :: l) (i + 1) = key l i := by simp [key]
theorem val_cons (x : KV) (l : List KV) (i : Nat) : val (x :: l) (i + 1) = val l i := by simp [val]
theorem kvw_idx : ∀ (E : List KV) (cl : List (List KV)), E.length ≤ cl.length → (∀ i, i < E.length → (key E i).length + (val E i).length + 1 ≤ 22 * kvw (cl.getD i [])) → kvw E ≤ 22 * kvw cl.flatten
  | [], _, _, _ => by simp [kvw]
  | e :: E, [], h, _ => by simp at h
  | e :: E, b :: cl, h, hb => by
    have h0 := hb 0 (by simp)
    have h1 := kvw_idx E cl (by simpa using h) fun i hi => by
      have := hb (i + 1) (by simpa using hi)
      rw [key_cons, val_cons] at this
      simpa using this
    have e1 : kvw (e :: E) = (e.1.length + e.2.length + 1) + kvw E := by simp [kvw]
    rw [List.flatten_cons, kvw_append, e1]
    simp [key, val] at h0
    omega
theorem kvw_getD (cl : List (List KV)) (i : Nat) : kvw (cl.getD i []) ≤ kvw cl.flatten := by
  rw [List.getD_eq_getElem?_getD]
  rcases Nat.lt_or_ge i cl.length with h | h
  · rw [List.getElem?_eq_getElem h, Option.getD_some]
    have e : cl = cl.take i ++ cl[i] :: cl.drop (i + 1) := by rw [← List.drop_eq_getElem_cons h, List.take_append_drop]
    conv => rhs; rw [e]
    rw [List.flatten_append, List.flatten_cons, kvw_append, kvw_append]; omega
  · rw [List.getElem?_eq_none h]; simp [kvw]
theorem handle_le {a b : Nat} (h1 : a < 18446744073709551616) (h2 : b < 18446744073709551616) : (handle a b).length ≤ 20 := by
  have := uv_len10 h1; have := uv_len10 h2
  show (uv a ++ uv b).length ≤ 20
  rw [List.length_append]; omega
theorem kvw_take_flat (cl : List (List KV)) (i : Nat) : kvw (cl.take i).flatten ≤ kvw cl.flatten := by
  have e : cl = cl.take i ++ cl.drop i := (List.take_append_drop i cl).symm
  conv => rhs; rw [e]
  rw [List.flatten_append, kvw_append]; omega
theorem TInv.kvwE {rs : Nat} {s : TS} {cl : List (List KV)} {E cur : List KV} (h : TInv rs s cl E cur) (hw : kvw (cl.flatten ++ cur) ≤ 1048577) : kvw E ≤ 22 * kvw cl.flatten := by
  rw [kvw_append] at hw
  have hlen : E.length ≤ cl.length := by rcases h.pend with h1 | h1 <;> omega
  refine kvw_idx E cl hlen fun i hi => ?_
  have hm : cl.getD i [] ≠ [] := by
    rw [List.getD_eq_getElem?_getD, List.getElem?_eq_getElem (show i < cl.length by omega)]
    exact h.ne _ (List.getElem_mem _)
  have h0 := kvw_len (cl.getD i [])
  have h00 := List.length_pos_iff.2 hm
  have hg := kvw_getD cl i
  rw [h.ek i hi, h.eh i hi]
  have h1 := sepKey_le (lastK (cl.getD i [])) (key ((cl.drop (i + 1)).flatten ++ cur) 0)
  have h2 := lastK_le (cl.getD i [])
  have h3 := outs_le (rs := rs) (cl := cl.take i) (fun b hb => h.ne b (List.mem_of_mem_take hb)) (by have := kvw_take_flat cl i; omega)
  have h4 := kvw_take_flat cl i
  have h5 := wblk_le (rs := rs) hm (by omega)
  have h6 := handle_le (a := (outs rs (cl.take i)).length) (b := (wblk rs (cl.getD i [])).length) (by omega) (by omega)
  omega
/-- Sizes are small. -/
theorem TInv.tb {rs : Nat} {s : TS} {cl : List (List KV)} {E cur : List KV} (h : TInv rs s cl E cur) (hw : kvw (cl.flatten ++ cur) ≤ 1048577) : TB s := by
  have hE := h.kvwE hw
  have hW := hw
  rw [kvw_append] at hw
  have hlen : E.length ≤ cl.length := by rcases h.pend with h1 | h1 <;> omega
  obtain ⟨d1, d2, d3, _⟩ := bst_le (rs := rs) (ns := []) (c0 := 0) (l := cur) (by omega) cur.length (Nat.le_refl _)
  rw [List.take_length] at d1
  obtain ⟨i1, _, _, _⟩ := bst_le (rs := 1) (ns := []) (c0 := 0) (l := E) (by omega) E.length (Nat.le_refl _)
  rw [List.take_length] at i1
  obtain ⟨r1, r2⟩ := rsts_bound (rs := rs) (L := cur) (by omega) cur.length (Nat.le_refl _)
  obtain ⟨r3, r4⟩ := rsts_bound (rs := 1) (L := E) (by omega) E.length (Nat.le_refl _)
  have hcl := kvw_len cur
  have hEl := kvw_len E
  have hfl := kvw_len cl.flatten
  have ho := outs_le (rs := rs) h.ne (by omega)
  have hpv : s.prev.length ≤ 1048577 := by
    by_cases hn : s.nAll = 0
    · rw [h.prev0 hn]; simp
    · rw [h.prev hn]; have := lastK_le (cl.flatten ++ cur); omega
  have hip : s.iprev.length ≤ 1073741824 := by
    by_cases hn : E = []
    · rw [h.iprev0 hn]; simp
    · rw [h.iprev hn]; have := lastK_le E; omega
  have hoff := h.off
  have hout := h.out
  have hpo := h.pO
  rw [hout] at hoff
  have hpl : s.pL ≤ 1073741824 := by
    rcases h.pend with h1 | h1
    · omega
    · have hm : cl.getD E.length [] ≠ [] := by
        rw [List.getD_eq_getElem?_getD, List.getElem?_eq_getElem (show E.length < cl.length by omega)]
        exact h.ne _ (List.getElem_mem _)
      have hg := kvw_getD cl E.length
      have := wblk_le (rs := rs) hm (by omega)
      rw [h1.2.2.1]; omega
  exact { data := by rw [h.data]; omega
          prev := by omega
          idata := by rw [h.idata]; omega
          iprev := hip
          out := by rw [hout]; omega
          off := by omega
          nE := by rw [h.nE]; omega
          nI := by rw [h.nI]; omega
          nAll := by rw [h.nAll]; omega
          rst := by rw [h.rst]; omega
          irst := by rw [h.irst]; omega
          pO := by omega
          pL := hpl
          rx := fun x hx => by rw [h.rst] at hx; have := r2 x hx; omega }
theorem TInv.off_le {rs : Nat} {s : TS} {cl : List (List KV)} {E cur : List KV} (h : TInv rs s cl E cur) (hw : kvw (cl.flatten ++ cur) ≤ 1048577) (hc : cur ≠ []) : s.off + (wblk rs cur).length + 5 ≤ 34700000 := by
  rw [kvw_append] at hw
  have h1 := outs_le (rs := rs) h.ne (by omega)
  have h2 := wblk_le (rs := rs) hc (by omega)
  rw [h.off, h.out]; omega
theorem tsAt_tb (bs rs : Nat) (L : List KV) (hrs : 0 < rs) (hw : kvw L ≤ 1048576) (j : Nat) (hj : j ≤ L.length) : TB (tsAt bs rs L j) := by
  obtain ⟨cl, E, cur, h, he⟩ := tsAt_inv bs rs L hrs j hj
  exact h.tb (by rw [he]; have := kvw_take L j; omega)
theorem tsAt_nAll (bs rs : Nat) (L : List KV) (hrs : 0 < rs) (j : Nat) (hj : j ≤ L.length) : (tsAt bs rs L j).nAll = j := by
  obtain ⟨cl, E, cur, h, he⟩ := tsAt_inv bs rs L hrs j hj
  rw [h.nAll, ← List.length_append, he, List.length_take]; omega
theorem tsAt_prev (bs rs : Nat) (L : List KV) (hrs : 0 < rs) (j : Nat) (hj : j ≤ L.length) (h0 : 0 < j) : (tsAt bs rs L j).prev = key L (j - 1) := by
  obtain ⟨cl, E, cur, h, he⟩ := tsAt_inv bs rs L hrs j hj
  have hn := tsAt_nAll bs rs L hrs j hj
  rw [h.prev (by omega), he]
  unfold lastK
  rw [List.length_take, Nat.min_eq_left hj]
  have e : L = L.take j ++ L.drop j := (List.take_append_drop j L).symm
  conv => rhs; rw [e]
  rw [key_app (by rw [List.length_take]; omega)]
/-- What Append asks of the offset. -/
theorem tsAt_off (bs rs : Nat) (L : List KV) (hrs : 0 < rs) (hw : kvw L ≤ 1048576) (j : Nat) (hj : j < L.length) :
    (tsAt bs rs L j).off + (tBlk (tPut rs (tFlush (tsAt bs rs L j) (key L j)) (key L j) (val L j))).length + 5 ≤ 34700000 := by
  obtain ⟨cl, E, cur, h, he⟩ := tsAt_inv bs rs L hrs j (by omega)
  obtain ⟨E', h1⟩ := h.put (key L j) (val L j)
  have hw1 : kvw (cl.flatten ++ (cur ++ [(key L j, val L j)])) ≤ 1048576 := by
    rw [← List.append_assoc, he, ← take_snocKV hj]; have := kvw_take L (j + 1); omega
  have h2 := h1.off_le (by omega) (by simp)
  have h3 := tBlk_eq h1 (by simp) hrs
  have h4 : tBlk (tPut rs (tFlush (tsAt bs rs L j) (key L j)) (key L j) (val L j)) = wblk rs (cur ++ [(key L j, val L j)]) := h3
  rw [h4]
  have h5 : (tPut rs (tFlush (tsAt bs rs L j) (key L j)) (key L j) (val L j)).off = (tsAt bs rs L j).off := (tFlush_same _ _).2.2.2.2.1
  rw [← h5]; exact h2
/-- What the index of a table of the blocks cl is. -/
structure TIdx (rs : Nat) (cl : List (List KV)) (E : List KV) : Prop where
  ne : ∀ b ∈ cl, b ≠ []
  len : E.length = cl.length
  eh : ∀ i, i < cl.length → val E i = handle (outs rs (cl.take i)).length (wblk rs (cl.getD i [])).length
  ek : ∀ i, i < cl.length → key E i = sepKey (lastK (cl.getD i [])) (key (cl.drop (i + 1)).flatten 0)
structure TDone (rs : Nat) (L : List KV) (s s1 : TS) (cl : List (List KV)) (E : List KV) : Prop where
  idx : TIdx rs cl E
  flat : cl.flatten = L
  tb : TB s
  z : s.nE = 0 ∧ s.data = [] ∧ s.rst = []
  out : s1.out = outs rs cl
  off : s1.off = (outs rs cl).length
  idata : s1.idata = (bst 1 [] E 0 E.length).b
  nI : s1.nI = E.length
  irst : s1.irst = rsts 1 E E.length
  kvwE : kvw E ≤ 22 * 1048577
  nAll : s1.nAll = L.length
theorem TInv.done {rs : Nat} {s : TS} {cl : List (List KV)} {E : List KV} (h : TInv rs s cl E []) (hw : kvw cl.flatten ≤ 1048576) : ∃ E', TDone rs cl.flatten s (tFlush s []) cl E' := by
  obtain ⟨E', h1⟩ := h.put [] []
  obtain ⟨e1, e2, e3, e4, e5, e6, _⟩ := tFlush_same s []
  have hw1 : kvw (cl.flatten ++ [(([] : List UInt8), ([] : List UInt8))]) ≤ 1048577 := by rw [kvw_append]; simp [kvw] at hw ⊢; omega
  have hlen : E'.length = cl.length := by
    rcases h1.pend with h2 | h2
    · exact h2.1.symm
    · have := h2.2.1; simp at this
  have hout : (tFlush s []).out = outs rs cl := h1.out
  have hoff : (tFlush s []).off = (tFlush s []).out.length := h1.off
  refine ⟨E', ⟨⟨h.ne, hlen, fun i hi => h1.eh i (by omega), fun i hi => ?_⟩, rfl, h.tb (by rw [List.append_nil]; omega), ⟨h.nE, h.data, h.rst⟩, hout, by rw [hoff, hout], h1.idata, h1.nI, h1.irst, ?_, ?_⟩⟩
  · rw [h1.ek i (by omega)]
    congr 1
    rcases Nat.eq_zero_or_pos (cl.drop (i + 1)).flatten.length with h0 | h0
    · rw [List.eq_nil_of_length_eq_zero h0]; rfl
    · rw [List.nil_append, key_app h0]
  · have := h1.kvwE hw1
    rw [kvw_append] at hw1; omega
  · rw [e6, h.nAll]; simp
/-- The end of the table of L. -/
theorem tsAt_done (bs rs : Nat) (L : List KV) (hrs : 0 < rs) (hw : kvw L ≤ 1048576) (h0 : 0 < L.length) :
    ∃ cl E, TDone rs L (tCl (tsAt bs rs L L.length)) (tFlush (tCl (tsAt bs rs L L.length)) []) cl E ∧ (tsAt bs rs L L.length).off + (tBlk (tsAt bs rs L L.length)).length + 5 ≤ 34800000 := by
  obtain ⟨cl, E, cur, h, he⟩ := tsAt_inv bs rs L hrs L.length (Nat.le_refl _)
  have hn := tsAt_nAll bs rs L hrs L.length (Nat.le_refl _)
  rw [List.take_length] at he
  generalize tsAt bs rs L L.length = s at h hn
  by_cases hc : cur = []
  · subst hc
    have ht : tCl s = s := by
      unfold tCl
      rw [if_neg]
      rintro (h1 | h1)
      · rw [h.nE] at h1; simp at h1
      · omega
    rw [ht]
    rw [List.append_nil] at he
    obtain ⟨E', hd⟩ := h.done (by rw [he]; exact hw)
    rw [he] at hd
    refine ⟨cl, E', hd, ?_⟩
    have hb : (tBlk s).length ≤ 8 := by
      unfold tBlk
      rw [h.data, h.nE, h.rst]
      simp [bst, rsts, finR, le4s_length]
    have ho := outs_le (rs := rs) h.ne (by rw [he]; omega)
    rw [h.off, h.out]
    rw [he] at ho
    omega
  · have ht : tCl s = tFin s := by
      unfold tCl
      rw [if_pos]
      left; rw [h.nE]; exact List.length_pos_iff.2 hc
    rw [ht]
    have h1 := h.fin hc hrs
    have he1 : (cl ++ [cur]).flatten = L := by simpa using he
    obtain ⟨E', hd⟩ := h1.done (by rw [he1]; exact hw)
    rw [he1] at hd
    refine ⟨cl ++ [cur], E', hd, ?_⟩
    have := h.off_le (by rw [he]; omega) hc
    rw [tBlk_eq h hc hrs]; omega
end Go.Proofs.YtloflmcgbbbnjaaDoor
namespace Go.Proofs.YtloflmcgbbbnjaaDoor
open Go Go.RowKit
set_option linter.all false

section
variable {P : Program} {md : Region.Mode} {ops : Array Oper} {Q : Exit → Act → World → Prop} {S : World → Prop} {T : List Nat}
/-- In state 'a', in every world that meets S, operation 'o' leaves 'v' in its temporary and the world as it is. -/
def YieldsC (P : Program) (ops : Array Oper) (S : World → Prop) (o : Oper) (v : Value) (a : Act) : Prop :=
  (Region.wanted o (yielded ops a.tmps) = true ∧ ∀ w, S w → o.quietAt P a (fun w' => w = w') w v) ∨ (Region.wanted o (yielded ops a.tmps) = false ∧ v = undef)
theorem YieldsC.wpOp {i : Nat} {o : Oper} {v : Value} {a : Act} (hi : ops[i]? = some o) (hy : YieldsC P ops S o v a)
    {K : Act → World → Prop} {w : World} (hS : S w) (h : K (a.put o.dst v) w) : wpOp P ops Q i K a w := by
  unfold Go.wpOp
  simp only [hi]
  rcases hy with ⟨hw, hv⟩ | ⟨hw, rfl⟩
  · simp only [hw, if_true]
    have h3 := hv w hS
    unfold Oper.quietAt at h3
    refine .inl ?_
    unfold Oper.wp
    generalize (execOp a.eval o).run P w = r at *
    cases r with
    | ok n w' =>
      cases n <;> simp only [Oper.quietUpon] at h3 <;> simp only [Oper.upon]
      case value u => obtain ⟨e1, e2⟩ := h3; rw [e1, e2]; exact h
      case skip => obtain ⟨e1, e2⟩ := h3; rw [e1, ← e2]; exact h
      case enter f args =>
        obtain ⟨e1, hc⟩ := h3
        rw [e1]
        exact hc.mono fun e w'' ⟨he, hw''⟩ => by subst he; subst hw''; exact h
    | halt x w' => simp only [Oper.quietUpon] at h3
  · simp only [hw, Bool.false_eq_true, if_false]; exact h
theorem YieldsC.of_same {o : Oper} {v : Value} {a a' : Act} (hy : YieldsC P ops S o v a) (he : execOp a'.eval o = execOp a.eval o)
    (hw : Region.wanted o (yielded ops a'.tmps) = Region.wanted o (yielded ops a.tmps)) : YieldsC P ops S o v a' := by
  unfold YieldsC Oper.quietAt at *
  rw [he, hw]
  exact hy
theorem wpOp_putC {j : Nat} {oi oj : Oper} {v : Value} (hj : ops[j]? = some oj) (hap : oi.apart ops oj = true)
    (hsi : ∀ cs b, oi.op ≠ .select cs b) (hsj : ∀ cs b, oj.op ≠ .select cs b)
    (hQ : ∀ c a w, Q (.panic c) (a.put oi.dst v) w → Q (.panic c) a w) {K : Act → World → Prop} {a : Act} {w : World}
    (hy : YieldsC P ops S oi v a) (h : wpOp P ops Q j K (a.put oi.dst v) w) :
    wpOp P ops Q j (fun a' w' => YieldsC P ops S oi v a' ∧ K (a'.put oi.dst v) w') a w := by
  obtain ⟨h1, h2, h3⟩ := Oper.apart_spec hap
  have keep : ∀ (a : Act), YieldsC P ops S oi v a → ∀ u, YieldsC P ops S oi v (a.put oj.dst u) := fun a hy u =>
    hy.of_same (execOp_put oi hsi a oj.dst u h3) (wanted_put oi a oj.dst u h3)
  have keepD : ∀ d, YieldsC P ops S oi v { a with defers := d :: a.defers } := fun d => hy.of_same rfl rfl
  unfold wpOp at *
  simp only [hj] at *
  rw [wanted_put oj a oi.dst v h1] at h
  split
  · rename_i hw
    simp only [hw, if_true] at h
    rcases h with h | ⟨hasks, hlets⟩
    case inr => exact .inr ⟨by unfold Oper.asks at *; rw [execOp_put oj hsj a oi.dst v h1] at hasks; exact hasks, hlets⟩
    refine .inl ?_
    unfold Oper.wp at *
    rw [execOp_put oj hsj a oi.dst v h1] at h
    generalize (execOp a.eval oj).run P w = r at *
    cases r with
    | ok n w' =>
      cases n <;> simp only [Oper.upon] at h ⊢
      case value u => exact ⟨keep a hy u, by rw [← Act.put_comm a v u h2]; exact h⟩
      case skip => exact ⟨keep a hy _, by rw [← Act.put_comm a v undef h2]; exact h⟩
      case defer d =>
        refine ⟨keep _ (keepD d) _, ?_⟩
        rw [← Act.put_comm _ v undef h2, ← Act.put_defers]
        exact h
      case enter f args =>
        refine Calls.mono h fun e w'' he => ?_
        cases e with
        | returned u => exact ⟨keep a hy u, by rw [← Act.put_comm a v u h2]; exact he⟩
        | panicked c => exact hQ _ _ _ he
        | outgrown => exact he
      case row row args => exact Rows.mono h fun u w'' he => ⟨keep a hy u, by rw [← Act.put_comm a v u h2]; exact he⟩
    | halt x w' =>
      cases x <;> simp only [Oper.upon] at h ⊢
      case panic u => exact hQ _ _ _ h
  · rename_i hw
    simp only [hw] at h
    exact ⟨keep a hy _, by rw [← Act.put_comm a v undef h2]; exact h⟩
theorem AnyT.firstC {i : Nat} {oi : Oper} {v : Value} (hi : ops[i]? = some oi) (hsel : ∀ (j : Nat) (o : Oper) cs b, ops[j]? = some o → o.op ≠ .select cs b) (hQ : ∀ c a w, Q (.panic c) (a.put oi.dst v) w → Q (.panic c) a w)
    (hT : ∀ j ∈ T, ∀ oj, ops[j]? = some oj → ∃ e ∈ oj.after, Region.binds md e = true ∧ e.on = i) : ∀ (n : Nat) (listed : Array Bool) (a : Act) (w : World),
      (∀ j oj, ops[j]? = some oj → j ≠ i → listed.getD j true = false → (∀ e ∈ oj.after, Region.binds md e = true → e.on ≠ i) → oi.apart ops oj = true) →
      i ∈ Region.ready md ops listed → YieldsC P ops S oi v a → S w → AnyT P md ops Q S T n (listed.setIfInBounds i true) (a.put oi.dst v) w → AnyT P md ops Q S T (n + 1) listed a w := by
  intro n
  induction n with
  | zero =>
    intro listed a w _ hr hy hS H
    refine ⟨fun h => (by rw [h] at hr; cases hr), fun j hj => ?_⟩
    by_cases e : j = i
    · subst e; exact hy.wpOp hi hS ⟨fun _ => hS, H⟩
    · have h := ready_mono hj e
      rw [H.1] at h
      cases h
  | succ n ih =>
    intro listed a w hfree hr hy hS H
    refine ⟨fun h => (by rw [h] at hr; cases hr), fun j hj => ?_⟩
    by_cases e : j = i
    · subst e; exact hy.wpOp hi hS ⟨fun _ => hS, H⟩
    · obtain ⟨hun, oj, hoj, hall⟩ := mem_ready.1 hj
      have hwait : ∀ x ∈ oj.after, Region.binds md x = true → x.on ≠ i := fun x hx hb hon => by
        have a1 := hall x hx hb
        have a2 := (mem_ready.1 hr).1
        rw [hon] at a1
        rcases Nat.lt_or_ge i listed.size with hl | hl
        · simp [hl] at a1 a2; rw [a2] at a1; cases a1
        · simp [Array.getElem?_eq_none hl] at a1
      have hjT : j ∉ T := fun hm => by
        obtain ⟨x, hx, hb, hon⟩ := hT j hm oj hoj
        exact hwait x hx hb hon
      have hstep := wpOp_putC hoj (hfree j oj hoj e hun hwait) (fun cs b => hsel i oi cs b hi) (fun cs b => hsel j oj cs b hoj) hQ hy (H.2 j (ready_mono hj e))
      refine wpOp_mono (fun a' w' h3 => ⟨h3.2.1, ih (listed.setIfInBounds j true) a' w' (fun k ok hk hki hun' hno => hfree k ok hk hki ?_ hno) (ready_mono hr (Ne.symm e)) h3.1 (h3.2.1 hjT) ?_⟩) hstep
      · by_cases hjk : j = k
        · subst hjk; exact hun
        · rw [getD_set_ne true hjk] at hun'; exact hun'
      · rw [Array.setIfInBounds_comm _ _ e]
        exact h3.2.2
theorem run_make_own (t e : TypeId) (z : Value) (bytes : Nat) (ht : P.underlying t = some (.slice e)) (hinfo : (P.info? e).map (fun i => (i.zero, i.size, i.bytes)) = some (some z, 1, bytes)) (hz1 : z.cells = #[z]) (kl kc : IntKind)
    (x y : Int) (n m : Nat) (hx : x = (n : Int)) (hy : y = (m : Int)) (hnm : n ≤ m) (hb : bytes * m ≤ 281474976710656) (h63 : m ≤ 9223372036854775807) (w : World) :
    (Instr.makeSlice t (.int kl x) (.int kc y)).run P w = .ok (.slice (some ⟨w.heap.size, 0, none⟩) n m) (w.alloc (.cells (List.replicate m z).toArray e)) := by
  obtain ⟨i, hi, hzz⟩ := Option.map_eq_some_iff.1 hinfo
  simp only [Prod.mk.injEq] at hzz
  obtain ⟨hz, hs, hbt⟩ := hzz
  subst hx; subst hy
  have hbb : (i.bytes : Int) * (m : Int) ≤ 281474976710656 := by
    have h' : ((i.bytes * m : Nat) : Int) ≤ 281474976710656 := by rw [hbt]; omega
    rwa [Int.natCast_mul] at h'
  have hrun := run_make (P := P) w t e i z ht hi hz kl kc n m (by omega) (by omega) hbb (by omega)
  simp only [Int.toNat_natCast, hs, Nat.mul_one, hz1] at hrun
  have hmk : madeCells #[z] m = (List.replicate m z).toArray := Array.ext' (by rw [toList_madeCells_one])
  rw [hrun, hmk]
theorem AnyT.takeC {i : Nat} {oi : Oper} {v : Value} {n : Nat} {listed : Array Bool} {a : Act} {w : World} (hi : ops[i]? = some oi) (hs : Region.noSelect ops = true) (hf : Region.free md ops listed i = true)
    (hr : (Region.ready md ops listed).contains i = true) (hT : waits md ops T i = true) (hQ : ∀ c a w, Q (.panic c) (a.put oi.dst v) w → Q (.panic c) a w) (hy : YieldsC P ops S oi v a) (hS : S w)
    (h : AnyT P md ops Q S T n (listed.setIfInBounds i true) (a.put oi.dst v) w) : AnyT P md ops Q S T (n + 1) listed a w :=
  AnyT.firstC hi (Region.noSelect_spec hs) hQ (waits_spec hT) n listed a w (Region.free_spec hi hf) (by simpa using hr) hy hS h
end
end Go.Proofs.YtloflmcgbbbnjaaDoor
namespace Go.Proofs.YtloflmcgbbbnjaaDoor
open Go.RowKit Plain
set_option linter.all false

set_option maxHeartbeats 1600000 in
theorem lawOptions (a b c d : Int) (w : World) (ha : -9223372036854775808 ≤ a ∧ a ≤ 9223372036854775807) (hb : -9223372036854775808 ≤ b ∧ b ≤ 9223372036854775807) (hc : -9223372036854775808 ≤ c ∧ c ≤ 9223372036854775807) (hd : -9223372036854775808 ≤ d ∧ d ≤ 9223372036854775807) :
    Calls Tryd.prog 20 #[.agg #[.int .i64 a, .int .i64 b, .int .i64 c, .int .i64 d]] w fun e w' => e = .returned (.agg #[.int .i64 (1 + a % 5000), .int .i64 (1 + b % 20), .int .i64 (c % 21), .int .i64 (1 + d % 12)]) ∧ Only [] w w' := by
  obtain ⟨p, hp⟩ : ∃ p, w.heap.size = p := ⟨_, rfl⟩
  have hO1 := (Own.start w).alloc' hp 32 [.int .i64 a, .int .i64 b, .int .i64 c, .int .i64 d]
  have hp2 : (w.alloc (.cells #[.int .i64 a, .int .i64 b, .int .i64 c, .int .i64 d] 32)).heap.size = p + 1 := by simp [hp]
  have hO2 := hO1.alloc' hp2 32 [.int .i64 0, .int .i64 0, .int .i64 0, .int .i64 0]
  have q0 := hO2.cell 1 rfl (k := 0) 0 rfl (by simp)
  have q1 := hO2.cell 1 rfl (k := 1) 1 rfl (by simp)
  have q2 := hO2.cell 1 rfl (k := 2) 2 rfl (by simp)
  have q3 := hO2.cell 1 rfl (k := 3) 3 rfl (by simp)
  have HA := hid ha
  have HB := hid hb
  have HC := hid hc
  have HD := hid hd
  have HO := hid hO2
  have e1 : IntKind.i64.wrap (1 + a % 5000) = 1 + a % 5000 := i64_id (by omega) (by omega)
  have e2 : IntKind.i64.wrap (1 + b % 20) = 1 + b % 20 := i64_id (by omega) (by omega)
  have e3 : IntKind.i64.wrap (1 + d % 12) = 1 + d % 12 := i64_id (by omega) (by omega)
  have H1 := hid e1
  have H2 := hid e2
  have H3 := hid e3
  clear hO1 hO2 ha hb hc hd e1 e2 e3
  go_enter Tryd.func20, Tryd.ntmps20
  go_wp2_with fail
  revert HO q0 q1 q2 q3
  generalize (World.alloc (World.alloc w _) _) = W
  intro q0 q1 q2 q3 HO
  have e1 := H1.out
  have e2 := H2.out
  have e3 := H3.out
  refine AnyT.start (S := fun w' => w'.cell? ⟨p, 0, none⟩ = some (.int .i64 a) ∧ w'.cell? ⟨p, 1, none⟩ = some (.int .i64 b) ∧ w'.cell? ⟨p, 2, none⟩ = some (.int .i64 c) ∧ w'.cell? ⟨p, 3, none⟩ = some (.int .i64 d)) (T := []) (by kernel_rfl) (⟨q0, q1, q2, q3⟩) (fun hHeld => ?_)
  refine AnyT.take (i := 0) (v := ?_) (by simp only [List.getElem?_toArray, List.getElem?_cons_succ, List.getElem?_cons_zero]; rfl) (by kernel_rfl) (by kernel_rfl) (by kernel_rfl) (by kernel_rfl) (by intro _ _ _ h; exact h) (Or.inl ⟨by rfl, fun w hSw => ?_⟩) hHeld ?_
  rotate_left
  · ((try dsimp only at hSw); go_simp; first | done | with_reducible rfl | rfl)
  try simp only [Act.put, List.setIfInBounds_toArray, List.set_cons_zero, List.set_cons_succ]
  refine AnyT.take (i := 1) (v := ?_) (by simp only [List.getElem?_toArray, List.getElem?_cons_succ, List.getElem?_cons_zero]; rfl) (by kernel_rfl) (by kernel_rfl) (by kernel_rfl) (by kernel_rfl) (by intro _ _ _ h; exact h) (Or.inl ⟨by rfl, fun w hSw => ?_⟩) hHeld ?_
  rotate_left
  · ((try dsimp only at hSw); go_simp; first | done | with_reducible rfl | rfl)
  try simp only [Act.put, List.setIfInBounds_toArray, List.set_cons_zero, List.set_cons_succ]
  refine AnyT.takeC (i := 2) (v := .int .i64 (a % 5000)) (by simp only [List.getElem?_toArray, List.getElem?_cons_succ, List.getElem?_cons_zero]; rfl) (by kernel_rfl) (by kernel_rfl) (by kernel_rfl) (by kernel_rfl) (by intro _ _ _ h; exact h) (Or.inl ⟨by rfl, fun w hSw => ?_⟩) hHeld ?_
  · ((try dsimp only at hSw); go_simp; exact below_any a 5000 _ (by omega) (by omega) HA.out)
  try simp only [Act.put, List.setIfInBounds_toArray, List.set_cons_zero, List.set_cons_succ]
  refine AnyT.take (i := 3) (v := ?_) (by simp only [List.getElem?_toArray, List.getElem?_cons_succ, List.getElem?_cons_zero]; rfl) (by kernel_rfl) (by kernel_rfl) (by kernel_rfl) (by kernel_rfl) (by intro _ _ _ h; exact h) (Or.inl ⟨by rfl, fun w hSw => ?_⟩) hHeld ?_
  rotate_left
  · ((try dsimp only at hSw); go_simp; first | done | with_reducible rfl | rfl)
  try simp only [Act.put, List.setIfInBounds_toArray, List.set_cons_zero, List.set_cons_succ]
  refine AnyT.take (i := 4) (v := ?_) (by simp only [List.getElem?_toArray, List.getElem?_cons_succ, List.getElem?_cons_zero]; rfl) (by kernel_rfl) (by kernel_rfl) (by kernel_rfl) (by kernel_rfl) (by intro _ _ _ h; exact h) (Or.inl ⟨by rfl, fun w hSw => ?_⟩) hHeld ?_
  rotate_left
  · ((try dsimp only at hSw); go_simp; first | done | with_reducible rfl | rfl)
  try simp only [Act.put, List.setIfInBounds_toArray, List.set_cons_zero, List.set_cons_succ]
  refine AnyT.take (i := 5) (v := ?_) (by simp only [List.getElem?_toArray, List.getElem?_cons_succ, List.getElem?_cons_zero]; rfl) (by kernel_rfl) (by kernel_rfl) (by kernel_rfl) (by kernel_rfl) (by intro _ _ _ h; exact h) (Or.inl ⟨by rfl, fun w hSw => ?_⟩) hHeld ?_
  rotate_left
  · ((try dsimp only at hSw); go_simp; first | done | with_reducible rfl | rfl)
  try simp only [Act.put, List.setIfInBounds_toArray, List.set_cons_zero, List.set_cons_succ]
  refine AnyT.takeC (i := 6) (v := .int .i64 (b % 20)) (by simp only [List.getElem?_toArray, List.getElem?_cons_succ, List.getElem?_cons_zero]; rfl) (by kernel_rfl) (by kernel_rfl) (by kernel_rfl) (by kernel_rfl) (by intro _ _ _ h; exact h) (Or.inl ⟨by rfl, fun w hSw => ?_⟩) hHeld ?_
  · ((try dsimp only at hSw); go_simp; exact below_any b 20 _ (by omega) (by omega) HB.out)
  try simp only [Act.put, List.setIfInBounds_toArray, List.set_cons_zero, List.set_cons_succ]
  refine AnyT.take (i := 7) (v := ?_) (by simp only [List.getElem?_toArray, List.getElem?_cons_succ, List.getElem?_cons_zero]; rfl) (by kernel_rfl) (by kernel_rfl) (by kernel_rfl) (by kernel_rfl) (by intro _ _ _ h; exact h) (Or.inl ⟨by rfl, fun w hSw => ?_⟩) hHeld ?_
  rotate_left
  · ((try dsimp only at hSw); go_simp; first | done | with_reducible rfl | rfl)
  try simp only [Act.put, List.setIfInBounds_toArray, List.set_cons_zero, List.set_cons_succ]
  refine AnyT.take (i := 8) (v := ?_) (by simp only [List.getElem?_toArray, List.getElem?_cons_succ, List.getElem?_cons_zero]; rfl) (by kernel_rfl) (by kernel_rfl) (by kernel_rfl) (by kernel_rfl) (by intro _ _ _ h; exact h) (Or.inl ⟨by rfl, fun w hSw => ?_⟩) hHeld ?_
  rotate_left
  · ((try dsimp only at hSw); go_simp; first | done | with_reducible rfl | rfl)
  try simp only [Act.put, List.setIfInBounds_toArray, List.set_cons_zero, List.set_cons_succ]
  refine AnyT.take (i := 9) (v := ?_) (by simp only [List.getElem?_toArray, List.getElem?_cons_succ, List.getElem?_cons_zero]; rfl) (by kernel_rfl) (by kernel_rfl) (by kernel_rfl) (by kernel_rfl) (by intro _ _ _ h; exact h) (Or.inl ⟨by rfl, fun w hSw => ?_⟩) hHeld ?_
  rotate_left
  · ((try dsimp only at hSw); go_simp; first | done | with_reducible rfl | rfl)
  try simp only [Act.put, List.setIfInBounds_toArray, List.set_cons_zero, List.set_cons_succ]
  refine AnyT.takeC (i := 10) (v := .int .i64 (c % 21)) (by simp only [List.getElem?_toArray, List.getElem?_cons_succ, List.getElem?_cons_zero]; rfl) (by kernel_rfl) (by kernel_rfl) (by kernel_rfl) (by kernel_rfl) (by intro _ _ _ h; exact h) (Or.inl ⟨by rfl, fun w hSw => ?_⟩) hHeld ?_
  · ((try dsimp only at hSw); go_simp; exact below_any c 21 _ (by omega) (by omega) HC.out)
  try simp only [Act.put, List.setIfInBounds_toArray, List.set_cons_zero, List.set_cons_succ]
  refine AnyT.take (i := 11) (v := ?_) (by simp only [List.getElem?_toArray, List.getElem?_cons_succ, List.getElem?_cons_zero]; rfl) (by kernel_rfl) (by kernel_rfl) (by kernel_rfl) (by kernel_rfl) (by intro _ _ _ h; exact h) (Or.inl ⟨by rfl, fun w hSw => ?_⟩) hHeld ?_
  rotate_left
  · ((try dsimp only at hSw); go_simp; first | done | with_reducible rfl | rfl)
  try simp only [Act.put, List.setIfInBounds_toArray, List.set_cons_zero, List.set_cons_succ]
  refine AnyT.take (i := 12) (v := ?_) (by simp only [List.getElem?_toArray, List.getElem?_cons_succ, List.getElem?_cons_zero]; rfl) (by kernel_rfl) (by kernel_rfl) (by kernel_rfl) (by kernel_rfl) (by intro _ _ _ h; exact h) (Or.inl ⟨by rfl, fun w hSw => ?_⟩) hHeld ?_
  rotate_left
  · ((try dsimp only at hSw); go_simp; first | done | with_reducible rfl | rfl)
  try simp only [Act.put, List.setIfInBounds_toArray, List.set_cons_zero, List.set_cons_succ]
  refine AnyT.takeC (i := 13) (v := .int .i64 (d % 12)) (by simp only [List.getElem?_toArray, List.getElem?_cons_succ, List.getElem?_cons_zero]; rfl) (by kernel_rfl) (by kernel_rfl) (by kernel_rfl) (by kernel_rfl) (by intro _ _ _ h; exact h) (Or.inl ⟨by rfl, fun w hSw => ?_⟩) hHeld ?_
  · ((try dsimp only at hSw); go_simp; exact below_any d 12 _ (by omega) (by omega) HD.out)
  try simp only [Act.put, List.setIfInBounds_toArray, List.set_cons_zero, List.set_cons_succ]
  refine AnyT.take (i := 14) (v := ?_) (by simp only [List.getElem?_toArray, List.getElem?_cons_succ, List.getElem?_cons_zero]; rfl) (by kernel_rfl) (by kernel_rfl) (by kernel_rfl) (by kernel_rfl) (by intro _ _ _ h; exact h) (Or.inl ⟨by rfl, fun w hSw => ?_⟩) hHeld ?_
  rotate_left
  · ((try dsimp only at hSw); go_simp; first | done | with_reducible rfl | rfl)
  try simp only [Act.put, List.setIfInBounds_toArray, List.set_cons_zero, List.set_cons_succ]
  refine AnyT.take (i := 15) (v := ?_) (by simp only [List.getElem?_toArray, List.getElem?_cons_succ, List.getElem?_cons_zero]; rfl) (by kernel_rfl) (by kernel_rfl) (by kernel_rfl) (by kernel_rfl) (by intro _ _ _ h; exact h) (Or.inl ⟨by rfl, fun w hSw => ?_⟩) hHeld ?_
  rotate_left
  · ((try dsimp only at hSw); go_simp; first | done | with_reducible rfl | rfl)
  try simp only [Act.put, List.setIfInBounds_toArray, List.set_cons_zero, List.set_cons_succ]
  refine AnyT.ready (rs := [16]) (by kernel_rfl) (by simp) ?_
  refine AllT.cons (by simp only [List.getElem?_toArray, List.getElem?_cons_succ, List.getElem?_cons_zero]; rfl) (fun K hK => ?_) AllT.nil
  have f0 := fun k => HO.out.frozen 0 rfl k
  have r0 := HO.out.cell 0 rfl (k := 0) 0 rfl (by simp)
  have r1 := HO.out.cell 0 rfl (k := 1) 1 rfl (by simp)
  have r2 := HO.out.cell 0 rfl (k := 2) 2 rfl (by simp)
  have r3 := HO.out.cell 0 rfl (k := 3) 3 rfl (by simp)
  go_simp
  have hO5 := ((((HO.out.set (k := 0) 0 rfl (by simp) (.int .i64 (1 + a % 5000))).set (k := 1) 1 rfl (by simp) (.int .i64 (1 + b % 20))).set (k := 2) 2 rfl (by simp) (.int .i64 (c % 21))).set (k := 3) 3 rfl (by simp) (.int .i64 (1 + d % 12))).drew
  refine hK.out _ _ ?_ (fun hHeld => ?_)
  · exact ⟨hO5.cell 1 rfl (k := 0) 0 rfl (by simp), hO5.cell 1 rfl (k := 1) 1 rfl (by simp), hO5.cell 1 rfl (k := 2) 2 rfl (by simp), hO5.cell 1 rfl (k := 3) 3 rfl (by simp)⟩
  clear hK
  try simp only [Act.put, List.setIfInBounds_toArray, List.set_cons_zero, List.set_cons_succ]
  refine AnyT.done (by kernel_rfl) ?_ _
  go_wp2_with fail
  generalize (World.drew _) = W9 at hO5 ⊢
  have r0 : W9.cell? ⟨p + 1, 0, none⟩ = some (.int .i64 (1 + a % 5000)) := hO5.cell 0 rfl (k := 0) 0 rfl (by simp)
  have r1 : W9.cell? ⟨p + 1, 1, none⟩ = some (.int .i64 (1 + b % 20)) := hO5.cell 0 rfl (k := 1) 1 rfl (by simp)
  have r2 : W9.cell? ⟨p + 1, 2, none⟩ = some (.int .i64 (c % 21)) := hO5.cell 0 rfl (k := 2) 2 rfl (by simp)
  have r3 : W9.cell? ⟨p + 1, 3, none⟩ = some (.int .i64 (1 + d % 12)) := hO5.cell 0 rfl (k := 3) 3 rfl (by simp)
  refine bodyPost_ret (v := .agg #[.int .i64 (1 + a % 5000), .int .i64 (1 + b % 20), .int .i64 (c % 21), .int .i64 (1 + d % 12)]) ?_ rfl ⟨rfl, hO5.only⟩
  simp [results, Tryd.results20, go_sem, r0, r1, r2, r3]
/-- The filter that options ask for. -/
def fltV (bits : Int) : Value := if 0 < bits then .iface 240 (.int .i64 bits) else .nilIface
def OptOut (bs rs bits : Int) (R : List Fr) (w0 : World) (e : Ending) (w' : World) : Prop :=
  ∃ (p : Nat) (cs : List Value), e = .returned (.pointer (some ⟨p, 0, none⟩)) ∧ cs[3]? = some (.int .i64 rs) ∧ cs[4]? = some (.int .i64 bs) ∧ cs[15]? = some .nilIface ∧ cs[16]? = some (.int .u64 1) ∧ cs[23]? = some (fltV bits) ∧ cs.length = 33 ∧
    Own (fw p 168 cs :: R) w0 w'
set_option maxHeartbeats 1600000 in
theorem implOptions (bs rs bits fb : Int) (R : List Fr) (w0 w : World) (hO : Own R w0 w) :
    Calls Tryd.prog 43 #[.agg #[.int .i64 bs, .int .i64 rs, .int .i64 bits, .int .i64 fb]] w (OptOut bs rs bits R w0) := by
  have HO := hid hO
  clear hO
  by_cases hb : 0 < bits
  · have HB := hid hb
    have t1 : decide (bits > 0) = true := decide_eq_true hb
    go_enter Tryd.func43, Tryd.ntmps43
    go_wp2_with fail
    refine (newBloom bits _).mono ?_
    rintro e w1 ⟨rfl, rfl⟩
    go_wp2_with fail
    go_ret
    have hO1 := (HO.out.skip (.cells #[.int .i64 bs, .int .i64 rs, .int .i64 bits, .int .i64 fb] 32)).allocA (g := w.heap.size + 1) (by simp) 168 #[.slice none 0 0, .int .i64 0, .bool false, .int .i64 rs, .int .i64 bs, .int .i64 0, .int .i64 0, .int .i64 0, .int .i64 0, .int .i64 0, .float FloatKind.f64 0, .slice none 0 0, .int .i64 0, .float FloatKind.f64 0, .slice none 0 0, .nilIface, .int .u64 1, .bool false, .bool false, .bool false, .bool false, .bool false, .bool false, .iface 240 (.int .i64 bits), .int .i64 0, .bool false, .bool false, .int .i64 0, .bool false, .int .u64 127, .int .i64 0, .int .i64 0, .int .i64 0]
    have hO2 := ((HO.out.skip (.cells #[.int .i64 bs, .int .i64 rs, .int .i64 bits, .int .i64 fb] 32)).allocA (g := w.heap.size + 1) (by simp) 168 #[.slice none 0 0, .int .i64 0, .bool false, .int .i64 rs, .int .i64 bs, .int .i64 0, .int .i64 0, .int .i64 0, .int .i64 0, .int .i64 0, .float FloatKind.f64 0, .slice none 0 0, .int .i64 0, .float FloatKind.f64 0, .slice none 0 0, .nilIface, .int .u64 1, .bool false, .bool false, .bool false, .bool false, .bool false, .bool false, .nilIface, .int .i64 0, .bool false, .bool false, .int .i64 0, .bool false, .int .u64 127, .int .i64 0, .int .i64 0, .int .i64 0]).set (k := 23) 23 rfl (by simp) (.iface 240 (.int .i64 bits))
    first
      | refine ⟨_, _, rfl, rfl, rfl, rfl, rfl, ?_, rfl, hO1⟩
      | refine ⟨_, _, rfl, rfl, rfl, rfl, rfl, ?_, rfl, hO2⟩
    simp [fltV, HB.out]
  · have HB := hid hb
    have t1 : decide (bits > 0) = false := decide_eq_false hb
    go_enter Tryd.func43, Tryd.ntmps43
    go_wp2_with fail
    go_ret
    have hO1 := (HO.out.skip (.cells #[.int .i64 bs, .int .i64 rs, .int .i64 bits, .int .i64 fb] 32)).allocA (g := w.heap.size + 1) (by simp) 168 #[.slice none 0 0, .int .i64 0, .bool false, .int .i64 rs, .int .i64 bs, .int .i64 0, .int .i64 0, .int .i64 0, .int .i64 0, .int .i64 0, .float FloatKind.f64 0, .slice none 0 0, .int .i64 0, .float FloatKind.f64 0, .slice none 0 0, .nilIface, .int .u64 1, .bool false, .bool false, .bool false, .bool false, .bool false, .bool false, .nilIface, .int .i64 0, .bool false, .bool false, .int .i64 0, .bool false, .int .u64 127, .int .i64 0, .int .i64 0, .int .i64 0]
    refine ⟨_, _, rfl, rfl, rfl, rfl, rfl, ?_, rfl, hO1⟩
    simp [fltV, HB.out]
end Go.Proofs.YtloflmcgbbbnjaaDoor
namespace Go.Proofs.YtloflmcgbbbnjaaDoor
open Go.RowKit Plain
set_option linter.all false

set_option maxHeartbeats 800000 in
theorem getComparer (p : Nat) (w : World) (c15 : w.cell? ⟨p, 15, none⟩ = some .nilIface) :
    Calls Tryd.prog 79 #[.pointer (some ⟨p, 0, none⟩)] w fun e w' => e = .returned (.iface 112 (.agg #[])) ∧ w = w' := by
  go_enter Tryd.func79, Tryd.ntmps79
  go_wp2_with fail
  go_ret
  exact ⟨rfl, rfl⟩
set_option maxHeartbeats 800000 in
theorem getFilter (p : Nat) (fv : Value) (w : World) (c23 : w.cell? ⟨p, 23, none⟩ = some fv) :
    Calls Tryd.prog 80 #[.pointer (some ⟨p, 0, none⟩)] w fun e w' => e = .returned fv ∧ w = w' := by
  go_enter Tryd.func80, Tryd.ntmps80
  go_wp2_with fail
  go_ret
  exact ⟨rfl, rfl⟩
set_option maxHeartbeats 800000 in
theorem getCompression (p : Nat) (w : World) (c16 : w.cell? ⟨p, 16, none⟩ = some (.int .u64 1)) :
    Calls Tryd.prog 81 #[.pointer (some ⟨p, 0, none⟩)] w fun e w' => e = .returned (.int .u64 1) ∧ w = w' := by
  go_enter Tryd.func81, Tryd.ntmps81
  go_wp2_with fail
  go_ret
  exact ⟨rfl, rfl⟩
set_option maxHeartbeats 800000 in
theorem getBlockSize (p n : Nat) (w : World) (h0 : 0 < n) (c4 : w.cell? ⟨p, 4, none⟩ = some (.int .i64 n)) :
    Calls Tryd.prog 82 #[.pointer (some ⟨p, 0, none⟩)] w fun e w' => e = .returned (.int .i64 n) ∧ w = w' := by
  have t1 : ¬ n = 0 := by omega
  have t2 : decide ((n : Int) ≤ 0) = false := decide_eq_false (by omega)
  go_enter Tryd.func82, Tryd.ntmps82
  go_wp2_with fail
  go_ret
  exact ⟨rfl, rfl⟩
set_option maxHeartbeats 800000 in
theorem getRestart (p n : Nat) (w : World) (h0 : 0 < n) (c3 : w.cell? ⟨p, 3, none⟩ = some (.int .i64 n)) :
    Calls Tryd.prog 83 #[.pointer (some ⟨p, 0, none⟩)] w fun e w' => e = .returned (.int .i64 n) ∧ w = w' := by
  have t1 : ¬ n = 0 := by omega
  have t2 : decide ((n : Int) ≤ 0) = false := decide_eq_false (by omega)
  go_enter Tryd.func83, Tryd.ntmps83
  go_wp2_with fail
  go_ret
  exact ⟨rfl, rfl⟩
end Go.Proofs.YtloflmcgbbbnjaaDoor
