/-
  impl.Mem: calls of a memory database.
-/
import Derived.Test.YtloflmcgbbbnjaaDoorMemM20
namespace Go.Proofs.YtloflmcgbbbnjaaDoor
open Go.RowKit Plain
set_option linter.all false

def mAfter (l : List MO) : List KV := l.foldl (fun m o => mStep m o.kind o.k o.v) []
theorem mAfter_snoc (l : List MO) (o : MO) : mAfter (l ++ [o]) = mStep (mAfter l) o.kind o.k o.v := by simp [mAfter]
theorem mStep_len (m : List KV) (kd : Int) (k v : List UInt8) : (mStep m kd k v).length ≤ m.length + 1 := by
  unfold mStep
  split
  · rw [mPut_len]; split <;> omega
  · split
    · unfold mDel
      split
      · rw [List.length_append, List.length_take, List.length_drop]; omega
      · omega
    · split
      · simp
      · omega
theorem szKv_take (m : List KV) (i : Nat) : szKv (m.take i) ≤ szKv m := by
  conv => rhs; rw [← List.take_append_drop i m, szKv_append]
  omega
theorem mStep_sz (m : List KV) (kd : Int) (k v : List UInt8) : szKv (mStep m kd k v) ≤ szKv m + (k.length + v.length) := by
  unfold mStep
  split
  · cases hi : mIs Prod.fst m k with
    | true =>
      have hi' := hi
      unfold mIs at hi'
      cases hg : m[mAt Prod.fst m k]? with
      | none => rw [hg] at hi'; cases hi'
      | some p =>
        rw [hg] at hi'
        have hk : p.1 = k := cmpI_eq.1 (by simpa using hi')
        have := sz_old (es' := m) (key := k) (val := v) (v0 := p.2) hi (by rw [hg, ← hk])
        omega
    | false =>
      have := sz_new (es' := m) (key := k) (val := v) hi
      omega
  · split
    · unfold mDel
      split
      · rw [szKv_append]
        have h1 : szKv m = szKv (m.take (mAt Prod.fst m k)) + szKv (m.drop (mAt Prod.fst m k)) := by rw [← szKv_append, List.take_append_drop]
        have h2 : szKv (m.drop (mAt Prod.fst m k + 1)) ≤ szKv (m.drop (mAt Prod.fst m k)) := by
          have e : m.drop (mAt Prod.fst m k + 1) = (m.drop (mAt Prod.fst m k)).drop 1 := by rw [List.drop_drop]
          rw [e]
          have h3 := szKv_append ((m.drop (mAt Prod.fst m k)).take 1) ((m.drop (mAt Prod.fst m k)).drop 1)
          rw [List.take_append_drop] at h3
          omega
        omega
      · omega
    · split
      · simp [szKv]
      · omega
theorem mAfter_bd (l : List MO) : ∀ k, (mAfter (l.take k)).length ≤ k ∧ szKv (mAfter (l.take k)) ≤ wgm (l.take k)
  | 0 => by simp [mAfter, szKv, wgm]
  | k + 1 => by
    obtain ⟨h1, h2⟩ := mAfter_bd l k
    by_cases hk : k < l.length
    · have e := wgm_take hk
      rw [e, List.take_succ_eq_append_getElem hk, mAfter_snoc]
      have h3 := mStep_len (mAfter (l.take k)) l[k].kind l[k].k l[k].v
      have h4 := mStep_sz (mAfter (l.take k)) l[k].kind l[k].k l[k].v
      omega
    · have e1 : l.take (k + 1) = l := List.take_of_length_le (by omega)
      have e2 : l.take k = l := List.take_of_length_le (by omega)
      rw [e1]
      rw [e2] at h1 h2
      exact ⟨by omega, h2⟩
theorem prs_one {w : World} {g : Nat} {r : Pr} (h : CsAt w (some ⟨g, 0, none⟩) [.slice r.ka r.k.length r.kc, .slice r.va r.v.length r.vc]) (hr : r.Ok w) : Prs w (some ⟨g, 0, none⟩) [r] := ⟨by simpa [Pr.cells] using h, by simpa using hr⟩
def SwOut (g : Nat) (es : List En) (r : MO) (K k qm : Nat) (R : List Fr) (w0 wx : World) : Prop :=
  ∃ (a : MAn) (ln vl : Nat) (es' : List En) (G' : List Fr), Hid (ln = a.l.length ∧ vl = a.vs.length) ∧ Hid (es'.map En.kv = mStep (es.map En.kv) r.kind r.k r.v) ∧ Hid (TellsOk (es.map En.kv) r.kind r.k r.v a.told) ∧ Hid (∀ wb, St G' wb fun w => a.Ok w) ∧
    Hid (DbSt g es' K k (fw qm 58 [.slice a.pA ln a.pc, .slice a.vA vl a.vc, .int .i64 a.n, .bool a.ok] :: (G' ++ R)) w0 wx)
def MemOut (ops : List MO) (M : Nat) (R : List Fr) (w0 : World) (e : Ending) (w' : World) : Prop :=
  ∃ (A : Option Addr) (c : Nat) (ans : List MAn) (Fo G : List Fr), e = .returned (.slice A M c) ∧ Hid (ans.length = M ∧ ∀ i (o : MO) (a : MAn), ops[i]? = some o → ans[i]? = some a → TellsOk (mAfter (ops.take i)) o.kind o.k o.v a.told) ∧ Hid (Row 58 4 A M c (ans.flatMap MAn.cells) Fo) ∧ Hid (∀ a ∈ ans, ∀ wb, St G wb fun w => a.Ok w) ∧ Hid (Own (Fo ++ (G ++ R)) w0 w')
section
variable {P : Program} {ops : Array Oper} {o : Oper} {a : Act} {w0 w : World} {R : List Fr} {Kk : Act → World → Prop} {Q : Exit → Act → World → Prop} {E : Prop}
theorem own_step_store_row (hgd : o.guard = none) (ty : TypeId) (x y : Operand) (ho : o.op = .store ty x y) (g : Nat) (cells : Array Value) (hx : a.eval x = .pointer (some ⟨g, 0, none⟩)) (hy : a.eval y = .agg cells)
    (t : TypeId) (old : List Value) (hO : Own (fw g t old :: R) w0 w) (hi : (P.info? ty).map (·.size) = some cells.size) (hold : old.length = cells.size) (h1 : cells.all (·.oneCell') = true)
    (h : ∀ w', Own (fw g t cells.toList :: R) w0 w' → Kk (a.put o.dst undef) w') : if Region.wanted o (yielded ops a.tmps) = true then Oper.wp P o a w Kk Q else E := by
  rw [if_pos (by simp [Region.wanted, hgd])]
  have hb := hO.head.blk
  refine wp_store_row ty x y ho g cells hx hy t old.toArray hb hi (by simpa using hold) h1 (h _ ?_)
  have hb' : Blk (w.setRow g cells) g t cells.toList := by
    have := setRow_heap w g old.toArray cells t _ hb
    simpa [Blk] using this
  refine Own.swap (M := [fw g t old]) (M' := [fw g t cells.toList]) (R := R) hO (by simp) ?_ (by simpa using Fr.in_fw hb') (by simp) (by simp)
  exact ⟨rfl, rfl, rfl, by simp [World.setRow], fun k _ hk => setRow_other w g k _ (by simpa using hk)⟩
end
theorem Tryd.info_ma : (Tryd.prog.info? 58).map (fun i => (i.zero, i.size, i.bytes)) = some (some (.agg #[.slice none 0 0, .slice none 0 0, .int .i64 0, .bool false]), 4, 64) := by kernel_rfl
set_option maxHeartbeats 51200000 in
set_option maxRecDepth 100000 in
theorem implMem (A : Option Addr) (n c : Nat) (ops : List MO) (R : List Fr) (w0 w : World) (hp : St R w0 fun w => MOs w A ops) (hn : n = ops.length) (hnl : n ≤ 1000) (hw : wgm ops ≤ 1073741824) (hO : Own R w0 w) :
    Calls Tryd.prog 32 #[.slice A n c] w (MemOut ops n R w0) := by
  have HP := hid hp
  have HN := hid hn
  have HW := hid hw
  have hnw := dbNew R w0 w hO
  have HNW := hid hnw
  have hcl : ∀ r ∈ ops, r.k.length ≤ 1073741824 ∧ r.v.length ≤ 1073741824 := fun r hr => by have := wgm_mem hr; omega
  have HCL := hid hcl
  clear hp hn hw hO hnw hcl
  go_enter Tryd.func32, Tryd.ntmps32
  go_wp2_with fail
  refine HNW.out.mono ?_
  rintro e w1 ⟨g, rfl, hst⟩
  have HST := hid hst
  clear hst HNW
  go_wp2_with fail
  go_loopw [4, 18] (fun ov s wr => ∃ (k k' ac KW : Nat) (aA : Option Addr) (ans : List MAn) (es : List En) (Fo G : List Fr), s = .int .i64 k ∧ ov = .slice aA k' ac ∧ k' = k ∧ k ≤ n ∧ KW ≤ 1073741824 ∧ Hid (KW = wgm (ops.take k)) ∧ Hid (ans.length = k ∧ ∀ i (o : MO) (a : MAn), ops[i]? = some o → ans[i]? = some a → TellsOk (mAfter (ops.take i)) o.kind o.k o.v a.told) ∧ Hid (Row 58 4 aA k' ac (ans.flatMap MAn.cells) Fo) ∧ Hid (∀ a ∈ ans, ∀ wb, St G wb fun w => a.Ok w) ∧ Hid (es.map En.kv = mAfter (ops.take k)) ∧ Hid (DbSt g es KW k (Fo ++ (G ++ R)) w0 wr)) (fun _ s _ => n - (intOf s).toNat)
  case atStart => exact ⟨0, 0, 0, 0, none, [], [], [], [], rfl, rfl, rfl, Nat.zero_le _, by omega, hid (by simp [wgm]), hid ⟨rfl, fun i o a _ h => by simp at h⟩, hid (Row.nil _ _), hid (by simp), hid rfl, HST⟩
  case round =>
    clear HST
    obtain ⟨k, k', ac, KW, aA, ans, es, Fo, G, rfl, rfl, rfl, hk, hKb, HK, HA, HR, HSA, HES, HST⟩ := hrel
    obtain ⟨w2, rfl⟩ : ∃ w2, w2 = wr := ⟨_, rfl⟩
    by_cases h4 : k' < n
    · have h4' : (k' : Int) < (n : Int) := by omega
      have hkl : k' < ops.length := by rw [← HN.out]; exact h4
      have hx : ops[k']? = some ops[k'] := List.getElem?_eq_getElem hkl
      have hxm : ops[k'] ∈ ops := List.getElem_mem hkl
      have htk : ops.take (k' + 1) = ops.take k' ++ [ops[k']] := List.take_succ_eq_append_getElem hkl
      have hwt := wgm_take hkl
      have hwl := wgm_take_le ops (k' + 1)
      generalize ops[k'] = r at hx hxm htk hwt
      obtain ⟨g0, o0, rfl, p0, p1, p2, p3⟩ := (HST.out.rest (hp := (HP.out.right G).right Fo)).at_ hx
      have hrk : Rd R w0 r.ka r.k := HP.out.imp fun w hw => (hw.ok r hxm).hk
      have hrv : Rd R w0 r.va r.v := HP.out.imp fun w hw => (hw.ok r hxm).hv
      have hok := (HST.out.rest (hp := (HP.out.right G).right Fo)).ok r hxm
      have HOK := hid (show _ ∧ _ ∧ _ ∧ _ from ⟨hok.hkc, hok.hvc, hok.hkm, hok.hvm⟩)
      have HRD := hid (And.intro hrk hrv)
      have hbd := mAfter_bd ops k'
      rw [← HES.out, ← HK.out, List.length_map] at hbd
      obtain ⟨hel, hsz⟩ := hbd
      have HX := hid (And.intro hx htk)
      have HWT := hid hwt
      have HWL := hid hwl
      have hcl := HCL.out r hxm
      have hK2 : KW + r.k.length + r.v.length ≤ 1073741824 := by
        have := HW.out; have := HK.out; rw [← HK.out] at hwt; omega
      obtain ⟨kn, hkn⟩ : ∃ kn, r.k.length = kn := ⟨_, rfl⟩
      obtain ⟨vn, hvn⟩ : ∃ vn, r.v.length = vn := ⟨_, rfl⟩
      rw [hkn] at p1 hcl hK2
      rw [hvn] at p2 hcl hK2
      have HKN := hid (And.intro hkn.symm hvn.symm)
      obtain ⟨qo, hqo⟩ : ∃ qo, w2.heap.size = qo := ⟨_, rfl⟩
      have hst1 := (HST.out.alloc hqo 67 [.int .i64 r.kind, .slice r.ka kn r.kc, .slice r.va vn r.vc, .int .i64 r.n]).alloc (q := qo + 1) (by simp [hqo]) 58 [.slice none 0 0, .slice none 0 0, .int .i64 0, .bool true]
      have HS1 := hid hst1
      have HQ := hid hqo
      obtain ⟨kd, hkd⟩ : ∃ kd, r.kind = kd := ⟨_, rfl⟩
      rw [hkd] at p0 HS1
      have HKD := hid hkd
      clear hx hxm htk hwt hwl hrk hrv hok hkn hvn hst1 hkd hqo
      go_upto_region 6 with fail
      try rw [HQ.out]
      go_cut [7] (fun v wx => ∃ qm, v = .pointer (some ⟨qm, 0, none⟩) ∧ Hid (DbSt g es KW k' (fw qm 58 [.slice none 0 0, .slice none 0 0, .int .i64 0, .bool true] :: (fw qo 67 [.int .i64 kd, .slice r.ka kn r.kc, .slice r.va vn r.vc, .int .i64 r.n] :: (Fo ++ (G ++ R)))) w0 wx))
      case first =>
        clear p0 p1 p2 p3
        go_wp2_with fail
        go_meet
        exact ⟨qo + 1, by rw [HQ.out], HS1⟩
      case rest =>
      clear HS1 p0 p1 p2 p3
      obtain ⟨qm, rfl, HS1⟩ := hcut
      have HS2 := hid (HS1.out.perm (R' := fw qo 67 [.int .i64 kd, .slice r.ka kn r.kc, .slice r.va vn r.vc, .int .i64 r.n] :: (fw qm 58 [.slice none 0 0, .slice none 0 0, .int .i64 0, .bool true] :: (Fo ++ (G ++ R)))) (.swap _ _ _))
      have o0 := HS2.out.cellR (i := 0) (by simp)
      have o1 := HS2.out.cellR (i := 1) (by simp)
      have o2 := HS2.out.cellR (i := 2) (by simp)
      simp only [List.getElem?_cons_zero, List.getElem?_cons_succ] at o0 o1 o2
      have HRD2 := hid (show Rd (fw qm 58 [.slice none 0 0, .slice none 0 0, .int .i64 0, .bool true] :: fw qo 67 [.int .i64 kd, .slice r.ka kn r.kc, .slice r.va vn r.vc, .int .i64 r.n] :: (Fo ++ (G ++ R))) w0 r.ka r.k ∧ Rd (fw qm 58 [.slice none 0 0, .slice none 0 0, .int .i64 0, .bool true] :: fw qo 67 [.int .i64 kd, .slice r.ka kn r.kc, .slice r.va vn r.vc, .int .i64 r.n] :: (Fo ++ (G ++ R))) w0 r.va r.v from ⟨HRD.out.1.mono fun y hy => by simp [hy], HRD.out.2.mono fun y hy => by simp [hy]⟩)
      clear HS2
      go_step
      go_step
      go_cut [] (fun wx => SwOut g es r (KW + kn + vn) (k' + 1) qm (Fo ++ (G ++ R)) w0 wx)
      case first =>
        by_cases n0 : kd = 0
        · have HZ := hid n0
          have e0 : (kd == 0) = true := by rw [n0]; rfl
          clear n0
          go_wp2_with fail
          refine (stPut HS1.out r.ka r.va kn r.kc vn r.vc r.k r.v HRD2.out.1 HRD2.out.2 HKN.out.1 HKN.out.2 hK2 (by omega) hsz hel).mono ?_
          rintro e w3 ⟨rfl, es', he', hs3⟩
          have HE := hid he'
          have HS3 := hid hs3
          have m3 : w3.cell? ⟨qm, 3, none⟩ = some (.bool true) := hs3.cellR (i := 3) (by simp)
          have f3 := hs3.frozenR 3
          have HS4 := hid (hs3.setR (i := 3) (by simp) (.bool true))
          clear he' hs3 o0 o1 o2 HS1
          go_wp2_with fail
          go_meet
          refine ⟨⟨none, 0, [], none, 0, [], 0, true⟩, 0, 0, es', [fw qo 67 [.int .i64 kd, .slice r.ka kn r.kc, .slice r.va vn r.vc, .int .i64 r.n]], hid ⟨rfl, rfl⟩, hid ?_, hid ?_, hid ?_, hid HS4.out⟩
          · rw [HKD.out, HZ.out, HE.out]; simp [mStep]
          · rw [HKD.out, HZ.out]; exact ⟨(fun _ => (rfl)), fun h => absurd h (by decide), fun h => absurd h (by decide), fun h => absurd h (by decide), fun h => absurd h (by decide), fun h => absurd h (by decide), fun h => absurd h (by decide), fun h => absurd h (by decide), fun h => absurd h (by decide), fun h => absurd h (by decide), fun h => absurd h (by decide)⟩
          · exact fun wb w _ _ => ⟨⟨CsAt.nil _ _, by simp⟩, CsAt.nil _ _⟩
        by_cases n1 : kd = 1
        · have HZ := hid n1
          have e0 : (kd == 0) = false := by rw [n1]; rfl
          have e1 : (kd == 1) = true := by rw [n1]; rfl
          clear n1
          clear n0
          go_wp2_with fail
          refine (stDel HS1.out r.ka kn r.kc r.k HRD2.out.1 HKN.out.1 hKb (by omega) hsz hel).mono ?_
          rintro e w3 ⟨hcase, es', he', hs3⟩
          have HE := hid he'
          have m3 : w3.cell? ⟨qm, 3, none⟩ = some (.bool true) := hs3.cellR (i := 3) (by simp)
          have f3 := hs3.frozenR 3
          have HS3 := hid hs3
          clear he' hs3 o0 o1 o2 HS1
          rcases hcase with ⟨hi, rfl⟩ | ⟨hi, rfl⟩
          · have HI := hid hi
            have HS4 := hid (HS3.out.setR (i := 3) (by simp) (.bool true))
            clear hi
            go_wp2_with fail
            go_meet
            refine ⟨⟨none, 0, [], none, 0, [], 0, true⟩, 0, 0, es', [fw qo 67 [.int .i64 kd, .slice r.ka kn r.kc, .slice r.va vn r.vc, .int .i64 r.n]], hid ⟨rfl, rfl⟩, hid ?_, hid ?_, hid ?_, hid (HS4.out.mono (by omega) (by omega))⟩
            · rw [HKD.out, HZ.out, HE.out]; simp [mStep]
            · rw [HKD.out, HZ.out]; exact ⟨fun h => absurd h (by decide), (fun _ => (by rw [mIs_map, HI.out]; rfl)), fun h => absurd h (by decide), fun h => absurd h (by decide), fun h => absurd h (by decide), fun h => absurd h (by decide), fun h => absurd h (by decide), fun h => absurd h (by decide), fun h => absurd h (by decide), fun h => absurd h (by decide), fun h => absurd h (by decide)⟩
            · exact fun wb w _ _ => ⟨⟨CsAt.nil _ _, by simp⟩, CsAt.nil _ _⟩
          · have HI := hid hi
            have HS4 := hid (HS3.out.setR (i := 3) (by simp) (.bool false))
            clear hi
            go_wp2_with fail
            go_meet
            refine ⟨⟨none, 0, [], none, 0, [], 0, false⟩, 0, 0, es', [fw qo 67 [.int .i64 kd, .slice r.ka kn r.kc, .slice r.va vn r.vc, .int .i64 r.n]], hid ⟨rfl, rfl⟩, hid ?_, hid ?_, hid ?_, hid (HS4.out.mono (by omega) (by omega))⟩
            · rw [HKD.out, HZ.out, HE.out]; simp [mStep]
            · rw [HKD.out, HZ.out]; exact ⟨fun h => absurd h (by decide), (fun _ => (by rw [mIs_map, HI.out]; rfl)), fun h => absurd h (by decide), fun h => absurd h (by decide), fun h => absurd h (by decide), fun h => absurd h (by decide), fun h => absurd h (by decide), fun h => absurd h (by decide), fun h => absurd h (by decide), fun h => absurd h (by decide), fun h => absurd h (by decide)⟩
            · exact fun wb w _ _ => ⟨⟨CsAt.nil _ _, by simp⟩, CsAt.nil _ _⟩
        by_cases n2 : kd = 2
        · have HZ := hid n2
          have e0 : (kd == 0) = false := by rw [n2]; rfl
          have e1 : (kd == 1) = false := by rw [n2]; rfl
          have e2 : (kd == 2) = true := by rw [n2]; rfl
          clear n2
          clear n0 n1
          go_wp2_with fail
          refine (stGetO HS1.out r.ka kn r.kc r.k HRD2.out.1 HKN.out.1 hKb (by omega)).mono ?_
          intro e w3 hout
          rcases hout with ⟨hi, en, gA, gn, gc, D, he, rfl, hgn, hgb, hrd, hO3, hback⟩ | ⟨hi, rfl, hs3⟩
          · have hO4 := hO3.perm (L' := fw qm 58 [.slice none 0 0, .slice none 0 0, .int .i64 0, .bool true] :: (D ++ (fw qo 67 [.int .i64 kd, .slice r.ka kn r.kc, .slice r.va vn r.vc, .int .i64 r.n] :: (Fo ++ (G ++ R))))) (perm_of fun _ _ z => by simp only [List.count_append, List.count_cons, List.cons_append, List.count_nil, List.nil_append, List.append_nil]; omega)
            have m3 : w3.cell? ⟨qm, 3, none⟩ = some (.bool true) := hO4.cell 0 rfl (k := 3) 3 rfl (by simp)
            have f3 := hO4.frozen 0 rfl 3
            have HO5 := hid (show Own (fw qm 58 [.slice none 0 0, .slice none 0 0, .int .i64 0, .bool true] :: (D ++ (fw qo 67 [.int .i64 kd, .slice r.ka kn r.kc, .slice r.va vn r.vc, .int .i64 r.n] :: (Fo ++ (G ++ R))))) w0 _ from hO4.set (k := 3) 3 rfl (by simp) (.bool true))
            have HG := hid (show _ ∧ _ ∧ _ ∧ Rd D w0 gA en.v from ⟨hi, he, hgn, hrd⟩)
            clear hi he hgn hrd
            have HBK := hid hback
            clear hO3 hO4 hback o0 o1 o2 HS1
            go_upto_region 15 with fail
            generalize (World.setCell _ _ _) = W4 at HO5 ⊢
            clear m3 f3
            have m3 : W4.cell? ⟨qm, 3, none⟩ = some (.bool true) := HO5.out.cell 0 rfl (k := 3) 3 rfl (by simp)
            have o1 : W4.cell? ⟨qo, 1, none⟩ = some (.slice r.ka kn r.kc) := (HO5.out.perm (L' := fw qo 67 [.int .i64 kd, .slice r.ka kn r.kc, .slice r.va vn r.vc, .int .i64 r.n] :: (fw qm 58 [.slice none 0 0, .slice none 0 0, .int .i64 0, .bool true] :: (D ++ (Fo ++ (G ++ R))))) (perm_of fun _ _ z => by simp only [List.count_append, List.count_cons, List.cons_append, List.count_nil, List.nil_append, List.append_nil]; omega)).cell 0 rfl (k := 1) 1 rfl (by simp)
            go_wp2_with fail
            refine (copied_own r.ka kn r.kc r.k _ w0 _ (HO5.out.st HRD.out.1 (fun y hy => by simp [hy])) HO5.out HKN.out.1 (by rw [← HKN.out.1]; omega)).mono ?_
            rintro e w5 ⟨A2, c2, F2, n2, hn2, rfl, hr2, hO6⟩
            have HO6 := hid hO6.out
            clear hO6 HO5 m3 o1
            go_wp2_with fail
            refine (copied_own gA gn gc en.v _ w0 _ (HO6.out.st HG.out.2.2.2 (fun y hy => by simp [hy])) HO6.out HG.out.2.2.1 (by rw [← HG.out.2.2.1]; omega)).mono ?_
            rintro e w6 ⟨A3, c3, F3, n3, hn3, rfl, hr3, hO7⟩
            have hO8 := (hO7.out.alloc' (g := w6.heap.size) rfl 36 [.slice A2 n2 c2, .slice A3 n3 c3]).perm (L' := fw qm 58 [.slice none 0 0, .slice none 0 0, .int .i64 0, .bool true] :: (D ++ (F3 ++ (F2 ++ (fw w6.heap.size 36 [.slice A2 n2 c2, .slice A3 n3 c3] :: (fw qo 67 [.int .i64 kd, .slice r.ka kn r.kc, .slice r.va vn r.vc, .int .i64 r.n] :: (Fo ++ (G ++ R)))))))) (perm_of fun _ _ z => by simp only [List.count_append, List.count_cons, List.cons_append, List.count_nil, List.nil_append, List.append_nil]; omega)
            have m0 : (w6.alloc (.cells #[.slice A2 n2 c2, .slice A3 n3 c3] 36)).cell? ⟨qm, 0, none⟩ = some (.slice none 0 0) := hO8.cell 0 rfl (k := 0) 0 rfl (by simp)
            have f0 := hO8.frozen 0 rfl 0
            have HO9 := hid (show Own (fw qm 58 [.slice (some ⟨w6.heap.size, 0, none⟩) 1 1, .slice none 0 0, .int .i64 0, .bool true] :: (D ++ (F3 ++ (F2 ++ (fw w6.heap.size 36 [.slice A2 n2 c2, .slice A3 n3 c3] :: (fw qo 67 [.int .i64 kd, .slice r.ka kn r.kc, .slice r.va vn r.vc, .int .i64 r.n] :: (Fo ++ (G ++ R)))))))) w0 _ from hO8.set (k := 0) 0 rfl (by simp) (.slice (some ⟨w6.heap.size, 0, none⟩) 1 1))
            clear hO7 hO8 HO6
            go_wp2_with fail
            go_meet
            refine ⟨⟨some ⟨w6.heap.size, 0, none⟩, 1, [⟨A2, c2, r.k, A3, c3, en.v⟩], none, 0, [], 0, true⟩, 1, 0, es, F3 ++ (F2 ++ (fw w6.heap.size 36 [.slice A2 n2 c2, .slice A3 n3 c3] :: [fw qo 67 [.int .i64 kd, .slice r.ka kn r.kc, .slice r.va vn r.vc, .int .i64 r.n]])), hid ⟨rfl, rfl⟩, hid ?_, hid ?_, hid fun wb => ?_, hid ((HBK.out _ _ (HO9.out.perm (perm_of fun _ _ z => by simp only [List.count_append, List.count_cons, List.cons_append, List.count_nil, List.nil_append, List.append_nil]; omega))).mono (by omega) (by omega))⟩
            · rw [HKD.out, HZ.out]; simp [mStep]
            · rw [HKD.out, HZ.out]; exact ⟨fun h => absurd h (by decide), fun h => absurd h (by decide), (fun _ => (by
                have hke := (mIs_get HG.out.1)
                obtain ⟨e2, he2, hk2⟩ := hke
                have h3 := HG.out.2.1
                rw [he2] at h3
                have h4 : e2 = en := Option.some.inj h3
                subst h4
                rw [mIs_map, HG.out.1]
                exact ⟨rfl, fun _ => ⟨(e2.k, e2.v), by rw [mAt_map, List.getElem?_map, he2]; rfl, by rw [hk2]; rfl⟩⟩)), fun h => absurd h (by decide), fun h => absurd h (by decide), fun h => absurd h (by decide), fun h => absurd h (by decide), fun h => absurd h (by decide), fun h => absurd h (by decide), fun h => absurd h (by decide), fun h => absurd h (by decide)⟩
            · intro w hw hb
              have h2 : BsAt w A2 r.k := hr2.out.rd wb w hw fun y hy => hb y (by simp [hy])
              have h3 : BsAt w A3 en.v := hr3.out.rd wb w hw fun y hy => hb y (by simp [hy])
              have l2 := hr2.out.le
              have l3 := hr3.out.le
              rw [hn2.out] at l2
              rw [hn3.out] at l3
              refine ⟨prs_one ?_ ⟨h2, h3, l2, l3, hr2.out.cap, hr3.out.cap⟩, CsAt.nil _ _⟩
              have hq := CsAt.of_blk (hb (fw w6.heap.size 36 [.slice A2 n2 c2, .slice A3 n3 c3]) (by simp)).blk 0 2
              rw [hn2.out, hn3.out] at hq
              exact hq
          · have m3 := hs3.cellR (i := 3) (by simp)
            simp only [List.getElem?_cons_zero, List.getElem?_cons_succ] at m3
            have f3 := hs3.frozenR 3
            have HI := hid hi
            have HS4 := hid (hs3.setR (i := 3) (by simp) (.bool false))
            clear hs3 hi o0 o1 o2 HS1
            go_wp2_with fail
            go_meet
            refine ⟨⟨none, 0, [], none, 0, [], 0, false⟩, 0, 0, es, [fw qo 67 [.int .i64 kd, .slice r.ka kn r.kc, .slice r.va vn r.vc, .int .i64 r.n]], hid ⟨rfl, rfl⟩, hid ?_, hid ?_, hid ?_, hid (HS4.out.mono (by omega) (by omega))⟩
            · rw [HKD.out, HZ.out]; simp [mStep]
            · rw [HKD.out, HZ.out]; exact ⟨fun h => absurd h (by decide), fun h => absurd h (by decide), (fun _ => (by rw [mIs_map, HI.out]; exact ⟨rfl, fun h => by cases h⟩)), fun h => absurd h (by decide), fun h => absurd h (by decide), fun h => absurd h (by decide), fun h => absurd h (by decide), fun h => absurd h (by decide), fun h => absurd h (by decide), fun h => absurd h (by decide), fun h => absurd h (by decide)⟩
            · exact fun wb w _ _ => ⟨⟨CsAt.nil _ _, by simp⟩, CsAt.nil _ _⟩
        by_cases n3 : kd = 3
        · have HZ := hid n3
          have e0 : (kd == 0) = false := by rw [n3]; rfl
          have e1 : (kd == 1) = false := by rw [n3]; rfl
          have e2 : (kd == 2) = false := by rw [n3]; rfl
          have e3 : (kd == 3) = true := by rw [n3]; rfl
          clear n3
          clear n0 n1 n2
          go_wp2_with fail
          refine (stFindO HS1.out r.ka kn r.kc r.k HRD2.out.1 HKN.out.1 hKb (by omega)).mono ?_
          intro e w3 hout
          rcases hout with ⟨en, gA, gn, gc, fA, fn, fc, D, he, rfl, hgn, hgb, hrd, hfn, hfb, hrf, hO3, hback⟩ | ⟨hi, rfl, hs3⟩
          · have hO4 := hO3.perm (L' := fw qm 58 [.slice none 0 0, .slice none 0 0, .int .i64 0, .bool true] :: (D ++ (fw qo 67 [.int .i64 kd, .slice r.ka kn r.kc, .slice r.va vn r.vc, .int .i64 r.n] :: (Fo ++ (G ++ R))))) (perm_of fun _ _ z => by simp only [List.count_append, List.count_cons, List.cons_append, List.count_nil, List.nil_append, List.append_nil]; omega)
            have m3 : w3.cell? ⟨qm, 3, none⟩ = some (.bool true) := hO4.cell 0 rfl (k := 3) 3 rfl (by simp)
            have f3 := hO4.frozen 0 rfl 3
            have HO5 := hid (show Own (fw qm 58 [.slice none 0 0, .slice none 0 0, .int .i64 0, .bool true] :: (D ++ (fw qo 67 [.int .i64 kd, .slice r.ka kn r.kc, .slice r.va vn r.vc, .int .i64 r.n] :: (Fo ++ (G ++ R))))) w0 _ from hO4.set (k := 3) 3 rfl (by simp) (.bool true))
            have HG := hid (show _ ∧ (_ ∧ Rd D w0 gA en.k) ∧ _ ∧ Rd D w0 fA en.v from ⟨he, ⟨hgn, hrd⟩, hfn, hrf⟩)
            clear he hgn hrd hfn hrf
            have HBK := hid hback
            clear hO3 hO4 hback o0 o1 o2 HS1
            go_upto_region 20 with fail
            generalize (World.setCell _ _ _) = W4 at HO5 ⊢
            clear m3 f3
            have m3 : W4.cell? ⟨qm, 3, none⟩ = some (.bool true) := HO5.out.cell 0 rfl (k := 3) 3 rfl (by simp)
            have o1 : W4.cell? ⟨qo, 1, none⟩ = some (.slice r.ka kn r.kc) := (HO5.out.perm (L' := fw qo 67 [.int .i64 kd, .slice r.ka kn r.kc, .slice r.va vn r.vc, .int .i64 r.n] :: (fw qm 58 [.slice none 0 0, .slice none 0 0, .int .i64 0, .bool true] :: (D ++ (Fo ++ (G ++ R))))) (perm_of fun _ _ z => by simp only [List.count_append, List.count_cons, List.cons_append, List.count_nil, List.nil_append, List.append_nil]; omega)).cell 0 rfl (k := 1) 1 rfl (by simp)
            go_wp2_with fail
            refine (copied_own gA gn gc en.k _ w0 _ (HO5.out.st HG.out.2.1.2 (fun y hy => by simp [hy])) HO5.out HG.out.2.1.1 (by rw [← HG.out.2.1.1]; omega)).mono ?_
            rintro e w5 ⟨A2, c2, F2, n2, hn2, rfl, hr2, hO6⟩
            have HO6 := hid hO6.out
            clear hO6 HO5 m3 o1
            go_wp2_with fail
            refine (copied_own fA fn fc en.v _ w0 _ (HO6.out.st HG.out.2.2.2 (fun y hy => by simp [hy])) HO6.out HG.out.2.2.1 (by rw [← HG.out.2.2.1]; omega)).mono ?_
            rintro e w6 ⟨A3, c3, F3, n3, hn3, rfl, hr3, hO7⟩
            have hO8 := (hO7.out.alloc' (g := w6.heap.size) rfl 36 [.slice A2 n2 c2, .slice A3 n3 c3]).perm (L' := fw qm 58 [.slice none 0 0, .slice none 0 0, .int .i64 0, .bool true] :: (D ++ (F3 ++ (F2 ++ (fw w6.heap.size 36 [.slice A2 n2 c2, .slice A3 n3 c3] :: (fw qo 67 [.int .i64 kd, .slice r.ka kn r.kc, .slice r.va vn r.vc, .int .i64 r.n] :: (Fo ++ (G ++ R)))))))) (perm_of fun _ _ z => by simp only [List.count_append, List.count_cons, List.cons_append, List.count_nil, List.nil_append, List.append_nil]; omega)
            have m0 : (w6.alloc (.cells #[.slice A2 n2 c2, .slice A3 n3 c3] 36)).cell? ⟨qm, 0, none⟩ = some (.slice none 0 0) := hO8.cell 0 rfl (k := 0) 0 rfl (by simp)
            have f0 := hO8.frozen 0 rfl 0
            have HO9 := hid (show Own (fw qm 58 [.slice (some ⟨w6.heap.size, 0, none⟩) 1 1, .slice none 0 0, .int .i64 0, .bool true] :: (D ++ (F3 ++ (F2 ++ (fw w6.heap.size 36 [.slice A2 n2 c2, .slice A3 n3 c3] :: (fw qo 67 [.int .i64 kd, .slice r.ka kn r.kc, .slice r.va vn r.vc, .int .i64 r.n] :: (Fo ++ (G ++ R)))))))) w0 _ from hO8.set (k := 0) 0 rfl (by simp) (.slice (some ⟨w6.heap.size, 0, none⟩) 1 1))
            clear hO7 hO8 HO6
            go_wp2_with fail
            go_meet
            refine ⟨⟨some ⟨w6.heap.size, 0, none⟩, 1, [⟨A2, c2, en.k, A3, c3, en.v⟩], none, 0, [], 0, true⟩, 1, 0, es, F3 ++ (F2 ++ (fw w6.heap.size 36 [.slice A2 n2 c2, .slice A3 n3 c3] :: [fw qo 67 [.int .i64 kd, .slice r.ka kn r.kc, .slice r.va vn r.vc, .int .i64 r.n]])), hid ⟨rfl, rfl⟩, hid ?_, hid ?_, hid fun wb => ?_, hid ((HBK.out _ _ (HO9.out.perm (perm_of fun _ _ z => by simp only [List.count_append, List.count_cons, List.cons_append, List.count_nil, List.nil_append, List.append_nil]; omega))).mono (by omega) (by omega))⟩
            · rw [HKD.out, HZ.out]; simp [mStep]
            · rw [HKD.out, HZ.out]; exact ⟨fun h => absurd h (by decide), fun h => absurd h (by decide), fun h => absurd h (by decide), (fun _ => (by
                have h3 := HG.out.1
                have hlt := (List.getElem?_eq_some_iff.1 h3).1
                rw [mAt_map, List.length_map, decide_eq_true hlt]
                refine ⟨rfl, fun p hp => ?_⟩
                rw [List.getElem?_map, h3] at hp
                have hp := Option.some.inj hp
                rw [← hp]; rfl)), fun h => absurd h (by decide), fun h => absurd h (by decide), fun h => absurd h (by decide), fun h => absurd h (by decide), fun h => absurd h (by decide), fun h => absurd h (by decide), fun h => absurd h (by decide)⟩
            · intro w hw hb
              have h2 : BsAt w A2 en.k := hr2.out.rd wb w hw fun y hy => hb y (by simp [hy])
              have h3 : BsAt w A3 en.v := hr3.out.rd wb w hw fun y hy => hb y (by simp [hy])
              have l2 := hr2.out.le
              have l3 := hr3.out.le
              rw [hn2.out] at l2
              rw [hn3.out] at l3
              refine ⟨prs_one ?_ ⟨h2, h3, l2, l3, hr2.out.cap, hr3.out.cap⟩, CsAt.nil _ _⟩
              have hq := CsAt.of_blk (hb (fw w6.heap.size 36 [.slice A2 n2 c2, .slice A3 n3 c3]) (by simp)).blk 0 2
              rw [hn2.out, hn3.out] at hq
              exact hq
          · have m3 := hs3.cellR (i := 3) (by simp)
            simp only [List.getElem?_cons_zero, List.getElem?_cons_succ] at m3
            have f3 := hs3.frozenR 3
            have HI := hid hi
            have HS4 := hid (hs3.setR (i := 3) (by simp) (.bool false))
            clear hs3 hi o0 o1 o2 HS1
            go_wp2_with fail
            go_meet
            refine ⟨⟨none, 0, [], none, 0, [], 0, false⟩, 0, 0, es, [fw qo 67 [.int .i64 kd, .slice r.ka kn r.kc, .slice r.va vn r.vc, .int .i64 r.n]], hid ⟨rfl, rfl⟩, hid ?_, hid ?_, hid ?_, hid (HS4.out.mono (by omega) (by omega))⟩
            · rw [HKD.out, HZ.out]; simp [mStep]
            · rw [HKD.out, HZ.out]; exact ⟨fun h => absurd h (by decide), fun h => absurd h (by decide), fun h => absurd h (by decide), (fun _ => (by
                have h3 := HI.out
                rw [mAt_map, List.length_map, decide_eq_false (by omega)]
                refine ⟨rfl, fun p hp => ?_⟩
                rw [List.getElem?_eq_none (by rw [List.length_map]; exact h3)] at hp
                cases hp)), fun h => absurd h (by decide), fun h => absurd h (by decide), fun h => absurd h (by decide), fun h => absurd h (by decide), fun h => absurd h (by decide), fun h => absurd h (by decide), fun h => absurd h (by decide)⟩
            · exact fun wb w _ _ => ⟨⟨CsAt.nil _ _, by simp⟩, CsAt.nil _ _⟩
        by_cases n4 : kd = 4
        · have HZ := hid n4
          have e0 : (kd == 0) = false := by rw [n4]; rfl
          have e1 : (kd == 1) = false := by rw [n4]; rfl
          have e2 : (kd == 2) = false := by rw [n4]; rfl
          have e3 : (kd == 3) = false := by rw [n4]; rfl
          have e4 : (kd == 4) = true := by rw [n4]; rfl
          clear n4
          clear n0 n1 n2 n3
          go_wp2_with fail
          refine (stContains HS1.out r.ka kn r.kc r.k HRD2.out.1 HKN.out.1 hKb (by omega)).mono ?_
          rintro e w3 ⟨rfl, ho3⟩
          have hs3 := HS1.out.only0 ho3
          clear ho3
          obtain ⟨z, hz⟩ : ∃ z, mIs En.k es r.k = z := ⟨_, rfl⟩
          rw [hz]
          have HZZ := hid hz
          clear hz
          have m3 : w3.cell? ⟨qm, 3, none⟩ = some (.bool true) := hs3.cellR (i := 3) (by simp)
          have f3 := hs3.frozenR 3
          have HS4 := hid (hs3.setR (i := 3) (by simp) (.bool z))
          clear hs3 o0 o1 o2 HS1
          go_wp2_with fail
          go_meet
          refine ⟨⟨none, 0, [], none, 0, [], 0, z⟩, 0, 0, es, [fw qo 67 [.int .i64 kd, .slice r.ka kn r.kc, .slice r.va vn r.vc, .int .i64 r.n]], hid ⟨rfl, rfl⟩, hid ?_, hid ?_, hid ?_, hid (HS4.out.mono (by omega) (by omega))⟩
          · rw [HKD.out, HZ.out]; simp [mStep]
          · rw [HKD.out, HZ.out]; exact ⟨fun h => absurd h (by decide), fun h => absurd h (by decide), fun h => absurd h (by decide), fun h => absurd h (by decide), (fun _ => (by rw [mIs_map, HZZ.out]; rfl)), fun h => absurd h (by decide), fun h => absurd h (by decide), fun h => absurd h (by decide), fun h => absurd h (by decide), fun h => absurd h (by decide), fun h => absurd h (by decide)⟩
          · exact fun wb w _ _ => ⟨⟨CsAt.nil _ _, by simp⟩, CsAt.nil _ _⟩
        by_cases n5 : kd = 5
        · have HZ := hid n5
          have e0 : (kd == 0) = false := by rw [n5]; rfl
          have e1 : (kd == 1) = false := by rw [n5]; rfl
          have e2 : (kd == 2) = false := by rw [n5]; rfl
          have e3 : (kd == 3) = false := by rw [n5]; rfl
          have e4 : (kd == 4) = false := by rw [n5]; rfl
          have e5 : (kd == 5) = true := by rw [n5]; rfl
          clear n5
          clear n0 n1 n2 n3 n4
          go_wp2_with fail
          refine (stLen HS1.out).mono ?_
          rintro e w3 ⟨rfl, rfl⟩
          have hs3 := HS1.out
          obtain ⟨z, hz⟩ : ∃ z, es.length = z := ⟨_, rfl⟩
          rw [hz]
          have HZZ := hid hz
          clear hz
          have m3 := hs3.cellR (i := 2) (by simp)
          simp only [List.getElem?_cons_zero, List.getElem?_cons_succ] at m3
          have f3 := hs3.frozenR 2
          have HS4 := hid (hs3.setR (i := 2) (by simp) (.int .i64 (z : Int)))
          clear hs3 o0 o1 o2 HS1
          go_wp2_with fail
          go_meet
          refine ⟨⟨none, 0, [], none, 0, [], (z : Int), true⟩, 0, 0, es, [fw qo 67 [.int .i64 kd, .slice r.ka kn r.kc, .slice r.va vn r.vc, .int .i64 r.n]], hid ⟨rfl, rfl⟩, hid ?_, hid ?_, hid ?_, hid (HS4.out.mono (by omega) (by omega))⟩
          · rw [HKD.out, HZ.out]; simp [mStep]
          · rw [HKD.out, HZ.out]; exact ⟨fun h => absurd h (by decide), fun h => absurd h (by decide), fun h => absurd h (by decide), fun h => absurd h (by decide), fun h => absurd h (by decide), (fun _ => (by rw [List.length_map, HZZ.out]; rfl)), fun h => absurd h (by decide), fun h => absurd h (by decide), fun h => absurd h (by decide), fun h => absurd h (by decide), fun h => absurd h (by decide)⟩
          · exact fun wb w _ _ => ⟨⟨CsAt.nil _ _, by simp⟩, CsAt.nil _ _⟩
        by_cases n6 : kd = 6
        · have HZ := hid n6
          have e0 : (kd == 0) = false := by rw [n6]; rfl
          have e1 : (kd == 1) = false := by rw [n6]; rfl
          have e2 : (kd == 2) = false := by rw [n6]; rfl
          have e3 : (kd == 3) = false := by rw [n6]; rfl
          have e4 : (kd == 4) = false := by rw [n6]; rfl
          have e5 : (kd == 5) = false := by rw [n6]; rfl
          have e6 : (kd == 6) = true := by rw [n6]; rfl
          clear n6
          clear n0 n1 n2 n3 n4 n5
          go_wp2_with fail
          refine (stSize HS1.out).mono ?_
          rintro e w3 ⟨rfl, rfl⟩
          have hs3 := HS1.out
          obtain ⟨z, hz⟩ : ∃ z, szKv (es.map En.kv) = z := ⟨_, rfl⟩
          rw [hz]
          have HZZ := hid hz
          clear hz
          have m3 := hs3.cellR (i := 2) (by simp)
          simp only [List.getElem?_cons_zero, List.getElem?_cons_succ] at m3
          have f3 := hs3.frozenR 2
          have HS4 := hid (hs3.setR (i := 2) (by simp) (.int .i64 (z : Int)))
          clear hs3 o0 o1 o2 HS1
          go_wp2_with fail
          go_meet
          refine ⟨⟨none, 0, [], none, 0, [], (z : Int), true⟩, 0, 0, es, [fw qo 67 [.int .i64 kd, .slice r.ka kn r.kc, .slice r.va vn r.vc, .int .i64 r.n]], hid ⟨rfl, rfl⟩, hid ?_, hid ?_, hid ?_, hid (HS4.out.mono (by omega) (by omega))⟩
          · rw [HKD.out, HZ.out]; simp [mStep]
          · rw [HKD.out, HZ.out]; exact ⟨fun h => absurd h (by decide), fun h => absurd h (by decide), fun h => absurd h (by decide), fun h => absurd h (by decide), fun h => absurd h (by decide), fun h => absurd h (by decide), (fun _ => (by rw [HZZ.out]; rfl)), fun h => absurd h (by decide), fun h => absurd h (by decide), fun h => absurd h (by decide), fun h => absurd h (by decide)⟩
          · exact fun wb w _ _ => ⟨⟨CsAt.nil _ _, by simp⟩, CsAt.nil _ _⟩
        by_cases n7 : kd = 7
        · have HZ := hid n7
          have e0 : (kd == 0) = false := by rw [n7]; rfl
          have e1 : (kd == 1) = false := by rw [n7]; rfl
          have e2 : (kd == 2) = false := by rw [n7]; rfl
          have e3 : (kd == 3) = false := by rw [n7]; rfl
          have e4 : (kd == 4) = false := by rw [n7]; rfl
          have e5 : (kd == 5) = false := by rw [n7]; rfl
          have e6 : (kd == 6) = false := by rw [n7]; rfl
          have e7 : (kd == 7) = true := by rw [n7]; rfl
          clear n7
          clear n0 n1 n2 n3 n4 n5 n6
          have hkd := HKD.out
          subst hkd
          obtain ⟨xx, A1, n1, c1, b, n2, c2, pv, mh, kv, nd, F, G0, hs, hO⟩ := HS1.out
          have HDB := hid hs
          have hOq := hO.perm (L' := fw qo 67 [.int .i64 r.kind, .slice r.ka kn r.kc, .slice r.va vn r.vc, .int .i64 r.n] :: (fw qm 58 [.slice none 0 0, .slice none 0 0, .int .i64 0, .bool true] :: (dFr g xx A1 n1 c1 b n2 c2 pv mh es.length (szKv (es.map En.kv)) :: (F ++ (G0 ++ (Fo ++ (G ++ R))))))) (perm_of fun _ _ z => by simp only [List.count_append, List.count_cons, List.cons_append, List.count_nil, List.nil_append, List.append_nil]; omega)
          clear o0 o1 o2
          have o0 := hOq.cell 0 rfl (k := 0) 0 rfl (by simp)
          simp only [List.getElem?_cons_zero, List.getElem?_cons_succ] at o0
          have o1 := hOq.cell 0 rfl (k := 1) 1 rfl (by simp)
          simp only [List.getElem?_cons_zero, List.getElem?_cons_succ] at o1
          have o2 := hOq.cell 0 rfl (k := 2) 2 rfl (by simp)
          simp only [List.getElem?_cons_zero, List.getElem?_cons_succ] at o2
          have o3 := hOq.cell 0 rfl (k := 3) 3 rfl (by simp)
          simp only [List.getElem?_cons_zero, List.getElem?_cons_succ] at o3
          have HOQ := hid hOq
          clear hs hO hOq HS1
          go_wp2_with fail
          refine AnyT.start (S := fun w' => w'.cell? ⟨qo, 0, none⟩ = some (.int .i64 r.kind) ∧ w'.cell? ⟨qo, 1, none⟩ = some (.slice r.ka kn r.kc) ∧ w'.cell? ⟨qo, 2, none⟩ = some (.slice r.va vn r.vc) ∧ w'.cell? ⟨qo, 3, none⟩ = some (.int .i64 r.n)) (T := [6]) (by kernel_rfl) (⟨o0, o1, o2, o3⟩) (fun hHeld => ?_)
          refine AnyT.take (i := 0) (v := ?_) (by simp only [List.getElem?_toArray, List.getElem?_cons_succ, List.getElem?_cons_zero]; rfl) (by kernel_rfl) (by kernel_rfl) (by kernel_rfl) (by kernel_rfl) (by intro _ _ _ h; exact h) (Or.inl ⟨by rfl, fun w hSw => ?_⟩) hHeld ?_
          rotate_left
          · ((try dsimp only at hSw); go_simp; first | done | with_reducible rfl | rfl)
          try simp only [Act.put, List.setIfInBounds_toArray, List.set_cons_zero, List.set_cons_succ]
          refine AnyT.take (i := 1) (v := ?_) (by simp only [List.getElem?_toArray, List.getElem?_cons_succ, List.getElem?_cons_zero]; rfl) (by kernel_rfl) (by kernel_rfl) (by kernel_rfl) (by kernel_rfl) (by intro _ _ _ h; exact h) (Or.inl ⟨by rfl, fun w hSw => ?_⟩) hHeld ?_
          rotate_left
          · ((try dsimp only at hSw); go_simp; first | done | with_reducible rfl | rfl)
          try simp only [Act.put, List.setIfInBounds_toArray, List.set_cons_zero, List.set_cons_succ]
          refine AnyT.take (i := 4) (v := ?_) (by simp only [List.getElem?_toArray, List.getElem?_cons_succ, List.getElem?_cons_zero]; rfl) (by kernel_rfl) (by kernel_rfl) (by kernel_rfl) (by kernel_rfl) (by intro _ _ _ h; exact h) (Or.inl ⟨by rfl, fun w hSw => ?_⟩) hHeld ?_
          rotate_left
          · ((try dsimp only at hSw); go_simp; first | done | with_reducible rfl | rfl)
          try simp only [Act.put, List.setIfInBounds_toArray, List.set_cons_zero, List.set_cons_succ]
          refine AnyT.ready (rs := [2]) (by kernel_rfl) (by simp) ?_
          refine AllT.cons (by simp only [List.getElem?_toArray, List.getElem?_cons_succ, List.getElem?_cons_zero]; rfl) (fun K hK => ?_) AllT.nil
          go_simp
          refine (slice_any r kn vn _ w0 _ HOQ.out.drew (HRD.out.1.mono fun y hy => by simp [hy]) (HRD.out.2.mono fun y hy => by simp [hy]) HKN.out.1 HKN.out.2 HOK.out.1 HOK.out.2.1 (by omega) (by omega)).mono ?_
          rintro e w3 ⟨x, F1, rfl, hx1, hx2, hO3⟩
          have hO3p := hO3.perm (L' := fw qo 67 [.int .i64 r.kind, .slice r.ka kn r.kc, .slice r.va vn r.vc, .int .i64 r.n] :: (fw qm 58 [.slice none 0 0, .slice none 0 0, .int .i64 0, .bool true] :: (dFr g xx A1 n1 c1 b n2 c2 pv mh es.length (szKv (es.map En.kv)) :: (F ++ (G0 ++ (F1 ++ (Fo ++ (G ++ R)))))))) (perm_of fun _ _ z => by simp only [List.count_append, List.count_cons, List.cons_append, List.count_nil, List.nil_append, List.append_nil]; omega)
          clear o0 o1 o2 o3
          have o0 := hO3p.cell 0 rfl (k := 0) 0 rfl (by simp)
          simp only [List.getElem?_cons_zero, List.getElem?_cons_succ] at o0
          have o1 := hO3p.cell 0 rfl (k := 1) 1 rfl (by simp)
          simp only [List.getElem?_cons_zero, List.getElem?_cons_succ] at o1
          have o2 := hO3p.cell 0 rfl (k := 2) 2 rfl (by simp)
          simp only [List.getElem?_cons_zero, List.getElem?_cons_succ] at o2
          have o3 := hO3p.cell 0 rfl (k := 3) 3 rfl (by simp)
          simp only [List.getElem?_cons_zero, List.getElem?_cons_succ] at o3
          have HX := hid (show _ ∧ _ from ⟨hx1, hx2⟩)
          have HO3 := hid hO3p
          clear hO3 hO3p HOQ hx1 hx2
          try go_wp2_with fail
          refine hK.out _ _ ?_ (fun hHeld => ?_)
          · exact ⟨o0, o1, o2, o3⟩
          clear hK
          try simp only [Act.put, List.setIfInBounds_toArray, List.set_cons_zero, List.set_cons_succ]
          refine AnyT.ready (rs := [3]) (by kernel_rfl) (by simp) ?_
          refine AllT.cons (by simp only [List.getElem?_toArray, List.getElem?_cons_succ, List.getElem?_cons_zero]; rfl) (fun K hK => ?_) AllT.nil
          go_simp
          refine (newIterator g (.pointer x) x rfl _ w0 _ HO3.out).mono ?_
          rintro e w4 ⟨q, rfl, hO4⟩
          have hO4p := hO4.perm (L' := fw qo 67 [.int .i64 r.kind, .slice r.ka kn r.kc, .slice r.va vn r.vc, .int .i64 r.n] :: (fw qm 58 [.slice none 0 0, .slice none 0 0, .int .i64 0, .bool true] :: (iFr q g (.pointer x) 0 false (.slice none 0 0) (.slice none 0 0) :: (dFr g xx A1 n1 c1 b n2 c2 pv mh es.length (szKv (es.map En.kv)) :: (F ++ (G0 ++ (F1 ++ (Fo ++ (G ++ R))))))))) (perm_of fun _ _ z => by simp only [List.count_append, List.count_cons, List.cons_append, List.count_nil, List.nil_append, List.append_nil]; omega)
          clear o0 o1 o2 o3
          have o0 := hO4p.cell 0 rfl (k := 0) 0 rfl (by simp)
          simp only [List.getElem?_cons_zero, List.getElem?_cons_succ] at o0
          have o1 := hO4p.cell 0 rfl (k := 1) 1 rfl (by simp)
          simp only [List.getElem?_cons_zero, List.getElem?_cons_succ] at o1
          have o2 := hO4p.cell 0 rfl (k := 2) 2 rfl (by simp)
          simp only [List.getElem?_cons_zero, List.getElem?_cons_succ] at o2
          have o3 := hO4p.cell 0 rfl (k := 3) 3 rfl (by simp)
          simp only [List.getElem?_cons_zero, List.getElem?_cons_succ] at o3
          have HO4 := hid hO4p
          clear hO4 hO4p HO3
          try go_wp2_with fail
          refine hK.out _ _ ?_ (fun hHeld => ?_)
          · exact ⟨o0, o1, o2, o3⟩
          clear hK
          try simp only [Act.put, List.setIfInBounds_toArray, List.set_cons_zero, List.set_cons_succ]
          refine AnyT.ready (rs := [5]) (by kernel_rfl) (by simp) ?_
          refine AllT.cons (by simp only [List.getElem?_toArray, List.getElem?_cons_succ, List.getElem?_cons_zero]; rfl) (fun K hK => ?_) AllT.nil
          go_simp
          refine (stIterd q g es KW k' (.pointer x) r kn vn (F1 ++ (fw qm 58 [.slice none 0 0, .slice none 0 0, .int .i64 0, .bool true] :: (fw qo 67 [.int .i64 r.kind, .slice r.ka kn r.kc, .slice r.va vn r.vc, .int .i64 r.n] :: (Fo ++ (G ++ R))))) w0 _ xx A1 n1 c1 b n2 c2 pv mh kv nd F G0 HDB.out (HO4.out.perm (perm_of fun _ _ z => by simp only [List.count_append, List.count_cons, List.cons_append, List.count_nil, List.nil_append, List.append_nil]; omega)) (.inl HZ.out) (fun h => by rw [HX.out.1 h]) (fun R' h h9 => HX.out.2 R' (fun y hy => h y (by simp [hy])) (HRD.out.1.mono fun y hy => h y (by simp [hy])) (HRD.out.2.mono fun y hy => h y (by simp [hy])) h9) (HRD.out.1.mono fun y hy => by simp [hy]) (HRD.out.2.mono fun y hy => by simp [hy]) HKN.out.1 HKN.out.2 (by rw [HKN.out.1]; exact HOK.out.1) (by omega) (by omega) hKb (by omega) hel).mono ?_
          rintro e w5 ⟨a, ln, vl, G5, rfl, h1, h2, h3, h4⟩
          obtain ⟨D, hOD, hback⟩ := h4.out.own
          have HBK : Hid (∀ (R' : List Fr) (w' : World), Own (D ++ R') w0 w' → DbSt g es KW k' R' w0 w') := hid fun R' w' h => hback h
          have hO5 := hOD.perm (L' := fw qo 67 [.int .i64 r.kind, .slice r.ka kn r.kc, .slice r.va vn r.vc, .int .i64 r.n] :: (fw qm 58 [.slice none 0 0, .slice none 0 0, .int .i64 0, .bool true] :: (D ++ (G5 ++ (F1 ++ (Fo ++ (G ++ R))))))) (perm_of fun _ _ z => by simp only [List.count_append, List.count_cons, List.cons_append, List.count_nil, List.nil_append, List.append_nil]; omega)
          clear o0 o1 o2 o3
          have o0 := hO5.cell 0 rfl (k := 0) 0 rfl (by simp)
          simp only [List.getElem?_cons_zero, List.getElem?_cons_succ] at o0
          have o1 := hO5.cell 0 rfl (k := 1) 1 rfl (by simp)
          simp only [List.getElem?_cons_zero, List.getElem?_cons_succ] at o1
          have o2 := hO5.cell 0 rfl (k := 2) 2 rfl (by simp)
          simp only [List.getElem?_cons_zero, List.getElem?_cons_succ] at o2
          have o3 := hO5.cell 0 rfl (k := 3) 3 rfl (by simp)
          simp only [List.getElem?_cons_zero, List.getElem?_cons_succ] at o3
          have HO5 := hid (hO5.perm (L' := fw qm 58 [.slice none 0 0, .slice none 0 0, .int .i64 0, .bool true] :: (D ++ (G5 ++ (F1 ++ (fw qo 67 [.int .i64 r.kind, .slice r.ka kn r.kc, .slice r.va vn r.vc, .int .i64 r.n] :: (Fo ++ (G ++ R))))))) (perm_of fun _ _ z => by simp only [List.count_append, List.count_cons, List.cons_append, List.count_nil, List.nil_append, List.append_nil]; omega))
          clear hOD hback hO5 HO4 h4 HDB HX
          try go_wp2_with fail
          refine hK.out _ _ ?_ (fun hHeld => ?_)
          · exact ⟨o0, o1, o2, o3⟩
          clear hK
          try simp only [Act.put, List.setIfInBounds_toArray, List.set_cons_zero, List.set_cons_succ]
          refine AnyT.ready (rs := [6]) (by kernel_rfl) (by simp) ?_
          refine AllT.late (by simp only [List.getElem?_toArray, List.getElem?_cons_succ, List.getElem?_cons_zero]; rfl) (by kernel_rfl) (fun K hK => ?_)
          refine own_step_store_row rfl 58 (.tmp 7) (.tmp 114) rfl qm _ rfl rfl 58 _ HO5.out (by kernel_rfl) (by simp) (by simp [Value.oneCell']) ?_
          intro w6 hO6
          have HO6 := hid hO6
          clear hO6 HO5 o0 o1 o2 o3
          refine hK.out _ _ ?_
          clear hK
          try simp only [Act.put, List.setIfInBounds_toArray, List.set_cons_zero, List.set_cons_succ]
          refine AnyT.done (by kernel_rfl) ?_ _
          clear hHeld
          go_wp2_with fail
          go_meet
          refine ⟨a, ln, vl, es, G5 ++ (F1 ++ [fw qo 67 [.int .i64 r.kind, .slice r.ka kn r.kc, .slice r.va vn r.vc, .int .i64 r.n]]), hid h1.out, hid ?_, hid ?_, hid fun wb w hw hb => h3.out wb w hw fun y hy => hb y (by simp [hy]), hid ((HBK.out _ _ (HO6.out.perm (perm_of fun _ _ z => by simp only [List.count_append, List.count_cons, List.cons_append, List.count_nil, List.nil_append, List.append_nil]; omega))).mono (by omega) (by omega))⟩
          · rw [HZ.out]; simp [mStep]
          · have h9 := h2.out
            unfold tps tvs at h9
            rw [HZ.out] at h9 ⊢
            simp at h9
            exact ⟨fun h => absurd h (by decide), fun h => absurd h (by decide), fun h => absurd h (by decide), fun h => absurd h (by decide), fun h => absurd h (by decide), fun h => absurd h (by decide), fun h => absurd h (by decide), (fun _ => (by
              show kvs a.l = _
              exact h9.1)), fun h => absurd h (by decide), fun h => absurd h (by decide), fun h => absurd h (by decide)⟩
        by_cases n8 : kd = 8
        · have HZ := hid n8
          have e0 : (kd == 0) = false := by rw [n8]; rfl
          have e1 : (kd == 1) = false := by rw [n8]; rfl
          have e2 : (kd == 2) = false := by rw [n8]; rfl
          have e3 : (kd == 3) = false := by rw [n8]; rfl
          have e4 : (kd == 4) = false := by rw [n8]; rfl
          have e5 : (kd == 5) = false := by rw [n8]; rfl
          have e6 : (kd == 6) = false := by rw [n8]; rfl
          have e7 : (kd == 7) = false := by rw [n8]; rfl
          have e8 : (kd == 8) = true := by rw [n8]; rfl
          clear n8
          clear n0 n1 n2 n3 n4 n5 n6 n7
          have hkd := HKD.out
          subst hkd
          obtain ⟨xx, A1, n1, c1, b, n2, c2, pv, mh, kv, nd, F, G0, hs, hO⟩ := HS1.out
          have HDB := hid hs
          have hOq := hO.perm (L' := fw qo 67 [.int .i64 r.kind, .slice r.ka kn r.kc, .slice r.va vn r.vc, .int .i64 r.n] :: (fw qm 58 [.slice none 0 0, .slice none 0 0, .int .i64 0, .bool true] :: (dFr g xx A1 n1 c1 b n2 c2 pv mh es.length (szKv (es.map En.kv)) :: (F ++ (G0 ++ (Fo ++ (G ++ R))))))) (perm_of fun _ _ z => by simp only [List.count_append, List.count_cons, List.cons_append, List.count_nil, List.nil_append, List.append_nil]; omega)
          clear o0 o1 o2
          have o0 := hOq.cell 0 rfl (k := 0) 0 rfl (by simp)
          simp only [List.getElem?_cons_zero, List.getElem?_cons_succ] at o0
          have o1 := hOq.cell 0 rfl (k := 1) 1 rfl (by simp)
          simp only [List.getElem?_cons_zero, List.getElem?_cons_succ] at o1
          have o2 := hOq.cell 0 rfl (k := 2) 2 rfl (by simp)
          simp only [List.getElem?_cons_zero, List.getElem?_cons_succ] at o2
          have o3 := hOq.cell 0 rfl (k := 3) 3 rfl (by simp)
          simp only [List.getElem?_cons_zero, List.getElem?_cons_succ] at o3
          have HOQ := hid hOq
          clear hs hO hOq HS1
          go_wp2_with fail
          refine AnyT.start (S := fun w' => w'.cell? ⟨qo, 0, none⟩ = some (.int .i64 r.kind) ∧ w'.cell? ⟨qo, 1, none⟩ = some (.slice r.ka kn r.kc) ∧ w'.cell? ⟨qo, 2, none⟩ = some (.slice r.va vn r.vc) ∧ w'.cell? ⟨qo, 3, none⟩ = some (.int .i64 r.n)) (T := [6]) (by kernel_rfl) (⟨o0, o1, o2, o3⟩) (fun hHeld => ?_)
          refine AnyT.take (i := 0) (v := ?_) (by simp only [List.getElem?_toArray, List.getElem?_cons_succ, List.getElem?_cons_zero]; rfl) (by kernel_rfl) (by kernel_rfl) (by kernel_rfl) (by kernel_rfl) (by intro _ _ _ h; exact h) (Or.inl ⟨by rfl, fun w hSw => ?_⟩) hHeld ?_
          rotate_left
          · ((try dsimp only at hSw); go_simp; first | done | with_reducible rfl | rfl)
          try simp only [Act.put, List.setIfInBounds_toArray, List.set_cons_zero, List.set_cons_succ]
          refine AnyT.take (i := 1) (v := ?_) (by simp only [List.getElem?_toArray, List.getElem?_cons_succ, List.getElem?_cons_zero]; rfl) (by kernel_rfl) (by kernel_rfl) (by kernel_rfl) (by kernel_rfl) (by intro _ _ _ h; exact h) (Or.inl ⟨by rfl, fun w hSw => ?_⟩) hHeld ?_
          rotate_left
          · ((try dsimp only at hSw); go_simp; first | done | with_reducible rfl | rfl)
          try simp only [Act.put, List.setIfInBounds_toArray, List.set_cons_zero, List.set_cons_succ]
          refine AnyT.take (i := 4) (v := ?_) (by simp only [List.getElem?_toArray, List.getElem?_cons_succ, List.getElem?_cons_zero]; rfl) (by kernel_rfl) (by kernel_rfl) (by kernel_rfl) (by kernel_rfl) (by intro _ _ _ h; exact h) (Or.inl ⟨by rfl, fun w hSw => ?_⟩) hHeld ?_
          rotate_left
          · ((try dsimp only at hSw); go_simp; first | done | with_reducible rfl | rfl)
          try simp only [Act.put, List.setIfInBounds_toArray, List.set_cons_zero, List.set_cons_succ]
          refine AnyT.ready (rs := [2]) (by kernel_rfl) (by simp) ?_
          refine AllT.cons (by simp only [List.getElem?_toArray, List.getElem?_cons_succ, List.getElem?_cons_zero]; rfl) (fun K hK => ?_) AllT.nil
          go_simp
          refine (slice_any r kn vn _ w0 _ HOQ.out.drew (HRD.out.1.mono fun y hy => by simp [hy]) (HRD.out.2.mono fun y hy => by simp [hy]) HKN.out.1 HKN.out.2 HOK.out.1 HOK.out.2.1 (by omega) (by omega)).mono ?_
          rintro e w3 ⟨x, F1, rfl, hx1, hx2, hO3⟩
          have hO3p := hO3.perm (L' := fw qo 67 [.int .i64 r.kind, .slice r.ka kn r.kc, .slice r.va vn r.vc, .int .i64 r.n] :: (fw qm 58 [.slice none 0 0, .slice none 0 0, .int .i64 0, .bool true] :: (dFr g xx A1 n1 c1 b n2 c2 pv mh es.length (szKv (es.map En.kv)) :: (F ++ (G0 ++ (F1 ++ (Fo ++ (G ++ R)))))))) (perm_of fun _ _ z => by simp only [List.count_append, List.count_cons, List.cons_append, List.count_nil, List.nil_append, List.append_nil]; omega)
          clear o0 o1 o2 o3
          have o0 := hO3p.cell 0 rfl (k := 0) 0 rfl (by simp)
          simp only [List.getElem?_cons_zero, List.getElem?_cons_succ] at o0
          have o1 := hO3p.cell 0 rfl (k := 1) 1 rfl (by simp)
          simp only [List.getElem?_cons_zero, List.getElem?_cons_succ] at o1
          have o2 := hO3p.cell 0 rfl (k := 2) 2 rfl (by simp)
          simp only [List.getElem?_cons_zero, List.getElem?_cons_succ] at o2
          have o3 := hO3p.cell 0 rfl (k := 3) 3 rfl (by simp)
          simp only [List.getElem?_cons_zero, List.getElem?_cons_succ] at o3
          have HX := hid (show _ ∧ _ from ⟨hx1, hx2⟩)
          have HO3 := hid hO3p
          clear hO3 hO3p HOQ hx1 hx2
          try go_wp2_with fail
          refine hK.out _ _ ?_ (fun hHeld => ?_)
          · exact ⟨o0, o1, o2, o3⟩
          clear hK
          try simp only [Act.put, List.setIfInBounds_toArray, List.set_cons_zero, List.set_cons_succ]
          refine AnyT.ready (rs := [3]) (by kernel_rfl) (by simp) ?_
          refine AllT.cons (by simp only [List.getElem?_toArray, List.getElem?_cons_succ, List.getElem?_cons_zero]; rfl) (fun K hK => ?_) AllT.nil
          go_simp
          refine (newIterator g (.pointer x) x rfl _ w0 _ HO3.out).mono ?_
          rintro e w4 ⟨q, rfl, hO4⟩
          have hO4p := hO4.perm (L' := fw qo 67 [.int .i64 r.kind, .slice r.ka kn r.kc, .slice r.va vn r.vc, .int .i64 r.n] :: (fw qm 58 [.slice none 0 0, .slice none 0 0, .int .i64 0, .bool true] :: (iFr q g (.pointer x) 0 false (.slice none 0 0) (.slice none 0 0) :: (dFr g xx A1 n1 c1 b n2 c2 pv mh es.length (szKv (es.map En.kv)) :: (F ++ (G0 ++ (F1 ++ (Fo ++ (G ++ R))))))))) (perm_of fun _ _ z => by simp only [List.count_append, List.count_cons, List.cons_append, List.count_nil, List.nil_append, List.append_nil]; omega)
          clear o0 o1 o2 o3
          have o0 := hO4p.cell 0 rfl (k := 0) 0 rfl (by simp)
          simp only [List.getElem?_cons_zero, List.getElem?_cons_succ] at o0
          have o1 := hO4p.cell 0 rfl (k := 1) 1 rfl (by simp)
          simp only [List.getElem?_cons_zero, List.getElem?_cons_succ] at o1
          have o2 := hO4p.cell 0 rfl (k := 2) 2 rfl (by simp)
          simp only [List.getElem?_cons_zero, List.getElem?_cons_succ] at o2
          have o3 := hO4p.cell 0 rfl (k := 3) 3 rfl (by simp)
          simp only [List.getElem?_cons_zero, List.getElem?_cons_succ] at o3
          have HO4 := hid hO4p
          clear hO4 hO4p HO3
          try go_wp2_with fail
          refine hK.out _ _ ?_ (fun hHeld => ?_)
          · exact ⟨o0, o1, o2, o3⟩
          clear hK
          try simp only [Act.put, List.setIfInBounds_toArray, List.set_cons_zero, List.set_cons_succ]
          refine AnyT.ready (rs := [5]) (by kernel_rfl) (by simp) ?_
          refine AllT.cons (by simp only [List.getElem?_toArray, List.getElem?_cons_succ, List.getElem?_cons_zero]; rfl) (fun K hK => ?_) AllT.nil
          go_simp
          refine (stIterd q g es KW k' (.pointer x) r kn vn (F1 ++ (fw qm 58 [.slice none 0 0, .slice none 0 0, .int .i64 0, .bool true] :: (fw qo 67 [.int .i64 r.kind, .slice r.ka kn r.kc, .slice r.va vn r.vc, .int .i64 r.n] :: (Fo ++ (G ++ R))))) w0 _ xx A1 n1 c1 b n2 c2 pv mh kv nd F G0 HDB.out (HO4.out.perm (perm_of fun _ _ z => by simp only [List.count_append, List.count_cons, List.cons_append, List.count_nil, List.nil_append, List.append_nil]; omega)) (.inr (.inl HZ.out)) (fun h => by rw [HX.out.1 h]) (fun R' h h9 => HX.out.2 R' (fun y hy => h y (by simp [hy])) (HRD.out.1.mono fun y hy => h y (by simp [hy])) (HRD.out.2.mono fun y hy => h y (by simp [hy])) h9) (HRD.out.1.mono fun y hy => by simp [hy]) (HRD.out.2.mono fun y hy => by simp [hy]) HKN.out.1 HKN.out.2 (by rw [HKN.out.1]; exact HOK.out.1) (by omega) (by omega) hKb (by omega) hel).mono ?_
          rintro e w5 ⟨a, ln, vl, G5, rfl, h1, h2, h3, h4⟩
          obtain ⟨D, hOD, hback⟩ := h4.out.own
          have HBK : Hid (∀ (R' : List Fr) (w' : World), Own (D ++ R') w0 w' → DbSt g es KW k' R' w0 w') := hid fun R' w' h => hback h
          have hO5 := hOD.perm (L' := fw qo 67 [.int .i64 r.kind, .slice r.ka kn r.kc, .slice r.va vn r.vc, .int .i64 r.n] :: (fw qm 58 [.slice none 0 0, .slice none 0 0, .int .i64 0, .bool true] :: (D ++ (G5 ++ (F1 ++ (Fo ++ (G ++ R))))))) (perm_of fun _ _ z => by simp only [List.count_append, List.count_cons, List.cons_append, List.count_nil, List.nil_append, List.append_nil]; omega)
          clear o0 o1 o2 o3
          have o0 := hO5.cell 0 rfl (k := 0) 0 rfl (by simp)
          simp only [List.getElem?_cons_zero, List.getElem?_cons_succ] at o0
          have o1 := hO5.cell 0 rfl (k := 1) 1 rfl (by simp)
          simp only [List.getElem?_cons_zero, List.getElem?_cons_succ] at o1
          have o2 := hO5.cell 0 rfl (k := 2) 2 rfl (by simp)
          simp only [List.getElem?_cons_zero, List.getElem?_cons_succ] at o2
          have o3 := hO5.cell 0 rfl (k := 3) 3 rfl (by simp)
          simp only [List.getElem?_cons_zero, List.getElem?_cons_succ] at o3
          have HO5 := hid (hO5.perm (L' := fw qm 58 [.slice none 0 0, .slice none 0 0, .int .i64 0, .bool true] :: (D ++ (G5 ++ (F1 ++ (fw qo 67 [.int .i64 r.kind, .slice r.ka kn r.kc, .slice r.va vn r.vc, .int .i64 r.n] :: (Fo ++ (G ++ R))))))) (perm_of fun _ _ z => by simp only [List.count_append, List.count_cons, List.cons_append, List.count_nil, List.nil_append, List.append_nil]; omega))
          clear hOD hback hO5 HO4 h4 HDB HX
          try go_wp2_with fail
          refine hK.out _ _ ?_ (fun hHeld => ?_)
          · exact ⟨o0, o1, o2, o3⟩
          clear hK
          try simp only [Act.put, List.setIfInBounds_toArray, List.set_cons_zero, List.set_cons_succ]
          refine AnyT.ready (rs := [6]) (by kernel_rfl) (by simp) ?_
          refine AllT.late (by simp only [List.getElem?_toArray, List.getElem?_cons_succ, List.getElem?_cons_zero]; rfl) (by kernel_rfl) (fun K hK => ?_)
          refine own_step_store_row rfl 58 (.tmp 7) (.tmp 114) rfl qm _ rfl rfl 58 _ HO5.out (by kernel_rfl) (by simp) (by simp [Value.oneCell']) ?_
          intro w6 hO6
          have HO6 := hid hO6
          clear hO6 HO5 o0 o1 o2 o3
          refine hK.out _ _ ?_
          clear hK
          try simp only [Act.put, List.setIfInBounds_toArray, List.set_cons_zero, List.set_cons_succ]
          refine AnyT.done (by kernel_rfl) ?_ _
          clear hHeld
          go_wp2_with fail
          go_meet
          refine ⟨a, ln, vl, es, G5 ++ (F1 ++ [fw qo 67 [.int .i64 r.kind, .slice r.ka kn r.kc, .slice r.va vn r.vc, .int .i64 r.n]]), hid h1.out, hid ?_, hid ?_, hid fun wb w hw hb => h3.out wb w hw fun y hy => hb y (by simp [hy]), hid ((HBK.out _ _ (HO6.out.perm (perm_of fun _ _ z => by simp only [List.count_append, List.count_cons, List.cons_append, List.count_nil, List.nil_append, List.append_nil]; omega))).mono (by omega) (by omega))⟩
          · rw [HZ.out]; simp [mStep]
          · have h9 := h2.out
            unfold tps tvs at h9
            rw [HZ.out] at h9 ⊢
            simp at h9
            exact ⟨fun h => absurd h (by decide), fun h => absurd h (by decide), fun h => absurd h (by decide), fun h => absurd h (by decide), fun h => absurd h (by decide), fun h => absurd h (by decide), fun h => absurd h (by decide), fun h => absurd h (by decide), (fun _ => (by
              show kvs a.l = _
              rw [h9.1])), fun h => absurd h (by decide), fun h => absurd h (by decide)⟩
        by_cases n9 : kd = 9
        · have HZ := hid n9
          have e0 : (kd == 0) = false := by rw [n9]; rfl
          have e1 : (kd == 1) = false := by rw [n9]; rfl
          have e2 : (kd == 2) = false := by rw [n9]; rfl
          have e3 : (kd == 3) = false := by rw [n9]; rfl
          have e4 : (kd == 4) = false := by rw [n9]; rfl
          have e5 : (kd == 5) = false := by rw [n9]; rfl
          have e6 : (kd == 6) = false := by rw [n9]; rfl
          have e7 : (kd == 7) = false := by rw [n9]; rfl
          have e8 : (kd == 8) = false := by rw [n9]; rfl
          have e9 : (kd == 9) = true := by rw [n9]; rfl
          clear n9
          clear n0 n1 n2 n3 n4 n5 n6 n7 n8
          have hkd := HKD.out
          subst hkd
          obtain ⟨xx, A1, n1, c1, b, n2, c2, pv, mh, kv, nd, F, G0, hs, hO⟩ := HS1.out
          have HDB := hid hs
          have hOq := hO.perm (L' := fw qo 67 [.int .i64 r.kind, .slice r.ka kn r.kc, .slice r.va vn r.vc, .int .i64 r.n] :: (fw qm 58 [.slice none 0 0, .slice none 0 0, .int .i64 0, .bool true] :: (dFr g xx A1 n1 c1 b n2 c2 pv mh es.length (szKv (es.map En.kv)) :: (F ++ (G0 ++ (Fo ++ (G ++ R))))))) (perm_of fun _ _ z => by simp only [List.count_append, List.count_cons, List.cons_append, List.count_nil, List.nil_append, List.append_nil]; omega)
          clear o0 o1 o2
          have o0 := hOq.cell 0 rfl (k := 0) 0 rfl (by simp)
          simp only [List.getElem?_cons_zero, List.getElem?_cons_succ] at o0
          have o1 := hOq.cell 0 rfl (k := 1) 1 rfl (by simp)
          simp only [List.getElem?_cons_zero, List.getElem?_cons_succ] at o1
          have o2 := hOq.cell 0 rfl (k := 2) 2 rfl (by simp)
          simp only [List.getElem?_cons_zero, List.getElem?_cons_succ] at o2
          have o3 := hOq.cell 0 rfl (k := 3) 3 rfl (by simp)
          simp only [List.getElem?_cons_zero, List.getElem?_cons_succ] at o3
          have HOQ := hid hOq
          clear hs hO hOq HS1
          go_wp2_with fail
          refine AnyT.start (S := fun w' => w'.cell? ⟨qo, 0, none⟩ = some (.int .i64 r.kind) ∧ w'.cell? ⟨qo, 1, none⟩ = some (.slice r.ka kn r.kc) ∧ w'.cell? ⟨qo, 2, none⟩ = some (.slice r.va vn r.vc) ∧ w'.cell? ⟨qo, 3, none⟩ = some (.int .i64 r.n)) (T := [6]) (by kernel_rfl) (⟨o0, o1, o2, o3⟩) (fun hHeld => ?_)
          refine AnyT.take (i := 0) (v := ?_) (by simp only [List.getElem?_toArray, List.getElem?_cons_succ, List.getElem?_cons_zero]; rfl) (by kernel_rfl) (by kernel_rfl) (by kernel_rfl) (by kernel_rfl) (by intro _ _ _ h; exact h) (Or.inl ⟨by rfl, fun w hSw => ?_⟩) hHeld ?_
          rotate_left
          · ((try dsimp only at hSw); go_simp; first | done | with_reducible rfl | rfl)
          try simp only [Act.put, List.setIfInBounds_toArray, List.set_cons_zero, List.set_cons_succ]
          refine AnyT.take (i := 1) (v := ?_) (by simp only [List.getElem?_toArray, List.getElem?_cons_succ, List.getElem?_cons_zero]; rfl) (by kernel_rfl) (by kernel_rfl) (by kernel_rfl) (by kernel_rfl) (by intro _ _ _ h; exact h) (Or.inl ⟨by rfl, fun w hSw => ?_⟩) hHeld ?_
          rotate_left
          · ((try dsimp only at hSw); go_simp; first | done | with_reducible rfl | rfl)
          try simp only [Act.put, List.setIfInBounds_toArray, List.set_cons_zero, List.set_cons_succ]
          refine AnyT.take (i := 4) (v := ?_) (by simp only [List.getElem?_toArray, List.getElem?_cons_succ, List.getElem?_cons_zero]; rfl) (by kernel_rfl) (by kernel_rfl) (by kernel_rfl) (by kernel_rfl) (by intro _ _ _ h; exact h) (Or.inl ⟨by rfl, fun w hSw => ?_⟩) hHeld ?_
          rotate_left
          · ((try dsimp only at hSw); go_simp; first | done | with_reducible rfl | rfl)
          try simp only [Act.put, List.setIfInBounds_toArray, List.set_cons_zero, List.set_cons_succ]
          refine AnyT.ready (rs := [2]) (by kernel_rfl) (by simp) ?_
          refine AllT.cons (by simp only [List.getElem?_toArray, List.getElem?_cons_succ, List.getElem?_cons_zero]; rfl) (fun K hK => ?_) AllT.nil
          go_simp
          refine (slice_any r kn vn _ w0 _ HOQ.out.drew (HRD.out.1.mono fun y hy => by simp [hy]) (HRD.out.2.mono fun y hy => by simp [hy]) HKN.out.1 HKN.out.2 HOK.out.1 HOK.out.2.1 (by omega) (by omega)).mono ?_
          rintro e w3 ⟨x, F1, rfl, hx1, hx2, hO3⟩
          have hO3p := hO3.perm (L' := fw qo 67 [.int .i64 r.kind, .slice r.ka kn r.kc, .slice r.va vn r.vc, .int .i64 r.n] :: (fw qm 58 [.slice none 0 0, .slice none 0 0, .int .i64 0, .bool true] :: (dFr g xx A1 n1 c1 b n2 c2 pv mh es.length (szKv (es.map En.kv)) :: (F ++ (G0 ++ (F1 ++ (Fo ++ (G ++ R)))))))) (perm_of fun _ _ z => by simp only [List.count_append, List.count_cons, List.cons_append, List.count_nil, List.nil_append, List.append_nil]; omega)
          clear o0 o1 o2 o3
          have o0 := hO3p.cell 0 rfl (k := 0) 0 rfl (by simp)
          simp only [List.getElem?_cons_zero, List.getElem?_cons_succ] at o0
          have o1 := hO3p.cell 0 rfl (k := 1) 1 rfl (by simp)
          simp only [List.getElem?_cons_zero, List.getElem?_cons_succ] at o1
          have o2 := hO3p.cell 0 rfl (k := 2) 2 rfl (by simp)
          simp only [List.getElem?_cons_zero, List.getElem?_cons_succ] at o2
          have o3 := hO3p.cell 0 rfl (k := 3) 3 rfl (by simp)
          simp only [List.getElem?_cons_zero, List.getElem?_cons_succ] at o3
          have HX := hid (show _ ∧ _ from ⟨hx1, hx2⟩)
          have HO3 := hid hO3p
          clear hO3 hO3p HOQ hx1 hx2
          try go_wp2_with fail
          refine hK.out _ _ ?_ (fun hHeld => ?_)
          · exact ⟨o0, o1, o2, o3⟩
          clear hK
          try simp only [Act.put, List.setIfInBounds_toArray, List.set_cons_zero, List.set_cons_succ]
          refine AnyT.ready (rs := [3]) (by kernel_rfl) (by simp) ?_
          refine AllT.cons (by simp only [List.getElem?_toArray, List.getElem?_cons_succ, List.getElem?_cons_zero]; rfl) (fun K hK => ?_) AllT.nil
          go_simp
          refine (newIterator g (.pointer x) x rfl _ w0 _ HO3.out).mono ?_
          rintro e w4 ⟨q, rfl, hO4⟩
          have hO4p := hO4.perm (L' := fw qo 67 [.int .i64 r.kind, .slice r.ka kn r.kc, .slice r.va vn r.vc, .int .i64 r.n] :: (fw qm 58 [.slice none 0 0, .slice none 0 0, .int .i64 0, .bool true] :: (iFr q g (.pointer x) 0 false (.slice none 0 0) (.slice none 0 0) :: (dFr g xx A1 n1 c1 b n2 c2 pv mh es.length (szKv (es.map En.kv)) :: (F ++ (G0 ++ (F1 ++ (Fo ++ (G ++ R))))))))) (perm_of fun _ _ z => by simp only [List.count_append, List.count_cons, List.cons_append, List.count_nil, List.nil_append, List.append_nil]; omega)
          clear o0 o1 o2 o3
          have o0 := hO4p.cell 0 rfl (k := 0) 0 rfl (by simp)
          simp only [List.getElem?_cons_zero, List.getElem?_cons_succ] at o0
          have o1 := hO4p.cell 0 rfl (k := 1) 1 rfl (by simp)
          simp only [List.getElem?_cons_zero, List.getElem?_cons_succ] at o1
          have o2 := hO4p.cell 0 rfl (k := 2) 2 rfl (by simp)
          simp only [List.getElem?_cons_zero, List.getElem?_cons_succ] at o2
          have o3 := hO4p.cell 0 rfl (k := 3) 3 rfl (by simp)
          simp only [List.getElem?_cons_zero, List.getElem?_cons_succ] at o3
          have HO4 := hid hO4p
          clear hO4 hO4p HO3
          try go_wp2_with fail
          refine hK.out _ _ ?_ (fun hHeld => ?_)
          · exact ⟨o0, o1, o2, o3⟩
          clear hK
          try simp only [Act.put, List.setIfInBounds_toArray, List.set_cons_zero, List.set_cons_succ]
          refine AnyT.ready (rs := [5]) (by kernel_rfl) (by simp) ?_
          refine AllT.cons (by simp only [List.getElem?_toArray, List.getElem?_cons_succ, List.getElem?_cons_zero]; rfl) (fun K hK => ?_) AllT.nil
          go_simp
          refine (stIterd q g es KW k' (.pointer x) r kn vn (F1 ++ (fw qm 58 [.slice none 0 0, .slice none 0 0, .int .i64 0, .bool true] :: (fw qo 67 [.int .i64 r.kind, .slice r.ka kn r.kc, .slice r.va vn r.vc, .int .i64 r.n] :: (Fo ++ (G ++ R))))) w0 _ xx A1 n1 c1 b n2 c2 pv mh kv nd F G0 HDB.out (HO4.out.perm (perm_of fun _ _ z => by simp only [List.count_append, List.count_cons, List.cons_append, List.count_nil, List.nil_append, List.append_nil]; omega)) (.inr (.inr (.inl HZ.out))) (fun h => by rw [HX.out.1 h]) (fun R' h h9 => HX.out.2 R' (fun y hy => h y (by simp [hy])) (HRD.out.1.mono fun y hy => h y (by simp [hy])) (HRD.out.2.mono fun y hy => h y (by simp [hy])) h9) (HRD.out.1.mono fun y hy => by simp [hy]) (HRD.out.2.mono fun y hy => by simp [hy]) HKN.out.1 HKN.out.2 (by rw [HKN.out.1]; exact HOK.out.1) (by omega) (by omega) hKb (by omega) hel).mono ?_
          rintro e w5 ⟨a, ln, vl, G5, rfl, h1, h2, h3, h4⟩
          obtain ⟨D, hOD, hback⟩ := h4.out.own
          have HBK : Hid (∀ (R' : List Fr) (w' : World), Own (D ++ R') w0 w' → DbSt g es KW k' R' w0 w') := hid fun R' w' h => hback h
          have hO5 := hOD.perm (L' := fw qo 67 [.int .i64 r.kind, .slice r.ka kn r.kc, .slice r.va vn r.vc, .int .i64 r.n] :: (fw qm 58 [.slice none 0 0, .slice none 0 0, .int .i64 0, .bool true] :: (D ++ (G5 ++ (F1 ++ (Fo ++ (G ++ R))))))) (perm_of fun _ _ z => by simp only [List.count_append, List.count_cons, List.cons_append, List.count_nil, List.nil_append, List.append_nil]; omega)
          clear o0 o1 o2 o3
          have o0 := hO5.cell 0 rfl (k := 0) 0 rfl (by simp)
          simp only [List.getElem?_cons_zero, List.getElem?_cons_succ] at o0
          have o1 := hO5.cell 0 rfl (k := 1) 1 rfl (by simp)
          simp only [List.getElem?_cons_zero, List.getElem?_cons_succ] at o1
          have o2 := hO5.cell 0 rfl (k := 2) 2 rfl (by simp)
          simp only [List.getElem?_cons_zero, List.getElem?_cons_succ] at o2
          have o3 := hO5.cell 0 rfl (k := 3) 3 rfl (by simp)
          simp only [List.getElem?_cons_zero, List.getElem?_cons_succ] at o3
          have HO5 := hid (hO5.perm (L' := fw qm 58 [.slice none 0 0, .slice none 0 0, .int .i64 0, .bool true] :: (D ++ (G5 ++ (F1 ++ (fw qo 67 [.int .i64 r.kind, .slice r.ka kn r.kc, .slice r.va vn r.vc, .int .i64 r.n] :: (Fo ++ (G ++ R))))))) (perm_of fun _ _ z => by simp only [List.count_append, List.count_cons, List.cons_append, List.count_nil, List.nil_append, List.append_nil]; omega))
          clear hOD hback hO5 HO4 h4 HDB HX
          try go_wp2_with fail
          refine hK.out _ _ ?_ (fun hHeld => ?_)
          · exact ⟨o0, o1, o2, o3⟩
          clear hK
          try simp only [Act.put, List.setIfInBounds_toArray, List.set_cons_zero, List.set_cons_succ]
          refine AnyT.ready (rs := [6]) (by kernel_rfl) (by simp) ?_
          refine AllT.late (by simp only [List.getElem?_toArray, List.getElem?_cons_succ, List.getElem?_cons_zero]; rfl) (by kernel_rfl) (fun K hK => ?_)
          refine own_step_store_row rfl 58 (.tmp 7) (.tmp 114) rfl qm _ rfl rfl 58 _ HO5.out (by kernel_rfl) (by simp) (by simp [Value.oneCell']) ?_
          intro w6 hO6
          have HO6 := hid hO6
          clear hO6 HO5 o0 o1 o2 o3
          refine hK.out _ _ ?_
          clear hK
          try simp only [Act.put, List.setIfInBounds_toArray, List.set_cons_zero, List.set_cons_succ]
          refine AnyT.done (by kernel_rfl) ?_ _
          clear hHeld
          go_wp2_with fail
          go_meet
          refine ⟨a, ln, vl, es, G5 ++ (F1 ++ [fw qo 67 [.int .i64 r.kind, .slice r.ka kn r.kc, .slice r.va vn r.vc, .int .i64 r.n]]), hid h1.out, hid ?_, hid ?_, hid fun wb w hw hb => h3.out wb w hw fun y hy => hb y (by simp [hy]), hid ((HBK.out _ _ (HO6.out.perm (perm_of fun _ _ z => by simp only [List.count_append, List.count_cons, List.cons_append, List.count_nil, List.nil_append, List.append_nil]; omega))).mono (by omega) (by omega))⟩
          · rw [HZ.out]; simp [mStep]
          · have h9 := h2.out
            unfold tps tvs at h9
            rw [HZ.out] at h9 ⊢
            simp at h9
            exact ⟨fun h => absurd h (by decide), fun h => absurd h (by decide), fun h => absurd h (by decide), fun h => absurd h (by decide), fun h => absurd h (by decide), fun h => absurd h (by decide), fun h => absurd h (by decide), fun h => absurd h (by decide), fun h => absurd h (by decide), (fun _ => (by
              show kvs a.l = _
              rw [h9.1])), fun h => absurd h (by decide)⟩
        by_cases n10 : kd = 10
        · have HZ := hid n10
          have e0 : (kd == 0) = false := by rw [n10]; rfl
          have e1 : (kd == 1) = false := by rw [n10]; rfl
          have e2 : (kd == 2) = false := by rw [n10]; rfl
          have e3 : (kd == 3) = false := by rw [n10]; rfl
          have e4 : (kd == 4) = false := by rw [n10]; rfl
          have e5 : (kd == 5) = false := by rw [n10]; rfl
          have e6 : (kd == 6) = false := by rw [n10]; rfl
          have e7 : (kd == 7) = false := by rw [n10]; rfl
          have e8 : (kd == 8) = false := by rw [n10]; rfl
          have e9 : (kd == 9) = false := by rw [n10]; rfl
          have e10 : (kd == 10) = true := by rw [n10]; rfl
          clear n10
          clear n0 n1 n2 n3 n4 n5 n6 n7 n8 n9
          have hkd := HKD.out
          subst hkd
          obtain ⟨xx, A1, n1, c1, b, n2, c2, pv, mh, kv, nd, F, G0, hs, hO⟩ := HS1.out
          have HDB := hid hs
          have hOq := hO.perm (L' := fw qo 67 [.int .i64 r.kind, .slice r.ka kn r.kc, .slice r.va vn r.vc, .int .i64 r.n] :: (fw qm 58 [.slice none 0 0, .slice none 0 0, .int .i64 0, .bool true] :: (dFr g xx A1 n1 c1 b n2 c2 pv mh es.length (szKv (es.map En.kv)) :: (F ++ (G0 ++ (Fo ++ (G ++ R))))))) (perm_of fun _ _ z => by simp only [List.count_append, List.count_cons, List.cons_append, List.count_nil, List.nil_append, List.append_nil]; omega)
          clear o0 o1 o2
          have o0 := hOq.cell 0 rfl (k := 0) 0 rfl (by simp)
          simp only [List.getElem?_cons_zero, List.getElem?_cons_succ] at o0
          have o1 := hOq.cell 0 rfl (k := 1) 1 rfl (by simp)
          simp only [List.getElem?_cons_zero, List.getElem?_cons_succ] at o1
          have o2 := hOq.cell 0 rfl (k := 2) 2 rfl (by simp)
          simp only [List.getElem?_cons_zero, List.getElem?_cons_succ] at o2
          have o3 := hOq.cell 0 rfl (k := 3) 3 rfl (by simp)
          simp only [List.getElem?_cons_zero, List.getElem?_cons_succ] at o3
          have HOQ := hid hOq
          clear hs hO hOq HS1
          go_wp2_with fail
          refine AnyT.start (S := fun w' => w'.cell? ⟨qo, 0, none⟩ = some (.int .i64 r.kind) ∧ w'.cell? ⟨qo, 1, none⟩ = some (.slice r.ka kn r.kc) ∧ w'.cell? ⟨qo, 2, none⟩ = some (.slice r.va vn r.vc) ∧ w'.cell? ⟨qo, 3, none⟩ = some (.int .i64 r.n)) (T := [6]) (by kernel_rfl) (⟨o0, o1, o2, o3⟩) (fun hHeld => ?_)
          refine AnyT.take (i := 0) (v := ?_) (by simp only [List.getElem?_toArray, List.getElem?_cons_succ, List.getElem?_cons_zero]; rfl) (by kernel_rfl) (by kernel_rfl) (by kernel_rfl) (by kernel_rfl) (by intro _ _ _ h; exact h) (Or.inl ⟨by rfl, fun w hSw => ?_⟩) hHeld ?_
          rotate_left
          · ((try dsimp only at hSw); go_simp; first | done | with_reducible rfl | rfl)
          try simp only [Act.put, List.setIfInBounds_toArray, List.set_cons_zero, List.set_cons_succ]
          refine AnyT.take (i := 1) (v := ?_) (by simp only [List.getElem?_toArray, List.getElem?_cons_succ, List.getElem?_cons_zero]; rfl) (by kernel_rfl) (by kernel_rfl) (by kernel_rfl) (by kernel_rfl) (by intro _ _ _ h; exact h) (Or.inl ⟨by rfl, fun w hSw => ?_⟩) hHeld ?_
          rotate_left
          · ((try dsimp only at hSw); go_simp; first | done | with_reducible rfl | rfl)
          try simp only [Act.put, List.setIfInBounds_toArray, List.set_cons_zero, List.set_cons_succ]
          refine AnyT.take (i := 4) (v := ?_) (by simp only [List.getElem?_toArray, List.getElem?_cons_succ, List.getElem?_cons_zero]; rfl) (by kernel_rfl) (by kernel_rfl) (by kernel_rfl) (by kernel_rfl) (by intro _ _ _ h; exact h) (Or.inl ⟨by rfl, fun w hSw => ?_⟩) hHeld ?_
          rotate_left
          · ((try dsimp only at hSw); go_simp; first | done | with_reducible rfl | rfl)
          try simp only [Act.put, List.setIfInBounds_toArray, List.set_cons_zero, List.set_cons_succ]
          refine AnyT.ready (rs := [2]) (by kernel_rfl) (by simp) ?_
          refine AllT.cons (by simp only [List.getElem?_toArray, List.getElem?_cons_succ, List.getElem?_cons_zero]; rfl) (fun K hK => ?_) AllT.nil
          go_simp
          refine (slice_any r kn vn _ w0 _ HOQ.out.drew (HRD.out.1.mono fun y hy => by simp [hy]) (HRD.out.2.mono fun y hy => by simp [hy]) HKN.out.1 HKN.out.2 HOK.out.1 HOK.out.2.1 (by omega) (by omega)).mono ?_
          rintro e w3 ⟨x, F1, rfl, hx1, hx2, hO3⟩
          have hO3p := hO3.perm (L' := fw qo 67 [.int .i64 r.kind, .slice r.ka kn r.kc, .slice r.va vn r.vc, .int .i64 r.n] :: (fw qm 58 [.slice none 0 0, .slice none 0 0, .int .i64 0, .bool true] :: (dFr g xx A1 n1 c1 b n2 c2 pv mh es.length (szKv (es.map En.kv)) :: (F ++ (G0 ++ (F1 ++ (Fo ++ (G ++ R)))))))) (perm_of fun _ _ z => by simp only [List.count_append, List.count_cons, List.cons_append, List.count_nil, List.nil_append, List.append_nil]; omega)
          clear o0 o1 o2 o3
          have o0 := hO3p.cell 0 rfl (k := 0) 0 rfl (by simp)
          simp only [List.getElem?_cons_zero, List.getElem?_cons_succ] at o0
          have o1 := hO3p.cell 0 rfl (k := 1) 1 rfl (by simp)
          simp only [List.getElem?_cons_zero, List.getElem?_cons_succ] at o1
          have o2 := hO3p.cell 0 rfl (k := 2) 2 rfl (by simp)
          simp only [List.getElem?_cons_zero, List.getElem?_cons_succ] at o2
          have o3 := hO3p.cell 0 rfl (k := 3) 3 rfl (by simp)
          simp only [List.getElem?_cons_zero, List.getElem?_cons_succ] at o3
          have HX := hid (show _ ∧ _ from ⟨hx1, hx2⟩)
          have HO3 := hid hO3p
          clear hO3 hO3p HOQ hx1 hx2
          try go_wp2_with fail
          refine hK.out _ _ ?_ (fun hHeld => ?_)
          · exact ⟨o0, o1, o2, o3⟩
          clear hK
          try simp only [Act.put, List.setIfInBounds_toArray, List.set_cons_zero, List.set_cons_succ]
          refine AnyT.ready (rs := [3]) (by kernel_rfl) (by simp) ?_
          refine AllT.cons (by simp only [List.getElem?_toArray, List.getElem?_cons_succ, List.getElem?_cons_zero]; rfl) (fun K hK => ?_) AllT.nil
          go_simp
          refine (newIterator g (.pointer x) x rfl _ w0 _ HO3.out).mono ?_
          rintro e w4 ⟨q, rfl, hO4⟩
          have hO4p := hO4.perm (L' := fw qo 67 [.int .i64 r.kind, .slice r.ka kn r.kc, .slice r.va vn r.vc, .int .i64 r.n] :: (fw qm 58 [.slice none 0 0, .slice none 0 0, .int .i64 0, .bool true] :: (iFr q g (.pointer x) 0 false (.slice none 0 0) (.slice none 0 0) :: (dFr g xx A1 n1 c1 b n2 c2 pv mh es.length (szKv (es.map En.kv)) :: (F ++ (G0 ++ (F1 ++ (Fo ++ (G ++ R))))))))) (perm_of fun _ _ z => by simp only [List.count_append, List.count_cons, List.cons_append, List.count_nil, List.nil_append, List.append_nil]; omega)
          clear o0 o1 o2 o3
          have o0 := hO4p.cell 0 rfl (k := 0) 0 rfl (by simp)
          simp only [List.getElem?_cons_zero, List.getElem?_cons_succ] at o0
          have o1 := hO4p.cell 0 rfl (k := 1) 1 rfl (by simp)
          simp only [List.getElem?_cons_zero, List.getElem?_cons_succ] at o1
          have o2 := hO4p.cell 0 rfl (k := 2) 2 rfl (by simp)
          simp only [List.getElem?_cons_zero, List.getElem?_cons_succ] at o2
          have o3 := hO4p.cell 0 rfl (k := 3) 3 rfl (by simp)
          simp only [List.getElem?_cons_zero, List.getElem?_cons_succ] at o3
          have HO4 := hid hO4p
          clear hO4 hO4p HO3
          try go_wp2_with fail
          refine hK.out _ _ ?_ (fun hHeld => ?_)
          · exact ⟨o0, o1, o2, o3⟩
          clear hK
          try simp only [Act.put, List.setIfInBounds_toArray, List.set_cons_zero, List.set_cons_succ]
          refine AnyT.ready (rs := [5]) (by kernel_rfl) (by simp) ?_
          refine AllT.cons (by simp only [List.getElem?_toArray, List.getElem?_cons_succ, List.getElem?_cons_zero]; rfl) (fun K hK => ?_) AllT.nil
          go_simp
          refine (stIterd q g es KW k' (.pointer x) r kn vn (F1 ++ (fw qm 58 [.slice none 0 0, .slice none 0 0, .int .i64 0, .bool true] :: (fw qo 67 [.int .i64 r.kind, .slice r.ka kn r.kc, .slice r.va vn r.vc, .int .i64 r.n] :: (Fo ++ (G ++ R))))) w0 _ xx A1 n1 c1 b n2 c2 pv mh kv nd F G0 HDB.out (HO4.out.perm (perm_of fun _ _ z => by simp only [List.count_append, List.count_cons, List.cons_append, List.count_nil, List.nil_append, List.append_nil]; omega)) (.inr (.inr (.inr HZ.out))) (fun h => by rw [HX.out.1 h]) (fun R' h h9 => HX.out.2 R' (fun y hy => h y (by simp [hy])) (HRD.out.1.mono fun y hy => h y (by simp [hy])) (HRD.out.2.mono fun y hy => h y (by simp [hy])) h9) (HRD.out.1.mono fun y hy => by simp [hy]) (HRD.out.2.mono fun y hy => by simp [hy]) HKN.out.1 HKN.out.2 (by rw [HKN.out.1]; exact HOK.out.1) (by omega) (by omega) hKb (by omega) hel).mono ?_
          rintro e w5 ⟨a, ln, vl, G5, rfl, h1, h2, h3, h4⟩
          obtain ⟨D, hOD, hback⟩ := h4.out.own
          have HBK : Hid (∀ (R' : List Fr) (w' : World), Own (D ++ R') w0 w' → DbSt g es KW k' R' w0 w') := hid fun R' w' h => hback h
          have hO5 := hOD.perm (L' := fw qo 67 [.int .i64 r.kind, .slice r.ka kn r.kc, .slice r.va vn r.vc, .int .i64 r.n] :: (fw qm 58 [.slice none 0 0, .slice none 0 0, .int .i64 0, .bool true] :: (D ++ (G5 ++ (F1 ++ (Fo ++ (G ++ R))))))) (perm_of fun _ _ z => by simp only [List.count_append, List.count_cons, List.cons_append, List.count_nil, List.nil_append, List.append_nil]; omega)
          clear o0 o1 o2 o3
          have o0 := hO5.cell 0 rfl (k := 0) 0 rfl (by simp)
          simp only [List.getElem?_cons_zero, List.getElem?_cons_succ] at o0
          have o1 := hO5.cell 0 rfl (k := 1) 1 rfl (by simp)
          simp only [List.getElem?_cons_zero, List.getElem?_cons_succ] at o1
          have o2 := hO5.cell 0 rfl (k := 2) 2 rfl (by simp)
          simp only [List.getElem?_cons_zero, List.getElem?_cons_succ] at o2
          have o3 := hO5.cell 0 rfl (k := 3) 3 rfl (by simp)
          simp only [List.getElem?_cons_zero, List.getElem?_cons_succ] at o3
          have HO5 := hid (hO5.perm (L' := fw qm 58 [.slice none 0 0, .slice none 0 0, .int .i64 0, .bool true] :: (D ++ (G5 ++ (F1 ++ (fw qo 67 [.int .i64 r.kind, .slice r.ka kn r.kc, .slice r.va vn r.vc, .int .i64 r.n] :: (Fo ++ (G ++ R))))))) (perm_of fun _ _ z => by simp only [List.count_append, List.count_cons, List.cons_append, List.count_nil, List.nil_append, List.append_nil]; omega))
          clear hOD hback hO5 HO4 h4 HDB HX
          try go_wp2_with fail
          refine hK.out _ _ ?_ (fun hHeld => ?_)
          · exact ⟨o0, o1, o2, o3⟩
          clear hK
          try simp only [Act.put, List.setIfInBounds_toArray, List.set_cons_zero, List.set_cons_succ]
          refine AnyT.ready (rs := [6]) (by kernel_rfl) (by simp) ?_
          refine AllT.late (by simp only [List.getElem?_toArray, List.getElem?_cons_succ, List.getElem?_cons_zero]; rfl) (by kernel_rfl) (fun K hK => ?_)
          refine own_step_store_row rfl 58 (.tmp 7) (.tmp 114) rfl qm _ rfl rfl 58 _ HO5.out (by kernel_rfl) (by simp) (by simp [Value.oneCell']) ?_
          intro w6 hO6
          have HO6 := hid hO6
          clear hO6 HO5 o0 o1 o2 o3
          refine hK.out _ _ ?_
          clear hK
          try simp only [Act.put, List.setIfInBounds_toArray, List.set_cons_zero, List.set_cons_succ]
          refine AnyT.done (by kernel_rfl) ?_ _
          clear hHeld
          go_wp2_with fail
          go_meet
          refine ⟨a, ln, vl, es, G5 ++ (F1 ++ [fw qo 67 [.int .i64 r.kind, .slice r.ka kn r.kc, .slice r.va vn r.vc, .int .i64 r.n]]), hid h1.out, hid ?_, hid ?_, hid fun wb w hw hb => h3.out wb w hw fun y hy => hb y (by simp [hy]), hid ((HBK.out _ _ (HO6.out.perm (perm_of fun _ _ z => by simp only [List.count_append, List.count_cons, List.cons_append, List.count_nil, List.nil_append, List.append_nil]; omega))).mono (by omega) (by omega))⟩
          · rw [HZ.out]; simp [mStep]
          · have h9 := h2.out
            unfold tps tvs at h9
            rw [HZ.out] at h9 ⊢
            simp at h9
            exact ⟨fun h => absurd h (by decide), fun h => absurd h (by decide), fun h => absurd h (by decide), fun h => absurd h (by decide), fun h => absurd h (by decide), fun h => absurd h (by decide), fun h => absurd h (by decide), fun h => absurd h (by decide), fun h => absurd h (by decide), fun h => absurd h (by decide), (fun _ => (by
              refine ⟨?_, ?_⟩
              · show kvs a.l = _
                rw [h9.1, List.length_map]
              · show a.vs = _
                rw [h9.2.1, List.length_map]))⟩
        by_cases n11 : kd = 11
        · have HZ := hid n11
          have e0 : (kd == 0) = false := by rw [n11]; rfl
          have e1 : (kd == 1) = false := by rw [n11]; rfl
          have e2 : (kd == 2) = false := by rw [n11]; rfl
          have e3 : (kd == 3) = false := by rw [n11]; rfl
          have e4 : (kd == 4) = false := by rw [n11]; rfl
          have e5 : (kd == 5) = false := by rw [n11]; rfl
          have e6 : (kd == 6) = false := by rw [n11]; rfl
          have e7 : (kd == 7) = false := by rw [n11]; rfl
          have e8 : (kd == 8) = false := by rw [n11]; rfl
          have e9 : (kd == 9) = false := by rw [n11]; rfl
          have e10 : (kd == 10) = false := by rw [n11]; rfl
          have e11 : (kd == 11) = true := by rw [n11]; rfl
          clear n11
          clear n0 n1 n2 n3 n4 n5 n6 n7 n8 n9 n10
          go_wp2_with fail
          refine (dbReset g KW k' es _ w0 _ HS1.out).mono ?_
          rintro e w3 ⟨rfl, hs3⟩
          have HS4 := hid hs3
          clear hs3 o0 o1 o2 HS1
          go_wp2_with fail
          go_meet
          refine ⟨⟨none, 0, [], none, 0, [], 0, true⟩, 0, 0, [], [fw qo 67 [.int .i64 kd, .slice r.ka kn r.kc, .slice r.va vn r.vc, .int .i64 r.n]], hid ⟨rfl, rfl⟩, hid ?_, hid ?_, hid ?_, hid (HS4.out.mono (by omega) (by omega))⟩
          · rw [HKD.out, HZ.out]; simp [mStep]
          · rw [HKD.out, HZ.out]; exact ⟨fun h => absurd h (by decide), fun h => absurd h (by decide), fun h => absurd h (by decide), fun h => absurd h (by decide), fun h => absurd h (by decide), fun h => absurd h (by decide), fun h => absurd h (by decide), fun h => absurd h (by decide), fun h => absurd h (by decide), fun h => absurd h (by decide), fun h => absurd h (by decide)⟩
          · exact fun wb w _ _ => ⟨⟨CsAt.nil _ _, by simp⟩, CsAt.nil _ _⟩
        by_cases n12 : kd = 12
        · have HZ := hid n12
          have e0 : (kd == 0) = false := by rw [n12]; rfl
          have e1 : (kd == 1) = false := by rw [n12]; rfl
          have e2 : (kd == 2) = false := by rw [n12]; rfl
          have e3 : (kd == 3) = false := by rw [n12]; rfl
          have e4 : (kd == 4) = false := by rw [n12]; rfl
          have e5 : (kd == 5) = false := by rw [n12]; rfl
          have e6 : (kd == 6) = false := by rw [n12]; rfl
          have e7 : (kd == 7) = false := by rw [n12]; rfl
          have e8 : (kd == 8) = false := by rw [n12]; rfl
          have e9 : (kd == 9) = false := by rw [n12]; rfl
          have e10 : (kd == 10) = false := by rw [n12]; rfl
          have e11 : (kd == 11) = false := by rw [n12]; rfl
          have e12 : (kd == 12) = true := by rw [n12]; rfl
          clear n12
          clear n0 n1 n2 n3 n4 n5 n6 n7 n8 n9 n10 n11
          go_wp2_with fail
          refine (stFree HS1.out).mono ?_
          rintro e w3 ⟨⟨z, rfl⟩, ho3⟩
          have hs3 := HS1.out.only0 ho3
          clear ho3
          have m3 : w3.cell? ⟨qm, 2, none⟩ = some (.int .i64 0) := hs3.cellR (i := 2) (by simp)
          have f3 := hs3.frozenR 2
          have HS4 := hid (hs3.setR (i := 2) (by simp) (.int .i64 z))
          clear hs3 o0 o1 o2 HS1
          go_wp2_with fail
          go_meet
          refine ⟨⟨none, 0, [], none, 0, [], z, true⟩, 0, 0, es, [fw qo 67 [.int .i64 kd, .slice r.ka kn r.kc, .slice r.va vn r.vc, .int .i64 r.n]], hid ⟨rfl, rfl⟩, hid ?_, hid ?_, hid ?_, hid (HS4.out.mono (by omega) (by omega))⟩
          · rw [HKD.out, HZ.out]; simp [mStep]
          · rw [HKD.out, HZ.out]; exact ⟨fun h => absurd h (by decide), fun h => absurd h (by decide), fun h => absurd h (by decide), fun h => absurd h (by decide), fun h => absurd h (by decide), fun h => absurd h (by decide), fun h => absurd h (by decide), fun h => absurd h (by decide), fun h => absurd h (by decide), fun h => absurd h (by decide), fun h => absurd h (by decide)⟩
          · exact fun wb w _ _ => ⟨⟨CsAt.nil _ _, by simp⟩, CsAt.nil _ _⟩
        by_cases n13 : kd = 13
        · have HZ := hid n13
          have e0 : (kd == 0) = false := by rw [n13]; rfl
          have e1 : (kd == 1) = false := by rw [n13]; rfl
          have e2 : (kd == 2) = false := by rw [n13]; rfl
          have e3 : (kd == 3) = false := by rw [n13]; rfl
          have e4 : (kd == 4) = false := by rw [n13]; rfl
          have e5 : (kd == 5) = false := by rw [n13]; rfl
          have e6 : (kd == 6) = false := by rw [n13]; rfl
          have e7 : (kd == 7) = false := by rw [n13]; rfl
          have e8 : (kd == 8) = false := by rw [n13]; rfl
          have e9 : (kd == 9) = false := by rw [n13]; rfl
          have e10 : (kd == 10) = false := by rw [n13]; rfl
          have e11 : (kd == 11) = false := by rw [n13]; rfl
          have e12 : (kd == 12) = false := by rw [n13]; rfl
          have e13 : (kd == 13) = true := by rw [n13]; rfl
          clear n13
          clear n0 n1 n2 n3 n4 n5 n6 n7 n8 n9 n10 n11 n12
          go_wp2_with fail
          refine (stCap HS1.out).mono ?_
          rintro e w3 ⟨⟨z, rfl⟩, ho3⟩
          have hs3 := HS1.out.only0 ho3
          clear ho3
          have m3 : w3.cell? ⟨qm, 2, none⟩ = some (.int .i64 0) := hs3.cellR (i := 2) (by simp)
          have f3 := hs3.frozenR 2
          have HS4 := hid (hs3.setR (i := 2) (by simp) (.int .i64 z))
          clear hs3 o0 o1 o2 HS1
          go_wp2_with fail
          go_meet
          refine ⟨⟨none, 0, [], none, 0, [], z, true⟩, 0, 0, es, [fw qo 67 [.int .i64 kd, .slice r.ka kn r.kc, .slice r.va vn r.vc, .int .i64 r.n]], hid ⟨rfl, rfl⟩, hid ?_, hid ?_, hid ?_, hid (HS4.out.mono (by omega) (by omega))⟩
          · rw [HKD.out, HZ.out]; simp [mStep]
          · rw [HKD.out, HZ.out]; exact ⟨fun h => absurd h (by decide), fun h => absurd h (by decide), fun h => absurd h (by decide), fun h => absurd h (by decide), fun h => absurd h (by decide), fun h => absurd h (by decide), fun h => absurd h (by decide), fun h => absurd h (by decide), fun h => absurd h (by decide), fun h => absurd h (by decide), fun h => absurd h (by decide)⟩
          · exact fun wb w _ _ => ⟨⟨CsAt.nil _ _, by simp⟩, CsAt.nil _ _⟩
        have HZ := hid (show ¬ kd = 0 ∧ ¬ kd = 1 ∧ ¬ kd = 2 ∧ ¬ kd = 3 ∧ ¬ kd = 4 ∧ ¬ kd = 5 ∧ ¬ kd = 6 ∧ ¬ kd = 7 ∧ ¬ kd = 8 ∧ ¬ kd = 9 ∧ ¬ kd = 10 ∧ ¬ kd = 11 ∧ ¬ kd = 12 ∧ ¬ kd = 13 from ⟨n0, n1, n2, n3, n4, n5, n6, n7, n8, n9, n10, n11, n12, n13⟩)
        have e0 : (kd == 0) = false := by simpa using n0
        have e1 : (kd == 1) = false := by simpa using n1
        have e2 : (kd == 2) = false := by simpa using n2
        have e3 : (kd == 3) = false := by simpa using n3
        have e4 : (kd == 4) = false := by simpa using n4
        have e5 : (kd == 5) = false := by simpa using n5
        have e6 : (kd == 6) = false := by simpa using n6
        have e7 : (kd == 7) = false := by simpa using n7
        have e8 : (kd == 8) = false := by simpa using n8
        have e9 : (kd == 9) = false := by simpa using n9
        have e10 : (kd == 10) = false := by simpa using n10
        have e11 : (kd == 11) = false := by simpa using n11
        have e12 : (kd == 12) = false := by simpa using n12
        have e13 : (kd == 13) = false := by simpa using n13
        clear n0 n1 n2 n3 n4 n5 n6 n7 n8 n9 n10 n11 n12 n13
        go_wp2_with fail
        go_meet
        refine ⟨⟨none, 0, [], none, 0, [], 0, true⟩, 0, 0, es, [fw qo 67 [.int .i64 kd, .slice r.ka kn r.kc, .slice r.va vn r.vc, .int .i64 r.n]], hid ⟨rfl, rfl⟩, hid ?_, hid ?_, hid ?_, hid (HS1.out.mono (by omega) (by omega))⟩
        · rw [HKD.out]; have := HZ.out; unfold mStep; rw [if_neg (by omega), if_neg (by omega), if_neg (by omega)]
        · rw [HKD.out]; have := HZ.out; exact ⟨fun h => by omega, fun h => by omega, fun h => by omega, fun h => by omega, fun h => by omega, fun h => by omega, fun h => by omega, fun h => by omega, fun h => by omega, fun h => by omega, fun h => by omega⟩
        · exact fun wb w _ _ => ⟨⟨CsAt.nil _ _, by simp⟩, CsAt.nil _ _⟩
      case rest =>
      clear o0 o1 o2 HS1 HRD2
      obtain ⟨a, ln, vl, es', G', HL1, HE1, HT1, HOKA, HS5⟩ := hcut
      have c0 := HS5.out.cellR (i := 0) (by simp)
      have c1 := HS5.out.cellR (i := 1) (by simp)
      have c2 := HS5.out.cellR (i := 2) (by simp)
      have c3 := HS5.out.cellR (i := 3) (by simp)
      simp only [List.getElem?_cons_zero, List.getElem?_cons_succ] at c0 c1 c2 c3
      obtain ⟨D, hOD, hback⟩ := HS5.out.own
      have HBK : Hid (∀ (R' : List Fr) (w' : World), Own (D ++ R') w0 w' → DbSt g es' (KW + kn + vn) (k' + 1) R' w0 w') := hid fun R' w' h => hback h
      have HOD := hid (hOD.perm (L' := Fo ++ (fw qm 58 [.slice a.pA ln a.pc, .slice a.vA vl a.vc, .int .i64 a.n, .bool a.ok] :: (D ++ (G' ++ (G ++ R))))) (perm_of fun _ _ z => by simp only [List.count_append, List.count_cons, List.cons_append, List.count_nil, List.nil_append, List.append_nil]; omega))
      clear hOD hback HS5 HST HRD HKD
      go_wp2_with (at_builtin; refine own_append rfl (.tmp 129) (.tmp 131) 63 rfl 58 (.agg #[.slice none 0 0, .slice none 0 0, .int .i64 0, .bool false]) 4 64 Tryd.underlying63 Tryd.info_ma rfl (by decide) aA k' ac (ans.flatMap MAn.cells) Fo rfl HR.out (R := fw qm 58 [.slice a.pA ln a.pc, .slice a.vA vl a.vc, .int .i64 a.n, .bool a.ok] :: (D ++ (G' ++ (G ++ R)))) (HOD.out.skip _) (some ⟨_, 0, none⟩) 1 1 [.slice a.pA ln a.pc, .slice a.vA vl a.vc, .int .i64 a.n, .bool a.ok] rfl rfl (csAt_all _ _ _) (by simp [Value.oneCell']) (by simp [maxLen]; omega) (by omega) ?_; intro A2 cc2 Fo2 w7 hr7 hO7 _; have HR7 := hid hr7; have HO7 := hid hO7; clear hr7 hO7)
      go_roundw
      case rel =>
        have hwt := HWT.out
        rw [← HK.out, ← HKN.out.1, ← HKN.out.2] at hwt
        have hwl := HWL.out
        have hww := HW.out
        refine ⟨k' + 1, k' + 1, cc2, wgm (ops.take (k' + 1)), A2, ans ++ [a], es', Fo2, fw qm 58 [.slice a.pA ln a.pc, .slice a.vA vl a.vc, .int .i64 a.n, .bool a.ok] :: (G' ++ G), by go_num, rfl, rfl, by omega, by omega, hid rfl, hid ⟨by rw [List.length_append, HA.out.1]; rfl, fun i o a' ho ha => ?_⟩, hid ?_, hid fun y hy => ?_, hid ?_, hid ?_⟩
        · rcases Nat.lt_or_ge i k' with h1 | h1
          · rw [List.getElem?_append_left (by rw [HA.out.1]; exact h1)] at ha
            exact HA.out.2 i o a' ho ha
          · have h2 := (List.getElem?_eq_some_iff.1 ha).1
            rw [List.length_append, HA.out.1] at h2
            simp at h2
            obtain rfl : i = k' := by omega
            rw [HX.out.1] at ho
            obtain rfl := Option.some.inj ho
            rw [List.getElem?_append_right (by rw [HA.out.1]; exact Nat.le_refl _), HA.out.1, Nat.sub_self] at ha
            obtain rfl : a = a' := by simpa using ha
            have := HT1.out
            rw [HES.out] at this
            exact this
        · have h9 := HR7.out
          rw [List.flatMap_append]
          rw [HL1.out.1, HL1.out.2] at h9
          simpa [MAn.cells] using h9
        · rcases List.mem_append.1 hy with hy | hy
          · exact fun wb w hw hb => HSA.out y hy wb w hw fun z hz => hb z (by simp [hz])
          · rw [List.mem_singleton] at hy
            subst hy
            exact fun wb w hw hb => HOKA.out wb w hw fun z hz => hb z (by simp [hz])
        · rw [HX.out.2, mAfter_snoc, ← HES.out]
          exact HE1.out
        · exact (HBK.out _ _ (HO7.out.perm (perm_of fun _ _ z => by simp only [List.count_append, List.count_cons, List.cons_append, List.count_nil, List.nil_append, List.append_nil]; omega))).mono (by omega) (Nat.le_refl _)
      case measure => simp [intOf]; omega
    · have h4' : ¬ (k' : Int) < (n : Int) := by omega
      obtain rfl : n = k' := by omega
      obtain ⟨D, hOD, -⟩ := HST.out.own
      have HOD := hid hOD
      clear hOD HST h4
      go_wp2_with fail
      go_ret
      exact ⟨aA, ac, ans, Fo, D ++ G, rfl, HA, HR, hid fun y hy wb w hw hb => HSA.out y hy wb w hw fun z hz => hb z (by simp [hz]), hid (HOD.out.perm (perm_of fun _ _ z => by simp only [List.count_append, List.count_cons, List.cons_append, List.count_nil, List.nil_append, List.append_nil]; omega))⟩
end Go.Proofs.YtloflmcgbbbnjaaDoor
