/-
  Keys of the store inside: made, parsed, compared.
-/
import Derived.Test.YtnebbmbhildomaaDoorLittle
import Derived.Test.YtnebbmbhildomaaDoorPut64
import Derived.Test.YtnebbmbhildomaaDoorUnlittle
import Derived.Test.YtnebbmbhildomaaDoorBcmp
import Derived.Test.YtnebbmbhildomaaDoorCompare
import Derived.StillTailTactics
namespace Go.Proofs.YtnebbmbhildomaaDoor
open Go.RowKit Plain

/-- A key inside, as bytes. -/
def ikey (key : List UInt8) (num : Int) : List UInt8 := key ++ leB num 8
theorem ikey_length (key : List UInt8) (num : Int) : (ikey key num).length = key.length + 8 := by simp [ikey, leB_length]
theorem u64_or_kind {x k : Int} (hx : x % 256 = 0) (hx0 : 0 ≤ x) (hx1 : x < 18446744073709551616) (hk0 : 0 ≤ k) (hk1 : k ≤ 1) : bits .or .u64 x k = x + k := u64_hi_or8 hk0 (by omega) hx0 hx hx1

set_option maxHeartbeats 400000 in
theorem ensure_nil (n : Nat) (w : World) (hn : n ≤ 140737488355328) (hp : 0 < n) :
    Calls Tryd.prog 24 #[.slice none 0 0, .int .i64 n] w fun e w' => e = .returned (.slice (some ⟨w.heap.size, 0, none⟩) n n) ∧ Blk w' w.heap.size 5 (List.replicate n (.int .u8 0)) ∧ Only [] w w' := by
  have t : (0 : Int) < (n : Int) := by omega
  go_enter Tryd.func24, Tryd.ntmps24
  go_wp2_with (at_make; refine wp_make rfl _ _ _ rfl 5 (.int .u8 0) 1 Tryd.underlying22 Tryd.info_byte rfl _ _ _ _ n n rfl rfl rfl rfl (Nat.le_refl _) (by omega) (by omega) ?_; intro w1 hb1 hz1 ho1)
  go_ret
  exact ⟨rfl, hb1, ho1⟩

theorem splice_ikey (key : List UInt8) (x : Int) : splice (splice (List.replicate (key.length + 8) (Value.int .u8 0)) 0 (bc key)) key.length (bc (leB x 8)) = bc (ikey key x) := by
  have h8 : (bc (leB x 8)).length = 8 := by rw [bc_length, leB_length]
  have hk := bc_length key
  unfold splice ikey
  rw [bc_append, h8, hk]
  simp [hk]

theorem Tryd.size_u8 : (Tryd.prog.info? 5).map (·.size) = some 1 := by kernel_rfl

set_option maxHeartbeats 1600000 in
set_option maxRecDepth 100000 in
theorem makeIkey_any (A : Option Addr) (c : Nat) (key : List UInt8) (seq kind : Int) (w : World) (ha : BsAt w A key) (hl : key.length ≤ 2147483647) (s0 : 0 ≤ seq) (s1 : seq < 72057594037927936) (k0 : 0 ≤ kind) (k1 : kind ≤ 1) :
    Calls Tryd.prog 21 #[.slice none 0 0, .slice A key.length c, .int .u64 seq, .int .u64 kind] w fun e w' =>
      e = .returned (.slice (some ⟨w.heap.size, 0, none⟩) (key.length + 8) (key.length + 8)) ∧ Blk w' w.heap.size 5 (bc (ikey key (seq * 256 + kind))) ∧ Only [] w w' := by
  have t1 : ¬ 72057594037927935 < seq := by omega
  have t2 : ¬ 1 < kind := by omega
  have hor : bits .or .u64 (seq * 256) kind = seq * 256 + kind := u64_or_kind (by omega) (by omega) (by omega) k0 k1
  go_enter Tryd.func21, Tryd.ntmps21
  go_wp2_with (first
    | (go_at_call 24; refine (ensure_nil (key.length + 8) _ (by omega) (by omega)).mono ?_; rintro e w1 ⟨rfl, hb1, ho1⟩)
    | (refine wp_copy rfl (.tmp 20) (.tmp 21) 22 22 rfl 5 Tryd.underlying22 Tryd.size_u8 _ 0 (key.length + 8) (key.length + 8) A key.length c rfl rfl _ _ hb1 key (ha.keep0 ho1) (by omega) (by simp) ?_; intro w2 hb2 hz2 ho2))
  have q1 : (key.length : Int) ≤ (key.length : Int) + 8 := by omega
  have q2 : key.length ≤ key.length + 8 := by omega
  have q3 : ¬ key.length + 8 = key.length := by omega
  have hfit : key.length + 8 ≤ (splice (List.replicate (key.length + 8) (Value.int .u8 0)) 0 (bc key)).length := by
    rw [length_splice _ _ _ (by simp [bc_length])]; simp
  go_still_tail 9, (by kernel_rfl)
  go_wp2_with (go_at_call 25; rw [hor]; go_must (refine (put64_any w.heap.size key.length _ _ (seq * 256 + kind) _ _ (hb2.drew) hfit (Nat.le_refl _) (by omega) (by omega)).mono ?_); rintro e w3 ⟨rfl, hb3, ho3⟩)
  go_ret
  rw [splice_ikey] at hb3
  exact ⟨rfl, hb3, ((ho1.trans' ho2 (by simp; omega)).drew).trans' ho3 (by simp; omega)⟩

set_option maxHeartbeats 400000 in
theorem zzInternal_any (A : Option Addr) (c : Nat) (key : List UInt8) (seq kind : Int) (w : World) (ha : BsAt w A key) (hl : key.length ≤ 2147483647) (s0 : 0 ≤ seq) (s1 : seq < 72057594037927936) (k0 : 0 ≤ kind) (k1 : kind ≤ 1) :
    Calls Tryd.prog 17 #[.slice A key.length c, .int .u64 seq, .int .i64 kind] w fun e w' =>
      e = .returned (.slice (some ⟨w.heap.size, 0, none⟩) (key.length + 8) (key.length + 8)) ∧ Blk w' w.heap.size 5 (bc (ikey key (seq * 256 + kind))) ∧ Only [] w w' := by
  go_enter Tryd.func17, Tryd.ntmps17
  go_wp2_with (go_at_call 21; refine (makeIkey_any A c key seq kind _ ha hl s0 s1 k0 k1).mono ?_; rintro e w1 ⟨rfl, hb, ho⟩)
  go_ret
  exact ⟨rfl, hb, ho⟩
set_option maxHeartbeats 400000 in
theorem implInternal_any (A : Option Addr) (c : Nat) (key : List UInt8) (seq kind : Int) (w : World) (ha : BsAt w A key) (hl : key.length ≤ 2147483647) (s0 : 0 ≤ seq) (s1 : seq < 72057594037927936) (k0 : 0 ≤ kind) (k1 : kind ≤ 1) :
    Calls Tryd.prog 10 #[.slice A key.length c, .int .u64 seq, .int .i64 kind] w fun e w' =>
      e = .returned (.slice (some ⟨w.heap.size, 0, none⟩) (key.length + 8) (key.length + 8)) ∧ Blk w' w.heap.size 5 (bc (ikey key (seq * 256 + kind))) ∧ Only [] w w' := by
  go_enter Tryd.func10, Tryd.ntmps10
  go_wp2_with (go_at_call 17; refine (zzInternal_any A c key seq kind _ ha hl s0 s1 k0 k1).mono ?_; rintro e w1 ⟨rfl, hb, ho⟩)
  go_ret
  exact ⟨rfl, hb, ho⟩

set_option maxHeartbeats 800000 in
theorem specKey_any (A : Option Addr) (c : Nat) (key : List UInt8) (seq kind : Int) (w : World) (ha : BsAt w A key) (hl : key.length ≤ 2147483647) (s0 : 0 ≤ seq) (s1 : seq < 72057594037927936) (k0 : 0 ≤ kind) (k1 : kind ≤ 1) :
    Calls Tryd.prog 9 #[.slice A key.length c, .int .u64 seq, .int .i64 kind] w fun e w' =>
      ∃ g c', e = .returned (.slice (some ⟨g, 0, none⟩) (key.length + 8) c') ∧ key.length + 8 ≤ c' ∧ BsAt w' (some ⟨g, 0, none⟩) (ikey key (seq * 256 + kind)) ∧ Only [] w w' := by
  have hor : bits .or .u64 (seq * 256) kind = seq * 256 + kind := u64_or_kind (by omega) (by omega) (by omega) k0 k1
  go_enter Tryd.func9, Tryd.ntmps9
  go_wp2_with (first
    | (at_builtin; refine wp_append rfl _ _ _ rfl 5 (.int .u8 0) 1 1 Tryd.underlying22 Tryd.info_byte rfl (by decide) _ 0 [] rfl (World.ownsRow_made _ #[] 0 (Nat.zero_le _) (Nat.zero_le _) rfl) A key.length c (bc key) rfl (by rw [bc_length, Nat.mul_one]) (ha.alloc _).cs (bc_one _) (by simp only [maxLen]; omega) (by omega) ?_; intro v1 w1 hown1 hg1 _ hat1; have HG := hid (((Grow.refl (w.alloc (.cells #[] 5)) _)).step hg1 hat1); clear hg1 hat1; simp only [Nat.zero_add, List.nil_append] at hown1)
    | (go_at_call 16; (try rw [hor]); go_must (refine (little_any v1 key.length (bc key) (seq * 256 + kind) 8 _ hown1 (by omega) (by omega) (by omega) (by omega)).mono ?_); rintro e w2 ⟨v2, rfl, hown2, hg2⟩))
  go_ret
  rw [← bc_append] at hown2
  obtain ⟨g, c', rfl, hc', _, hbs⟩ := own_bytes (l := ikey key (seq * 256 + kind)) hown2 (by rw [ikey_length]; omega)
  rw [ikey_length] at hc' ⊢
  exact ⟨g, c', rfl, hc', hbs, ((Only.refl _ _).alloc _).trans' (HG.out.trans hg2).only (fun i hi hm => by have hm' : i ∈ [w.heap.size] := hm; simp at hm'; omega)⟩

set_option maxHeartbeats 1600000 in
set_option maxRecDepth 100000 in
theorem leUint64_any (g o n c : Nat) (l : List UInt8) (w : World) (h : BsAt w (some ⟨g, o, none⟩) l) (hl : 8 ≤ l.length) (hn : n = l.length) :
    Calls Tryd.prog 27 #[.agg #[], .slice (some ⟨g, o, none⟩) n c] w fun e w' => e = .returned (.int .u64 (leI (l.take 8))) ∧ Only [] w w' := by
  subst hn
  obtain ⟨_, _, e, _, hc⟩ := h.addr (by omega)
  injection e with e
  injection e with e1 e2
  subst e1; subst e2
  have c0 := hc 0 (by omega); have c1 := hc 1 (by omega); have c2 := hc 2 (by omega); have c3 := hc 3 (by omega)
  have c4 := hc 4 (by omega); have c5 := hc 5 (by omega); have c6 := hc 6 (by omega); have c7 := hc 7 (by omega)
  rw [Nat.add_zero] at c0
  have x0 := bz_lo l 0; have x1 := bz_lo l 1; have x2 := bz_lo l 2; have x3 := bz_lo l 3; have x4 := bz_lo l 4; have x5 := bz_lo l 5; have x6 := bz_lo l 6; have x7 := bz_lo l 7
  have y0 := bz_hi l 0; have y1 := bz_hi l 1; have y2 := bz_hi l 2; have y3 := bz_hi l 3; have y4 := bz_hi l 4; have y5 := bz_hi l 5; have y6 := bz_hi l 6; have y7 := bz_hi l 7
  have t := leI_take8 hl
  have T := hid t
  clear t hc h
  have l0 : 0 < l.length := by omega
  have l1 : (1 : Int) < (l.length : Int) := by omega
  have l2 : (2 : Int) < (l.length : Int) := by omega
  have l3 : (3 : Int) < (l.length : Int) := by omega
  have l4 : (4 : Int) < (l.length : Int) := by omega
  have l5 : (5 : Int) < (l.length : Int) := by omega
  have l6 : (6 : Int) < (l.length : Int) := by omega
  have l7 : (7 : Int) < (l.length : Int) := by omega
  go_enter Tryd.func27, Tryd.ntmps27
  go_wp2
  go_quiet (fail)
  go_wp2
  go_ret
  refine ⟨ret_int ?_, ((Only.refl _ _).alloc _).drewN _⟩
  rw [T.out]
  simp (disch := omega) only [u64_or8, u64_or16, u64_or24, u64_or32, u64_or40, u64_or48, u64_or56]
  omega

theorem results4 {fn : Func} {t u v x : Tmp} (h : fn.results = #[.tmp t, .tmp u, .tmp v, .tmp x]) (tmps : Array Value) (P : Program) (w : World) :
    (results fn tmps).run P w = .ok (.tuple #[tmps.getD t undef, tmps.getD u undef, tmps.getD v undef, tmps.getD x undef]) w := by simp [results, h]
theorem ikey_take (key : List UInt8) (x : Int) : (ikey key x).take key.length = key := by simp [ikey]
theorem ikey_drop (key : List UInt8) (x : Int) : (ikey key x).drop key.length = leB x 8 := by simp [ikey]
theorem leI_ikey (key : List UInt8) {x : Int} (h0 : 0 ≤ x) (h1 : x < 18446744073709551616) : leI (((ikey key x).drop key.length).take 8) = x := by
  rw [ikey_drop, List.take_of_length_le (by rw [leB_length]; exact Nat.le_refl _)]
  exact leI_leB x 8 h0 (by simpa using h1)

set_option maxHeartbeats 1600000 in
set_option maxRecDepth 100000 in
theorem parseIkey_any (g c : Nat) (key : List UInt8) (seq kind : Int) (w : World) (ha : BsAt w (some ⟨g, 0, none⟩) (ikey key (seq * 256 + kind))) (hc : key.length + 8 ≤ c) (hl : key.length ≤ 2147483647) (s0 : 0 ≤ seq) (s1 : seq < 72057594037927936) (k0 : 0 ≤ kind) (k1 : kind ≤ 1) :
    Calls Tryd.prog 22 #[.slice (some ⟨g, 0, none⟩) (key.length + 8) c] w fun e w' =>
      e = .returned (.tuple #[.slice (some ⟨g, 0, none⟩) key.length c, .int .u64 seq, .int .u64 kind, .nilIface]) ∧ Only [] w w' := by
  have t1 : ¬ ((key.length : Int) + 8 < 8) := by omega
  have hn := leI_ikey key (x := seq * 256 + kind) (by omega) (by omega)
  have q3 : ¬ c = key.length := by omega
  have q4 : key.length ≤ key.length + 8 := by omega
  have q5 : (key.length : Int) ≤ (key.length : Int) + 8 := by omega
  have q6 : key.length ≤ c := by omega
  have q7 : IntKind.i64.wrap (key.length : Int) = key.length := i64_id (by omega) (by omega)
  have hu := fun w' (hC : Only [] w w') => leUint64_any g key.length 8 (c - key.length) ((ikey key (seq * 256 + kind)).drop key.length) w' (by have := (ha.keep0 hC).drop key.length; rwa [Nat.zero_add] at this) (by rw [List.length_drop, ikey_length]; omega) (by rw [List.length_drop, ikey_length]; omega)
  rw [hn] at hu
  have HU := hid hu
  clear hn hu
  go_enter Tryd.func22, Tryd.ntmps22
  go_wp2_with fail
  refine wp_region_cls (fun w' => Only [] w w') (by kernel_rfl) (by kernel_rfl) (Only.refl _ _).drew ?_
  iterate 6
    refine wpQuiet_plain rfl (fun K hK => ?_)
    apply quiet_mk
    · intro w' hC
      go_simp
      rfl
    go_simp
    refine hK _ ?_
    clear hK K
  refine wpQuiet_plain rfl (fun K hK => ?_)
  apply quiet_mk
  · intro w' hC
    go_simp
    exact (HU.out w' hC).mono (fun e w'' he => ⟨he.1, hC.new he.2⟩)
  go_simp
  refine hK _ ?_
  clear hK K
  refine wpQuiet_plain rfl (fun K hK => ?_)
  apply quiet_mk
  · intro w' hC
    go_simp
    rfl
  go_simp
  refine hK _ ?_
  clear hK K
  refine wpQuiet_nil ?_
  intro w5 ho5
  have d1 : (seq * 256 + kind) / 256 = seq := by omega
  have d2 : bits .and .u64 (seq * 256 + kind) 255 = kind := by rw [u64_and255 (by omega) (by omega)]; omega
  have t2 : ¬ 1 < kind := by omega
  go_wp2
  refine bodyPost_ret (results4 rfl _ _ _) rfl ?_
  exact ⟨rfl, ho5⟩

set_option maxHeartbeats 800000 in
theorem zzParse_any (g c : Nat) (key : List UInt8) (seq kind : Int) (w : World) (ha : BsAt w (some ⟨g, 0, none⟩) (ikey key (seq * 256 + kind))) (hc : key.length + 8 ≤ c) (hl : key.length ≤ 2147483647) (s0 : 0 ≤ seq) (s1 : seq < 72057594037927936) (k0 : 0 ≤ kind) (k1 : kind ≤ 1) :
    Calls Tryd.prog 18 #[.slice (some ⟨g, 0, none⟩) (key.length + 8) c] w fun e w' =>
      e = .returned (.tuple #[.slice (some ⟨g, 0, none⟩) key.length c, .int .u64 seq, .int .i64 kind, .bool true]) ∧ Only [] w w' := by
  have hnn := fun W => run_eql_nil_nil (P := Tryd.prog) (w := W) (t := 41) Tryd.underlying41
  have hw : IntKind.i64.wrap kind = kind := i64_id (by omega) (by omega)
  go_enter Tryd.func18, Tryd.ntmps18
  go_wp2_with (go_at_call 22; refine (parseIkey_any g c key seq kind _ ha hc hl s0 s1 k0 k1).mono ?_; rintro e w1 ⟨rfl, ho⟩)
  go_quiet (fail)
  go_wp2
  refine bodyPost_ret (results4 rfl _ _ _) rfl ?_
  exact ⟨rfl, ho.drewN _⟩
set_option maxHeartbeats 800000 in
theorem implParse_any (g c : Nat) (key : List UInt8) (seq kind : Int) (w : World) (ha : BsAt w (some ⟨g, 0, none⟩) (ikey key (seq * 256 + kind))) (hc : key.length + 8 ≤ c) (hl : key.length ≤ 2147483647) (s0 : 0 ≤ seq) (s1 : seq < 72057594037927936) (k0 : 0 ≤ kind) (k1 : kind ≤ 1) :
    Calls Tryd.prog 11 #[.slice (some ⟨g, 0, none⟩) (key.length + 8) c] w fun e w' =>
      e = .returned (.tuple #[.slice (some ⟨g, 0, none⟩) key.length c, .int .u64 seq, .int .i64 kind, .bool true]) ∧ Only [] w w' := by
  go_enter Tryd.func11, Tryd.ntmps11
  go_wp2_with (go_at_call 18; refine (zzParse_any g c key seq kind _ ha hc hl s0 s1 k0 k1).mono ?_; rintro e w1 ⟨rfl, ho⟩)
  refine bodyPost_ret (results4 rfl _ _ _) rfl ?_
  exact ⟨rfl, ho⟩

end Go.Proofs.YtnebbmbhildomaaDoor
