/-
  PLAIN: a filter of bits: what has been set stays set, and is found.
  filter.bloomFilter: the hash.
  filter.bloomFilterGenerator: Add; the bits that Generate sets.
  filter.bloomFilterGenerator: Generate.
  filter.NewBloomFilter, NewGenerator; the methods behind the interfaces.
  table.filterWriter: add, generate.
  table.filterWriter: with bounds alone: add, flush, finish.
-/
import Derived.Test.YtloflmcgbbbnjaaDoorTabM3
import Derived.Test.YtloflmcgbbbnjaaDoorTabM5
import Derived.Test.YtloflmcgbbbnjaaDoorTabM4
namespace Go.Proofs.YtloflmcgbbbnjaaDoor.Plain
open Go

/-- A bit of a row of bytes. -/
def getBit (D : List UInt8) (p : Nat) : Bool := (at_ D (p / 8)).toNat.testBit (p % 8)
def orByte (x : UInt8) (m : Nat) : UInt8 := UInt8.ofNat (x.toNat ||| 2 ^ m)
def setBit (D : List UInt8) (p : Nat) : List UInt8 := D.set (p / 8) (orByte (at_ D (p / 8)) (p % 8))
theorem orByte_toNat (x : UInt8) {m : Nat} (hm : m < 8) : (orByte x m).toNat = x.toNat ||| 2 ^ m := by
  have h1 : x.toNat < 2 ^ 8 := x.toNat_lt
  have h2 : 2 ^ m < 2 ^ 8 := Nat.pow_lt_pow_right (by decide) hm
  have h3 := Nat.or_lt_two_pow h1 h2
  simp only [orByte, UInt8.toNat_ofNat', Nat.mod_eq_of_lt h3]
theorem setBit_length (D : List UInt8) (p : Nat) : (setBit D p).length = D.length := by simp [setBit]
theorem setBit_at {D : List UInt8} {p i : Nat} (h : p / 8 < D.length) : at_ (setBit D p) i = if i = p / 8 then orByte (at_ D (p / 8)) (p % 8) else at_ D i := by
  unfold setBit
  by_cases hi : i = p / 8
  · subst hi
    rw [if_pos rfl, at_, List.getElem?_set_self h]; rfl
  · rw [if_neg hi, at_, List.getElem?_set_ne (Ne.symm hi)]; rfl
theorem getBit_set {D : List UInt8} {p : Nat} (h : p / 8 < D.length) : getBit (setBit D p) p = true := by
  unfold getBit
  rw [setBit_at h, if_pos rfl, orByte_toNat _ (Nat.mod_lt _ (by decide)), Nat.testBit_or, Nat.testBit_two_pow_self, Bool.or_true]
theorem getBit_keep {D : List UInt8} {p q : Nat} (h : p / 8 < D.length) (hq : getBit D q = true) : getBit (setBit D p) q = true := by
  unfold getBit at hq ⊢
  rw [setBit_at h]
  by_cases hi : q / 8 = p / 8
  · rw [if_pos hi, orByte_toNat _ (Nat.mod_lt _ (by decide)), Nat.testBit_or, ← hi, hq, Bool.true_or]
  · rw [if_neg hi]; exact hq
/-- The place of a probe. -/
def spot (x nb : Int) : Nat := (x % nb).toNat
theorem spot_lt {x nb : Int} {n : Nat} (h0 : 0 < n) (hn : nb = 8 * (n : Int)) : spot x nb / 8 < n := by
  have h1 := Int.emod_nonneg x (show nb ≠ 0 by omega)
  have h2 := Int.emod_lt_of_pos x (show 0 < nb by omega)
  unfold spot; omega
def addKey (nb dl : Int) : Nat → Int → List UInt8 → List UInt8
  | 0, _, D => D
  | n + 1, x, D => addKey nb dl n (w32 (x + dl)) (setBit D (spot x nb))
def hasKey (nb dl : Int) (D : List UInt8) : Nat → Int → Bool
  | 0, _ => true
  | n + 1, x => getBit D (spot x nb) && hasKey nb dl D n (w32 (x + dl))
theorem addKey_length (nb dl : Int) : ∀ (n : Nat) (x : Int) (D : List UInt8), (addKey nb dl n x D).length = D.length
  | 0, _, _ => rfl
  | n + 1, x, D => by rw [addKey, addKey_length, setBit_length]
section
variable {nb : Int} {m : Nat} (h0 : 0 < m) (hn : nb = 8 * (m : Int))
include h0 hn
theorem getBit_addKey (dl : Int) {q : Nat} : ∀ (n : Nat) (x : Int) (D : List UInt8), m ≤ D.length → getBit D q = true → getBit (addKey nb dl n x D) q = true
  | 0, _, _, _, h => h
  | n + 1, x, D, hD, h => by
    rw [addKey]
    have := spot_lt (x := x) h0 hn
    exact getBit_addKey dl n _ _ (by rw [setBit_length]; exact hD) (getBit_keep (by omega) h)
theorem hasKey_addKey_other (dl dl' : Int) (n : Nat) (x : Int) (D : List UInt8) (hD : m ≤ D.length) : ∀ (k : Nat) (y : Int), hasKey nb dl' D k y = true → hasKey nb dl' (addKey nb dl n x D) k y = true
  | 0, _, _ => rfl
  | k + 1, y, h => by
    rw [hasKey, Bool.and_eq_true] at h ⊢
    exact ⟨getBit_addKey h0 hn dl n x D hD h.1, hasKey_addKey_other dl dl' n x D hD k _ h.2⟩
theorem hasKey_addKey (dl : Int) : ∀ (n : Nat) (x : Int) (D : List UInt8), m ≤ D.length → hasKey nb dl (addKey nb dl n x D) n x = true
  | 0, _, _, _ => rfl
  | n + 1, x, D, hD => by
    have := spot_lt (x := x) h0 hn
    rw [hasKey, Bool.and_eq_true, addKey]
    exact ⟨getBit_addKey h0 hn dl n _ _ (by rw [setBit_length]; exact hD) (getBit_set (by omega)), hasKey_addKey dl n _ _ (by rw [setBit_length]; exact hD)⟩
theorem at_addKey (dl : Int) {i : Nat} (hi : m ≤ i) : ∀ (n : Nat) (x : Int) (D : List UInt8), m ≤ D.length → at_ (addKey nb dl n x D) i = at_ D i
  | 0, _, _, _ => rfl
  | n + 1, x, D, hD => by
    have := spot_lt (x := x) h0 hn
    rw [addKey, at_addKey dl hi n _ _ (by rw [setBit_length]; exact hD), setBit_at (by omega), if_neg (by omega)]
end
/-- Seventeen bits to the right, round. -/
def rot (x : Int) : Int := bits .or .u32 (x / 131072) (w32 (x * 32768))
def addAll (nb : Int) (k : Nat) : List Int → List UInt8 → List UInt8
  | [], D => D
  | x :: l, D => addAll nb k l (addKey nb (rot x) k x D)
theorem addAll_snoc (nb : Int) (k : Nat) (x : Int) : ∀ (l : List Int) (D : List UInt8), addAll nb k (l ++ [x]) D = addKey nb (rot x) k x (addAll nb k l D)
  | [], _ => rfl
  | _ :: l, _ => addAll_snoc nb k x l _
theorem addAll_length (nb : Int) (k : Nat) : ∀ (l : List Int) (D : List UInt8), (addAll nb k l D).length = D.length
  | [], _ => rfl
  | x :: l, D => by rw [addAll, addAll_length, addKey_length]
section
variable {nb : Int} {m : Nat} (h0 : 0 < m) (hn : nb = 8 * (m : Int))
include h0 hn
theorem at_addAll (k : Nat) {i : Nat} (hi : m ≤ i) : ∀ (l : List Int) (D : List UInt8), m ≤ D.length → at_ (addAll nb k l D) i = at_ D i
  | [], _, _ => rfl
  | x :: l, D, hD => by rw [addAll, at_addAll k hi l _ (by rw [addKey_length]; exact hD), at_addKey h0 hn _ hi _ _ _ hD]
theorem hasKey_addAll_keep (k j : Nat) (y : Int) : ∀ (l : List Int) (D : List UInt8), m ≤ D.length → hasKey nb (rot y) D j y = true → hasKey nb (rot y) (addAll nb k l D) j y = true
  | [], _, _, h => h
  | x :: l, D, hD, h => by
    rw [addAll]
    exact hasKey_addAll_keep k j y l _ (by rw [addKey_length]; exact hD) (hasKey_addKey_other h0 hn _ _ _ _ _ hD _ _ h)
/-- Every key that was added is found. -/
theorem hasKey_addAll (k : Nat) (y : Int) : ∀ (l : List Int) (D : List UInt8), m ≤ D.length → y ∈ l → hasKey nb (rot y) (addAll nb k l D) k y = true
  | x :: l, D, hD, h => by
    rw [addAll]
    rcases List.mem_cons.1 h with rfl | h
    · exact hasKey_addAll_keep h0 hn k k y l _ (by rw [addKey_length]; exact hD) (hasKey_addKey h0 hn _ _ _ _ hD)
    · exact hasKey_addAll k y l _ (by rw [addKey_length]; exact hD) h
end
/-- As the code reads a bit: a byte and a power of two. -/
theorem and_bit (D : List UInt8) (p : Nat) : (bits .and .u32 (bz D (p / 8)) (((2 ^ (p % 8) : Nat)) : Int) = 0) ↔ getBit D p = false := by
  have h8 : p % 8 < 8 := Nat.mod_lt _ (by decide)
  have hx : (at_ D (p / 8)).toNat < 2 ^ 8 := (at_ D (p / 8)).toNat_lt
  have h2 : 2 ^ (p % 8) < 2 ^ 8 := Nat.pow_lt_pow_right (by decide) h8
  have h := (bits_nat .u32 32 (by decide) wraps_u32 (at_ D (p / 8)).toNat (2 ^ (p % 8)) (by omega) (by omega)).1
  unfold bz
  rw [h]
  unfold getBit
  generalize (at_ D (p / 8)).toNat = x
  constructor
  · intro e
    have e' : x &&& 2 ^ (p % 8) = 0 := by omega
    have := congrArg (fun y => Nat.testBit y (p % 8)) e'
    simpa [Nat.testBit_and, Nat.testBit_two_pow_self] using this
  · intro e
    have e' : x &&& 2 ^ (p % 8) = 0 := by
      apply Nat.eq_of_testBit_eq
      intro i
      rw [Nat.testBit_and, Nat.testBit_two_pow, Nat.zero_testBit]
      by_cases hi : p % 8 = i
      · subst hi; rw [e]; rfl
      · simp [hi]
    rw [e']; rfl
theorem or_bit (D : List UInt8) (p : Nat) : bits .or .u8 (bz D (p / 8)) (((2 ^ (p % 8) : Nat)) : Int) = ((orByte (at_ D (p / 8)) (p % 8)).toNat : Int) := by
  have h8 : p % 8 < 8 := Nat.mod_lt _ (by decide)
  have hx : (at_ D (p / 8)).toNat < 2 ^ 8 := (at_ D (p / 8)).toNat_lt
  have h2 : 2 ^ (p % 8) < 2 ^ 8 := Nat.pow_lt_pow_right (by decide) h8
  have h := (bits_nat .u8 8 (by decide) wraps_u8 (at_ D (p / 8)).toNat (2 ^ (p % 8)) (by omega) (by omega)).2
  unfold bz
  rw [h, orByte_toNat _ h8]
end Go.Proofs.YtloflmcgbbbnjaaDoor.Plain
namespace Go.Proofs.YtloflmcgbbbnjaaDoor
open Go.RowKit Plain
set_option linter.all false

def bhash (l : List UInt8) : Int := hashAll (hstart 3164544308 l.length) l
theorem hashAll_wf : ∀ (n : Nat) (l : List UInt8) (h : Int), l.length ≤ n → 0 ≤ h → h < 4294967296 → 0 ≤ hashAll h l ∧ hashAll h l < 4294967296
  | 0, l, h, hl, h0, h1 => by
    obtain rfl : l = [] := List.eq_nil_of_length_eq_zero (by omega)
    rw [hashAll_end (by simp), if_pos rfl]; exact ⟨h0, h1⟩
  | n + 1, l, h, hl, h0, h1 => by
    by_cases h4 : 4 ≤ l.length
    · rw [hashAll_step h4]
      have := u32_wf_xor (hmul h (leI (l.take 4))) (hmul h (leI (l.take 4)) / 65536)
      exact hashAll_wf n _ _ (by rw [List.length_drop]; omega) this.1 this.2
    · rw [hashAll_end h4]
      split
      · exact ⟨h0, h1⟩
      · exact u32_wf_xor _ _
theorem bhash_wf (l : List UInt8) : 0 ≤ bhash l ∧ bhash l < 4294967296 := by
  have := u32_wf_xor 3164544308 (w32 (l.length * 3332679571))
  exact hashAll_wf l.length l _ (Nat.le_refl _) this.1 this.2
set_option maxHeartbeats 400000 in
theorem bloomHash_any (A : Option Addr) (c : Nat) (l : List UInt8) (w : World) (h : BsAt w A l) (hl : l.length ≤ 2147483647) (hc : l.length ≤ c) :
    Calls Tryd.prog 250 #[.slice A l.length c] w fun e w' => e = .returned (.int .u32 (bhash l)) ∧ Only [] w w' := by
  go_enter Tryd.func250, Tryd.ntmps250
  go_wp2_with (go_at_call 251; refine (utilHash_any A c l 3164544308 _ h hl hc).mono ?_; rintro e w1 ⟨rfl, ho⟩)
  go_ret
  exact ⟨rfl, ho⟩
/-- What Contains tells of a filter of m bytes, its number of probes behind them. -/
def inF (X : List UInt8) (m : Nat) (key : List UInt8) : Bool := hasKey (8 * (m : Int)) (rot (bhash key)) X (at_ X m).toNat (bhash key)
theorem hasKey_wf_step (x dl : Int) : 0 ≤ w32 (x + dl) ∧ w32 (x + dl) < 4294967296 := ⟨w32_lo _, w32_hi _⟩

theorem test_bit (X : List UInt8) (m : Nat) (x : Int) (hm0 : 0 < m) (x0 : 0 ≤ x) :
    (bits .and .u32 (bz X (spot x (8 * (m : Int)) / 8) % 4294967296) (2 ^ (x % 8).toNat % 4294967296) == 0) = !getBit X (spot x (8 * (m : Int))) := by
  have h8 : (x % 8).toNat = spot x (8 * (m : Int)) % 8 := by
    unfold spot
    have h1 := Int.emod_nonneg x (show 8 * (m : Int) ≠ 0 by omega)
    have h2 : x % (8 * (m : Int)) % 8 = x % 8 := Int.emod_emod_of_dvd _ (Int.dvd_mul_right 8 _)
    omega
  have h3 : (2 : Int) ^ (x % 8).toNat % 4294967296 = ((2 ^ (spot x (8 * (m : Int)) % 8) : Nat) : Int) := by
    rw [h8]
    have h4 : spot x (8 * (m : Int)) % 8 < 8 := Nat.mod_lt _ (by decide)
    have h5 : 2 ^ (spot x (8 * (m : Int)) % 8) < 2 ^ 8 := Nat.pow_lt_pow_right (by decide) h4
    rw [show (2 : Int) ^ (spot x (8 * (m : Int)) % 8) = ((2 ^ (spot x (8 * (m : Int)) % 8) : Nat) : Int) from (Int.natCast_pow 2 _).symm]
    generalize 2 ^ (spot x (8 * (m : Int)) % 8) = y at h5 ⊢
    omega
  have h6 := bz_lo X (spot x (8 * (m : Int)) / 8)
  have h7 := bz_hi X (spot x (8 * (m : Int)) / 8)
  rw [h3, Int.emod_eq_of_lt h6 (by omega)]
  have := and_bit X (spot x (8 * (m : Int)))
  cases hb : getBit X (spot x (8 * (m : Int))) with
  | true => rw [hb] at this; simpa using this
  | false => rw [hb] at this; simpa using this
end Go.Proofs.YtloflmcgbbbnjaaDoor
namespace Go.Proofs.YtloflmcgbbbnjaaDoor
open Go.RowKit Plain
set_option linter.all false

theorem Tryd.info_u32g : (Tryd.prog.info? 181).map (fun i => (i.zero, i.size, i.bytes)) = some (some (.int .u32 0), 1, 4) := by kernel_rfl
def cu32 (l : List Int) : List Value := l.map fun x => .int .u32 x
theorem cu32_length (l : List Int) : (cu32 l).length = l.length := by simp [cu32]
theorem cu32_get {l : List Int} {i : Nat} (h : i < l.length) : (cu32 l)[i]? = some (.int .u32 l[i]) := by simp [cu32, List.getElem?_eq_getElem h]
/-- A generator that has taken these hashes. -/
def GenF (gp n k : Nat) (hs : List Int) (F : List Fr) : Prop :=
  ∃ hA hc Fh, Row 181 1 hA hs.length hc (cu32 hs) Fh ∧ F = fw gp 316 [.int .i64 n, .int .u8 k, .slice hA hs.length hc] :: Fh
theorem gen_hdr {gp n k m hc : Nat} {hA : Option Addr} {R : List Fr} {w0 w : World} (hO : Own (fw gp 316 [.int .i64 n, .int .u8 k, .slice hA m hc] :: R) w0 w) :
    w.cell? ⟨gp, 0, none⟩ = some (.int .i64 n) ∧ w.cell? ⟨gp, 1, none⟩ = some (.int .u8 k) ∧ w.cell? ⟨gp, 2, none⟩ = some (.slice hA m hc) ∧ (∀ j, w.frozen? ⟨gp, j, none⟩ = false) ∧ gp < w.heap.size :=
  ⟨hO.cell 0 rfl 0 rfl (by simp), hO.cell 0 rfl 1 rfl (by simp), hO.cell 0 rfl 2 rfl (by simp), fun j => hO.frozen 0 rfl j, hO.head.lt⟩
set_option maxHeartbeats 1600000 in
theorem gen_add (gp n k kc : Nat) (kA : Option Addr) (hs : List Int) (key : List UInt8) (F R : List Fr) (w0 w : World) (h : GenF gp n k hs F) (hO : Own (F ++ R) w0 w) (hk : Rd R w0 kA key) (hkl : key.length ≤ 2147483647) (hkc : key.length ≤ kc)
    (hm : hs.length ≤ 1073741824) :
    Calls Tryd.prog 248 #[.pointer (some ⟨gp, 0, none⟩), .slice kA key.length kc] w fun e w' => e = .returned (.tuple #[]) ∧
      ∃ F', GenF gp n k (hs ++ [bhash key]) F' ∧ Own (F' ++ R) w0 w' := by
  obtain ⟨hA, hc, Fh, hR, rfl⟩ := h
  obtain ⟨c0, c1, c2, f0, bl⟩ := gen_hdr hO
  have hkr := fun n => (hO.drewN n).st hk (fun x hx => by simp [hx])
  have HK := hid hkr
  have HO := hid hO
  have HR := hid hR
  clear hO hR hkr hk
  go_enter Tryd.func248, Tryd.ntmps248
  go_wp2
  go_region_law (first
    | (go_simp; go_at_call 250; refine (bloomHash_any kA kc key _ (HK.out 1) hkl hkc).mono ?_; rintro e w1 ⟨rfl, ho⟩; have hO1 := HO.out.drew.only0 ho; clear ho c0 c1 c2 f0 bl; obtain ⟨c0, c1, c2, f0, bl⟩ := gen_hdr hO1; have HO1 := hid hO1; clear hO1)
    | (refine own_step_append rfl (.tmp 8) (.tmp 11) 137 rfl 181 (.int .u32 0) 1 4 Tryd.underlying137 Tryd.info_u32g rfl (by decide) hA hs.length hc (cu32 hs) Fh rfl HR.out (R := fw gp 316 [.int .i64 n, .int .u8 k, .slice hA hs.length hc] :: R) ((HO1.out.skip _).perm (perm_of fun _ _ z => by simp only [List.count_append, List.count_cons, List.cons_append, List.count_nil, List.nil_append, List.append_nil]; omega)) (some ⟨w1.heap.size, 0, none⟩) 1 1 [.int .u32 (bhash key)] rfl rfl (csAt_one _ _ _) (by simp [Value.oneCell']) (by simp [maxLen]; omega) (by omega) ?_; intro rA' rc' Fq' w2 hQ2 hO2 _; clear c0 c1 c2 f0 bl HO1; obtain ⟨c0, c1, c2, f0, bl⟩ := gen_hdr hO2.right; have HO2 := hid hO2; have HQ := hid hQ2; clear hO2 hQ2))
  all_goals
    go_end0
    refine ⟨rfl, _, ⟨rA', rc', Fq', by rw [List.length_append]; simpa [cu32] using HQ.out, rfl⟩, ?_⟩
    rw [List.length_append, List.length_singleton]
    have h8 : Own (fw gp 316 [.int .i64 n, .int .u8 k, .slice rA' (hs.length + 1) rc'] :: (Fq' ++ R)) w0 _ := (HO2.out.perm (L' := fw gp 316 [.int .i64 n, .int .u8 k, .slice hA hs.length hc] :: (Fq' ++ R)) (perm_of fun _ _ z => by simp only [List.count_append, List.count_cons, List.cons_append, List.count_nil, List.nil_append, List.append_nil]; omega)).set (k := 2) 2 rfl (by simp) (.slice rA' (hs.length + 1) rc')
    exact h8
end Go.Proofs.YtloflmcgbbbnjaaDoor
namespace Go.Proofs.YtloflmcgbbbnjaaDoor
open Go.RowKit Plain
set_option linter.all false

theorem bc_set_mid {pre X post : List UInt8} {n i : Nat} (hn : pre.length = n) (hi : i < X.length) (b : UInt8) : (bc (pre ++ X ++ post)).set (n + i) (.int .u8 (b.toNat : Int)) = bc (pre ++ X.set i b ++ post) := by
  subst hn
  rw [bc_set, List.append_assoc, List.set_append_right _ _ (by omega), Nat.add_sub_cancel_left, List.set_append_left _ _ hi, List.append_assoc]
theorem bc_mid {pre X post : List UInt8} {n i : Nat} (hn : pre.length = n) (hi : i < X.length) : (bc (pre ++ X ++ post))[n + i]? = some (.int .u8 (bz X i)) := by
  subst hn
  rw [bc_get (by simp; omega)]
  unfold bz at_
  rw [List.append_assoc, List.getElem?_append_right (by omega), Nat.add_sub_cancel_left, List.getElem?_append_left hi]
theorem or_byte (X : List UInt8) (m : Nat) (x : Int) (hm0 : 0 < m) :
    bits .or .u8 (bz X (spot x (8 * (m : Int)) / 8)) (2 ^ (x % 8).toNat % 256) = ((orByte (at_ X (spot x (8 * (m : Int)) / 8)) (spot x (8 * (m : Int)) % 8)).toNat : Int) := by
  have h8 : (x % 8).toNat = spot x (8 * (m : Int)) % 8 := by
    unfold spot
    have h1 := Int.emod_nonneg x (show 8 * (m : Int) ≠ 0 by omega)
    have h2 : x % (8 * (m : Int)) % 8 = x % 8 := Int.emod_emod_of_dvd _ (Int.dvd_mul_right 8 _)
    omega
  have h3 : (2 : Int) ^ (x % 8).toNat % 256 = ((2 ^ (spot x (8 * (m : Int)) % 8) : Nat) : Int) := by
    rw [h8]
    have h4 : spot x (8 * (m : Int)) % 8 < 8 := Nat.mod_lt _ (by decide)
    have h5 : 2 ^ (spot x (8 * (m : Int)) % 8) < 2 ^ 8 := Nat.pow_lt_pow_right (by decide) h4
    rw [show (2 : Int) ^ (spot x (8 * (m : Int)) % 8) = ((2 ^ (spot x (8 * (m : Int)) % 8) : Nat) : Int) from (Int.natCast_pow 2 _).symm]
    generalize 2 ^ (spot x (8 * (m : Int)) % 8) = y at h5 ⊢
    omega
  rw [h3, or_bit]
/-- How many bytes of bits there are for so many. -/
def fbytes (b : Nat) : Nat := (max 64 b + 7) / 8
theorem alloc_n (b o n : Nat) (x : Int) (data : List UInt8) (F R : List Fr) (w0 w : World) (h : BufF b o data F) (hO : Own (F ++ R) w0 w) (hn : 0 < n) (hm : data.length + n ≤ 1099511627776) (hx : x = (n : Int)) :
    Calls Tryd.prog 105 #[.pointer (some ⟨b, o, none⟩), .int .i64 x] w fun e w' => ∃ S J F', e = .returned (.slice (some ⟨S.g, S.off + data.length, none⟩) n (S.cs.length - data.length)) ∧
      BufG b o data (data.length + n) S J F' ∧ Own (F' ++ R) w0 w' := by
  subst hx; exact alloc_any b o n data F R w0 w h hO hn hm
def GenOut (gp n k b o : Nat) (hs : List Int) (D : List UInt8) (R : List Fr) (w0 : World) (e : Ending) (w' : World) : Prop :=
  e = .returned (.tuple #[]) ∧ ∃ (P : List UInt8) (F F' : List Fr), P.length = fbytes (hs.length * n) + 1 ∧ (at_ P (fbytes (hs.length * n))).toNat = k ∧
    (∀ y ∈ hs, hasKey (8 * (fbytes (hs.length * n) : Int)) (rot y) P k y = true) ∧ GenF gp n k [] F ∧ BufF b o (D ++ P) F' ∧ Own (F ++ (F' ++ R)) w0 w'
theorem method_alloc (d : Nat) (p : Option Addr) (w : World) : (method (d + 1) 172 (.pointer p) "Alloc").run Tryd.prog w = .ok (105, .pointer p) w := by kernel_rfl

set_option maxHeartbeats 6400000 in
set_option maxRecDepth 100000 in
theorem gen_generate (gp n k b o : Nat) (hs : List Int) (D : List UInt8) (F1 F2 R : List Fr) (w0 w : World) (h : GenF gp n k hs F1) (hB : BufF b o D F2) (hO : Own (F1 ++ (F2 ++ R)) w0 w) (hn : n ≤ 100) (hk : k ≤ 30) (hl : hs.length ≤ 2000000) (hD : D.length ≤ 1073741824)
    (hw : ∀ y ∈ hs, 0 ≤ y ∧ y < 4294967296) :
    Calls Tryd.prog 249 #[.pointer (some ⟨gp, 0, none⟩), .iface 172 (.pointer (some ⟨b, o, none⟩))] w (GenOut gp n k b o hs D R w0) := by
  obtain ⟨hA, hc, Fh, hR, rfl⟩ := h
  obtain ⟨c0, c1, c2, f0, bl⟩ := gen_hdr hO
  obtain ⟨q, hq⟩ : ∃ q, hs.length * n = q := ⟨_, rfl⟩
  obtain ⟨q2, hq2⟩ : ∃ q2, max 64 q = q2 := ⟨_, rfl⟩
  obtain ⟨m, hm⟩ : ∃ m, fbytes (hs.length * n) = m := ⟨_, rfl⟩
  have hqb : q ≤ 200000000 := by
    rw [← hq]
    have := Nat.mul_le_mul hl hn
    omega
  have hm2 : m = (q2 + 7) / 8 := by rw [← hm, ← hq2, ← hq]; rfl
  have hq3 : q2 ≤ 200000000 := by omega
  have hq4 : 64 ≤ q2 := by omega
  have e1' : ((hs.length : Int) * (n : Int)) = (q : Int) := by rw [← hq, Int.natCast_mul]
  have e1 : IntKind.i64.wrap ((hs.length : Int) * (n : Int)) = (q : Int) := by rw [e1', i64_id (by omega) (by omega)]
  have e2 : IntKind.u32.wrap (q : Int) = (q : Int) := by rw [wrap32_eq]; unfold w32; omega
  have e2' : (q : Int) % 4294967296 = (q : Int) := by omega
  have hmt := method_alloc
  have HO := hid hO
  have HR := hid hR
  have HB := hid hB
  have HW := hid hw
  have HM := hid hm
  have HM2 := hid hm2
  have HQ := hid hq
  have HQ2 := hid hq2
  clear hO hR hB hw hm hm2 hq hq2
  go_enter Tryd.func249, Tryd.ntmps249
  go_wp2
  go_quiet (fail)
  go_upto_if 24 with fail
  go_cut [4] (fun v wx => v = .int .u32 q2 ∧ wx = w.drewN nq)
  case first =>
    cases h64 : decide ((q : Int) < 64) with
    | true =>
      have HE := hid (show q2 = 64 by have := HQ2.out; have := of_decide_eq_true h64; omega)
      clear h64
      go_wp2_with fail
      go_meet
      exact ⟨by rw [HE.out]; rfl, rfl⟩
    | false =>
      have HE := hid (show q2 = q by have := HQ2.out; have := of_decide_eq_false h64; omega)
      clear h64
      go_wp2_with fail
      go_meet
      exact ⟨by rw [HE.out], rfl⟩
  case rest =>
    obtain ⟨rfl, rfl⟩ := hcut
    have hO1 := HO.out.drewN nq
    generalize w.drewN nq = W at hO1 ⊢
    clear c0 c1 c2 f0 bl HO e1 e1' e2 e2'
    obtain ⟨c0, c1, c2, f0, bl⟩ := gen_hdr hO1
    have HO := hid hO1
    clear hO1
    have hm2 := HM2.out
    have q3 : ((q2 : Int) + 7) / 8 = (m : Int) := by omega
    have q4 : (m : Int) * 8 % 4294967296 = 8 * (m : Int) := by omega
    have q5 : (m : Int) * 8 = 8 * (m : Int) := by omega
    have m0 : 0 < m := by omega
    have m1 : m ≤ 25000001 := by omega
    clear hm2
    go_wp2_with fail
    refine (alloc_n b o (m + 1) _ D F2 (fw gp 316 [.int .i64 n, .int .u8 k, .slice hA hs.length hc] :: (Fh ++ R)) w0 _ HB.out (HO.out.perm (perm_of fun _ _ z => by simp only [List.count_append, List.count_cons, List.cons_append, List.count_nil, List.nil_append, List.append_nil]; omega)) (by omega) (by omega) (by omega)).mono ?_
    rintro e w1 ⟨S, J, F3, rfl, hG, hO1⟩
    obtain ⟨g1, g2, g3, ⟨g4, full, g5⟩, rfl⟩ := hG
    have hfl : full.length = S.cs.length := by rw [g5, bc_length]
    obtain ⟨pre, X0, post, hful, hp1, hp2⟩ : ∃ pre X0 post : List UInt8, full = pre ++ X0 ++ post ∧ pre.length = D.length ∧ X0.length = m + 1 :=
      ⟨full.take D.length, (full.drop D.length).take (m + 1), (full.drop D.length).drop (m + 1), by rw [List.append_assoc, List.take_append_drop, List.take_append_drop], by rw [List.length_take]; omega, by rw [List.length_take, List.length_drop]; omega⟩
    rw [hful] at g5
    obtain ⟨CL, hCL⟩ : ∃ CL, S.cs.length = CL := ⟨_, rfl⟩
    rw [hCL] at hO1 g2 g3 hfl ⊢
    have hro := (hO1.at_ 1 rfl).ro_none (by omega)
    obtain ⟨sg, so, scs, sw, sr⟩ := S
    simp only at hro
    subst hro
    simp only at g4 g5 hCL hO1 ⊢
    subst g5
    have hO2 : Own (⟨sg, so, bc (pre ++ X0 ++ post), sw, none⟩ :: fw gp 316 [.int .i64 n, .int .u8 k, .slice hA hs.length hc] :: (Fh ++ (fp b o [.slice (some ⟨sg, so, none⟩) (D.length + (m + 1)) CL, .int .i64 0] :: (J ++ R)))) w0 w1 := hO1.perm (perm_of fun _ _ z => by simp only [List.count_append, List.count_cons, List.cons_append, List.count_nil, List.nil_append, List.append_nil]; omega)
    have G4 := hid g4
    have HCL := hid hCL
    have HP1 := hid hp1
    have HP2 := hid hp2
    clear hO1 g4 hCL hful hfl c0 c1 c2 f0 bl HO
    obtain ⟨c0, c1, c2, f0, bl⟩ := gen_hdr hO2.drop
    have x0 := hO2.cell 0 rfl (k := so + D.length + m) (D.length + m) (by simp; omega) (by simp [bc_length]; omega)
    rw [bc_mid hp1 (by omega)] at x0
    have f1 := fun j => hO2.frozen 0 rfl j
    simp only at x0 f1
    have ne1 : ¬ gp = sg := by
      rcases (List.pairwise_cons.1 hO2.dj).1 (fw gp 316 [.int .i64 n, .int .u8 k, .slice hA hs.length hc]) (by simp) with h | h
      · exact Ne.symm h
      · cases h.2.1
    have ne2 : ¬ sg = gp := Ne.symm ne1
    have HO2 := hid hO2
    clear hO2 hp1 hp2
    go_wp2_with fail
    have hkk : ((UInt8.ofNat k).toNat : Int) = (k : Int) := by simp; omega
    obtain ⟨X1, hX1⟩ : ∃ X, X0.set m (UInt8.ofNat k) = X := ⟨_, rfl⟩
    have hX1l : X1.length = m + 1 := by rw [← hX1, List.length_set]; exact HP2.out
    have hO3 := HO2.out.set (k := so + D.length + m) (D.length + m) (by simp; omega) (by simp [bc_length]; have := HP1.out; have := HP2.out; omega) (.int .u8 k)
    simp only at hO3
    rw [← hkk, bc_set_mid HP1.out (by have := HP2.out; omega), hX1, hkk] at hO3
    have HO3 := hid hO3
    have HX1 := hid hX1
    have HX1l := hid hX1l
    have hL := addAll_length (8 * (m : Int)) k
    have HL := hid hL
    clear hkk hO3 hX1 hX1l c0 c1 c2 f0 bl ne1 ne2 x0 f1 hL
    go_loopw [47] (fun i wr => ∃ j : Nat, i = .int .i64 j ∧ j ≤ hs.length ∧ Own (⟨sg, so, bc (pre ++ addAll (8 * (m : Int)) k (hs.take j) X1 ++ post), sw, none⟩ :: fw gp 316 [.int .i64 n, .int .u8 k, .slice hA hs.length hc] :: (Fh ++ (fp b o [.slice (some ⟨sg, so, none⟩) (D.length + (m + 1)) CL, .int .i64 0] :: (J ++ R)))) w0 wr) (fun i _ => hs.length - (intOf i).toNat)
    case atStart => exact ⟨0, rfl, Nat.zero_le _, HO3.out⟩
    case round =>
      obtain ⟨j, rfl, hj, ho⟩ := hrel
      by_cases h4 : j < hs.length
      · have h4' : (j : Int) < (hs.length : Int) := by omega
        have hcs : CsAt wr hA (cu32 hs) := ho.st (HR.out.st w0) (by intro x hx; simp [hx])
        obtain ⟨hg, ho', rfl, hcell⟩ := hcs j (by rw [cu32_length]; exact h4)
        rw [cu32_get h4] at hcell
        have hyw := HW.out _ (List.getElem_mem h4)
        have hA1 : addAll (8 * (m : Int)) k (hs.take (j + 1)) X1 = addKey (8 * (m : Int)) (rot hs[j]) k hs[j] (addAll (8 * (m : Int)) k (hs.take j) X1) := by
          rw [List.take_succ_eq_append_getElem h4, addAll_snoc]
        generalize hs[j] = y at hcell hyw hA1
        obtain ⟨Xj, hXj⟩ : ∃ X, addAll (8 * (m : Int)) k (hs.take j) X1 = X := ⟨_, rfl⟩
        have hXl : Xj.length = m + 1 := by rw [← hXj, HL.out]; exact HX1l.out
        rw [hXj] at ho hA1
        have HA1 := hid hA1
        have HXl := hid hXl
        have HO4 := hid ho
        have e9 : (y / 131072) = y / 131072 := rfl
        clear hcs hA1 hXj hXl ho e9
        go_wp2_with fail
        go_loopw [8, 10] (fun h jj wr2 => ∃ (i : Nat) (x : Int) (X : List UInt8), h = .int .u32 x ∧ jj = .int .u8 i ∧ i ≤ k ∧ 0 ≤ x ∧ x < 4294967296 ∧ X.length = m + 1 ∧ addAll (8 * (m : Int)) k (hs.take (j + 1)) X1 = addKey (8 * (m : Int)) (rot y) (k - i) x X ∧
          Own (⟨sg, so, bc (pre ++ X ++ post), sw, none⟩ :: fw gp 316 [.int .i64 n, .int .u8 k, .slice (some ⟨hg, ho', none⟩) hs.length hc] :: (Fh ++ (fp b o [.slice (some ⟨sg, so, none⟩) (D.length + (m + 1)) CL, .int .i64 0] :: (J ++ R)))) w0 wr2) (fun _ jj _ => k - (intOf jj).toNat)
        case atStart => exact ⟨0, y, Xj, rfl, rfl, Nat.zero_le _, hyw.1, hyw.2, HXl.out, HA1.out, HO4.out⟩
        case round =>
          obtain ⟨i, x, X, rfl, rfl, hi, x0, x1, hXl, hx, ho⟩ := hrel
          have hsp := spot_lt (x := x) m0 (rfl : 8 * (m : Int) = 8 * (m : Int))
          by_cases h5 : i < k
          · have h5' : (i : Int) < (k : Int) := by omega
            obtain ⟨c0, c1, c2, f0, bl⟩ := gen_hdr ho.drop
            have hc2 := ho.cell 0 rfl (k := so + D.length + spot x (8 * (m : Int)) / 8) (D.length + spot x (8 * (m : Int)) / 8) (by simp; omega) (by simp [bc_length]; have := HP1.out; omega)
            rw [bc_mid HP1.out (by omega)] at hc2
            have f1 := fun j => ho.frozen 0 rfl j
            simp only at hc2 f1
            have hs0 : (spot x (8 * (m : Int)) : Int) = x % (8 * (m : Int)) := by unfold spot; have := Int.emod_nonneg x (show 8 * (m : Int) ≠ 0 by omega); omega
            have hq : (x % (8 * (m : Int)) / 8).toNat = spot x (8 * (m : Int)) / 8 := by omega
            have hq0 : 0 ≤ x % (8 * (m : Int)) / 8 := by omega
            have hq1 : x % (8 * (m : Int)) / 8 < (m : Int) + 1 := by omega
            obtain ⟨d, hd⟩ : ∃ d, k - i = d + 1 := ⟨k - i - 1, by omega⟩
            have hd' : k - (i + 1) = d := by omega
            rw [hd, addKey] at hx
            have HX := hid hx
            have HXl := hid hXl
            have HO5 := hid ho
            have HOR := hid (or_byte X m x m0)
            have HD := hid hd'
            clear hx hXl ho hs0 hd hd' HO4 HA1
            go_wp2_with fail
            refine ⟨⟨i + 1, w32 (x + rot y), setBit X (spot x (8 * (m : Int))), rfl, rfl, by omega, w32_lo _, w32_hi _, by rw [setBit_length]; exact HXl.out, by rw [HD.out]; exact HX.out, ?_⟩, by simp [intOf]; omega⟩
            have := HO5.out.set (k := so + D.length + spot x (8 * (m : Int)) / 8) (D.length + spot x (8 * (m : Int)) / 8) (by simp; omega) (by simp [bc_length]; have := HP1.out; have := HXl.out; omega) (.int .u8 (((orByte (at_ X (spot x (8 * (m : Int)) / 8)) (spot x (8 * (m : Int)) % 8)).toNat : Nat) : Int))
            simp only at this
            rw [bc_set_mid HP1.out (by have := HXl.out; omega)] at this
            rw [HOR.out]
            exact this
          · have h5' : ¬ (i : Int) < (k : Int) := by omega
            obtain ⟨c0, c1, c2, f0, bl⟩ := gen_hdr ho.drop
            rw [show k - i = 0 by omega, addKey] at hx
            have HX := hid hx
            have HO5 := hid ho
            clear hx ho HO4 HA1 hXl hsp
            go_wp2_with fail
            exact ⟨⟨j + 1, rfl, h4, by rw [HX.out]; exact HO5.out⟩, by simp [intOf]; omega⟩
      · have h4' : ¬ (j : Int) < (hs.length : Int) := by omega
        rw [List.take_of_length_le (by omega)] at ho
        have hXl := HL.out hs X1
        obtain ⟨c0, c1, c2, f0, bl⟩ := gen_hdr ho.drop
        have HO5 := hid ho
        have HXl := hid hXl
        clear ho hXl HO3
        go_wp2
        go_end0
        obtain ⟨P, hP⟩ : ∃ P, addAll (8 * (m : Int)) k hs X1 = P := ⟨_, rfl⟩
        have hPl : P.length = m + 1 := by rw [← hP, HXl.out]; exact HX1l.out
        have hPm : at_ P m = UInt8.ofNat k := by
          rw [← hP, at_addAll m0 rfl k (Nat.le_refl m) hs X1 (by rw [HX1l.out]; omega), ← HX1.out, at_get (by rw [List.length_set, HP2.out]; omega)]
          simp
        have hPk : ∀ y ∈ hs, hasKey (8 * (m : Int)) (rot y) P k y = true := fun y hy => by rw [← hP]; exact hasKey_addAll m0 rfl k y hs X1 (by rw [HX1l.out]; omega) hy
        have h5 := HO5.out
        rw [hP] at h5
        have hpre : bc pre = bc D := by
          have := G4.out
          rw [← HP1.out, List.append_assoc, bc_append, List.take_left' (bc_length _)] at this
          exact this
        have hback := (HR.out.back (m := 0) (Nat.zero_le _))
        rw [Nat.zero_mul, List.take_zero] at hback
        have hCL2 := HCL.out
        rw [bc_length, List.length_append, List.length_append, HP1.out, HP2.out] at hCL2
        rw [GenOut, HM.out]
        refine ⟨rfl, P, fw gp 316 [.int .i64 n, .int .u8 k, .slice hA 0 hc] :: Fh, fp b o [.slice (some ⟨sg, so, none⟩) (D ++ P).length CL, .int .i64 0] :: ⟨sg, so, bc (pre ++ P ++ post), sw, none⟩ :: J, hPl, ?_, hPk, ⟨hA, hc, Fh, hback, rfl⟩, .inr ⟨⟨sg, so, bc (pre ++ P ++ post), sw, none⟩, J, Nat.le_refl _, ?_, ?_, ⟨?_, _, rfl⟩, ?_⟩, ?_⟩
        · rw [hPm]; simp; omega
        · simp only [bc_length, List.length_append, hPl, HP1.out]; omega
        · simp only [bc_length, List.length_append, hPl, HP1.out]; omega
        · rw [List.length_append, ← HP1.out, ← List.length_append, ← bc_length (pre ++ P), bc_append (pre ++ P), List.take_left' rfl, bc_append, hpre, bc_append]
        · rw [show (bc (pre ++ P ++ post)).length = CL by simp only [bc_length, List.length_append, hPl, HP1.out]; omega]
        · have h6 : Own (fw gp 316 [.int .i64 n, .int .u8 k, .slice hA 0 hc] :: (⟨sg, so, bc (pre ++ P ++ post), sw, none⟩ :: (Fh ++ (fp b o [.slice (some ⟨sg, so, none⟩) (D.length + (m + 1)) CL, .int .i64 0] :: (J ++ R))))) w0 _ := (h5.perm (L' := fw gp 316 [.int .i64 n, .int .u8 k, .slice hA hs.length hc] :: (⟨sg, so, bc (pre ++ P ++ post), sw, none⟩ :: (Fh ++ (fp b o [.slice (some ⟨sg, so, none⟩) (D.length + (m + 1)) CL, .int .i64 0] :: (J ++ R))))) (perm_of fun _ _ z => by simp only [List.count_append, List.count_cons, List.cons_append, List.count_nil, List.nil_append, List.append_nil]; omega)).set (k := 2) 2 rfl (by simp) (.slice hA 0 hc)
          rw [List.length_append, hPl]
          exact h6.perm (perm_of fun _ _ z => by simp only [List.count_append, List.count_cons, List.cons_append, List.count_nil, List.nil_append, List.append_nil]; omega)
end Go.Proofs.YtloflmcgbbbnjaaDoor
namespace Go.Proofs.YtloflmcgbbbnjaaDoor
open Go.RowKit Plain
set_option linter.all false

set_option maxHeartbeats 400000 in
theorem newBloom (n : Int) (w : World) : Calls Tryd.prog 85 #[.int .i64 n] w fun e w' => e = .returned (.iface 240 (.int .i64 n)) ∧ w = w' := by
  go_enter Tryd.func85, Tryd.ntmps85
  go_wp2
  go_ret
  exact ⟨rfl, rfl⟩
/-- How many probes for so many bits a key. -/
def probes (n : Nat) : Nat := if n * 69 / 100 < 1 then 1 else if 30 < n * 69 / 100 then 30 else n * 69 / 100
theorem probes_le (n : Nat) : probes n ≤ 30 := by
  unfold probes
  generalize n * 69 / 100 = p
  split
  · omega
  · split <;> omega
def NewGenOut (n : Nat) (R : List Fr) (w0 : World) (e : Ending) (w' : World) : Prop :=
  ∃ gp F, e = .returned (.iface 314 (.pointer (some ⟨gp, 0, none⟩))) ∧ GenF gp n (probes n) [] F ∧ Own (F ++ R) w0 w'
set_option maxHeartbeats 800000 in
theorem newGen (n : Nat) (hn : n ≤ 100) (R : List Fr) (w0 w : World) (hO : Own R w0 w) :
    Calls Tryd.prog 241 #[.int .i64 n] w (NewGenOut n R w0) := by
  have q2 : (n : Int) * 69 / 100 = ((n * 69 / 100 : Nat) : Int) := by push_cast; rfl
  have q1 : ((n : Int) * 69 / 100) % 256 = ((n * 69 / 100 : Nat) : Int) := by rw [q2]; omega
  obtain ⟨p, hp⟩ : ∃ p, n * 69 / 100 = p := ⟨_, rfl⟩
  have hpb : p ≤ 69 := by omega
  have HP := hid (show probes n = if p < 1 then 1 else if 30 < p then 30 else p by unfold probes; rw [hp])
  rw [hp] at q1 q2
  clear hp
  rcases Nat.lt_or_ge p 1 with h1 | h1
  · have h1' : (p : Int) < 1 := by omega
    rw [if_pos h1] at HP
    go_enter Tryd.func241, Tryd.ntmps241
    go_wp2
    go_ret
    refine ⟨_, _, rfl, ⟨none, 0, [], Row.nil _ _, rfl⟩, ?_⟩
    rw [HP.out]
    exact hO.alloc (w := w) _ _
  · have h1' : ¬ (p : Int) < 1 := by omega
    rcases Nat.lt_or_ge 30 p with h2 | h2
    · have h2' : 30 < (p : Int) := by omega
      rw [if_neg (by omega), if_pos h2] at HP
      go_enter Tryd.func241, Tryd.ntmps241
      go_wp2
      go_ret
      refine ⟨_, _, rfl, ⟨none, 0, [], Row.nil _ _, rfl⟩, ?_⟩
      rw [HP.out]
      exact hO.alloc (w := w) _ _
    · have h2' : ¬ 30 < (p : Int) := by omega
      rw [if_neg (by omega), if_neg (by omega)] at HP
      go_enter Tryd.func241, Tryd.ntmps241
      go_wp2
      go_ret
      refine ⟨_, _, rfl, ⟨none, 0, [], Row.nil _ _, rfl⟩, ?_⟩
      rw [HP.out]
      exact hO.alloc (w := w) _ _
theorem method_ng (d : Nat) (v : Value) (w : World) : (method (d + 1) 240 v "NewGenerator").run Tryd.prog w = .ok (241, v) w := by kernel_rfl
theorem method_add (d : Nat) (v : Value) (w : World) : (method (d + 1) 314 v "Add").run Tryd.prog w = .ok (248, v) w := by kernel_rfl
theorem method_gen (d : Nat) (v : Value) (w : World) : (method (d + 1) 314 v "Generate").run Tryd.prog w = .ok (249, v) w := by kernel_rfl
end Go.Proofs.YtloflmcgbbbnjaaDoor
namespace Go.Proofs.YtloflmcgbbbnjaaDoor
open Go.RowKit Plain
set_option linter.all false

/-- A filter's writer at ⟨b, o⟩: hs the hashes that wait, data what is written, offs the offsets. -/
def FWs (b o n k : Nat) (hs : List Int) (data : List UInt8) (offs : List Nat) (F : List Fr) : Prop :=
  ∃ gp oA oc Fb Fg Fo, BufF b (o + 1) data Fb ∧ GenF gp n k hs Fg ∧ Row 181 1 oA offs.length oc (c32 offs) Fo ∧
    F = fp b o [.iface 314 (.pointer (some ⟨gp, 0, none⟩))] :: fp b (o + 67) [.int .i64 hs.length, .slice oA offs.length oc] :: (Fb ++ (Fg ++ Fo))
theorem fw_hdr {b o : Nat} {v0 v1 v2 : Value} {L : List Fr} {w0 w : World} (hO : Own (fp b o [v0] :: fp b (o + 67) [v1, v2] :: L) w0 w) :
    w.cell? ⟨b, o, none⟩ = some v0 ∧ w.cell? ⟨b, o + 67, none⟩ = some v1 ∧ w.cell? ⟨b, o + 68, none⟩ = some v2 ∧ (∀ k, w.frozen? ⟨b, k, none⟩ = false) ∧ b < w.heap.size :=
  ⟨hO.cell 0 rfl 0 rfl (by simp), hO.cell 1 rfl 0 rfl (by simp), hO.cell 1 rfl 1 (by simp) (by simp), fun k => hO.frozen 0 rfl k, hO.lt (x := fp b o [v0]) (by simp)⟩
set_option maxHeartbeats 1600000 in
set_option maxRecDepth 100000 in
theorem fw_add (b o n k kc : Nat) (kA : Option Addr) (hs : List Int) (data key : List UInt8) (offs : List Nat) (F R : List Fr) (w0 w : World) (h : FWs b o n k hs data offs F) (hO : Own (F ++ R) w0 w) (hk : Rd R w0 kA key) (hkl : key.length ≤ 2147483647) (hkc : key.length ≤ kc) (hm : hs.length ≤ 1073741824) :
    Calls Tryd.prog 88 #[.pointer (some ⟨b, o, none⟩), .slice kA key.length kc] w fun e w' => e = .returned (.tuple #[]) ∧ ∃ F', FWs b o n k (hs ++ [bhash key]) data offs F' ∧ Own (F' ++ R) w0 w' := by
  obtain ⟨gp, oA, oc, Fb, Fg, Fo, hB, hG, hR, rfl⟩ := h
  obtain ⟨c0, c1, c2, f0, bl⟩ := fw_hdr hO
  have HO := hid hO
  have HB := hid hB
  have HG := hid hG
  have HR := hid hR
  have HK := hid hk
  obtain ⟨m, hm'⟩ : ∃ m, hs.length = m := ⟨_, rfl⟩
  have HM := hid hm'
  rw [hm'] at c1 hm
  have hmt := method_add
  have e1 : IntKind.i64.wrap ((m : Int) + 1) = (m : Int) + 1 := i64_id (by omega) (by omega)
  clear hO hB hG hR hk hm'
  go_enter Tryd.func88, Tryd.ntmps88
  go_wp2_with (go_at_call 248; refine (gen_add gp n k kc kA hs key Fg (fp b o [.iface 314 (.pointer (some ⟨gp, 0, none⟩))] :: fp b (o + 67) [.int .i64 hs.length, .slice oA offs.length oc] :: (Fb ++ Fo ++ R)) w0 _ HG.out (HO.out.perm (perm_of fun _ _ z => by simp only [List.count_append, List.count_cons, List.cons_append, List.count_nil, List.nil_append, List.append_nil]; omega)) (HK.out.mono (by intro x hx; simp [hx])) hkl hkc (by rw [HM.out]; exact hm)).mono ?_; rintro e w1 ⟨rfl, Fg', hG', hO1⟩; have hO2 : Own (fp b o [.iface 314 (.pointer (some ⟨gp, 0, none⟩))] :: fp b (o + 67) [.int .i64 hs.length, .slice oA offs.length oc] :: (Fb ++ (Fg' ++ Fo) ++ R)) w0 w1 := hO1.perm (perm_of fun _ _ z => by simp only [List.count_append, List.count_cons, List.cons_append, List.count_nil, List.nil_append, List.append_nil]; omega); clear c0 c1 c2 f0 bl; obtain ⟨c0, c1, c2, f0, bl⟩ := fw_hdr hO2; rw [HM.out] at c1; have HO2 := hid hO2; have HG' := hid hG'; clear hO1 hO2 hG' HO)
  go_end0
  have h1 : Own (fp b (o + 67) [.int .i64 ((m : Int) + 1), .slice oA offs.length oc] :: (fp b o [.iface 314 (.pointer (some ⟨gp, 0, none⟩))] :: (Fb ++ (Fg' ++ Fo) ++ R))) w0 _ := HO2.out.swap01.set (k := o + 67) 0 rfl (by simp) (.int .i64 ((m : Int) + 1))
  refine ⟨rfl, _, ⟨gp, oA, oc, Fb, Fg', Fo, HB.out, HG'.out, HR.out, rfl⟩, ?_⟩
  rw [List.length_append, List.length_singleton, HM.out, show (((m + 1 : Nat)) : Int) = (m : Int) + 1 by omega]
  exact h1.perm (perm_of fun _ _ z => by simp only [List.count_append, List.count_cons, List.cons_append, List.count_nil, List.nil_append, List.append_nil]; omega)
def fwD (n k : Nat) (hs : List Int) (data data' : List UInt8) : Prop := data'.length = if hs = [] then data.length else data.length + (fbytes (hs.length * n) + 1)
def FGOut (b o n k : Nat) (hs : List Int) (data : List UInt8) (offs : List Nat) (R : List Fr) (w0 : World) (e : Ending) (w' : World) : Prop :=
  e = .returned (.tuple #[]) ∧ ∃ data' F', fwD n k hs data data' ∧ FWs b o n k [] data' (offs ++ [data.length]) F' ∧ Own (F' ++ R) w0 w'
set_option maxHeartbeats 3200000 in
set_option maxRecDepth 100000 in
theorem fw_generate (b o n k : Nat) (hs : List Int) (data : List UInt8) (offs : List Nat) (F R : List Fr) (w0 w : World) (h : FWs b o n k hs data offs F) (hO : Own (F ++ R) w0 w) (hn : n ≤ 100) (hk : k ≤ 30) (hl : hs.length ≤ 2000000) (hD : data.length ≤ 1073741824) (hq : offs.length ≤ 1073741824)
    (hw : ∀ y ∈ hs, 0 ≤ y ∧ y < 4294967296) :
    Calls Tryd.prog 107 #[.pointer (some ⟨b, o, none⟩)] w (FGOut b o n k hs data offs R w0) := by
  obtain ⟨gp, oA, oc, Fb, Fg, Fo, hB, hG, hR, rfl⟩ := h
  obtain ⟨c0, c1, c2, f0, bl⟩ := fw_hdr hO
  have HO := hid hO
  have HB := hid hB
  have HG := hid hG
  have HR := hid hR
  obtain ⟨m, hm'⟩ : ∃ m, hs.length = m := ⟨_, rfl⟩
  have HM := hid hm'
  obtain ⟨L, hL⟩ : ∃ L, data.length = L := ⟨_, rfl⟩
  have HL := hid hL
  obtain ⟨q, hq'⟩ : ∃ q, offs.length = q := ⟨_, rfl⟩
  have HQ := hid hq'
  rw [hm'] at c1 hl
  rw [hL] at hD
  rw [hq'] at c2 hq
  have hmt := method_gen
  have e5 : IntKind.u32.wrap (L : Int) = (L : Int) := by simp [IntKind.wrap, IntKind.bits, IntKind.signed]; omega
  have e6 : (L : Int) % 4294967296 = (L : Int) := by omega
  clear hO hB hG hR hm' hL hq'
  go_enter Tryd.func107, Tryd.ntmps107
  go_wp2_with fail
  refine AnyT.start (S := fun w' => w'.cell? ⟨b, o + 68, none⟩ = some (.slice oA q oc)) (T := [14]) (by kernel_rfl) (c2) (fun hHeld => ?_)
  refine AnyT.take (i := 0) (v := ?_) (by simp only [List.getElem?_toArray, List.getElem?_cons_succ, List.getElem?_cons_zero]; rfl) (by kernel_rfl) (by kernel_rfl) (by kernel_rfl) (by kernel_rfl) (by intro _ _ _ h; exact h) (Or.inl ⟨by rfl, fun w hSw => ?_⟩) hHeld ?_
  rotate_left
  · ((try dsimp only at hSw); go_simp; first | done | with_reducible rfl | rfl)
  try simp only [Act.put, List.setIfInBounds_toArray, List.set_cons_zero, List.set_cons_succ]
  refine AnyT.take (i := 1) (v := ?_) (by simp only [List.getElem?_toArray, List.getElem?_cons_succ, List.getElem?_cons_zero]; rfl) (by kernel_rfl) (by kernel_rfl) (by kernel_rfl) (by kernel_rfl) (by intro _ _ _ h; exact h) (Or.inl ⟨by rfl, fun w hSw => ?_⟩) hHeld ?_
  rotate_left
  · ((try dsimp only at hSw); go_simp; first | done | with_reducible rfl | rfl)
  try simp only [Act.put, List.setIfInBounds_toArray, List.set_cons_zero, List.set_cons_succ]
  refine AnyT.take (i := 2) (v := ?_) (by simp only [List.getElem?_toArray, List.getElem?_cons_succ, List.getElem?_cons_zero]; rfl) (by kernel_rfl) (by kernel_rfl) (by kernel_rfl) (by kernel_rfl) (by intro _ _ _ h; exact h) (Or.inl ⟨by rfl, fun w hSw => ?_⟩) hHeld ?_
  rotate_left
  · ((try dsimp only at hSw); go_simp; first | done | with_reducible rfl | rfl)
  try simp only [Act.put, List.setIfInBounds_toArray, List.set_cons_zero, List.set_cons_succ]
  refine AnyT.take (i := 3) (v := ?_) (by simp only [List.getElem?_toArray, List.getElem?_cons_succ, List.getElem?_cons_zero]; rfl) (by kernel_rfl) (by kernel_rfl) (by kernel_rfl) (by kernel_rfl) (by intro _ _ _ h; exact h) (Or.inl ⟨by rfl, fun w hSw => ?_⟩) hHeld ?_
  rotate_left
  · ((try dsimp only at hSw); go_simp; first | done | with_reducible rfl | rfl)
  try simp only [Act.put, List.setIfInBounds_toArray, List.set_cons_zero, List.set_cons_succ]
  refine AnyT.take (i := 4) (v := ?_) (by simp only [List.getElem?_toArray, List.getElem?_cons_succ, List.getElem?_cons_zero]; rfl) (by kernel_rfl) (by kernel_rfl) (by kernel_rfl) (by kernel_rfl) (by intro _ _ _ h; exact h) (Or.inl ⟨by rfl, fun w hSw => ?_⟩) hHeld ?_
  rotate_left
  · ((try dsimp only at hSw); go_simp; first | done | with_reducible rfl | rfl)
  try simp only [Act.put, List.setIfInBounds_toArray, List.set_cons_zero, List.set_cons_succ]
  refine AnyT.take (i := 5) (v := ?_) (by simp only [List.getElem?_toArray, List.getElem?_cons_succ, List.getElem?_cons_zero]; rfl) (by kernel_rfl) (by kernel_rfl) (by kernel_rfl) (by kernel_rfl) (by intro _ _ _ h; exact h) (Or.inl ⟨by rfl, fun w hSw => ?_⟩) hHeld ?_
  rotate_left
  · ((try dsimp only at hSw); go_simp; first | done | with_reducible rfl | rfl)
  try simp only [Act.put, List.setIfInBounds_toArray, List.set_cons_zero, List.set_cons_succ]
  refine AnyT.take (i := 6) (v := ?_) (by simp only [List.getElem?_toArray, List.getElem?_cons_succ, List.getElem?_cons_zero]; rfl) (by kernel_rfl) (by kernel_rfl) (by kernel_rfl) (by kernel_rfl) (by intro _ _ _ h; exact h) (Or.inl ⟨by rfl, fun w hSw => ?_⟩) hHeld ?_
  rotate_left
  · ((try dsimp only at hSw); go_simp; first | done | with_reducible rfl | rfl)
  try simp only [Act.put, List.setIfInBounds_toArray, List.set_cons_zero, List.set_cons_succ]
  refine AnyT.take (i := 7) (v := ?_) (by simp only [List.getElem?_toArray, List.getElem?_cons_succ, List.getElem?_cons_zero]; rfl) (by kernel_rfl) (by kernel_rfl) (by kernel_rfl) (by kernel_rfl) (by intro _ _ _ h; exact h) (Or.inl ⟨by rfl, fun w hSw => ?_⟩) hHeld ?_
  rotate_left
  · ((try dsimp only at hSw); go_simp; first | done | with_reducible rfl | rfl)
  try simp only [Act.put, List.setIfInBounds_toArray, List.set_cons_zero, List.set_cons_succ]
  refine AnyT.ready (rs := [8]) (by kernel_rfl) (by simp) ?_
  refine AllT.cons (by simp only [List.getElem?_toArray, List.getElem?_cons_succ, List.getElem?_cons_zero]; rfl) (fun K hK => ?_) AllT.nil
  go_simp
  refine (len_buf b (o + 1) data Fb (fp b o [.iface 314 (.pointer (some ⟨gp, 0, none⟩))] :: fp b (o + 67) [.int .i64 hs.length, .slice oA offs.length oc] :: (Fg ++ Fo ++ R)) w0 _ HB.out (HO.out.drew.perm (perm_of fun _ _ z => by simp only [List.count_append, List.count_cons, List.cons_append, List.count_nil, List.nil_append, List.append_nil]; omega)) (by rw [HL.out]; omega)).mono ?_
  rintro e w1 ⟨rfl, hd1⟩
  rw [HL.out]
  have hO1 := (HO.out.drew).dr hd1
  clear hd1 c0 c1 c2 f0 bl HO
  obtain ⟨c0, c1, c2, f0, bl⟩ := fw_hdr hO1
  rw [HM.out] at c1
  rw [HQ.out] at c2
  have HO := hid hO1
  clear hO1
  try go_wp2_with fail
  refine hK.out _ _ ?_ (fun hHeld => ?_)
  · exact c2
  clear hK
  try simp only [Act.put, List.setIfInBounds_toArray, List.set_cons_zero, List.set_cons_succ]
  refine AnyT.take (i := 9) (v := ?_) (by simp only [List.getElem?_toArray, List.getElem?_cons_succ, List.getElem?_cons_zero]; rfl) (by kernel_rfl) (by kernel_rfl) (by kernel_rfl) (by kernel_rfl) (by intro _ _ _ h; exact h) (Or.inl ⟨by rfl, fun w hSw => ?_⟩) hHeld ?_
  rotate_left
  · ((try dsimp only at hSw); go_simp; first | done | with_reducible rfl | rfl)
  try simp only [Act.put, List.setIfInBounds_toArray, List.set_cons_zero, List.set_cons_succ]
  refine AnyT.ready (rs := [10]) (by kernel_rfl) (by simp) ?_
  refine AllT.cons (by simp only [List.getElem?_toArray, List.getElem?_cons_succ, List.getElem?_cons_zero]; rfl) (fun K hK => ?_) AllT.nil
  go_simp
  refine hK.out _ _ ?_ (fun hHeld => ?_)
  · go_simp
  clear hK
  try simp only [Act.put, List.setIfInBounds_toArray, List.set_cons_zero, List.set_cons_succ]
  refine AnyT.ready (rs := [11]) (by kernel_rfl) (by simp) ?_
  refine AllT.cons (by simp only [List.getElem?_toArray, List.getElem?_cons_succ, List.getElem?_cons_zero]; rfl) (fun K hK => ?_) AllT.nil
  refine own_step_append rfl (.tmp 6) (.tmp 12) 137 rfl 181 (.int .u32 0) 1 4 Tryd.underlying137 Tryd.info_u32 rfl (by decide) oA q oc (c32 offs) Fo rfl (by rw [← HQ.out]; exact HR.out) (R := (fp b o [.iface 314 (.pointer (some ⟨gp, 0, none⟩))] :: fp b (o + 67) [.int .i64 hs.length, .slice oA q oc] :: (Fb ++ Fg ++ R))) ((HO.out.skip _).perm (by rw [HQ.out]; exact (perm_of fun _ _ z => by simp only [List.count_append, List.count_cons, List.cons_append, List.count_nil, List.nil_append, List.append_nil]; omega))) (some ⟨w1.heap.size, 0, none⟩) 1 1 [.int .u32 (L : Int)] rfl rfl (csAt_one _ _ _) (by simp [Value.oneCell']) (by simp [maxLen]; omega) (by omega) ?_
  intro oA3 oc3 Fo3 w3 hR3 hO3 _
  have hO4 : Own (fp b o [.iface 314 (.pointer (some ⟨gp, 0, none⟩))] :: fp b (o + 67) [.int .i64 hs.length, .slice oA q oc] :: (Fo3 ++ (Fb ++ Fg ++ R))) w0 w3 := hO3.perm (perm_of fun _ _ z => by simp only [List.count_append, List.count_cons, List.cons_append, List.count_nil, List.nil_append, List.append_nil]; omega)
  clear c0 c1 c2 f0 bl HO
  obtain ⟨c0, c1, c2, f0, bl⟩ := fw_hdr hO4
  rw [HM.out] at c1
  have HO := hid hO4
  have HR3 := hid hR3
  clear hR3 hO3 hO4
  refine hK.out _ _ ?_ (fun hHeld => ?_)
  · exact c2
  clear hK
  try simp only [Act.put, List.setIfInBounds_toArray, List.set_cons_zero, List.set_cons_succ]
  refine AnyT.ready (rs := [12]) (by kernel_rfl) (by simp) ?_
  refine AllT.cons (by simp only [List.getElem?_toArray, List.getElem?_cons_succ, List.getElem?_cons_zero]; rfl) (fun K hK => ?_) AllT.nil
  go_simp
  refine hK.out _ _ ?_ (fun hHeld => ?_)
  · exact c2
  clear hK
  try simp only [Act.put, List.setIfInBounds_toArray, List.set_cons_zero, List.set_cons_succ]
  refine AnyT.take (i := 13) (v := ?_) (by simp only [List.getElem?_toArray, List.getElem?_cons_succ, List.getElem?_cons_zero]; rfl) (by kernel_rfl) (by kernel_rfl) (by kernel_rfl) (by kernel_rfl) (by intro _ _ _ h; exact h) (Or.inl ⟨by rfl, fun w hSw => ?_⟩) hHeld ?_
  rotate_left
  · ((try dsimp only at hSw); go_simp; first | done | with_reducible rfl | rfl)
  try simp only [Act.put, List.setIfInBounds_toArray, List.set_cons_zero, List.set_cons_succ]
  refine AnyT.ready (rs := [14]) (by kernel_rfl) (by simp) ?_
  refine AllT.late (by simp only [List.getElem?_toArray, List.getElem?_cons_succ, List.getElem?_cons_zero]; rfl) (by kernel_rfl) (fun K hK => ?_)
  go_simp
  refine hK.out _ _ ?_
  clear hK
  try simp only [Act.put, List.setIfInBounds_toArray, List.set_cons_zero, List.set_cons_succ]
  refine AnyT.done (by kernel_rfl) ?_ _
  have h1 : Own (fp b (o + 67) [.int .i64 hs.length, .slice oA q oc] :: (fp b o [.iface 314 (.pointer (some ⟨gp, 0, none⟩))] :: (Fo3 ++ (Fb ++ Fg ++ R)))) w0 w3 := HO.out.swap01
  have h2 : Own (fp b (o + 67) [.int .i64 hs.length, .slice oA3 (q + 1) oc3] :: (fp b o [.iface 314 (.pointer (some ⟨gp, 0, none⟩))] :: (Fo3 ++ (Fb ++ Fg ++ R)))) w0 _ := h1.set (k := o + 68) 1 rfl (by simp) (.slice oA3 (q + 1) oc3)
  have h3 := h2.swap01
  clear h1 h2 c0 c1 c2 f0 bl HO
  generalize World.setCell _ _ _ = W at h3 ⊢
  obtain ⟨c0, c1, c2, f0, bl⟩ := fw_hdr h3
  rw [HM.out] at c1
  have HO := hid h3
  clear h3
  have hR3 : Row 181 1 oA3 (q + 1) oc3 (c32 (offs ++ [L])) Fo3 := by simpa [c32] using HR3.out
  have HR4 := hid hR3
  clear hR3 HR3
  by_cases hm0 : m = 0
  · have t1 : decide ((m : Int) > 0) = false := decide_eq_false (by omega)
    have hs0 : hs = [] := List.eq_nil_of_length_eq_zero (by rw [HM.out]; exact hm0)
    go_wp2_with fail
    go_end0
    refine ⟨rfl, data, _, ?_, ⟨gp, oA3, oc3, Fb, Fg, Fo3, HB.out, by rw [← hs0]; exact HG.out, by rw [List.length_append, HQ.out, HL.out]; exact HR4.out, rfl⟩, ?_⟩
    · unfold fwD; rw [if_pos hs0]
    · rw [List.length_append, HQ.out, List.length_singleton]
      have := HO.out
      rw [hs0] at this
      exact this.perm (L' := (fp b o [.iface 314 (.pointer (some ⟨gp, 0, none⟩))] :: fp b (o + 67) [.int .i64 (([] : List Int).length : Int), .slice oA3 (q + 1) oc3] :: (Fb ++ (Fg ++ Fo3))) ++ R) (perm_of fun _ _ z => by simp only [List.count_append, List.count_cons, List.cons_append, List.count_nil, List.nil_append, List.append_nil]; omega)
  · have t1 : decide ((m : Int) > 0) = true := decide_eq_true (by omega)
    have hs0 : hs ≠ [] := fun h => hm0 (by rw [← HM.out, h]; rfl)
    go_wp2_with fail
    refine AnyT.start (S := fun w' => w'.cell? ⟨b, o, none⟩ = some (.iface 314 (.pointer (some ⟨gp, 0, none⟩)))) (T := []) (by kernel_rfl) (c0) (fun hHeld => ?_)
    refine AnyT.take (i := 0) (v := ?_) (by simp only [List.getElem?_toArray, List.getElem?_cons_succ, List.getElem?_cons_zero]; rfl) (by kernel_rfl) (by kernel_rfl) (by kernel_rfl) (by kernel_rfl) (by intro _ _ _ h; exact h) (Or.inl ⟨by rfl, fun w hSw => ?_⟩) hHeld ?_
    rotate_left
    · ((try dsimp only at hSw); go_simp; first | done | with_reducible rfl | rfl)
    try simp only [Act.put, List.setIfInBounds_toArray, List.set_cons_zero, List.set_cons_succ]
    refine AnyT.take (i := 1) (v := ?_) (by simp only [List.getElem?_toArray, List.getElem?_cons_succ, List.getElem?_cons_zero]; rfl) (by kernel_rfl) (by kernel_rfl) (by kernel_rfl) (by kernel_rfl) (by intro _ _ _ h; exact h) (Or.inl ⟨by rfl, fun w hSw => ?_⟩) hHeld ?_
    rotate_left
    · ((try dsimp only at hSw); go_simp; first | done | with_reducible rfl | rfl)
    try simp only [Act.put, List.setIfInBounds_toArray, List.set_cons_zero, List.set_cons_succ]
    refine AnyT.take (i := 2) (v := ?_) (by simp only [List.getElem?_toArray, List.getElem?_cons_succ, List.getElem?_cons_zero]; rfl) (by kernel_rfl) (by kernel_rfl) (by kernel_rfl) (by kernel_rfl) (by intro _ _ _ h; exact h) (Or.inl ⟨by rfl, fun w hSw => ?_⟩) hHeld ?_
    rotate_left
    · ((try dsimp only at hSw); go_simp; first | done | with_reducible rfl | rfl)
    try simp only [Act.put, List.setIfInBounds_toArray, List.set_cons_zero, List.set_cons_succ]
    refine AnyT.take (i := 3) (v := ?_) (by simp only [List.getElem?_toArray, List.getElem?_cons_succ, List.getElem?_cons_zero]; rfl) (by kernel_rfl) (by kernel_rfl) (by kernel_rfl) (by kernel_rfl) (by intro _ _ _ h; exact h) (Or.inl ⟨by rfl, fun w hSw => ?_⟩) hHeld ?_
    rotate_left
    · ((try dsimp only at hSw); go_simp; first | done | with_reducible rfl | rfl)
    try simp only [Act.put, List.setIfInBounds_toArray, List.set_cons_zero, List.set_cons_succ]
    refine AnyT.take (i := 4) (v := ?_) (by simp only [List.getElem?_toArray, List.getElem?_cons_succ, List.getElem?_cons_zero]; rfl) (by kernel_rfl) (by kernel_rfl) (by kernel_rfl) (by kernel_rfl) (by intro _ _ _ h; exact h) (Or.inl ⟨by rfl, fun w hSw => ?_⟩) hHeld ?_
    rotate_left
    · ((try dsimp only at hSw); go_simp; first | done | with_reducible rfl | rfl)
    try simp only [Act.put, List.setIfInBounds_toArray, List.set_cons_zero, List.set_cons_succ]
    refine AnyT.take (i := 5) (v := ?_) (by simp only [List.getElem?_toArray, List.getElem?_cons_succ, List.getElem?_cons_zero]; rfl) (by kernel_rfl) (by kernel_rfl) (by kernel_rfl) (by kernel_rfl) (by intro _ _ _ h; exact h) (Or.inl ⟨by rfl, fun w hSw => ?_⟩) hHeld ?_
    rotate_left
    · ((try dsimp only at hSw); go_simp; first | done | with_reducible rfl | rfl)
    try simp only [Act.put, List.setIfInBounds_toArray, List.set_cons_zero, List.set_cons_succ]
    refine AnyT.take (i := 6) (v := ?_) (by simp only [List.getElem?_toArray, List.getElem?_cons_succ, List.getElem?_cons_zero]; rfl) (by kernel_rfl) (by kernel_rfl) (by kernel_rfl) (by kernel_rfl) (by intro _ _ _ h; exact h) (Or.inl ⟨by rfl, fun w hSw => ?_⟩) hHeld ?_
    rotate_left
    · ((try dsimp only at hSw); go_simp; first | done | with_reducible rfl | rfl)
    try simp only [Act.put, List.setIfInBounds_toArray, List.set_cons_zero, List.set_cons_succ]
    refine AnyT.take (i := 7) (v := ?_) (by simp only [List.getElem?_toArray, List.getElem?_cons_succ, List.getElem?_cons_zero]; rfl) (by kernel_rfl) (by kernel_rfl) (by kernel_rfl) (by kernel_rfl) (by intro _ _ _ h; exact h) (Or.inl ⟨by rfl, fun w hSw => ?_⟩) hHeld ?_
    rotate_left
    · ((try dsimp only at hSw); go_simp; first | done | with_reducible rfl | rfl)
    try simp only [Act.put, List.setIfInBounds_toArray, List.set_cons_zero, List.set_cons_succ]
    refine AnyT.take (i := 8) (v := ?_) (by simp only [List.getElem?_toArray, List.getElem?_cons_succ, List.getElem?_cons_zero]; rfl) (by kernel_rfl) (by kernel_rfl) (by kernel_rfl) (by kernel_rfl) (by intro _ _ _ h; exact h) (Or.inl ⟨by rfl, fun w hSw => ?_⟩) hHeld ?_
    rotate_left
    · ((try dsimp only at hSw); go_simp; first | done | with_reducible rfl | rfl)
    try simp only [Act.put, List.setIfInBounds_toArray, List.set_cons_zero, List.set_cons_succ]
    refine AnyT.take (i := 9) (v := ?_) (by simp only [List.getElem?_toArray, List.getElem?_cons_succ, List.getElem?_cons_zero]; rfl) (by kernel_rfl) (by kernel_rfl) (by kernel_rfl) (by kernel_rfl) (by intro _ _ _ h; exact h) (Or.inl ⟨by rfl, fun w hSw => ?_⟩) hHeld ?_
    rotate_left
    · ((try dsimp only at hSw); go_simp; first | done | with_reducible rfl | rfl)
    try simp only [Act.put, List.setIfInBounds_toArray, List.set_cons_zero, List.set_cons_succ]
    refine AnyT.ready (rs := [10]) (by kernel_rfl) (by simp) ?_
    refine AllT.cons (by simp only [List.getElem?_toArray, List.getElem?_cons_succ, List.getElem?_cons_zero]; rfl) (fun K hK => ?_) AllT.nil
    go_simp
    refine (gen_generate gp n k b (o + 1) hs data Fg Fb (fp b o [.iface 314 (.pointer (some ⟨gp, 0, none⟩))] :: fp b (o + 67) [.int .i64 hs.length, .slice oA3 (q + 1) oc3] :: (Fo3 ++ R)) w0 _ HG.out HB.out (HO.out.drew.perm (perm_of fun _ _ z => by simp only [List.count_append, List.count_cons, List.cons_append, List.count_nil, List.nil_append, List.append_nil]; omega)) hn hk (by rw [HM.out]; exact hl) (by rw [HL.out]; exact hD) hw).mono ?_
    rintro e w4 ⟨rfl, P, Fg', Fb', hP1, _, _, hG', hB', hO4⟩
    have hO5 : Own (fp b o [.iface 314 (.pointer (some ⟨gp, 0, none⟩))] :: fp b (o + 67) [.int .i64 hs.length, .slice oA3 (q + 1) oc3] :: (Fb' ++ (Fg' ++ Fo3) ++ R)) w0 w4 := hO4.perm (perm_of fun _ _ z => by simp only [List.count_append, List.count_cons, List.cons_append, List.count_nil, List.nil_append, List.append_nil]; omega)
    clear c0 c1 c2 f0 bl HO hO4
    obtain ⟨c0, c1, c2, f0, bl⟩ := fw_hdr hO5
    rw [HM.out] at c1
    have HO := hid hO5.swap01
    have HG' := hid hG'
    have HB' := hid hB'
    have HP1 := hid hP1
    clear hO5 hG' hB' hP1
    try go_wp2_with fail
    refine hK.out _ _ ?_ (fun hHeld => ?_)
    · exact c0
    clear hK
    try simp only [Act.put, List.setIfInBounds_toArray, List.set_cons_zero, List.set_cons_succ]
    refine AnyT.done (by kernel_rfl) ?_ _
    go_wp2_with fail
    go_end0
    have h1 : Own (fp b (o + 67) [.int .i64 0, .slice oA3 (q + 1) oc3] :: (fp b o [.iface 314 (.pointer (some ⟨gp, 0, none⟩))] :: (Fb' ++ (Fg' ++ Fo3) ++ R))) w0 _ := HO.out.set (k := o + 67) 0 rfl (by simp) (.int .i64 0)
    refine ⟨rfl, data ++ P, _, ?_, ⟨gp, oA3, oc3, Fb', Fg', Fo3, HB'.out, HG'.out, by rw [List.length_append, HQ.out, HL.out]; exact HR4.out, rfl⟩, ?_⟩
    · unfold fwD; rw [if_neg hs0, List.length_append, HP1.out]
    · rw [List.length_append, HQ.out, List.length_singleton]
      exact h1.perm (L' := (fp b o [.iface 314 (.pointer (some ⟨gp, 0, none⟩))] :: fp b (o + 67) [.int .i64 0, .slice oA3 (q + 1) oc3] :: (Fb' ++ (Fg' ++ Fo3))) ++ R) (perm_of fun _ _ z => by simp only [List.count_append, List.count_cons, List.cons_append, List.count_nil, List.nil_append, List.append_nil]; omega)
end Go.Proofs.YtloflmcgbbbnjaaDoor
namespace Go.Proofs.YtloflmcgbbbnjaaDoor
open Go.RowKit Plain
set_option linter.all false

/-- A filter's writer of whose bytes only bounds are known; on: it has a generator. -/
def FWB (b o : Nat) (on : Bool) (n B Q : Nat) (F : List Fr) : Prop :=
  if on = true then ∃ k hs data offs, FWs b o n k hs data offs F ∧ k ≤ 30 ∧ n ≤ 20 ∧ (∀ y ∈ hs, 0 ≤ y ∧ y < 4294967296) ∧ (∀ x ∈ offs, x ≤ B) ∧ data.length + 13 * hs.length ≤ B ∧ offs.length ≤ Q
  else ∃ Fb, BufF b (o + 1) [] Fb ∧ F = fp b o [.nilIface] :: fp b (o + 67) [.int .i64 0, .slice none 0 0] :: Fb
theorem FWB.mono {b o : Nat} {on : Bool} {n B Q B' Q' : Nat} {F : List Fr} (h : FWB b o on n B Q F) (h1 : B ≤ B') (h2 : Q ≤ Q') : FWB b o on n B' Q' F := by
  unfold FWB at h ⊢
  split at h
  · rw [if_pos (by assumption)]
    obtain ⟨k, hs, data, offs, h3, h4, h5, h6, h7, h8, h9⟩ := h
    exact ⟨k, hs, data, offs, h3, h4, h5, h6, fun x hx => Nat.le_trans (h7 x hx) h1, by omega, by omega⟩
  · rw [if_neg (by assumption)]; exact h
theorem fbytes_le {m n : Nat} (hn : n ≤ 20) (hm : 0 < m) : fbytes (m * n) + 1 ≤ 13 * m := by
  have h : m * n ≤ m * 20 := Nat.mul_le_mul_left _ hn
  unfold fbytes
  have : max 64 (m * n) ≤ 64 ∨ max 64 (m * n) ≤ m * 20 := by rcases Nat.le_total 64 (m * n) with h' | h'; exact .inr (by rw [Nat.max_eq_right h']; exact h); exact .inl (by rw [Nat.max_eq_left h']; exact Nat.le_refl _)
  omega
theorem fwD_le {n k B : Nat} {hs : List Int} {data data' : List UInt8} (h : fwD n k hs data data') (hn : n ≤ 20) (hb : data.length + 13 * hs.length ≤ B) : data'.length ≤ B := by
  unfold fwD at h
  by_cases h0 : hs = []
  · rw [if_pos h0] at h; omega
  · rw [if_neg h0] at h
    have := fbytes_le (m := hs.length) hn (List.length_pos_iff.2 h0)
    omega
set_option maxHeartbeats 1600000 in
theorem fwb_add (b o n B Q kc kn : Nat) (on : Bool) (kA : Option Addr) (key : List UInt8) (F R : List Fr) (w0 w : World) (h : FWB b o on n B Q F) (hO : Own (F ++ R) w0 w) (hk : Rd R w0 kA key) (hn : kn = key.length) (hkl : key.length ≤ 2147483647) (hkc : key.length ≤ kc) (hB : B ≤ 1073741824) :
    Calls Tryd.prog 88 #[.pointer (some ⟨b, o, none⟩), .slice kA kn kc] w fun e w' => e = .returned (.tuple #[]) ∧ ∃ F', FWB b o on n (B + 13) Q F' ∧ Own (F' ++ R) w0 w' := by
  subst hn
  cases on with
  | true =>
    obtain ⟨k, hs, data, offs, h3, h4, h5, h6, h7, h8, h9⟩ := (show _ from h : ∃ k hs data offs, FWs b o n k hs data offs F ∧ k ≤ 30 ∧ n ≤ 20 ∧ (∀ y ∈ hs, 0 ≤ y ∧ y < 4294967296) ∧ (∀ x ∈ offs, x ≤ B) ∧ data.length + 13 * hs.length ≤ B ∧ offs.length ≤ Q)
    refine (fw_add b o n k kc kA hs data key offs F R w0 w h3 hO hk hkl hkc (by omega)).mono ?_
    rintro e w1 ⟨rfl, F', hF, hO1⟩
    refine ⟨rfl, F', ?_, hO1⟩
    show ∃ k hs data offs, _
    refine ⟨k, _, data, offs, hF, h4, h5, fun y hy => ?_, fun x hx => by have := h7 x hx; omega, ?_, h9⟩
    · rcases List.mem_append.1 hy with hy | hy
      · exact h6 y hy
      · simp only [List.mem_singleton] at hy; rw [hy]; exact bhash_wf key
    · rw [List.length_append, List.length_singleton]; omega
  | false =>
    obtain ⟨Fb, hB, rfl⟩ := (show _ from h : ∃ Fb, BufF b (o + 1) [] Fb ∧ F = fp b o [.nilIface] :: fp b (o + 67) [.int .i64 0, .slice none 0 0] :: Fb)
    obtain ⟨c0, c1, c2, f0, bl⟩ := fw_hdr hO
    have HO := hid hO
    clear hO
    go_enter Tryd.func88, Tryd.ntmps88
    go_wp2_with fail
    refine bodyPost_ret (results_none rfl _ _ _) rfl ?_
    exact ⟨rfl, _, (show ∃ Fb, _ from ⟨Fb, hB, rfl⟩), HO.out⟩
set_option maxHeartbeats 3200000 in
set_option maxRecDepth 100000 in
theorem fwb_flush (b o n B Q off : Nat) (on : Bool) (F R : List Fr) (w0 w : World) (h : FWB b o on n B Q F) (hO : Own (F ++ R) w0 w) (hB : B ≤ 26000000) (hQ : Q ≤ 1073741824) (hoff : off / 2048 ≤ Q) (hof : off ≤ 1099511627776) :
    Calls Tryd.prog 84 #[.pointer (some ⟨b, o, none⟩), .int .u64 off] w fun e w' => e = .returned (.tuple #[]) ∧ ∃ F', FWB b o on n B Q F' ∧ Own (F' ++ R) w0 w' := by
  cases on with
  | true =>
    obtain ⟨k, hs, data, offs, h3, h4, h5, h6, h7, h8, h9⟩ := (show _ from h : ∃ k hs data offs, FWs b o n k hs data offs F ∧ k ≤ 30 ∧ n ≤ 20 ∧ (∀ y ∈ hs, 0 ≤ y ∧ y < 4294967296) ∧ (∀ x ∈ offs, x ≤ B) ∧ data.length + 13 * hs.length ≤ B ∧ offs.length ≤ Q)
    obtain ⟨gp, oA, oc, Fb, Fg, Fo, q1, q2, q3, rfl⟩ := id h3
    obtain ⟨c0, c1, c2, f0, bl⟩ := fw_hdr hO
    have HO := hid hO
    have H3 := hid h3
    clear hO h3 q1 q2 q3 h
    have e1 : (off : Int).tdiv 2048 = ((off / 2048 : Nat) : Int) := by rw [Int.tdiv_eq_ediv_of_nonneg (by omega)]; rfl
    have e2 : (off : Int) / 2048 = ((off / 2048 : Nat) : Int) := by omega
    obtain ⟨X, hX⟩ : ∃ X, off / 2048 = X := ⟨_, rfl⟩
    rw [hX] at e1 e2 hoff
    have e3 : IntKind.i64.wrap (X : Int) = X := i64_id (by omega) (by omega)
    have e4 : IntKind.u64.wrap (X : Int) = X := by simp [IntKind.wrap, IntKind.bits, IntKind.signed]; omega
    go_enter Tryd.func84, Tryd.ntmps84
    go_wp2_with fail
    go_loopw [] (fun wr => ∃ (hs' : List Int) (data' : List UInt8) (offs' : List Nat) (F' : List Fr), FWs b o n k hs' data' offs' F' ∧ (∀ y ∈ hs', 0 ≤ y ∧ y < 4294967296) ∧ (∀ x ∈ offs', x ≤ B) ∧ data'.length + 13 * hs'.length ≤ B ∧ offs'.length ≤ Q ∧ Own (F' ++ R) w0 wr) (fun wr => match wr.cell? ⟨b, o + 68, none⟩ with | some (.slice _ l _) => X - l | _ => 0)
    case atStart => exact ⟨hs, data, offs, _, H3.out, h6, h7, h8, h9, HO.out⟩
    case round =>
      clear c0 c1 c2 f0 bl HO H3 h6 h7 h8 h9
      obtain ⟨hs', data', offs', F', h3, h6, h7, h8, h9, hO⟩ := hrel
      obtain ⟨gp', oA', oc', Fb', Fg', Fo', q1, q2, q3, rfl⟩ := id h3
      obtain ⟨c0, c1, c2, f0, bl⟩ := fw_hdr hO
      have HO := hid hO
      have H3 := hid h3
      have H6 := hid h6
      have H7 := hid h7
      have H8 := hid h8
      clear hO h3 q1 q2 q3 h6 h7 h8
      obtain ⟨q, hq⟩ : ∃ q, offs'.length = q := ⟨_, rfl⟩
      have HQ := hid hq
      rw [hq] at c2 h9
      clear hq
      by_cases hx : q < X
      · have t1 : decide ((X : Int) > (q : Int)) = true := decide_eq_true (by omega)
        go_wp2_with fail
        have hd8 := H8.out
        refine (fw_generate b o n k hs' data' offs' _ R w0 _ H3.out HO.out (by omega) h4 (by omega) (by omega) (by rw [HQ.out]; omega) H6.out).mono ?_
        rintro e w2 ⟨rfl, data2, F2, hD2, hF2, hO2⟩
        obtain ⟨gp2, oA2, oc2, Fb2, Fg2, Fo2, q1, q2, q3, rfl⟩ := id hF2
        have c22 := (fw_hdr hO2).2.2.1
        rw [List.length_append, List.length_singleton, HQ.out] at c22
        have hle := fwD_le hD2 h5 hd8
        have HF2 := hid hF2
        have HO2 := hid hO2
        clear q1 q2 q3 hF2 hO2
        go_wp2_with fail
        refine ⟨⟨[], data2, offs' ++ [data'.length], _, HF2.out, by simp, fun x hx => ?_, by simpa using hle, by rw [List.length_append, List.length_singleton, HQ.out]; omega, HO2.out⟩, ?_⟩
        · rcases List.mem_append.1 hx with hx | hx
          · exact H7.out x hx
          · simp only [List.mem_singleton] at hx; omega
        · rw [c2, c22]; simp only; omega
      · have t1 : decide ((X : Int) > (q : Int)) = false := decide_eq_false (by omega)
        go_wp2_with fail
        go_end0
        refine ⟨rfl, _, (show ∃ k hs data offs, _ from ⟨k, hs', data', offs', H3.out, h4, h5, H6.out, H7.out, H8.out, by rw [HQ.out]; exact h9⟩), HO.out⟩
  | false =>
    obtain ⟨Fb, hB, rfl⟩ := (show _ from h : ∃ Fb, BufF b (o + 1) [] Fb ∧ F = fp b o [.nilIface] :: fp b (o + 67) [.int .i64 0, .slice none 0 0] :: Fb)
    obtain ⟨c0, c1, c2, f0, bl⟩ := fw_hdr hO
    have HO := hid hO
    clear hO
    go_enter Tryd.func84, Tryd.ntmps84
    go_wp2_with fail
    refine bodyPost_ret (results_none rfl _ _ _) rfl ?_
    exact ⟨rfl, _, (show ∃ Fb, _ from ⟨Fb, hB, rfl⟩), HO.out⟩
end Go.Proofs.YtloflmcgbbbnjaaDoor
