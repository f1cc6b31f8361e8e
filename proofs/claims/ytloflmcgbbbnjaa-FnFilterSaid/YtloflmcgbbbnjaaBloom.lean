/-
  filter.bloomFilter: what Contains tells.
-/
import Derived.Test.YtloflmcgbbbnjaaHashU
import Derived.Test.YtloflmcgbbbnjaaPlainBloom
namespace Go.Proofs.Ytloflmcgbbbnjaa
open Go.RowKit Plain
set_option linter.all false

def bhash (l : List UInt8) : Int := hashAll (hstart 3164544308 l.length) l
theorem hashAll_wf : ∀ (n : Nat) (l : List UInt8) (h : Int), l.length ≤ n → 0 ≤ h → h < 4294967296 → 0 ≤ hashAll h l ∧ hashAll h l < 4294967296
  | 0, l, h, hl, h0, h1 => by
    obtain rfl : l = [] := List.eq_nil_of_length_eq_zero (by omega)
    rw [hashAll_end (by simp), if_pos rfl]; exact ⟨h0, h1⟩
  | n + 1, l, h, hl, h0, h1 => by
    by_cases h4 : 4 ≤ l.length
    · rw [hashAll_step h4]
      have := u32_wf_xor (hmul h (leI (l.take 4))) (hmul h (leI (l.take 4)) / 65536)
      exact hashAll_wf n _ _ (by rw [List.length_drop]; omega) this.1 this.2
    · rw [hashAll_end h4]
      split
      · exact ⟨h0, h1⟩
      · exact u32_wf_xor _ _
theorem bhash_wf (l : List UInt8) : 0 ≤ bhash l ∧ bhash l < 4294967296 := by
  have := u32_wf_xor 3164544308 (w32 (l.length * 3332679571))
  exact hashAll_wf l.length l _ (Nat.le_refl _) this.1 this.2
set_option maxHeartbeats 400000 in
theorem bloomHash_any (A : Option Addr) (c : Nat) (l : List UInt8) (w : World) (h : BsAt w A l) (hl : l.length ≤ 2147483647) (hc : l.length ≤ c) :
    Calls Try.prog 56 #[.slice A l.length c] w fun e w' => e = .returned (.int .u32 (bhash l)) ∧ Only [] w w' := by
  go_enter Try.func56, Try.ntmps56
  go_wp2_with (go_at_call 57; refine (utilHash_any A c l 3164544308 _ h hl hc).mono ?_; rintro e w1 ⟨rfl, ho⟩)
  go_ret
  exact ⟨rfl, ho⟩
/-- What Contains tells of a filter of m bytes, its number of probes behind them. -/
def inF (X : List UInt8) (m : Nat) (key : List UInt8) : Bool := hasKey (8 * (m : Int)) (rot (bhash key)) X (at_ X m).toNat (bhash key)
theorem hasKey_wf_step (x dl : Int) : 0 ≤ w32 (x + dl) ∧ w32 (x + dl) < 4294967296 := ⟨w32_lo _, w32_hi _⟩

theorem test_bit (X : List UInt8) (m : Nat) (x : Int) (hm0 : 0 < m) (x0 : 0 ≤ x) :
    (bits .and .u32 (bz X (spot x (8 * (m : Int)) / 8) % 4294967296) (2 ^ (x % 8).toNat % 4294967296) == 0) = !getBit X (spot x (8 * (m : Int))) := by
  have h8 : (x % 8).toNat = spot x (8 * (m : Int)) % 8 := by
    unfold spot
    have h1 := Int.emod_nonneg x (show 8 * (m : Int) ≠ 0 by omega)
    have h2 : x % (8 * (m : Int)) % 8 = x % 8 := Int.emod_emod_of_dvd _ (Int.dvd_mul_right 8 _)
    omega
  have h3 : (2 : Int) ^ (x % 8).toNat % 4294967296 = ((2 ^ (spot x (8 * (m : Int)) % 8) : Nat) : Int) := by
    rw [h8]
    have h4 : spot x (8 * (m : Int)) % 8 < 8 := Nat.mod_lt _ (by decide)
    have h5 : 2 ^ (spot x (8 * (m : Int)) % 8) < 2 ^ 8 := Nat.pow_lt_pow_right (by decide) h4
    rw [show (2 : Int) ^ (spot x (8 * (m : Int)) % 8) = ((2 ^ (spot x (8 * (m : Int)) % 8) : Nat) : Int) from (Int.natCast_pow 2 _).symm]
    generalize 2 ^ (spot x (8 * (m : Int)) % 8) = y at h5 ⊢
    omega
  have h6 := bz_lo X (spot x (8 * (m : Int)) / 8)
  have h7 := bz_hi X (spot x (8 * (m : Int)) / 8)
  rw [h3, Int.emod_eq_of_lt h6 (by omega)]
  have := and_bit X (spot x (8 * (m : Int)))
  cases hb : getBit X (spot x (8 * (m : Int))) with
  | true => rw [hb] at this; simpa using this
  | false => rw [hb] at this; simpa using this
theorem BsAt.get {w : World} {g o : Nat} {l : List UInt8} (h : BsAt w (some ⟨g, o, none⟩) l) {i : Nat} (hi : i < l.length) : w.cell? ⟨g, o + i, none⟩ = some (.int .u8 (bz l i)) := by
  obtain ⟨g', o', e, hc⟩ := h i hi
  injection e with e
  injection e with e1 e2
  subst e1; subst e2
  exact hc
set_option maxHeartbeats 1600000 in
theorem contains_any (fv : Value) (g o c kc m : Nat) (kA : Option Addr) (X key : List UInt8) (w : World) (hX : BsAt w (some ⟨g, o, none⟩) X) (hm : X.length = m + 1) (hm0 : 0 < m) (hm1 : m ≤ 100000000) (hk30 : (at_ X m).toNat ≤ 30)
    (hk : BsAt w kA key) (hkl : key.length ≤ 2147483647) (hkc : key.length ≤ kc) (n : Nat) (hn : n = X.length) :
    Calls Try.prog 53 #[fv, .slice (some ⟨g, o, none⟩) n c, .slice kA key.length kc] w fun e w' => e = .returned (.bool (inF X m key)) ∧ Only [] w w' := by
  subst hn
  rw [hm]
  obtain ⟨_, _, e, _, hcell⟩ := hX.addr (by omega)
  injection e with e
  injection e with e1 e2
  subst e1; subst e2
  have cm := hcell m (by omega)
  have b0 := bz_lo X m
  have b1 : bz X m ≤ 30 := by unfold bz; omega
  have HI := hid (show inF X m key = hasKey (8 * (m : Int)) (rot (bhash key)) X (bz X m).toNat (bhash key) by unfold inF bz; simp)
  have HC := hid hcell
  have HM := hid hm
  clear hk30 hcell hm
  have bw := bhash_wf key
  have nb0 : IntKind.u32.wrap ((m : Int) * 8) = 8 * (m : Int) := by rw [wrap32_eq]; unfold w32; omega
  go_enter Try.func53, Try.ntmps53
  go_wp2_with (go_at_call 56; refine (bloomHash_any kA kc key _ hk hkl hkc).mono ?_; rintro e w1 ⟨rfl, ho1⟩)
  go_loopw [10, 12] (fun h j wr => ∃ (k : Nat) (x : Int), h = .int .u32 x ∧ j = .int .u8 k ∧ (k : Int) ≤ bz X m ∧ 0 ≤ x ∧ x < 4294967296 ∧ inF X m key = hasKey (8 * (m : Int)) (rot (bhash key)) X ((bz X m).toNat - k) x ∧ Only [] w wr) (fun _ j _ => (bz X m).toNat - (intOf j).toNat)
  case atStart => exact ⟨0, bhash key, rfl, rfl, b0, bw.1, bw.2, HI.out, ho1⟩
  case round =>
    obtain ⟨k, x, rfl, rfl, hk1, x0, x1, hx, ho⟩ := hrel
    have HX := hid hx
    clear hx
    by_cases h4 : (k : Int) < bz X m
    · obtain ⟨d, hd⟩ : ∃ d, (bz X m).toNat - k = d + 1 := ⟨(bz X m).toNat - k - 1, by omega⟩
      have hd' : (bz X m).toNat - (k + 1) = d := by omega
      have hsp := spot_lt (x := x) hm0 (rfl : 8 * (m : Int) = 8 * (m : Int))
      have hs0 : (spot x (8 * (m : Int)) : Int) = x % (8 * (m : Int)) := by unfold spot; have := Int.emod_nonneg x (show 8 * (m : Int) ≠ 0 by omega); omega
      have hc2 := (hX.keep0 ho).get (i := spot x (8 * (m : Int)) / 8) (by have := HM.out; omega)
      have hq : (x % (8 * (m : Int)) / 8).toNat = spot x (8 * (m : Int)) / 8 := by omega
      have hq0 : 0 ≤ x % (8 * (m : Int)) / 8 := by omega
      have hq1 : x % (8 * (m : Int)) / 8 < (m : Int) + 1 := by omega
      have HQ := hid hq
      have HS := hid hs0
      have hd2 := hd
      clear hs0 hd
      have hT := test_bit X m x (by omega) (by omega)
      cases hb : getBit X (spot x (8 * (m : Int))) with
      | true =>
        rw [hb] at hT
        have HB := hid hb
        clear hb
        go_wp2_with fail
        exact ⟨⟨k + 1, w32 (x + rot (bhash key)), rfl, rfl, by omega, w32_lo _, w32_hi _, by rw [HX.out, hd2, hd', hasKey, HB.out, Bool.true_and], ho⟩, by simp [intOf]; omega⟩
      | false =>
        rw [hb] at hT
        have HR := hid (show (false : Bool) = inF X m key by rw [HX.out, hd2, hasKey, hb, Bool.false_and])
        clear hb HX
        go_wp2_with fail
        go_ret
        exact ⟨ret_bool HR.out, ho⟩
    · have h4' : ¬ ((k : Int) < bz X m) := h4
      have h0 : (bz X m).toNat - k = 0 := by omega
      have HR := hid (show (true : Bool) = inF X m key by rw [HX.out, h0]; rfl)
      clear HX h0
      go_wp2
      go_ret
      exact ⟨ret_bool HR.out, ho⟩
end Go.Proofs.Ytloflmcgbbbnjaa
