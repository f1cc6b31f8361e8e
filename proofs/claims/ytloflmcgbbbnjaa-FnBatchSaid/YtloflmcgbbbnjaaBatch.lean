/-
  A batch that is written: grow, appendRec, Put, Delete.
-/
import Derived.Test.YtloflmcgbbbnjaaVarint
namespace Go.Proofs.Ytloflmcgbbbnjaa
open Go.RowKit Plain

set_option maxHeartbeats 1600000 in
set_option maxRecDepth 100000 in
theorem grow_any (b n ixn dc ic : Nat) (dA iA : Option Addr) (il : Int) (data : List UInt8) (w : World) (hb : Blk w b 54 [.slice dA data.length dc, .slice iA ixn ic, .int .i64 il])
    (hd : BsAt w dA data) (hdc : data.length ≤ dc) (h1 : data.length ≤ 1099511627776) (h2 : n ≤ 1099511627776) (h3 : dc ≤ 9223372036854775807) (h4 : ixn ≤ 9223372036854775807) :
    Calls Try.prog 29 #[.pointer (some ⟨b, 0, none⟩), .int .i64 n] w fun e w' => e = .returned (.tuple #[]) ∧
      ∃ dA' dc', Blk w' b 54 [.slice dA' data.length dc', .slice iA ixn ic, .int .i64 il] ∧ data.length + n ≤ dc' ∧ dc' ≤ 9223372036854775807 ∧ Only [b] w w' ∧
        ((dA' = dA ∧ dc' = dc) ∨ (∃ g cs, dA' = some ⟨g, 0, none⟩ ∧ w.heap.size ≤ g ∧ Blk w' g 5 cs ∧ cs.length = dc' ∧ cs.take data.length = bc data)) := by
  have c0 := hb.cell 0
  have c1 := hb.cell 1
  have c2 := hb.cell 2
  have f0 := hb.frozen 0
  simp only [List.getElem?_cons_zero, List.getElem?_cons_succ] at c0 c1 c2
  have hlt := hb.lt
  have HB := hid hb
  clear hb
  have e0 : IntKind.i64.wrap ((dc : Int) - (data.length : Int)) = (dc : Int) - (data.length : Int) := by simp [IntKind.wrap, IntKind.bits, IntKind.signed]; omega
  go_enter Try.func29, Try.ntmps29
  by_cases hn : data.length + n ≤ dc
  · have d0 : decide ((dc : Int) - (data.length : Int) < (n : Int)) = false := decide_eq_false (by omega)
    have hn' : ¬ ((dc : Int) - (data.length : Int) < (n : Int)) := by omega
    go_wp2
    go_end0
    exact ⟨rfl, dA, dc, HB.out, hn, h3, Only.refl _ _, .inl ⟨rfl, rfl⟩⟩
  · have d0 : decide ((dc : Int) - (data.length : Int) < (n : Int)) = true := decide_eq_true (by omega)
    have hn' : ((dc : Int) - (data.length : Int) < (n : Int)) := by omega
    by_cases hi : 3000 < ixn
    · have d1 : decide ((3000 : Int) < (ixn : Int)) = true := decide_eq_true (by omega)
      have d1' : decide (3000 < ixn) = true := decide_eq_true (by omega)
      obtain ⟨q, hq⟩ : ∃ q, q = data.length / (ixn / 3000) := ⟨_, rfl⟩
      have hqle : q ≤ data.length := by rw [hq]; exact Nat.div_le_self _ _
      have e1 : (data.length : Int) / ((ixn : Int) / 3000) = (q : Int) := by rw [hq]; push_cast; rfl
      have e2 : IntKind.i64.wrap (q : Int) = q := i64_id (by omega) (by omega)
      have e3 : IntKind.i64.wrap ((data.length : Int) + (n : Int) + (q : Int)) = (data.length : Int) + (n : Int) + (q : Int) := i64_id (by omega) (by omega)
      clear hq
      go_wp2_with (first
        | (at_make; refine wp_make rfl _ _ _ rfl 5 (.int .u8 0) 1 Try.underlying24 Try.info_b rfl _ _ _ _ data.length (data.length + n + q) rfl rfl rfl (by omega) (by omega) (by omega) (by omega) ?_; intro w1 hb1 hz1 ho1; have hB1 := HB.out.only ho1 (by simp); have k0 : w1.cell? ⟨b, 0, none⟩ = some (.slice dA data.length dc) := hB1.cell 0; have HB1 := hid hB1; clear hB1)
        | (refine wp_copy rfl (.tmp 42) (.tmp 46) 24 24 rfl 5 Try.underlying24 Try.size_b _ 0 data.length (data.length + n + q) dA data.length dc rfl rfl _ _ hb1 data (hd.keep0 ho1) (by omega) (by rw [List.length_replicate]; omega) ?_; intro w2 hb2 hz2 ho2; have hB2 := HB1.out.only ho2 (by simp; omega); have m0 : w2.cell? ⟨b, 0, none⟩ = some (.slice dA data.length dc) := hB2.cell 0; have n0 := hB2.frozen 0; have HB2 := hid hB2; clear hB2))
      go_end0
      refine ⟨rfl, _, _, HB2.out.set_ 0 _, by omega, by omega, ?_, .inr ⟨_, _, rfl, Nat.le_refl _, hb2.far (by simp; omega) _, ?_, ?_⟩⟩
      · exact ((Only.mono ho1 (by simp)).trans' ho2 (by simp; omega)).setCell (.inl (by simp)) _
      · rw [length_splice _ _ _ (by rw [bc_length, List.length_replicate]; omega)]; simp
      · simp [splice, ← bc_length data]
    · have d1 : decide ((3000 : Int) < (ixn : Int)) = false := decide_eq_false (by omega)
      have d1' : decide (3000 < ixn) = false := decide_eq_false (by omega)
      go_wp2_with (first
        | (at_make; refine wp_make rfl _ _ _ rfl 5 (.int .u8 0) 1 Try.underlying24 Try.info_b rfl _ _ _ _ data.length (data.length + n + data.length) rfl rfl rfl (by omega) (by omega) (by omega) (by omega) ?_; intro w1 hb1 hz1 ho1; have hB1 := HB.out.only ho1 (by simp); have k0 : w1.cell? ⟨b, 0, none⟩ = some (.slice dA data.length dc) := hB1.cell 0; have HB1 := hid hB1; clear hB1)
        | (refine wp_copy rfl (.tmp 42) (.tmp 46) 24 24 rfl 5 Try.underlying24 Try.size_b _ 0 data.length (data.length + n + data.length) dA data.length dc rfl rfl _ _ hb1 data (hd.keep0 ho1) (by omega) (by rw [List.length_replicate]; omega) ?_; intro w2 hb2 hz2 ho2; have hB2 := HB1.out.only ho2 (by simp; omega); have m0 : w2.cell? ⟨b, 0, none⟩ = some (.slice dA data.length dc) := hB2.cell 0; have n0 := hB2.frozen 0; have HB2 := hid hB2; clear hB2))
      go_end0
      refine ⟨rfl, _, _, HB2.out.set_ 0 _, by omega, by omega, ?_, .inr ⟨_, _, rfl, Nat.le_refl _, hb2.far (by simp; omega) _, ?_, ?_⟩⟩
      · exact ((Only.mono ho1 (by simp)).trans' ho2 (by simp; omega)).setCell (.inl (by simp)) _
      · rw [length_splice _ _ _ (by rw [bc_length, List.length_replicate]; omega)]; simp
      · simp [splice, ← bc_length data]
/-- What a batch holds of its data: nothing, or a block of its own that begins with them. -/
def DataAt (B : Nat) (w : World) (dA : Option Addr) (dc : Nat) (data : List UInt8) : Prop :=
  (dA = none ∧ dc = 0 ∧ data = []) ∨ ∃ g cs, dA = some ⟨g, 0, none⟩ ∧ B ≤ g ∧ Blk w g 5 cs ∧ cs.length = dc ∧ data.length ≤ dc ∧ cs.take data.length = bc data
theorem DataAt.bs {B : Nat} {w : World} {dA : Option Addr} {dc : Nat} {data : List UInt8} (h : DataAt B w dA dc data) : BsAt w dA data := by
  rcases h with ⟨_, _, rfl⟩ | ⟨g, cs, rfl, _, hb, hl, hle, ht⟩
  · exact BsAt.nil _ _
  · refine BsAt.of_blk hb fun i hi => ?_
    have := congrArg (·[i]?) ht
    simp only [bc_get hi] at this
    rw [Nat.zero_add, ← this, List.getElem?_take, if_pos hi]
theorem DataAt.le {B : Nat} {w : World} {dA : Option Addr} {dc : Nat} {data : List UInt8} (h : DataAt B w dA dc data) : data.length ≤ dc := by
  rcases h with ⟨_, _, rfl⟩ | ⟨g, cs, rfl, _, hb, hl, hle, ht⟩
  · exact Nat.zero_le _
  · exact hle
/-- A batch that lies at b and holds these data; all of it is newer than w0. -/
def BatAt (w0 w : World) (b : Nat) (data : List UInt8) (n : Nat) : Prop :=
  w0.heap.size ≤ b ∧ ∃ dA dc iA ic il xs, Blk w b 54 [.slice dA data.length dc, .slice iA n ic, .int .i64 il] ∧ DataAt w0.heap.size w dA dc data ∧ dc ≤ 9223372036854775807 ∧
    w.ownsRow 0 71 5 (.slice iA n ic) n xs ∧ From w0.heap.size (.slice iA n ic)
theorem grow_bat (b m ixn dc ic : Nat) (dA iA : Option Addr) (il : Int) (data : List UInt8) (B : Nat) (w : World) (hb : Blk w b 54 [.slice dA data.length dc, .slice iA ixn ic, .int .i64 il])
    (hd : DataAt B w dA dc data) (hBw : B ≤ w.heap.size) (h1 : data.length ≤ 1099511627776) (h2 : m ≤ 1099511627776) (h3 : dc ≤ 9223372036854775807) (h4 : ixn ≤ 9223372036854775807) (hm : 0 < m) :
    Calls Try.prog 29 #[.pointer (some ⟨b, 0, none⟩), .int .i64 m] w fun e w' => e = .returned (.tuple #[]) ∧
      ∃ g cs dc', Blk w' b 54 [.slice (some ⟨g, 0, none⟩) data.length dc', .slice iA ixn ic, .int .i64 il] ∧ data.length + m ≤ dc' ∧ dc' ≤ 9223372036854775807 ∧ Only [b] w w' ∧
        B ≤ g ∧ Blk w' g 5 cs ∧ cs.length = dc' ∧ cs.take data.length = bc data := by
  refine (grow_any b m ixn dc ic dA iA il data w hb hd.bs hd.le h1 h2 h3 h4).mono ?_
  rintro e w1 ⟨rfl, dA', dc', hb1, hle, hmax, ho1, hcase⟩
  refine ⟨rfl, ?_⟩
  rcases hcase with ⟨rfl, rfl⟩ | ⟨g, cs, rfl, hg, hbg, hcl, htk⟩
  · rcases hd with ⟨_, h0, rfl⟩ | ⟨g, cs, rfl, hg, hbg, hcl, _, htk⟩
    · simp at hle; omega
    · exact ⟨g, cs, _, hb1, hle, hmax, ho1, hg, hbg.only ho1 (by simpa using hbg.ne_ hb (by decide)), hcl, htk⟩
  · exact ⟨g, cs, _, hb1, hle, hmax, ho1, by omega, hbg, hcl, htk⟩

theorem Try.info_idx : (Try.prog.info? 71).map (fun i => (i.zero, i.size, i.bytes)) = some (some (.agg #[.int .u64 0, .int .i64 0, .int .i64 0, .int .i64 0, .int .i64 0]), 5, 40) := by kernel_rfl
def recDel (k : List UInt8) : List UInt8 := 0 :: (uv k.length ++ k)
def recPut (k v : List UInt8) : List UInt8 := 1 :: (uv k.length ++ k ++ (uv v.length ++ v))

theorem bat_fin {w0 w : World} {b g dc n r ic L : Nat} {il : Int} {cs xs : List Value} {data new : List UInt8} (hBb : w0.heap.size ≤ b) (hBg : w0.heap.size ≤ g) (hmax : dc ≤ 9223372036854775807) (hL : L = data.length + new.length)
    (hle : data.length + new.length ≤ dc) (hcl : cs.length = dc) (htk : cs.take data.length = bc data) (hbg : Blk w g 5 (splice cs data.length (bc new)))
    (hb : Blk w b 54 [.slice (some ⟨g, 0, none⟩) L dc, .slice (some ⟨r, 0, none⟩) n ic, .int .i64 il]) (hown : w.ownsRow 0 71 5 (.slice (some ⟨r, 0, none⟩) n ic) n xs) (hr : w0.heap.size ≤ r) :
    BatAt w0 w b (data ++ new) n := by
  have hlen : (data ++ new).length = data.length + new.length := List.length_append
  refine ⟨hBb, some ⟨g, 0, none⟩, dc, some ⟨r, 0, none⟩, ic, il, xs, ?_, .inr ⟨g, _, rfl, hBg, hbg, ?_, ?_, ?_⟩, hmax, hown, From.at_ hr _ _ _⟩
  · rw [hlen, ← hL]; exact hb
  · rw [length_splice _ _ _ (by rw [bc_length]; omega), hcl]
  · rw [hlen]; exact hle
  · have := splice_take cs data.length (bc new) (by rw [bc_length]; omega)
    rw [bc_length] at this
    rw [hlen, this, htk, bc_append]
theorem splice4 {α : Type} (cs : List α) (o o2 o3 o4 : Nat) (u : α) (p q r s : List α) (h2 : o2 = o + 1 + p.length) (h3 : o3 = o2 + q.length) (h4 : o4 = o3 + r.length) (h5 : o4 + s.length ≤ cs.length) :
    splice (splice (splice (splice (cs.set o u) (o + 1) p) o2 q) o3 r) o4 s = splice cs o (u :: (p ++ q ++ (r ++ s))) := by
  have e1 := splice_splice cs o [u] p (by simp; omega)
  rw [← splice_one cs o u (by omega), List.length_singleton] at e1
  have e2 := splice_splice cs o ([u] ++ p) q (by simp; omega)
  rw [← e1, show o + ([u] ++ p).length = o2 by simp; omega] at e2
  have e3 := splice_splice cs o ([u] ++ p ++ q) r (by simp; omega)
  rw [← e2, show o + ([u] ++ p ++ q).length = o3 by simp; omega] at e3
  have e4 := splice_splice cs o ([u] ++ p ++ q ++ r) s (by simp; omega)
  rw [← e3, show o + ([u] ++ p ++ q ++ r).length = o4 by simp; omega] at e4
  rw [e4]
  simp
end Go.Proofs.Ytloflmcgbbbnjaa
