/-
  The walk of laws.FnPrefix.
-/
import Derived.Test.YtnebbmbhildomaaCompare
import Derived.Test.YtnebbmbhildomaaPrefix
namespace Go.Proofs.Ytnebbmbhildomaa
open Go.RowKit Plain

set_option maxHeartbeats 1000000 in
theorem fnPrefix_in (A B : Option Addr) (ca cb : Nat) (p k : List UInt8) (w : World) (ha : BsAt w A p) (hb : BsAt w B k)
    (la : p.length ≤ 2147483647) (lb : k.length ≤ 2147483647) :
    Calls Try.prog 3 #[.slice A p.length ca, .slice B k.length cb, .bool true] w fun e w' => e = .returned (.bool true) ∧ Only [] w w' := by
  obtain ⟨K, hK⟩ : ∃ K, K = p ++ k := ⟨_, rfl⟩
  have hKl : K.length = p.length + k.length := by rw [hK, List.length_append]
  have HK := hid hK
  have HKl := hid hKl
  have hKb : K.length ≤ 4294967294 := by omega
  clear hK hKl
  rcases prefix_ways p K with ⟨f1, f2, f3, hl⟩ | ⟨l, f1, f2, f3, hl, f5⟩ | ⟨f1, f3⟩ | ⟨l, f1, f3, hl, f5⟩ | ⟨f1, f2, f3⟩ | ⟨l, f1, f2, f3, hl, f5⟩
  all_goals
    have t1 : decide ((p.length : Int) > 2147483647) = false := by simp; omega
    have t2 : decide ((k.length : Int) > 2147483647) = false := by simp; omega
    go_enter Try.func3, Try.ntmps3
    go_wp2_with (first
      | (at_builtin; refine wp_append rfl (.tmp 19) (.tmp 20) 22 rfl 5 (.int .u8 0) 1 1 Try.underlying22 Try.info_u8 rfl (by decide) _ 0 [] rfl (World.ownsRow_made _ #[] 0 (Nat.zero_le _) (Nat.zero_le _) rfl) A p.length ca (bc p) rfl (by rw [bc_length, Nat.mul_one]) (ha.alloc _).cs (bc_one _) (by simp only [maxLen]; omega) (by omega) ?_; intro v1 w1 hown1 hg1 _ hat1; have fr1 := hid (From.next (From.at_ (B := w.heap.size) (Nat.le_refl _) _ _ _) (by simp) hat1); have ho1 : Only [] w w1 := ((Only.refl _ _).alloc _).grow0 hg1 (From.at_ (Nat.le_refl _) _ _ _); clear hg1 hat1)
      | (at_builtin; refine wp_append rfl (.tmp 21) (.tmp 22) 22 rfl 5 (.int .u8 0) 1 1 Try.underlying22 Try.info_u8 rfl (by decide) _ _ _ rfl hown1 B k.length cb (bc k) rfl (by rw [bc_length, Nat.mul_one]) (hb.keep0 ho1).cs (bc_one _) (by simp only [maxLen]; omega) (by omega) ?_; intro v2 w2 hown2 hg2 _ _; have ho2 : Only [] w w2 := ho1.grow0 hg2 fr1.out; clear hg2 hown1 ho1 fr1))
    obtain ⟨A2, c2, rfl, hc2, hA2⟩ := own_bs (l := K) hown2 (by rw [HK.out, bc_append]; rfl)
    clear hown2
    refine (prefix_any A ca p _ (ha.keep0 ho2) (by omega)).mono ?_
    rintro e w3 ⟨v, rfl, hv, ho3⟩
    have ho := ho2.new ho3
    have hA3 := hA2.keep0 ho3
    have ha3 := (ha.keep0 ho2).keep0 ho3
    clear ho2 ho3 hA2
    go_wp2_with fail
    have en := fun W a n c => Lib.run_eql_slice_nil (P := Try.prog) W 22 5 a n c 0 0 Try.underlying22
    have hs1 := fun (hle : p.length ≤ K.length) (n : Nat) => run_str_take (P := Try.prog) (hA3.drewN n) hle 22 9 5 c2 Try.underlying22 Try.underlying5 Try.underlying9
    have hs2 := fun (n : Nat) => run_str (P := Try.prog) 22 9 5 ca Try.underlying22 Try.underlying5 Try.underlying9 (ha3.drewN n)
  · rw [hl] at hv
    have hle : p.length ≤ K.length := by simpa using f1
    have hs1 := hs1 hle
    have hle2 : p.length ≤ c2 := by omega
    obtain rfl : v = .slice none 0 0 := hv
    go_quiet (fail)
    go_wp2_with (go_at_call 7; refine (compare_any A2 A c2 ca K p _ (hA3.drewN _) (ha3.drewN _) (by omega) (by omega)).mono ?_; rintro e w4 ⟨rfl, ⟨n4, rfl⟩⟩)
    go_ret
    exact ⟨ret_bool (by simp), by repeat (first | exact ho | apply Only.drewN)⟩
  · rw [hl] at hv
    have hll := lim_length hl
    have hle : p.length ≤ K.length := by simpa using f1
    have hs1 := hs1 hle
    have hle2 : p.length ≤ c2 := by omega
    obtain ⟨g, rfl, hbl⟩ := hv
    have fa := fun n => compare_any A2 A c2 ca K p _ (hA3.drewN n) (ha3.drewN n) (by omega) (by omega)
    have fb := fun n => compare_any A2 (some ⟨g, 0, none⟩) c2 l.length K l _ (hA3.drewN n) (hbl.drewN n) (by omega) (by omega)
    go_quiet (fail)
    go_wp2_with (first | (go_at_call_of 7 A; refine (fa _).mono ?_; rintro e w4 ⟨rfl, ⟨n4, rfl⟩⟩) | (go_at_call 7; refine (fb _).mono ?_; rintro e w4 ⟨rfl, ⟨n4, rfl⟩⟩))
    go_ret
    exact ⟨ret_bool (by simp), by repeat (first | exact ho | apply Only.drewN)⟩
  · have fa := fun n => compare_any A2 A c2 ca K p _ (hA3.drewN n) (ha3.drewN n) (by omega) (by omega)
    have f1' : decide (p.length ≤ K.length) = false := by simpa using f1
    clear hs1
    go_quiet (fail)
    go_wp2_with (go_at_call 7; refine (fa _).mono ?_; rintro e w4 ⟨rfl, ⟨n4, rfl⟩⟩)
    go_ret
    exact ⟨ret_bool (by simp), by repeat (first | exact ho | apply Only.drewN)⟩
  · rw [hl] at hv
    have hll := lim_length hl
    have f1' : decide (p.length ≤ K.length) = false := by simpa using f1
    clear hs1
    obtain ⟨g, rfl, hbl⟩ := hv
    have fa := fun n => compare_any A2 A c2 ca K p _ (hA3.drewN n) (ha3.drewN n) (by omega) (by omega)
    have fb := fun n => compare_any A2 (some ⟨g, 0, none⟩) c2 l.length K l _ (hA3.drewN n) (hbl.drewN n) (by omega) (by omega)
    go_quiet (fail)
    go_wp2_with (first | (go_at_call_of 7 A; refine (fa _).mono ?_; rintro e w4 ⟨rfl, ⟨n4, rfl⟩⟩) | (go_at_call 7; refine (fb _).mono ?_; rintro e w4 ⟨rfl, ⟨n4, rfl⟩⟩))
    go_ret
    exact ⟨ret_bool (by simp), by repeat (first | exact ho | apply Only.drewN)⟩
  · have fa := fun n => compare_any A2 A c2 ca K p _ (hA3.drewN n) (ha3.drewN n) (by omega) (by omega)
    have hle : p.length ≤ K.length := by simpa using f1
    have hs1 := hs1 hle
    have hle2 : p.length ≤ c2 := by omega
    go_quiet (fail)
    go_wp2_with (go_at_call 7; refine (fa _).mono ?_; rintro e w4 ⟨rfl, ⟨n4, rfl⟩⟩)
    go_ret
    exact ⟨ret_bool (by simp), by repeat (first | exact ho | apply Only.drewN)⟩
  · rw [hl] at hv
    have hll := lim_length hl
    have hle : p.length ≤ K.length := by simpa using f1
    have hs1 := hs1 hle
    have hle2 : p.length ≤ c2 := by omega
    obtain ⟨g, rfl, hbl⟩ := hv
    have fa := fun n => compare_any A2 A c2 ca K p _ (hA3.drewN n) (ha3.drewN n) (by omega) (by omega)
    have fb := fun n => compare_any A2 (some ⟨g, 0, none⟩) c2 l.length K l _ (hA3.drewN n) (hbl.drewN n) (by omega) (by omega)
    go_quiet (fail)
    go_wp2_with (first | (go_at_call_of 7 A; refine (fa _).mono ?_; rintro e w4 ⟨rfl, ⟨n4, rfl⟩⟩) | (go_at_call 7; refine (fb _).mono ?_; rintro e w4 ⟨rfl, ⟨n4, rfl⟩⟩))
    go_ret
    exact ⟨ret_bool (by simp), by repeat (first | exact ho | apply Only.drewN)⟩

set_option maxHeartbeats 1000000 in
theorem fnPrefix_out (A A2 : Option Addr) (ca c2 : Nat) (p K : List UInt8) (w : World) (ha : BsAt w A p) (hA2 : BsAt w A2 K) (hc2 : K.length ≤ c2)
    (la : p.length ≤ 2147483647) (hKb : K.length ≤ 2147483647) :
    Calls Try.prog 3 #[.slice A p.length ca, .slice A2 K.length c2, .bool false] w fun e w' => e = .returned (.bool true) ∧ Only [] w w' := by
  rcases prefix_ways p K with ⟨f1, f2, f3, hl⟩ | ⟨l, f1, f2, f3, hl, f5⟩ | ⟨f1, f3⟩ | ⟨l, f1, f3, hl, f5⟩ | ⟨f1, f2, f3⟩ | ⟨l, f1, f2, f3, hl, f5⟩
  all_goals
    have t1 : decide ((p.length : Int) > 2147483647) = false := by simp; omega
    have t2 : decide ((K.length : Int) > 2147483647) = false := by simp; omega
    have ho2 := Only.refl [] w
    go_enter Try.func3, Try.ntmps3
    go_wp2_with fail
    refine (prefix_any A ca p _ (ha.keep0 ho2) (by omega)).mono ?_
    rintro e w3 ⟨v, rfl, hv, ho3⟩
    have ho := ho2.new ho3
    have hA3 := hA2.keep0 ho3
    have ha3 := (ha.keep0 ho2).keep0 ho3
    clear ho2 ho3 hA2
    go_wp2_with fail
    have en := fun W a n c => Lib.run_eql_slice_nil (P := Try.prog) W 22 5 a n c 0 0 Try.underlying22
    have hs1 := fun (hle : p.length ≤ K.length) (n : Nat) => run_str_take (P := Try.prog) (hA3.drewN n) hle 22 9 5 c2 Try.underlying22 Try.underlying5 Try.underlying9
    have hs2 := fun (n : Nat) => run_str (P := Try.prog) 22 9 5 ca Try.underlying22 Try.underlying5 Try.underlying9 (ha3.drewN n)
  · rw [hl] at hv
    have hle : p.length ≤ K.length := by simpa using f1
    have hs1 := hs1 hle
    have hle2 : p.length ≤ c2 := by omega
    obtain rfl : v = .slice none 0 0 := hv
    go_quiet (fail)
    go_wp2_with (go_at_call 7; refine (compare_any A2 A c2 ca K p _ (hA3.drewN _) (ha3.drewN _) (by omega) (by omega)).mono ?_; rintro e w4 ⟨rfl, ⟨n4, rfl⟩⟩)
    go_ret
    exact ⟨ret_bool (by simp), by repeat (first | exact ho | apply Only.drewN)⟩
  · rw [hl] at hv
    have hll := lim_length hl
    have hle : p.length ≤ K.length := by simpa using f1
    have hs1 := hs1 hle
    have hle2 : p.length ≤ c2 := by omega
    obtain ⟨g, rfl, hbl⟩ := hv
    have fa := fun n => compare_any A2 A c2 ca K p _ (hA3.drewN n) (ha3.drewN n) (by omega) (by omega)
    have fb := fun n => compare_any A2 (some ⟨g, 0, none⟩) c2 l.length K l _ (hA3.drewN n) (hbl.drewN n) (by omega) (by omega)
    go_quiet (fail)
    go_wp2_with (first | (go_at_call_of 7 A; refine (fa _).mono ?_; rintro e w4 ⟨rfl, ⟨n4, rfl⟩⟩) | (go_at_call 7; refine (fb _).mono ?_; rintro e w4 ⟨rfl, ⟨n4, rfl⟩⟩))
    go_ret
    exact ⟨ret_bool (by simp), by repeat (first | exact ho | apply Only.drewN)⟩
  · have fa := fun n => compare_any A2 A c2 ca K p _ (hA3.drewN n) (ha3.drewN n) (by omega) (by omega)
    have f1' : decide (p.length ≤ K.length) = false := by simpa using f1
    clear hs1
    go_quiet (fail)
    go_wp2_with (go_at_call 7; refine (fa _).mono ?_; rintro e w4 ⟨rfl, ⟨n4, rfl⟩⟩)
    go_ret
    exact ⟨ret_bool (by simp), by repeat (first | exact ho | apply Only.drewN)⟩
  · rw [hl] at hv
    have hll := lim_length hl
    have f1' : decide (p.length ≤ K.length) = false := by simpa using f1
    clear hs1
    obtain ⟨g, rfl, hbl⟩ := hv
    have fa := fun n => compare_any A2 A c2 ca K p _ (hA3.drewN n) (ha3.drewN n) (by omega) (by omega)
    have fb := fun n => compare_any A2 (some ⟨g, 0, none⟩) c2 l.length K l _ (hA3.drewN n) (hbl.drewN n) (by omega) (by omega)
    go_quiet (fail)
    go_wp2_with (first | (go_at_call_of 7 A; refine (fa _).mono ?_; rintro e w4 ⟨rfl, ⟨n4, rfl⟩⟩) | (go_at_call 7; refine (fb _).mono ?_; rintro e w4 ⟨rfl, ⟨n4, rfl⟩⟩))
    go_ret
    exact ⟨ret_bool (by simp), by repeat (first | exact ho | apply Only.drewN)⟩
  · have fa := fun n => compare_any A2 A c2 ca K p _ (hA3.drewN n) (ha3.drewN n) (by omega) (by omega)
    have hle : p.length ≤ K.length := by simpa using f1
    have hs1 := hs1 hle
    have hle2 : p.length ≤ c2 := by omega
    go_quiet (fail)
    go_wp2_with (go_at_call 7; refine (fa _).mono ?_; rintro e w4 ⟨rfl, ⟨n4, rfl⟩⟩)
    go_ret
    exact ⟨ret_bool (by simp), by repeat (first | exact ho | apply Only.drewN)⟩
  · rw [hl] at hv
    have hll := lim_length hl
    have hle : p.length ≤ K.length := by simpa using f1
    have hs1 := hs1 hle
    have hle2 : p.length ≤ c2 := by omega
    obtain ⟨g, rfl, hbl⟩ := hv
    have fa := fun n => compare_any A2 A c2 ca K p _ (hA3.drewN n) (ha3.drewN n) (by omega) (by omega)
    have fb := fun n => compare_any A2 (some ⟨g, 0, none⟩) c2 l.length K l _ (hA3.drewN n) (hbl.drewN n) (by omega) (by omega)
    go_quiet (fail)
    go_wp2_with (first | (go_at_call_of 7 A; refine (fa _).mono ?_; rintro e w4 ⟨rfl, ⟨n4, rfl⟩⟩) | (go_at_call 7; refine (fb _).mono ?_; rintro e w4 ⟨rfl, ⟨n4, rfl⟩⟩))
    go_ret
    exact ⟨ret_bool (by simp), by repeat (first | exact ho | apply Only.drewN)⟩

set_option maxHeartbeats 400000 in
/-- Too long: nothing is asked. -/
theorem fnPrefix_big (A B : Option Addr) (n m ca cb : Nat) (i : Bool) (w : World) (h : 2147483647 < n ∨ 2147483647 < m) :
    Calls Try.prog 3 #[.slice A n ca, .slice B m cb, .bool i] w fun e w' => e = .returned (.bool true) ∧ Only [] w w' := by
  by_cases h1 : 2147483647 < n
  · have t1 : decide ((n : Int) > 2147483647) = true := by simp; omega
    go_enter Try.func3, Try.ntmps3
    go_wp2
    go_ret
    exact ⟨rfl, Only.refl _ _⟩
  · have t1 : decide ((n : Int) > 2147483647) = false := by simp; omega
    have t2 : decide ((m : Int) > 2147483647) = true := by simp; omega
    go_enter Try.func3, Try.ntmps3
    go_wp2
    go_ret
    exact ⟨rfl, Only.refl _ _⟩

theorem fnPrefix_walk (A B : Option Addr) (ca cb : Nat) (p k : List UInt8) (i : Bool) (w : World) (ha : BsAt w A p) (hb : BsAt w B k) (hcb : k.length ≤ cb) :
    Calls Try.prog 3 #[.slice A p.length ca, .slice B k.length cb, .bool i] w fun e w' => e = .returned (.bool true) ∧ Only [] w w' := by
  by_cases h : 2147483647 < p.length ∨ 2147483647 < k.length
  · exact fnPrefix_big _ _ _ _ _ _ _ _ h
  · cases i with
    | true => exact fnPrefix_in A B ca cb p k w ha hb (by omega) (by omega)
    | false => exact fnPrefix_out A B ca cb p k w ha hb hcb (by omega) (by omega)
end Go.Proofs.Ytnebbmbhildomaa
