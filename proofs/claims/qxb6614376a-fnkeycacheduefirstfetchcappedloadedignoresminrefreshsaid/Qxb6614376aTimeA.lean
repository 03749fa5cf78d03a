import Derived.Test.Qxb6614376aRows
import Derived.WalkKit
import Derived.WalkSpells
import Derived.ProofKit
import Derived.Handy
import Derived.Laws.BitsAllLaws
import Derived.WalkSmall
namespace Go.Proofs.Qxb6614376a
open Go.RowKit

theorem mono0 (x : Int) (h0 : 0 ≤ x) (h1 : x < 1073741824) : bits .and .u64 x 9223372036854775808 = 0 := by
  rw [u64_and x 9223372036854775808 h0 (by omega) (by omega) (by omega)]
  rw [show (9223372036854775808 : Int).toNat = 2 ^ 63 from rfl, nat_bit 63]
  rw [Nat.div_eq_of_lt (by omega)]
  rfl

theorem nsec_of (x : Int) (h0 : 0 ≤ x) (h1 : x < 1073741824) : bits .and .u64 x 1073741823 = x := by
  rw [u64_and x 1073741823 h0 (by omega) (by omega) (by omega)]
  rw [show (1073741823 : Int).toNat = 2 ^ 30 - 1 from rfl, Nat.and_two_pow_sub_one_eq_mod]
  omega

theorem clear_of (x : Int) (h0 : 0 ≤ x) (h1 : x < 1073741824) : bits .andNot .u64 x 1073741823 = 0 := by
  rw [u64_andNot x 1073741823 h0 (by omega) (by omega) (by omega)]
  rw [show (1073741823 : Int).toNat = 1073741823 from rfl]
  have := nat_midmask 64 30 x.toNat (by decide)
  rw [show (18446744073709551615 - 1073741823 : Nat) = 2 ^ 64 - 2 ^ 30 from by decide, this]
  omega

theorem or_zero (x : Int) (h0 : 0 ≤ x) (h1 : x < 1073741824) : bits .or .u64 0 x = x := by
  rw [u64_or 0 x (by omega) (by omega) h0 (by omega)]
  simp
  omega

theorem outside_any (x : Int) (w : World) :
    Calls Try.prog 12 #[.int .i64 x] w fun e w' => e = .returned (.bool (decide (x < -2305843009213693952 ∨ 2305843009213693952 < x))) ∧ w' = w := by
  by_cases h1 : x < -2305843009213693952
  · go_enter Try.func12, Try.ntmps12
    go_wp2
    go_ret
    exact ⟨by simp [h1], rfl⟩
  · by_cases h2 : 2305843009213693952 < x
    · go_enter Try.func12, Try.ntmps12
      go_wp2
      go_ret
      exact ⟨by simp, rfl⟩
    · go_enter Try.func12, Try.ntmps12
      go_wp2
      go_ret
      exact ⟨by simp; omega, rfl⟩

theorem nsec_any (b o : Nat) (x : Int) (h0 : 0 ≤ x) (h1 : x < 1000000000) (w : World) (hc : w.cell? ⟨b, o, none⟩ = some (.int .u64 x)) :
    Calls Try.prog 34 #[.pointer (some ⟨b, o, none⟩)] w fun e w' => e = .returned (.int .i32 x) ∧ w' = w := by
  have hn := nsec_of x h0 (by omega)
  go_enter Try.func34, Try.ntmps34
  go_wp2
  go_ret
  exact ⟨rfl, rfl⟩

theorem sec_any (b o : Nat) (x y : Int) (h0 : 0 ≤ x) (h1 : x < 1000000000) (w : World) (hc : w.cell? ⟨b, o, none⟩ = some (.int .u64 x)) (hd : w.cell? ⟨b, o + 1, none⟩ = some (.int .i64 y)) :
    Calls Try.prog 39 #[.pointer (some ⟨b, o, none⟩)] w fun e w' => e = .returned (.int .i64 y) ∧ w' = w := by
  have hn := mono0 x h0 (by omega)
  go_enter Try.func39, Try.ntmps39
  go_wp2
  go_ret
  exact ⟨rfl, rfl⟩


set_option maxRecDepth 100000 in
/-- (*time.Time).addSec on a time without a monotonic reading -/
theorem addSec_any (x y d : Int) (l : Value) (h0 : 0 ≤ x) (h1 : x < 1000000000) (hy0 : -10000000000 ≤ y) (hy1 : y ≤ 10000000000) (hd0 : -10000000000 ≤ d) (hd1 : d ≤ 10000000000) (w : World) :
    Calls Try.prog 35 #[.pointer (some ⟨w.heap.size, 0, none⟩), .int .i64 d] ((w.alloc (.cells #[.int .u64 x, .int .i64 y, l] 62)).alloc (.cells #[.int .u64 0, .int .i64 0, .pointer none] 62)) fun e w' => e = .returned (.tuple #[]) ∧ w' = (w.alloc (.cells #[.int .u64 x, .int .i64 (y + d), l] 62)).alloc (.cells #[.int .u64 0, .int .i64 0, .pointer none] 62) := by
  have hn := mono0 x h0 (by omega)
  by_cases hp : 0 < d
  · have hs : y < y + d := by omega
    go_enter Try.func35, Try.ntmps35
    go_wp2
    go_end0
    exact ⟨rfl, rfl⟩
  · have hs : ¬ y < y + d := by omega
    go_enter Try.func35, Try.ntmps35
    go_wp2
    go_end0
    exact ⟨rfl, rfl⟩

/-- a time that is x nanoseconds behind the zero Time, no monotonic reading, no location -/
def tm (x : Int) : Value := .agg #[.int .u64 (x % 1000000000), .int .i64 (x / 1000000000), .pointer none]

set_option maxRecDepth 100000 in
theorem add_c (a y d q m : Int) (hq : Hid (d.tdiv 1000000000 = q)) (hm : Hid (d.tmod 1000000000 = m)) (a0 : 0 ≤ a) (a1 : a < 1000000000) (hy0 : -10000000000 ≤ y) (hy1 : y ≤ 10000000000) (hq0 : -9999999999 ≤ q) (hq1 : q ≤ 9999999999) (hm0 : -1000000000 < m) (hm1 : m < 1000000000)
    (c0 : 0 ≤ a + m) (c1 : a + m < 1000000000) (w : World) :
    Calls Try.prog 24 #[.agg #[.int .u64 a, .int .i64 y, .pointer none], .int .i64 d] w fun e w' => e = .returned (.agg #[.int .u64 (a + m), .int .i64 (y + (q)), .pointer none]) ∧ ∃ c1 c2, w' = (w.alloc (.cells c1 62)).alloc (.cells c2 62) := by
  have eq := hq.out
  have em := hm.out
  have k1 := nsec_of a a0 (by omega)
  have k2 := clear_of a a0 (by omega)
  have k3 := or_zero (a + m) (by omega) (by omega)
  have k4 := mono0 (a + m) (by omega) (by omega)
  go_enter Try.func24, Try.ntmps24
  go_wp2_with (first | (go_at_call 34; go_in) | (go_at_call 35; refine (addSec_any (a + m) y (q) (.pointer none) (by omega) (by omega) hy0 hy1 (by omega) (by omega) w).mono ?_; rintro e w' ⟨rfl, rfl⟩))
  simp [bodyPost, results, Try.results24, go_sem]
  exact ⟨_, _, rfl⟩

set_option maxRecDepth 100000 in
theorem add_a (a y d q m : Int) (hq : Hid (d.tdiv 1000000000 = q)) (hm : Hid (d.tmod 1000000000 = m)) (a0 : 0 ≤ a) (a1 : a < 1000000000) (hy0 : -10000000000 ≤ y) (hy1 : y ≤ 10000000000) (hq0 : -9999999999 ≤ q) (hq1 : q ≤ 9999999999) (hm0 : -1000000000 < m) (hm1 : m < 1000000000)
    (c0 : 1000000000 ≤ a + m) (w : World) :
    Calls Try.prog 24 #[.agg #[.int .u64 a, .int .i64 y, .pointer none], .int .i64 d] w fun e w' => e = .returned (.agg #[.int .u64 (a + m - 1000000000), .int .i64 (y + (q + 1)), .pointer none]) ∧ ∃ c1 c2, w' = (w.alloc (.cells c1 62)).alloc (.cells c2 62) := by
  have eq := hq.out
  have em := hm.out
  have k1 := nsec_of a a0 (by omega)
  have k2 := clear_of a a0 (by omega)
  have k3 := or_zero (a + m - 1000000000) (by omega) (by omega)
  have k4 := mono0 (a + m - 1000000000) (by omega) (by omega)
  go_enter Try.func24, Try.ntmps24
  go_wp2_with (first | (go_at_call 34; go_in) | (go_at_call 35; refine (addSec_any (a + m - 1000000000) y (q + 1) (.pointer none) (by omega) (by omega) hy0 hy1 (by omega) (by omega) w).mono ?_; rintro e w' ⟨rfl, rfl⟩))
  simp [bodyPost, results, Try.results24, go_sem]
  exact ⟨_, _, rfl⟩

set_option maxRecDepth 100000 in
theorem add_b (a y d q m : Int) (hq : Hid (d.tdiv 1000000000 = q)) (hm : Hid (d.tmod 1000000000 = m)) (a0 : 0 ≤ a) (a1 : a < 1000000000) (hy0 : -10000000000 ≤ y) (hy1 : y ≤ 10000000000) (hq0 : -9999999999 ≤ q) (hq1 : q ≤ 9999999999) (hm0 : -1000000000 < m) (hm1 : m < 1000000000)
    (c0 : a + m < 0) (w : World) :
    Calls Try.prog 24 #[.agg #[.int .u64 a, .int .i64 y, .pointer none], .int .i64 d] w fun e w' => e = .returned (.agg #[.int .u64 (a + m + 1000000000), .int .i64 (y + (q - 1)), .pointer none]) ∧ ∃ c1 c2, w' = (w.alloc (.cells c1 62)).alloc (.cells c2 62) := by
  have eq := hq.out
  have em := hm.out
  have k1 := nsec_of a a0 (by omega)
  have k2 := clear_of a a0 (by omega)
  have k3 := or_zero (a + m + 1000000000) (by omega) (by omega)
  have k4 := mono0 (a + m + 1000000000) (by omega) (by omega)
  go_enter Try.func24, Try.ntmps24
  go_wp2_with (first | (go_at_call 34; go_in) | (go_at_call 35; refine (addSec_any (a + m + 1000000000) y (q - 1) (.pointer none) (by omega) (by omega) hy0 hy1 (by omega) (by omega) w).mono ?_; rintro e w' ⟨rfl, rfl⟩))
  simp [bodyPost, results, Try.results24, go_sem]
  exact ⟨_, _, rfl⟩


theorem tmod_facts (d : Int) : d.tdiv 1000000000 * 1000000000 + d.tmod 1000000000 = d ∧ -1000000000 < d.tmod 1000000000 ∧ d.tmod 1000000000 < 1000000000 := by
  have h1 := Int.mul_tdiv_add_tmod d 1000000000
  have h2 : d.tmod 1000000000 < 1000000000 := Int.tmod_lt_of_pos d (by decide)
  have h3 : -1000000000 < d.tmod 1000000000 := by
    have := Int.tmod_lt_of_pos (-d) (show (0 : Int) < 1000000000 by decide)
    rw [Int.neg_tmod] at this
    omega
  omega

/-- Add: x nanoseconds and d more -/
theorem add_tm (x d : Int) (hx0 : -5000000000000000000 ≤ x) (hx1 : x ≤ 5000000000000000000) (hd0 : -5000000000000000000 ≤ d) (hd1 : d ≤ 5000000000000000000) (w : World) :
    Calls Try.prog 24 #[tm x, .int .i64 d] w fun e w' => e = .returned (tm (x + d)) ∧ ∃ c1 c2, w' = (w.alloc (.cells c1 62)).alloc (.cells c2 62) := by
  obtain ⟨t1, t2, t3⟩ := tmod_facts d
  generalize hq : d.tdiv 1000000000 = q at *
  generalize hm : d.tmod 1000000000 = m at *
  by_cases c0 : 1000000000 ≤ x % 1000000000 + m
  · have e : tm (x + d) = .agg #[.int .u64 (x % 1000000000 + m - 1000000000), .int .i64 (x / 1000000000 + (q + 1)), .pointer none] := by
      unfold tm
      rw [show (x + d) % 1000000000 = x % 1000000000 + m - 1000000000 from by omega, show (x + d) / 1000000000 = x / 1000000000 + (q + 1) from by omega]
    rw [e]
    exact add_a _ _ d q m hq hm (by omega) (by omega) (by omega) (by omega) (by omega) (by omega) t2 t3 c0 w
  · by_cases c1 : x % 1000000000 + m < 0
    · have e : tm (x + d) = .agg #[.int .u64 (x % 1000000000 + m + 1000000000), .int .i64 (x / 1000000000 + (q - 1)), .pointer none] := by
        unfold tm
        rw [show (x + d) % 1000000000 = x % 1000000000 + m + 1000000000 from by omega, show (x + d) / 1000000000 = x / 1000000000 + (q - 1) from by omega]
      rw [e]
      exact add_b _ _ d q m hq hm (by omega) (by omega) (by omega) (by omega) (by omega) (by omega) t2 t3 c1 w
    · have e : tm (x + d) = .agg #[.int .u64 (x % 1000000000 + m), .int .i64 (x / 1000000000 + q), .pointer none] := by
        unfold tm
        rw [show (x + d) % 1000000000 = x % 1000000000 + m from by omega, show (x + d) / 1000000000 = x / 1000000000 + q from by omega]
      rw [e]
      exact add_c _ _ d q m hq hm (by omega) (by omega) (by omega) (by omega) (by omega) (by omega) t2 t3 (by omega) (by omega) w

theorem and_self64 (x : Int) (h0 : 0 ≤ x) (h1 : x < 1073741824) : bits .and .u64 x x = x := by
  rw [u64_and x x h0 (by omega) h0 (by omega), Nat.and_self]
  omega

theorem and_zero64 (x : Int) (h0 : 0 ≤ x) (h1 : x < 1073741824) : bits .and .u64 x 0 = 0 := by
  rw [u64_and x 0 h0 (by omega) (by omega) (by omega)]
  simp

set_option maxRecDepth 100000 in
theorem equal_same (a y : Int) (a0 : 0 ≤ a) (a1 : a < 1000000000) (w : World) :
    Calls Try.prog 40 #[.agg #[.int .u64 a, .int .i64 y, .pointer none], .agg #[.int .u64 a, .int .i64 y, .pointer none]] w fun e w' => e = .returned (.bool true) ∧ ∃ c1 c2, w' = (w.alloc (.cells c1 62)).alloc (.cells c2 62) := by
  have k1 := nsec_of a a0 (by omega)
  have k2 := and_self64 a a0 (by omega)
  have k3 := mono0 a a0 (by omega)
  go_enter Try.func40, Try.ntmps40
  go_wp2
  go_ret
  exact ⟨rfl, _, _, rfl⟩

theorem equal_tm (x : Int) (w : World) :
    Calls Try.prog 40 #[tm x, tm x] w fun e w' => e = .returned (.bool true) ∧ ∃ c1 c2, w' = (w.alloc (.cells c1 62)).alloc (.cells c2 62) :=
  equal_same _ _ (by omega) (by omega) w
end Go.Proofs.Qxb6614376a
