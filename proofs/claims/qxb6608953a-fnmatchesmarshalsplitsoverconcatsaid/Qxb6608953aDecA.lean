import Derived.Test.Qxb6608953aRows
import Derived.WalkKit
import Derived.WalkSpells
import Derived.ProofKit
import Derived.Handy
import Derived.Laws.BitsLemmas
import Derived.Deep.QuietTactic
import Derived.BigQuiet
namespace Go.Proofs.Qxb6608953a
open Go.RowKit
set_option linter.unusedVariables false

def inB (c lo hi : Int) : Bool := decide (lo ≤ c ∧ c ≤ hi)

theorem in_any (c lo hi : Int) (w : World) :
    Calls Try.prog 10 #[.int .u8 c, .int .u8 lo, .int .u8 hi] w fun e w' => e = .returned (.bool (inB c lo hi)) ∧ w' = w := by
  by_cases h1 : lo ≤ c
  · by_cases h2 : c ≤ hi
    · go_enter Try.func10, Try.ntmps10
      go_wp2
      go_ret
      exact ⟨by simp [inB, h1, h2], rfl⟩
    · go_enter Try.func10, Try.ntmps10
      go_wp2
      go_ret
      exact ⟨by simp [inB]; omega, rfl⟩
  · have hd : decide (lo ≤ c) = false := by simpa using h1
    go_enter Try.func10, Try.ntmps10
    go_wp2
    go_ret
    exact ⟨by simp [inB]; omega, rfl⟩

theorem wrap32_id (x : Int) (h0 : 0 ≤ x) (h1 : x < 2147483648) : wrap32 x = x := by
  unfold wrap32; omega

theorem val2 (c0 c1 : Int) (a0 : 0 ≤ c0) (a1 : c0 < 256) (b0 : 0 ≤ c1) (b1 : c1 < 256) :
    bits .or .i32 (c0 % 32 * 64) (wrap32 (bits .and .u8 c1 63)) = c0 % 32 * 64 + c1 % 64 := by
  rw [u8_and63 _ b0 b1, wrap32_id _ (by omega) (by omega), i32_or6 _ _ (by omega) (by omega) (by omega) (by omega) (by omega)]

theorem val3 (x c1 c2 : Int) (a0 : 0 ≤ x) (a1 : x < 16) (b0 : 0 ≤ c1) (b1 : c1 < 256) (d0 : 0 ≤ c2) (d1 : c2 < 256) :
    bits .or .i32 (bits .or .i32 (x * 4096) (wrap32 (wrap32 (bits .and .u8 c1 63) * 64))) (wrap32 (bits .and .u8 c2 63)) = x * 4096 + c1 % 64 * 64 + c2 % 64 := by
  rw [u8_and63 _ b0 b1, u8_and63 _ d0 d1, wrap32_id (c1 % 64) (by omega) (by omega), wrap32_id (c1 % 64 * 64) (by omega) (by omega), wrap32_id (c2 % 64) (by omega) (by omega), i32_or12 (x * 4096) (c1 % 64 * 64) (by omega) (by omega) (by omega) (by omega) (by omega), i32_or6 (x * 4096 + c1 % 64 * 64) (c2 % 64) (by omega) (by omega) (by omega) (by omega) (by omega)]

theorem val4 (x c1 c2 c3 : Int) (a0 : 0 ≤ x) (a1 : x < 8) (b0 : 0 ≤ c1) (b1 : c1 < 256) (d0 : 0 ≤ c2) (d1 : c2 < 256) (f0 : 0 ≤ c3) (f1 : c3 < 256) :
    bits .or .i32 (bits .or .i32 (bits .or .i32 (x * 262144) (wrap32 (wrap32 (bits .and .u8 c1 63) * 4096))) (wrap32 (wrap32 (bits .and .u8 c2 63) * 64))) (wrap32 (bits .and .u8 c3 63)) = x * 262144 + c1 % 64 * 4096 + c2 % 64 * 64 + c3 % 64 := by
  rw [u8_and63 _ b0 b1, u8_and63 _ d0 d1, u8_and63 _ f0 f1, wrap32_id (c1 % 64) (by omega) (by omega), wrap32_id (c1 % 64 * 4096) (by omega) (by omega), wrap32_id (c2 % 64) (by omega) (by omega), wrap32_id (c2 % 64 * 64) (by omega) (by omega), wrap32_id (c3 % 64) (by omega) (by omega), i32_or18 (x * 262144) (c1 % 64 * 4096) (by omega) (by omega) (by omega) (by omega) (by omega), i32_or12 (x * 262144 + c1 % 64 * 4096) (c2 % 64 * 64) (by omega) (by omega) (by omega) (by omega) (by omega), i32_or6 (x * 262144 + c1 % 64 * 4096 + c2 % 64 * 64) (c3 % 64) (by omega) (by omega) (by omega) (by omega) (by omega)]

theorem u8_bd (x : UInt8) : 0 ≤ (x.toNat : Int) ∧ (x.toNat : Int) < 256 := by
  have := x.toNat_lt; omega

theorem ret3 {a b : Int} {n : Int} {o : Bool} (h : a = b) : Ending.returned (.tuple #[.int .i32 a, .int .i64 n, .bool o]) = .returned (.tuple #[.int .i32 b, .int .i64 n, .bool o]) := by rw [h]

set_option maxRecDepth 100000 in
set_option maxHeartbeats 1000000 in
theorem dec_ascii (s : ByteArray) (i : Nat) (hs : s.size ≤ 1048576) (hi : i < s.size) (h : (s[i].toNat : Int) < 128) (w : World) :
    Calls Try.prog 8 #[.string s, .int .i64 i] w fun e w' => e = .returned (.tuple #[.int .i32 (s[i].toNat), .int .i64 1, .bool true]) ∧ ∃ n, w' = w.drewN n := by
  go_enter Try.func8, Try.ntmps8
  go_wp2_with (go_at_call 10; refine (in_any _ _ _ _).mono ?_; rintro e w' ⟨rfl, rfl⟩)
  go_ret3
  exact ⟨rfl, 0, rfl⟩

set_option maxRecDepth 100000 in
set_option maxHeartbeats 1000000 in
theorem dec_low (s : ByteArray) (i : Nat) (hs : s.size ≤ 1048576) (hi : i < s.size) (h : 128 ≤ (s[i].toNat : Int)) (h2 : (s[i].toNat : Int) < 194) (w : World) :
    Calls Try.prog 8 #[.string s, .int .i64 i] w fun e w' => e = .returned (.tuple #[.int .i32 (0), .int .i64 1, .bool false]) ∧ ∃ n, w' = w.drewN n := by
  go_enter Try.func8, Try.ntmps8
  go_wp2_with (go_at_call 10; refine (in_any _ _ _ _).mono ?_; rintro e w' ⟨rfl, rfl⟩)
  go_ret3
  exact ⟨rfl, 0, rfl⟩

set_option maxRecDepth 100000 in
set_option maxHeartbeats 1000000 in
theorem dec_high (s : ByteArray) (i : Nat) (hs : s.size ≤ 1048576) (hi : i < s.size) (h : 244 < (s[i].toNat : Int)) (w : World) :
    Calls Try.prog 8 #[.string s, .int .i64 i] w fun e w' => e = .returned (.tuple #[.int .i32 (0), .int .i64 1, .bool false]) ∧ ∃ n, w' = w.drewN n := by
  go_enter Try.func8, Try.ntmps8
  go_wp2_with (go_at_call 10; refine (in_any _ _ _ _).mono ?_; rintro e w' ⟨rfl, rfl⟩)
  go_ret3
  exact ⟨rfl, 0, rfl⟩

set_option maxRecDepth 100000 in
set_option maxHeartbeats 1000000 in
theorem dec2_short (s : ByteArray) (i : Nat) (hs : s.size ≤ 1048576) (hi : i < s.size) (hn : s.size ≤ i + 1) (h : 194 ≤ (s[i].toNat : Int)) (h2 : (s[i].toNat : Int) < 224) (w : World) :
    Calls Try.prog 8 #[.string s, .int .i64 i] w fun e w' => e = .returned (.tuple #[.int .i32 (0), .int .i64 1, .bool false]) ∧ ∃ n, w' = w.drewN n := by
  go_enter Try.func8, Try.ntmps8
  go_wp2_with (go_at_call 10; refine (in_any _ _ _ _).mono ?_; rintro e w' ⟨rfl, rfl⟩)
  go_ret3
  exact ⟨rfl, 0, rfl⟩

set_option maxRecDepth 100000 in
set_option maxHeartbeats 1000000 in
theorem dec2_no (s : ByteArray) (i : Nat) (hs : s.size ≤ 1048576) (hi : i + 1 < s.size) (h : 194 ≤ (s[i].toNat : Int)) (h2 : (s[i].toNat : Int) < 224) (h3 : inB s[i+1].toNat 128 191 = false) (w : World) :
    Calls Try.prog 8 #[.string s, .int .i64 i] w fun e w' => e = .returned (.tuple #[.int .i32 (0), .int .i64 1, .bool false]) ∧ ∃ n, w' = w.drewN n := by
  go_enter Try.func8, Try.ntmps8
  go_wp2_with (go_at_call 10; refine (in_any _ _ _ _).mono ?_; rintro e w' ⟨rfl, rfl⟩)
  go_ret3
  exact ⟨rfl, 0, rfl⟩

set_option maxRecDepth 100000 in
set_option maxHeartbeats 1000000 in
theorem dec2_yes (s : ByteArray) (i : Nat) (hs : s.size ≤ 1048576) (hi : i + 1 < s.size) (h : 194 ≤ (s[i].toNat : Int)) (h2 : (s[i].toNat : Int) < 224) (h3 : inB s[i+1].toNat 128 191 = true) (w : World) :
    Calls Try.prog 8 #[.string s, .int .i64 i] w fun e w' => e = .returned (.tuple #[.int .i32 ((s[i].toNat : Int) % 32 * 64 + (s[i+1].toNat : Int) % 64), .int .i64 2, .bool true]) ∧ ∃ n, w' = w.drewN n := by
  go_enter Try.func8, Try.ntmps8
  go_wp2_with (go_at_call 10; refine (in_any _ _ _ _).mono ?_; rintro e w' ⟨rfl, rfl⟩)
  go_ret3
  exact ⟨ret3 (val2 _ _ (u8_bd _).1 (u8_bd _).2 (u8_bd _).1 (u8_bd _).2), 0, rfl⟩

end Go.Proofs.Qxb6608953a
