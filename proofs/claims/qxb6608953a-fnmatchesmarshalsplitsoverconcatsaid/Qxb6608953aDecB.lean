import Derived.Test.Qxb6608953aDecA
namespace Go.Proofs.Qxb6608953a
open Go.RowKit
set_option linter.unusedVariables false

set_option maxRecDepth 100000 in
set_option maxHeartbeats 1000000 in
theorem dec3a_short (s : ByteArray) (i : Nat) (hs : s.size ≤ 1048576) (hi : i < s.size) (hn : s.size ≤ i + 2) (h : (s[i].toNat : Int) = 224) (w : World) :
    Calls Try.prog 8 #[.string s, .int .i64 i] w fun e w' => e = .returned (.tuple #[.int .i32 (0), .int .i64 1, .bool false]) ∧ ∃ n, w' = w.drewN n := by
  go_enter Try.func8, Try.ntmps8
  go_wp2_with (go_at_call 10; refine (in_any _ _ _ _).mono ?_; rintro e w' ⟨rfl, rfl⟩)
  go_ret3
  exact ⟨rfl, 0, rfl⟩

set_option maxRecDepth 100000 in
set_option maxHeartbeats 1000000 in
theorem dec3a_no1 (s : ByteArray) (i : Nat) (hs : s.size ≤ 1048576) (hi : i + 2 < s.size) (h : (s[i].toNat : Int) = 224) (h3 : inB s[i+1].toNat 160 191 = false) (w : World) :
    Calls Try.prog 8 #[.string s, .int .i64 i] w fun e w' => e = .returned (.tuple #[.int .i32 (0), .int .i64 1, .bool false]) ∧ ∃ n, w' = w.drewN n := by
  go_enter Try.func8, Try.ntmps8
  go_wp2_with (go_at_call 10; refine (in_any _ _ _ _).mono ?_; rintro e w' ⟨rfl, rfl⟩)
  go_ret3
  exact ⟨rfl, 0, rfl⟩

set_option maxRecDepth 100000 in
set_option maxHeartbeats 1000000 in
theorem dec3a_no2 (s : ByteArray) (i : Nat) (hs : s.size ≤ 1048576) (hi : i + 2 < s.size) (h : (s[i].toNat : Int) = 224) (h3 : inB s[i+1].toNat 160 191 = true) (h4 : inB s[i+2].toNat 128 191 = false) (w : World) :
    Calls Try.prog 8 #[.string s, .int .i64 i] w fun e w' => e = .returned (.tuple #[.int .i32 (0), .int .i64 1, .bool false]) ∧ ∃ n, w' = w.drewN n := by
  go_enter Try.func8, Try.ntmps8
  go_wp2_with (go_at_call 10; refine (in_any _ _ _ _).mono ?_; rintro e w' ⟨rfl, rfl⟩)
  go_ret3
  exact ⟨rfl, 0, rfl⟩

set_option maxRecDepth 100000 in
set_option maxHeartbeats 1000000 in
theorem dec3a_yes (s : ByteArray) (i : Nat) (hs : s.size ≤ 1048576) (hi : i + 2 < s.size) (h : (s[i].toNat : Int) = 224) (h3 : inB s[i+1].toNat 160 191 = true) (h4 : inB s[i+2].toNat 128 191 = true) (w : World) :
    Calls Try.prog 8 #[.string s, .int .i64 i] w fun e w' => e = .returned (.tuple #[.int .i32 (0 * 4096 + (s[i+1].toNat : Int) % 64 * 64 + (s[i+2].toNat : Int) % 64), .int .i64 3, .bool true]) ∧ ∃ n, w' = w.drewN n := by
  go_enter Try.func8, Try.ntmps8
  go_wp2_with (go_at_call 10; refine (in_any _ _ _ _).mono ?_; rintro e w' ⟨rfl, rfl⟩)
  go_quiet (fail)
  go_wp2
  go_ret3
  refine ⟨?_, _, rfl⟩
  exact ret3 (val3 0 _ _ (by omega) (by omega) (u8_bd _).1 (u8_bd _).2 (u8_bd _).1 (u8_bd _).2)

set_option maxRecDepth 100000 in
set_option maxHeartbeats 1000000 in
theorem dec3b_short (s : ByteArray) (i : Nat) (hs : s.size ≤ 1048576) (hi : i < s.size) (hn : s.size ≤ i + 2) (h : 225 ≤ (s[i].toNat : Int)) (h2 : (s[i].toNat : Int) < 237) (w : World) :
    Calls Try.prog 8 #[.string s, .int .i64 i] w fun e w' => e = .returned (.tuple #[.int .i32 (0), .int .i64 1, .bool false]) ∧ ∃ n, w' = w.drewN n := by
  go_enter Try.func8, Try.ntmps8
  go_wp2_with (go_at_call 10; refine (in_any _ _ _ _).mono ?_; rintro e w' ⟨rfl, rfl⟩)
  go_ret3
  exact ⟨rfl, 0, rfl⟩

set_option maxRecDepth 100000 in
set_option maxHeartbeats 1000000 in
theorem dec3b_no1 (s : ByteArray) (i : Nat) (hs : s.size ≤ 1048576) (hi : i + 2 < s.size) (h : 225 ≤ (s[i].toNat : Int)) (h2 : (s[i].toNat : Int) < 237) (h3 : inB s[i+1].toNat 128 191 = false) (w : World) :
    Calls Try.prog 8 #[.string s, .int .i64 i] w fun e w' => e = .returned (.tuple #[.int .i32 (0), .int .i64 1, .bool false]) ∧ ∃ n, w' = w.drewN n := by
  go_enter Try.func8, Try.ntmps8
  go_wp2_with (go_at_call 10; refine (in_any _ _ _ _).mono ?_; rintro e w' ⟨rfl, rfl⟩)
  go_ret3
  exact ⟨rfl, 0, rfl⟩

set_option maxRecDepth 100000 in
set_option maxHeartbeats 1000000 in
theorem dec3b_no2 (s : ByteArray) (i : Nat) (hs : s.size ≤ 1048576) (hi : i + 2 < s.size) (h : 225 ≤ (s[i].toNat : Int)) (h2 : (s[i].toNat : Int) < 237) (h3 : inB s[i+1].toNat 128 191 = true) (h4 : inB s[i+2].toNat 128 191 = false) (w : World) :
    Calls Try.prog 8 #[.string s, .int .i64 i] w fun e w' => e = .returned (.tuple #[.int .i32 (0), .int .i64 1, .bool false]) ∧ ∃ n, w' = w.drewN n := by
  go_enter Try.func8, Try.ntmps8
  go_wp2_with (go_at_call 10; refine (in_any _ _ _ _).mono ?_; rintro e w' ⟨rfl, rfl⟩)
  go_ret3
  exact ⟨rfl, 0, rfl⟩

set_option maxRecDepth 100000 in
set_option maxHeartbeats 1000000 in
theorem dec3b_yes (s : ByteArray) (i : Nat) (hs : s.size ≤ 1048576) (hi : i + 2 < s.size) (h : 225 ≤ (s[i].toNat : Int)) (h2 : (s[i].toNat : Int) < 237) (h3 : inB s[i+1].toNat 128 191 = true) (h4 : inB s[i+2].toNat 128 191 = true) (w : World) :
    Calls Try.prog 8 #[.string s, .int .i64 i] w fun e w' => e = .returned (.tuple #[.int .i32 (((s[i].toNat : Int) % 16) * 4096 + (s[i+1].toNat : Int) % 64 * 64 + (s[i+2].toNat : Int) % 64), .int .i64 3, .bool true]) ∧ ∃ n, w' = w.drewN n := by
  go_enter Try.func8, Try.ntmps8
  go_wp2_with (go_at_call 10; refine (in_any _ _ _ _).mono ?_; rintro e w' ⟨rfl, rfl⟩)
  go_quiet (fail)
  go_wp2
  go_ret3
  refine ⟨?_, _, rfl⟩
  exact ret3 (val3 ((s[i].toNat : Int) % 16) _ _ (by omega) (by omega) (u8_bd _).1 (u8_bd _).2 (u8_bd _).1 (u8_bd _).2)

set_option maxRecDepth 100000 in
set_option maxHeartbeats 1000000 in
theorem dec3c_short (s : ByteArray) (i : Nat) (hs : s.size ≤ 1048576) (hi : i < s.size) (hn : s.size ≤ i + 2) (h : (s[i].toNat : Int) = 237) (w : World) :
    Calls Try.prog 8 #[.string s, .int .i64 i] w fun e w' => e = .returned (.tuple #[.int .i32 (0), .int .i64 1, .bool false]) ∧ ∃ n, w' = w.drewN n := by
  go_enter Try.func8, Try.ntmps8
  go_wp2_with (go_at_call 10; refine (in_any _ _ _ _).mono ?_; rintro e w' ⟨rfl, rfl⟩)
  go_ret3
  exact ⟨rfl, 0, rfl⟩

set_option maxRecDepth 100000 in
set_option maxHeartbeats 1000000 in
theorem dec3c_no1 (s : ByteArray) (i : Nat) (hs : s.size ≤ 1048576) (hi : i + 2 < s.size) (h : (s[i].toNat : Int) = 237) (h3 : inB s[i+1].toNat 128 159 = false) (w : World) :
    Calls Try.prog 8 #[.string s, .int .i64 i] w fun e w' => e = .returned (.tuple #[.int .i32 (0), .int .i64 1, .bool false]) ∧ ∃ n, w' = w.drewN n := by
  go_enter Try.func8, Try.ntmps8
  go_wp2_with (go_at_call 10; refine (in_any _ _ _ _).mono ?_; rintro e w' ⟨rfl, rfl⟩)
  go_ret3
  exact ⟨rfl, 0, rfl⟩

set_option maxRecDepth 100000 in
set_option maxHeartbeats 1000000 in
theorem dec3c_no2 (s : ByteArray) (i : Nat) (hs : s.size ≤ 1048576) (hi : i + 2 < s.size) (h : (s[i].toNat : Int) = 237) (h3 : inB s[i+1].toNat 128 159 = true) (h4 : inB s[i+2].toNat 128 191 = false) (w : World) :
    Calls Try.prog 8 #[.string s, .int .i64 i] w fun e w' => e = .returned (.tuple #[.int .i32 (0), .int .i64 1, .bool false]) ∧ ∃ n, w' = w.drewN n := by
  go_enter Try.func8, Try.ntmps8
  go_wp2_with (go_at_call 10; refine (in_any _ _ _ _).mono ?_; rintro e w' ⟨rfl, rfl⟩)
  go_ret3
  exact ⟨rfl, 0, rfl⟩

set_option maxRecDepth 100000 in
set_option maxHeartbeats 1000000 in
theorem dec3c_yes (s : ByteArray) (i : Nat) (hs : s.size ≤ 1048576) (hi : i + 2 < s.size) (h : (s[i].toNat : Int) = 237) (h3 : inB s[i+1].toNat 128 159 = true) (h4 : inB s[i+2].toNat 128 191 = true) (w : World) :
    Calls Try.prog 8 #[.string s, .int .i64 i] w fun e w' => e = .returned (.tuple #[.int .i32 (13 * 4096 + (s[i+1].toNat : Int) % 64 * 64 + (s[i+2].toNat : Int) % 64), .int .i64 3, .bool true]) ∧ ∃ n, w' = w.drewN n := by
  go_enter Try.func8, Try.ntmps8
  go_wp2_with (go_at_call 10; refine (in_any _ _ _ _).mono ?_; rintro e w' ⟨rfl, rfl⟩)
  go_quiet (fail)
  go_wp2
  go_ret3
  refine ⟨?_, _, rfl⟩
  exact ret3 (val3 13 _ _ (by omega) (by omega) (u8_bd _).1 (u8_bd _).2 (u8_bd _).1 (u8_bd _).2)

set_option maxRecDepth 100000 in
set_option maxHeartbeats 1000000 in
theorem dec3d_short (s : ByteArray) (i : Nat) (hs : s.size ≤ 1048576) (hi : i < s.size) (hn : s.size ≤ i + 2) (h : 238 ≤ (s[i].toNat : Int)) (h2 : (s[i].toNat : Int) < 240) (w : World) :
    Calls Try.prog 8 #[.string s, .int .i64 i] w fun e w' => e = .returned (.tuple #[.int .i32 (0), .int .i64 1, .bool false]) ∧ ∃ n, w' = w.drewN n := by
  go_enter Try.func8, Try.ntmps8
  go_wp2_with (go_at_call 10; refine (in_any _ _ _ _).mono ?_; rintro e w' ⟨rfl, rfl⟩)
  go_ret3
  exact ⟨rfl, 0, rfl⟩

set_option maxRecDepth 100000 in
set_option maxHeartbeats 1000000 in
theorem dec3d_no1 (s : ByteArray) (i : Nat) (hs : s.size ≤ 1048576) (hi : i + 2 < s.size) (h : 238 ≤ (s[i].toNat : Int)) (h2 : (s[i].toNat : Int) < 240) (h3 : inB s[i+1].toNat 128 191 = false) (w : World) :
    Calls Try.prog 8 #[.string s, .int .i64 i] w fun e w' => e = .returned (.tuple #[.int .i32 (0), .int .i64 1, .bool false]) ∧ ∃ n, w' = w.drewN n := by
  go_enter Try.func8, Try.ntmps8
  go_wp2_with (go_at_call 10; refine (in_any _ _ _ _).mono ?_; rintro e w' ⟨rfl, rfl⟩)
  go_ret3
  exact ⟨rfl, 0, rfl⟩

set_option maxRecDepth 100000 in
set_option maxHeartbeats 1000000 in
theorem dec3d_no2 (s : ByteArray) (i : Nat) (hs : s.size ≤ 1048576) (hi : i + 2 < s.size) (h : 238 ≤ (s[i].toNat : Int)) (h2 : (s[i].toNat : Int) < 240) (h3 : inB s[i+1].toNat 128 191 = true) (h4 : inB s[i+2].toNat 128 191 = false) (w : World) :
    Calls Try.prog 8 #[.string s, .int .i64 i] w fun e w' => e = .returned (.tuple #[.int .i32 (0), .int .i64 1, .bool false]) ∧ ∃ n, w' = w.drewN n := by
  go_enter Try.func8, Try.ntmps8
  go_wp2_with (go_at_call 10; refine (in_any _ _ _ _).mono ?_; rintro e w' ⟨rfl, rfl⟩)
  go_ret3
  exact ⟨rfl, 0, rfl⟩

set_option maxRecDepth 100000 in
set_option maxHeartbeats 1000000 in
theorem dec3d_yes (s : ByteArray) (i : Nat) (hs : s.size ≤ 1048576) (hi : i + 2 < s.size) (h : 238 ≤ (s[i].toNat : Int)) (h2 : (s[i].toNat : Int) < 240) (h3 : inB s[i+1].toNat 128 191 = true) (h4 : inB s[i+2].toNat 128 191 = true) (w : World) :
    Calls Try.prog 8 #[.string s, .int .i64 i] w fun e w' => e = .returned (.tuple #[.int .i32 (((s[i].toNat : Int) % 16) * 4096 + (s[i+1].toNat : Int) % 64 * 64 + (s[i+2].toNat : Int) % 64), .int .i64 3, .bool true]) ∧ ∃ n, w' = w.drewN n := by
  go_enter Try.func8, Try.ntmps8
  go_wp2_with (go_at_call 10; refine (in_any _ _ _ _).mono ?_; rintro e w' ⟨rfl, rfl⟩)
  go_quiet (fail)
  go_wp2
  go_ret3
  refine ⟨?_, _, rfl⟩
  exact ret3 (val3 ((s[i].toNat : Int) % 16) _ _ (by omega) (by omega) (u8_bd _).1 (u8_bd _).2 (u8_bd _).1 (u8_bd _).2)

end Go.Proofs.Qxb6608953a
