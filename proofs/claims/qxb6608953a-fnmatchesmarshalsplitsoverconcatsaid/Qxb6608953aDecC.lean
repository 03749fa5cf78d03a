import Derived.Test.Qxb6608953aDecA
namespace Go.Proofs.Qxb6608953a
open Go.RowKit
set_option linter.unusedVariables false

set_option maxRecDepth 100000 in
set_option maxHeartbeats 1000000 in
theorem dec4a_short (s : ByteArray) (i : Nat) (hs : s.size ≤ 1048576) (hi : i < s.size) (hn : s.size ≤ i + 3) (h : (s[i].toNat : Int) = 240) (w : World) :
    Calls Try.prog 8 #[.string s, .int .i64 i] w fun e w' => e = .returned (.tuple #[.int .i32 (0), .int .i64 1, .bool false]) ∧ ∃ n, w' = w.drewN n := by
  go_enter Try.func8, Try.ntmps8
  go_wp2_with (go_at_call 10; refine (in_any _ _ _ _).mono ?_; rintro e w' ⟨rfl, rfl⟩)
  go_ret3
  exact ⟨rfl, 0, rfl⟩

set_option maxRecDepth 100000 in
set_option maxHeartbeats 1000000 in
theorem dec4a_no1 (s : ByteArray) (i : Nat) (hs : s.size ≤ 1048576) (hi : i + 3 < s.size) (h : (s[i].toNat : Int) = 240) (h3 : inB s[i+1].toNat 144 191 = false) (w : World) :
    Calls Try.prog 8 #[.string s, .int .i64 i] w fun e w' => e = .returned (.tuple #[.int .i32 (0), .int .i64 1, .bool false]) ∧ ∃ n, w' = w.drewN n := by
  go_enter Try.func8, Try.ntmps8
  go_wp2_with (go_at_call 10; refine (in_any _ _ _ _).mono ?_; rintro e w' ⟨rfl, rfl⟩)
  go_ret3
  exact ⟨rfl, 0, rfl⟩

set_option maxRecDepth 100000 in
set_option maxHeartbeats 1000000 in
theorem dec4a_no2 (s : ByteArray) (i : Nat) (hs : s.size ≤ 1048576) (hi : i + 3 < s.size) (h : (s[i].toNat : Int) = 240) (h3 : inB s[i+1].toNat 144 191 = true) (h4 : inB s[i+2].toNat 128 191 = false) (w : World) :
    Calls Try.prog 8 #[.string s, .int .i64 i] w fun e w' => e = .returned (.tuple #[.int .i32 (0), .int .i64 1, .bool false]) ∧ ∃ n, w' = w.drewN n := by
  go_enter Try.func8, Try.ntmps8
  go_wp2_with (go_at_call 10; refine (in_any _ _ _ _).mono ?_; rintro e w' ⟨rfl, rfl⟩)
  go_ret3
  exact ⟨rfl, 0, rfl⟩

set_option maxRecDepth 100000 in
set_option maxHeartbeats 1000000 in
theorem dec4a_no3 (s : ByteArray) (i : Nat) (hs : s.size ≤ 1048576) (hi : i + 3 < s.size) (h : (s[i].toNat : Int) = 240) (h3 : inB s[i+1].toNat 144 191 = true) (h4 : inB s[i+2].toNat 128 191 = true) (h5 : inB s[i+3].toNat 128 191 = false) (w : World) :
    Calls Try.prog 8 #[.string s, .int .i64 i] w fun e w' => e = .returned (.tuple #[.int .i32 (0), .int .i64 1, .bool false]) ∧ ∃ n, w' = w.drewN n := by
  go_enter Try.func8, Try.ntmps8
  go_wp2_with (go_at_call 10; refine (in_any _ _ _ _).mono ?_; rintro e w' ⟨rfl, rfl⟩)
  go_ret3
  exact ⟨rfl, 0, rfl⟩

set_option maxRecDepth 100000 in
set_option maxHeartbeats 1000000 in
theorem dec4a_yes (s : ByteArray) (i : Nat) (hs : s.size ≤ 1048576) (hi : i + 3 < s.size) (h : (s[i].toNat : Int) = 240) (h3 : inB s[i+1].toNat 144 191 = true) (h4 : inB s[i+2].toNat 128 191 = true) (h5 : inB s[i+3].toNat 128 191 = true) (w : World) :
    Calls Try.prog 8 #[.string s, .int .i64 i] w fun e w' => e = .returned (.tuple #[.int .i32 (0 * 262144 + (s[i+1].toNat : Int) % 64 * 4096 + (s[i+2].toNat : Int) % 64 * 64 + (s[i+3].toNat : Int) % 64), .int .i64 4, .bool true]) ∧ ∃ n, w' = w.drewN n := by
  go_enter Try.func8, Try.ntmps8
  go_wp2_with (go_at_call 10; refine (in_any _ _ _ _).mono ?_; rintro e w' ⟨rfl, rfl⟩)
  go_quiet (fail)
  go_wp2
  go_ret3
  refine ⟨?_, _, rfl⟩
  exact ret3 (val4 0 _ _ _ (by omega) (by omega) (u8_bd _).1 (u8_bd _).2 (u8_bd _).1 (u8_bd _).2 (u8_bd _).1 (u8_bd _).2)

set_option maxRecDepth 100000 in
set_option maxHeartbeats 1000000 in
theorem dec4b_short (s : ByteArray) (i : Nat) (hs : s.size ≤ 1048576) (hi : i < s.size) (hn : s.size ≤ i + 3) (h : 241 ≤ (s[i].toNat : Int)) (h2 : (s[i].toNat : Int) < 244) (w : World) :
    Calls Try.prog 8 #[.string s, .int .i64 i] w fun e w' => e = .returned (.tuple #[.int .i32 (0), .int .i64 1, .bool false]) ∧ ∃ n, w' = w.drewN n := by
  go_enter Try.func8, Try.ntmps8
  go_wp2_with (go_at_call 10; refine (in_any _ _ _ _).mono ?_; rintro e w' ⟨rfl, rfl⟩)
  go_ret3
  exact ⟨rfl, 0, rfl⟩

set_option maxRecDepth 100000 in
set_option maxHeartbeats 1000000 in
theorem dec4b_no1 (s : ByteArray) (i : Nat) (hs : s.size ≤ 1048576) (hi : i + 3 < s.size) (h : 241 ≤ (s[i].toNat : Int)) (h2 : (s[i].toNat : Int) < 244) (h3 : inB s[i+1].toNat 128 191 = false) (w : World) :
    Calls Try.prog 8 #[.string s, .int .i64 i] w fun e w' => e = .returned (.tuple #[.int .i32 (0), .int .i64 1, .bool false]) ∧ ∃ n, w' = w.drewN n := by
  go_enter Try.func8, Try.ntmps8
  go_wp2_with (go_at_call 10; refine (in_any _ _ _ _).mono ?_; rintro e w' ⟨rfl, rfl⟩)
  go_ret3
  exact ⟨rfl, 0, rfl⟩

set_option maxRecDepth 100000 in
set_option maxHeartbeats 1000000 in
theorem dec4b_no2 (s : ByteArray) (i : Nat) (hs : s.size ≤ 1048576) (hi : i + 3 < s.size) (h : 241 ≤ (s[i].toNat : Int)) (h2 : (s[i].toNat : Int) < 244) (h3 : inB s[i+1].toNat 128 191 = true) (h4 : inB s[i+2].toNat 128 191 = false) (w : World) :
    Calls Try.prog 8 #[.string s, .int .i64 i] w fun e w' => e = .returned (.tuple #[.int .i32 (0), .int .i64 1, .bool false]) ∧ ∃ n, w' = w.drewN n := by
  go_enter Try.func8, Try.ntmps8
  go_wp2_with (go_at_call 10; refine (in_any _ _ _ _).mono ?_; rintro e w' ⟨rfl, rfl⟩)
  go_ret3
  exact ⟨rfl, 0, rfl⟩

set_option maxRecDepth 100000 in
set_option maxHeartbeats 1000000 in
theorem dec4b_no3 (s : ByteArray) (i : Nat) (hs : s.size ≤ 1048576) (hi : i + 3 < s.size) (h : 241 ≤ (s[i].toNat : Int)) (h2 : (s[i].toNat : Int) < 244) (h3 : inB s[i+1].toNat 128 191 = true) (h4 : inB s[i+2].toNat 128 191 = true) (h5 : inB s[i+3].toNat 128 191 = false) (w : World) :
    Calls Try.prog 8 #[.string s, .int .i64 i] w fun e w' => e = .returned (.tuple #[.int .i32 (0), .int .i64 1, .bool false]) ∧ ∃ n, w' = w.drewN n := by
  go_enter Try.func8, Try.ntmps8
  go_wp2_with (go_at_call 10; refine (in_any _ _ _ _).mono ?_; rintro e w' ⟨rfl, rfl⟩)
  go_ret3
  exact ⟨rfl, 0, rfl⟩

set_option maxRecDepth 100000 in
set_option maxHeartbeats 1000000 in
theorem dec4b_yes (s : ByteArray) (i : Nat) (hs : s.size ≤ 1048576) (hi : i + 3 < s.size) (h : 241 ≤ (s[i].toNat : Int)) (h2 : (s[i].toNat : Int) < 244) (h3 : inB s[i+1].toNat 128 191 = true) (h4 : inB s[i+2].toNat 128 191 = true) (h5 : inB s[i+3].toNat 128 191 = true) (w : World) :
    Calls Try.prog 8 #[.string s, .int .i64 i] w fun e w' => e = .returned (.tuple #[.int .i32 (((s[i].toNat : Int) % 8) * 262144 + (s[i+1].toNat : Int) % 64 * 4096 + (s[i+2].toNat : Int) % 64 * 64 + (s[i+3].toNat : Int) % 64), .int .i64 4, .bool true]) ∧ ∃ n, w' = w.drewN n := by
  go_enter Try.func8, Try.ntmps8
  go_wp2_with (go_at_call 10; refine (in_any _ _ _ _).mono ?_; rintro e w' ⟨rfl, rfl⟩)
  go_quiet (fail)
  go_wp2
  go_ret3
  refine ⟨?_, _, rfl⟩
  exact ret3 (val4 ((s[i].toNat : Int) % 8) _ _ _ (by omega) (by omega) (u8_bd _).1 (u8_bd _).2 (u8_bd _).1 (u8_bd _).2 (u8_bd _).1 (u8_bd _).2)

set_option maxRecDepth 100000 in
set_option maxHeartbeats 1000000 in
theorem dec4c_short (s : ByteArray) (i : Nat) (hs : s.size ≤ 1048576) (hi : i < s.size) (hn : s.size ≤ i + 3) (h : (s[i].toNat : Int) = 244) (w : World) :
    Calls Try.prog 8 #[.string s, .int .i64 i] w fun e w' => e = .returned (.tuple #[.int .i32 (0), .int .i64 1, .bool false]) ∧ ∃ n, w' = w.drewN n := by
  go_enter Try.func8, Try.ntmps8
  go_wp2_with (go_at_call 10; refine (in_any _ _ _ _).mono ?_; rintro e w' ⟨rfl, rfl⟩)
  go_ret3
  exact ⟨rfl, 0, rfl⟩

set_option maxRecDepth 100000 in
set_option maxHeartbeats 1000000 in
theorem dec4c_no1 (s : ByteArray) (i : Nat) (hs : s.size ≤ 1048576) (hi : i + 3 < s.size) (h : (s[i].toNat : Int) = 244) (h3 : inB s[i+1].toNat 128 143 = false) (w : World) :
    Calls Try.prog 8 #[.string s, .int .i64 i] w fun e w' => e = .returned (.tuple #[.int .i32 (0), .int .i64 1, .bool false]) ∧ ∃ n, w' = w.drewN n := by
  go_enter Try.func8, Try.ntmps8
  go_wp2_with (go_at_call 10; refine (in_any _ _ _ _).mono ?_; rintro e w' ⟨rfl, rfl⟩)
  go_ret3
  exact ⟨rfl, 0, rfl⟩

set_option maxRecDepth 100000 in
set_option maxHeartbeats 1000000 in
theorem dec4c_no2 (s : ByteArray) (i : Nat) (hs : s.size ≤ 1048576) (hi : i + 3 < s.size) (h : (s[i].toNat : Int) = 244) (h3 : inB s[i+1].toNat 128 143 = true) (h4 : inB s[i+2].toNat 128 191 = false) (w : World) :
    Calls Try.prog 8 #[.string s, .int .i64 i] w fun e w' => e = .returned (.tuple #[.int .i32 (0), .int .i64 1, .bool false]) ∧ ∃ n, w' = w.drewN n := by
  go_enter Try.func8, Try.ntmps8
  go_wp2_with (go_at_call 10; refine (in_any _ _ _ _).mono ?_; rintro e w' ⟨rfl, rfl⟩)
  go_ret3
  exact ⟨rfl, 0, rfl⟩

set_option maxRecDepth 100000 in
set_option maxHeartbeats 1000000 in
theorem dec4c_no3 (s : ByteArray) (i : Nat) (hs : s.size ≤ 1048576) (hi : i + 3 < s.size) (h : (s[i].toNat : Int) = 244) (h3 : inB s[i+1].toNat 128 143 = true) (h4 : inB s[i+2].toNat 128 191 = true) (h5 : inB s[i+3].toNat 128 191 = false) (w : World) :
    Calls Try.prog 8 #[.string s, .int .i64 i] w fun e w' => e = .returned (.tuple #[.int .i32 (0), .int .i64 1, .bool false]) ∧ ∃ n, w' = w.drewN n := by
  go_enter Try.func8, Try.ntmps8
  go_wp2_with (go_at_call 10; refine (in_any _ _ _ _).mono ?_; rintro e w' ⟨rfl, rfl⟩)
  go_ret3
  exact ⟨rfl, 0, rfl⟩

set_option maxRecDepth 100000 in
set_option maxHeartbeats 1000000 in
theorem dec4c_yes (s : ByteArray) (i : Nat) (hs : s.size ≤ 1048576) (hi : i + 3 < s.size) (h : (s[i].toNat : Int) = 244) (h3 : inB s[i+1].toNat 128 143 = true) (h4 : inB s[i+2].toNat 128 191 = true) (h5 : inB s[i+3].toNat 128 191 = true) (w : World) :
    Calls Try.prog 8 #[.string s, .int .i64 i] w fun e w' => e = .returned (.tuple #[.int .i32 (4 * 262144 + (s[i+1].toNat : Int) % 64 * 4096 + (s[i+2].toNat : Int) % 64 * 64 + (s[i+3].toNat : Int) % 64), .int .i64 4, .bool true]) ∧ ∃ n, w' = w.drewN n := by
  go_enter Try.func8, Try.ntmps8
  go_wp2_with (go_at_call 10; refine (in_any _ _ _ _).mono ?_; rintro e w' ⟨rfl, rfl⟩)
  go_quiet (fail)
  go_wp2
  go_ret3
  refine ⟨?_, _, rfl⟩
  exact ret3 (val4 4 _ _ _ (by omega) (by omega) (u8_bd _).1 (u8_bd _).2 (u8_bd _).1 (u8_bd _).2 (u8_bd _).1 (u8_bd _).2)

end Go.Proofs.Qxb6608953a
