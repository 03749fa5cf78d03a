import Derived.Test.Qxb6614439aSafe
namespace Go.Proofs.Qxb6614439a
open Go.RowKit
set_option linter.unusedVariables false

set_option maxRecDepth 100000 in
theorem la_true (ch : Int) (c : Int) (h0 : 128 ≤ ch) (hg : Hid (safeF ch (inB c) = true)) (ho : Hid (safeF ch (inB 0) = true)) (hi : Hid (safeF ch (inB 1) = true)) (hf : Hid (inB c = true)) (w : World) :
    Calls Try.prog 4 #[.int .u8 ch, .int .i64 c] w fun e w' => e = .returned (.bool true) ∧ w' = w := by
  go_enter Try.func4, Try.ntmps4
  go_wp2_with fail
  refine (safe_at ch c _ hg _).mono ?_; rintro e w' ⟨rfl, rfl⟩
  go_wp2_with fail
  refine (safe_at ch 0 _ ho _).mono ?_; rintro e w' ⟨rfl, rfl⟩
  go_wp2_with fail
  refine (safe_at ch 1 _ hi _).mono ?_; rintro e w' ⟨rfl, rfl⟩
  go_wp2_with fail
  refine (zin_at c _ hf _).mono ?_; rintro e w' ⟨rfl, rfl⟩
  go_wp2
  go_ret
  exact ⟨rfl, rfl⟩

set_option maxRecDepth 100000 in
theorem la_false (ch : Int) (c : Int) (h0 : 128 ≤ ch) (hg : Hid (safeF ch (inB c) = true)) (ho : Hid (safeF ch (inB 0) = true)) (hi : Hid (safeF ch (inB 1) = true)) (hf : Hid (inB c = false)) (w : World) :
    Calls Try.prog 4 #[.int .u8 ch, .int .i64 c] w fun e w' => e = .returned (.bool true) ∧ w' = w := by
  go_enter Try.func4, Try.ntmps4
  go_wp2_with fail
  refine (safe_at ch c _ hg _).mono ?_; rintro e w' ⟨rfl, rfl⟩
  go_wp2_with fail
  refine (safe_at ch 0 _ ho _).mono ?_; rintro e w' ⟨rfl, rfl⟩
  go_wp2_with fail
  refine (safe_at ch 1 _ hi _).mono ?_; rintro e w' ⟨rfl, rfl⟩
  go_wp2_with fail
  refine (zin_at c _ hf _).mono ?_; rintro e w' ⟨rfl, rfl⟩
  go_wp2
  go_ret
  exact ⟨rfl, rfl⟩

set_option maxRecDepth 100000 in
theorem lb_true (ch : Int) (c : Int) (h0 : 97 ≤ ch) (h1 : ch ≤ 122) (hg : Hid (safeF ch (inB c) = true)) (ho : Hid (safeF ch (inB 0) = true)) (hi : Hid (safeF ch (inB 1) = true)) (hf : Hid (inB c = true)) (w : World) :
    Calls Try.prog 4 #[.int .u8 ch, .int .i64 c] w fun e w' => e = .returned (.bool true) ∧ w' = w := by
  go_enter Try.func4, Try.ntmps4
  go_wp2_with fail
  refine (safe_at ch c _ hg _).mono ?_; rintro e w' ⟨rfl, rfl⟩
  go_wp2_with fail
  refine (safe_at ch 0 _ ho _).mono ?_; rintro e w' ⟨rfl, rfl⟩
  go_wp2_with fail
  refine (safe_at ch 1 _ hi _).mono ?_; rintro e w' ⟨rfl, rfl⟩
  go_wp2_with fail
  refine (zin_at c _ hf _).mono ?_; rintro e w' ⟨rfl, rfl⟩
  go_wp2
  go_ret
  exact ⟨rfl, rfl⟩

set_option maxRecDepth 100000 in
theorem lb_false (ch : Int) (c : Int) (h0 : 97 ≤ ch) (h1 : ch ≤ 122) (hg : Hid (safeF ch (inB c) = true)) (ho : Hid (safeF ch (inB 0) = true)) (hi : Hid (safeF ch (inB 1) = true)) (hf : Hid (inB c = false)) (w : World) :
    Calls Try.prog 4 #[.int .u8 ch, .int .i64 c] w fun e w' => e = .returned (.bool true) ∧ w' = w := by
  go_enter Try.func4, Try.ntmps4
  go_wp2_with fail
  refine (safe_at ch c _ hg _).mono ?_; rintro e w' ⟨rfl, rfl⟩
  go_wp2_with fail
  refine (safe_at ch 0 _ ho _).mono ?_; rintro e w' ⟨rfl, rfl⟩
  go_wp2_with fail
  refine (safe_at ch 1 _ hi _).mono ?_; rintro e w' ⟨rfl, rfl⟩
  go_wp2_with fail
  refine (zin_at c _ hf _).mono ?_; rintro e w' ⟨rfl, rfl⟩
  go_wp2
  go_ret
  exact ⟨rfl, rfl⟩

set_option maxRecDepth 100000 in
theorem lc_true (ch : Int) (c : Int) (h0 : 65 ≤ ch) (h1 : ch ≤ 90) (hg : Hid (safeF ch (inB c) = true)) (ho : Hid (safeF ch (inB 0) = true)) (hi : Hid (safeF ch (inB 1) = true)) (hf : Hid (inB c = true)) (w : World) :
    Calls Try.prog 4 #[.int .u8 ch, .int .i64 c] w fun e w' => e = .returned (.bool true) ∧ w' = w := by
  go_enter Try.func4, Try.ntmps4
  go_wp2_with fail
  refine (safe_at ch c _ hg _).mono ?_; rintro e w' ⟨rfl, rfl⟩
  go_wp2_with fail
  refine (safe_at ch 0 _ ho _).mono ?_; rintro e w' ⟨rfl, rfl⟩
  go_wp2_with fail
  refine (safe_at ch 1 _ hi _).mono ?_; rintro e w' ⟨rfl, rfl⟩
  go_wp2_with fail
  refine (zin_at c _ hf _).mono ?_; rintro e w' ⟨rfl, rfl⟩
  go_wp2
  go_ret
  exact ⟨rfl, rfl⟩

set_option maxRecDepth 100000 in
theorem lc_false (ch : Int) (c : Int) (h0 : 65 ≤ ch) (h1 : ch ≤ 90) (hg : Hid (safeF ch (inB c) = true)) (ho : Hid (safeF ch (inB 0) = true)) (hi : Hid (safeF ch (inB 1) = true)) (hf : Hid (inB c = false)) (w : World) :
    Calls Try.prog 4 #[.int .u8 ch, .int .i64 c] w fun e w' => e = .returned (.bool true) ∧ w' = w := by
  go_enter Try.func4, Try.ntmps4
  go_wp2_with fail
  refine (safe_at ch c _ hg _).mono ?_; rintro e w' ⟨rfl, rfl⟩
  go_wp2_with fail
  refine (safe_at ch 0 _ ho _).mono ?_; rintro e w' ⟨rfl, rfl⟩
  go_wp2_with fail
  refine (safe_at ch 1 _ hi _).mono ?_; rintro e w' ⟨rfl, rfl⟩
  go_wp2_with fail
  refine (zin_at c _ hf _).mono ?_; rintro e w' ⟨rfl, rfl⟩
  go_wp2
  go_ret
  exact ⟨rfl, rfl⟩

set_option maxRecDepth 100000 in
theorem ld_true (ch : Int) (c : Int) (h0 : 48 ≤ ch) (h1 : ch ≤ 57) (hg : Hid (safeF ch (inB c) = true)) (ho : Hid (safeF ch (inB 0) = true)) (hi : Hid (safeF ch (inB 1) = true)) (hf : Hid (inB c = true)) (w : World) :
    Calls Try.prog 4 #[.int .u8 ch, .int .i64 c] w fun e w' => e = .returned (.bool true) ∧ w' = w := by
  go_enter Try.func4, Try.ntmps4
  go_wp2_with fail
  refine (safe_at ch c _ hg _).mono ?_; rintro e w' ⟨rfl, rfl⟩
  go_wp2_with fail
  refine (safe_at ch 0 _ ho _).mono ?_; rintro e w' ⟨rfl, rfl⟩
  go_wp2_with fail
  refine (safe_at ch 1 _ hi _).mono ?_; rintro e w' ⟨rfl, rfl⟩
  go_wp2_with fail
  refine (zin_at c _ hf _).mono ?_; rintro e w' ⟨rfl, rfl⟩
  go_wp2
  go_ret
  exact ⟨rfl, rfl⟩

set_option maxRecDepth 100000 in
theorem ld_false (ch : Int) (c : Int) (h0 : 48 ≤ ch) (h1 : ch ≤ 57) (hg : Hid (safeF ch (inB c) = true)) (ho : Hid (safeF ch (inB 0) = true)) (hi : Hid (safeF ch (inB 1) = true)) (hf : Hid (inB c = false)) (w : World) :
    Calls Try.prog 4 #[.int .u8 ch, .int .i64 c] w fun e w' => e = .returned (.bool true) ∧ w' = w := by
  go_enter Try.func4, Try.ntmps4
  go_wp2_with fail
  refine (safe_at ch c _ hg _).mono ?_; rintro e w' ⟨rfl, rfl⟩
  go_wp2_with fail
  refine (safe_at ch 0 _ ho _).mono ?_; rintro e w' ⟨rfl, rfl⟩
  go_wp2_with fail
  refine (safe_at ch 1 _ hi _).mono ?_; rintro e w' ⟨rfl, rfl⟩
  go_wp2_with fail
  refine (zin_at c _ hf _).mono ?_; rintro e w' ⟨rfl, rfl⟩
  go_wp2
  go_ret
  exact ⟨rfl, rfl⟩

set_option maxRecDepth 100000 in
theorem b32_true (c : Int)  (hg : Hid (safeF 32 (inB c) = false)) (ho : Hid (safeF 32 (inB 0) = false)) (hi : Hid (safeF 32 (inB 1) = false)) (hf : Hid (inB c = true)) (w : World) :
    Calls Try.prog 4 #[.int .u8 32, .int .i64 c] w fun e w' => e = .returned (.bool true) ∧ w' = w := by
  go_enter Try.func4, Try.ntmps4
  go_wp2_with fail
  refine (safe_at 32 c _ hg _).mono ?_; rintro e w' ⟨rfl, rfl⟩
  go_wp2_with fail
  refine (safe_at 32 0 _ ho _).mono ?_; rintro e w' ⟨rfl, rfl⟩
  go_wp2_with fail
  refine (safe_at 32 1 _ hi _).mono ?_; rintro e w' ⟨rfl, rfl⟩
  go_wp2_with fail
  refine (zin_at c _ hf _).mono ?_; rintro e w' ⟨rfl, rfl⟩
  go_wp2
  go_ret
  exact ⟨rfl, rfl⟩

set_option maxRecDepth 100000 in
theorem b32_false (c : Int)  (hg : Hid (safeF 32 (inB c) = false)) (ho : Hid (safeF 32 (inB 0) = false)) (hi : Hid (safeF 32 (inB 1) = false)) (hf : Hid (inB c = false)) (w : World) :
    Calls Try.prog 4 #[.int .u8 32, .int .i64 c] w fun e w' => e = .returned (.bool true) ∧ w' = w := by
  go_enter Try.func4, Try.ntmps4
  go_wp2_with fail
  refine (safe_at 32 c _ hg _).mono ?_; rintro e w' ⟨rfl, rfl⟩
  go_wp2_with fail
  refine (safe_at 32 0 _ ho _).mono ?_; rintro e w' ⟨rfl, rfl⟩
  go_wp2_with fail
  refine (safe_at 32 1 _ hi _).mono ?_; rintro e w' ⟨rfl, rfl⟩
  go_wp2_with fail
  refine (zin_at c _ hf _).mono ?_; rintro e w' ⟨rfl, rfl⟩
  go_wp2
  go_ret
  exact ⟨rfl, rfl⟩

set_option maxRecDepth 100000 in
theorem b9_true (c : Int)  (hg : Hid (safeF 9 (inB c) = false)) (ho : Hid (safeF 9 (inB 0) = false)) (hi : Hid (safeF 9 (inB 1) = false)) (hf : Hid (inB c = true)) (w : World) :
    Calls Try.prog 4 #[.int .u8 9, .int .i64 c] w fun e w' => e = .returned (.bool true) ∧ w' = w := by
  go_enter Try.func4, Try.ntmps4
  go_wp2_with fail
  refine (safe_at 9 c _ hg _).mono ?_; rintro e w' ⟨rfl, rfl⟩
  go_wp2_with fail
  refine (safe_at 9 0 _ ho _).mono ?_; rintro e w' ⟨rfl, rfl⟩
  go_wp2_with fail
  refine (safe_at 9 1 _ hi _).mono ?_; rintro e w' ⟨rfl, rfl⟩
  go_wp2_with fail
  refine (zin_at c _ hf _).mono ?_; rintro e w' ⟨rfl, rfl⟩
  go_wp2
  go_ret
  exact ⟨rfl, rfl⟩

set_option maxRecDepth 100000 in
theorem b9_false (c : Int)  (hg : Hid (safeF 9 (inB c) = false)) (ho : Hid (safeF 9 (inB 0) = false)) (hi : Hid (safeF 9 (inB 1) = false)) (hf : Hid (inB c = false)) (w : World) :
    Calls Try.prog 4 #[.int .u8 9, .int .i64 c] w fun e w' => e = .returned (.bool true) ∧ w' = w := by
  go_enter Try.func4, Try.ntmps4
  go_wp2_with fail
  refine (safe_at 9 c _ hg _).mono ?_; rintro e w' ⟨rfl, rfl⟩
  go_wp2_with fail
  refine (safe_at 9 0 _ ho _).mono ?_; rintro e w' ⟨rfl, rfl⟩
  go_wp2_with fail
  refine (safe_at 9 1 _ hi _).mono ?_; rintro e w' ⟨rfl, rfl⟩
  go_wp2_with fail
  refine (zin_at c _ hf _).mono ?_; rintro e w' ⟨rfl, rfl⟩
  go_wp2
  go_ret
  exact ⟨rfl, rfl⟩

set_option maxRecDepth 100000 in
theorem b10_true (c : Int)  (hg : Hid (safeF 10 (inB c) = false)) (ho : Hid (safeF 10 (inB 0) = false)) (hi : Hid (safeF 10 (inB 1) = false)) (hf : Hid (inB c = true)) (w : World) :
    Calls Try.prog 4 #[.int .u8 10, .int .i64 c] w fun e w' => e = .returned (.bool true) ∧ w' = w := by
  go_enter Try.func4, Try.ntmps4
  go_wp2_with fail
  refine (safe_at 10 c _ hg _).mono ?_; rintro e w' ⟨rfl, rfl⟩
  go_wp2_with fail
  refine (safe_at 10 0 _ ho _).mono ?_; rintro e w' ⟨rfl, rfl⟩
  go_wp2_with fail
  refine (safe_at 10 1 _ hi _).mono ?_; rintro e w' ⟨rfl, rfl⟩
  go_wp2_with fail
  refine (zin_at c _ hf _).mono ?_; rintro e w' ⟨rfl, rfl⟩
  go_wp2
  go_ret
  exact ⟨rfl, rfl⟩

set_option maxRecDepth 100000 in
theorem b10_false (c : Int)  (hg : Hid (safeF 10 (inB c) = false)) (ho : Hid (safeF 10 (inB 0) = false)) (hi : Hid (safeF 10 (inB 1) = false)) (hf : Hid (inB c = false)) (w : World) :
    Calls Try.prog 4 #[.int .u8 10, .int .i64 c] w fun e w' => e = .returned (.bool true) ∧ w' = w := by
  go_enter Try.func4, Try.ntmps4
  go_wp2_with fail
  refine (safe_at 10 c _ hg _).mono ?_; rintro e w' ⟨rfl, rfl⟩
  go_wp2_with fail
  refine (safe_at 10 0 _ ho _).mono ?_; rintro e w' ⟨rfl, rfl⟩
  go_wp2_with fail
  refine (safe_at 10 1 _ hi _).mono ?_; rintro e w' ⟨rfl, rfl⟩
  go_wp2_with fail
  refine (zin_at c _ hf _).mono ?_; rintro e w' ⟨rfl, rfl⟩
  go_wp2
  go_ret
  exact ⟨rfl, rfl⟩

set_option maxRecDepth 100000 in
theorem b0_true (c : Int)  (hg : Hid (safeF 0 (inB c) = false)) (ho : Hid (safeF 0 (inB 0) = false)) (hi : Hid (safeF 0 (inB 1) = false)) (hf : Hid (inB c = true)) (w : World) :
    Calls Try.prog 4 #[.int .u8 0, .int .i64 c] w fun e w' => e = .returned (.bool true) ∧ w' = w := by
  go_enter Try.func4, Try.ntmps4
  go_wp2_with fail
  refine (safe_at 0 c _ hg _).mono ?_; rintro e w' ⟨rfl, rfl⟩
  go_wp2_with fail
  refine (safe_at 0 0 _ ho _).mono ?_; rintro e w' ⟨rfl, rfl⟩
  go_wp2_with fail
  refine (safe_at 0 1 _ hi _).mono ?_; rintro e w' ⟨rfl, rfl⟩
  go_wp2_with fail
  refine (zin_at c _ hf _).mono ?_; rintro e w' ⟨rfl, rfl⟩
  go_wp2
  go_ret
  exact ⟨rfl, rfl⟩

set_option maxRecDepth 100000 in
theorem b0_false (c : Int)  (hg : Hid (safeF 0 (inB c) = false)) (ho : Hid (safeF 0 (inB 0) = false)) (hi : Hid (safeF 0 (inB 1) = false)) (hf : Hid (inB c = false)) (w : World) :
    Calls Try.prog 4 #[.int .u8 0, .int .i64 c] w fun e w' => e = .returned (.bool true) ∧ w' = w := by
  go_enter Try.func4, Try.ntmps4
  go_wp2_with fail
  refine (safe_at 0 c _ hg _).mono ?_; rintro e w' ⟨rfl, rfl⟩
  go_wp2_with fail
  refine (safe_at 0 0 _ ho _).mono ?_; rintro e w' ⟨rfl, rfl⟩
  go_wp2_with fail
  refine (safe_at 0 1 _ hi _).mono ?_; rintro e w' ⟨rfl, rfl⟩
  go_wp2_with fail
  refine (zin_at c _ hf _).mono ?_; rintro e w' ⟨rfl, rfl⟩
  go_wp2
  go_ret
  exact ⟨rfl, rfl⟩

set_option maxRecDepth 100000 in
theorem oa_tt (ch : Int) (c : Int) (h0 : 123 ≤ ch) (h1 : ch ≤ 127) (g32 : (ch == 32) = false) (g9 : (ch == 9) = false) (g10 : (ch == 10) = false) (g0 : (ch == 0) = false) (hg : Hid (safeF ch (inB c) = true)) (ho : Hid (safeF ch (inB 0) = true)) (hi : Hid (safeF ch (inB 1) = true)) (hf : Hid (inB c = true)) (w : World) :
    Calls Try.prog 4 #[.int .u8 ch, .int .i64 c] w fun e w' => e = .returned (.bool true) ∧ w' = w := by
  go_enter Try.func4, Try.ntmps4
  go_wp2_with fail
  refine (safe_at ch c _ hg _).mono ?_; rintro e w' ⟨rfl, rfl⟩
  go_wp2_with fail
  refine (safe_at ch 0 _ ho _).mono ?_; rintro e w' ⟨rfl, rfl⟩
  go_wp2_with fail
  refine (safe_at ch 1 _ hi _).mono ?_; rintro e w' ⟨rfl, rfl⟩
  go_wp2_with fail
  refine (zin_at c _ hf _).mono ?_; rintro e w' ⟨rfl, rfl⟩
  go_wp2
  go_ret
  exact ⟨rfl, rfl⟩

set_option maxRecDepth 100000 in
theorem oa_tf (ch : Int) (c : Int) (h0 : 123 ≤ ch) (h1 : ch ≤ 127) (g32 : (ch == 32) = false) (g9 : (ch == 9) = false) (g10 : (ch == 10) = false) (g0 : (ch == 0) = false) (hg : Hid (safeF ch (inB c) = false)) (ho : Hid (safeF ch (inB 0) = true)) (hi : Hid (safeF ch (inB 1) = false)) (hf : Hid (inB c = true)) (w : World) :
    Calls Try.prog 4 #[.int .u8 ch, .int .i64 c] w fun e w' => e = .returned (.bool true) ∧ w' = w := by
  go_enter Try.func4, Try.ntmps4
  go_wp2_with fail
  refine (safe_at ch c _ hg _).mono ?_; rintro e w' ⟨rfl, rfl⟩
  go_wp2_with fail
  refine (safe_at ch 0 _ ho _).mono ?_; rintro e w' ⟨rfl, rfl⟩
  go_wp2_with fail
  refine (safe_at ch 1 _ hi _).mono ?_; rintro e w' ⟨rfl, rfl⟩
  go_wp2_with fail
  refine (zin_at c _ hf _).mono ?_; rintro e w' ⟨rfl, rfl⟩
  go_wp2
  go_ret
  exact ⟨rfl, rfl⟩

set_option maxRecDepth 100000 in
theorem oa_ft (ch : Int) (c : Int) (h0 : 123 ≤ ch) (h1 : ch ≤ 127) (g32 : (ch == 32) = false) (g9 : (ch == 9) = false) (g10 : (ch == 10) = false) (g0 : (ch == 0) = false) (hg : Hid (safeF ch (inB c) = true)) (ho : Hid (safeF ch (inB 0) = true)) (hi : Hid (safeF ch (inB 1) = true)) (hf : Hid (inB c = false)) (w : World) :
    Calls Try.prog 4 #[.int .u8 ch, .int .i64 c] w fun e w' => e = .returned (.bool true) ∧ w' = w := by
  go_enter Try.func4, Try.ntmps4
  go_wp2_with fail
  refine (safe_at ch c _ hg _).mono ?_; rintro e w' ⟨rfl, rfl⟩
  go_wp2_with fail
  refine (safe_at ch 0 _ ho _).mono ?_; rintro e w' ⟨rfl, rfl⟩
  go_wp2_with fail
  refine (safe_at ch 1 _ hi _).mono ?_; rintro e w' ⟨rfl, rfl⟩
  go_wp2_with fail
  refine (zin_at c _ hf _).mono ?_; rintro e w' ⟨rfl, rfl⟩
  go_wp2
  go_ret
  exact ⟨rfl, rfl⟩

set_option maxRecDepth 100000 in
theorem oa_ff (ch : Int) (c : Int) (h0 : 123 ≤ ch) (h1 : ch ≤ 127) (g32 : (ch == 32) = false) (g9 : (ch == 9) = false) (g10 : (ch == 10) = false) (g0 : (ch == 0) = false) (hg : Hid (safeF ch (inB c) = true)) (ho : Hid (safeF ch (inB 0) = true)) (hi : Hid (safeF ch (inB 1) = false)) (hf : Hid (inB c = false)) (w : World) :
    Calls Try.prog 4 #[.int .u8 ch, .int .i64 c] w fun e w' => e = .returned (.bool true) ∧ w' = w := by
  go_enter Try.func4, Try.ntmps4
  go_wp2_with fail
  refine (safe_at ch c _ hg _).mono ?_; rintro e w' ⟨rfl, rfl⟩
  go_wp2_with fail
  refine (safe_at ch 0 _ ho _).mono ?_; rintro e w' ⟨rfl, rfl⟩
  go_wp2_with fail
  refine (safe_at ch 1 _ hi _).mono ?_; rintro e w' ⟨rfl, rfl⟩
  go_wp2_with fail
  refine (zin_at c _ hf _).mono ?_; rintro e w' ⟨rfl, rfl⟩
  go_wp2
  go_ret
  exact ⟨rfl, rfl⟩

set_option maxRecDepth 100000 in
theorem ob_tt (ch : Int) (c : Int) (h0 : 91 ≤ ch) (h1 : ch ≤ 96) (g32 : (ch == 32) = false) (g9 : (ch == 9) = false) (g10 : (ch == 10) = false) (g0 : (ch == 0) = false) (hg : Hid (safeF ch (inB c) = true)) (ho : Hid (safeF ch (inB 0) = true)) (hi : Hid (safeF ch (inB 1) = true)) (hf : Hid (inB c = true)) (w : World) :
    Calls Try.prog 4 #[.int .u8 ch, .int .i64 c] w fun e w' => e = .returned (.bool true) ∧ w' = w := by
  go_enter Try.func4, Try.ntmps4
  go_wp2_with fail
  refine (safe_at ch c _ hg _).mono ?_; rintro e w' ⟨rfl, rfl⟩
  go_wp2_with fail
  refine (safe_at ch 0 _ ho _).mono ?_; rintro e w' ⟨rfl, rfl⟩
  go_wp2_with fail
  refine (safe_at ch 1 _ hi _).mono ?_; rintro e w' ⟨rfl, rfl⟩
  go_wp2_with fail
  refine (zin_at c _ hf _).mono ?_; rintro e w' ⟨rfl, rfl⟩
  go_wp2
  go_ret
  exact ⟨rfl, rfl⟩

set_option maxRecDepth 100000 in
theorem ob_tf (ch : Int) (c : Int) (h0 : 91 ≤ ch) (h1 : ch ≤ 96) (g32 : (ch == 32) = false) (g9 : (ch == 9) = false) (g10 : (ch == 10) = false) (g0 : (ch == 0) = false) (hg : Hid (safeF ch (inB c) = false)) (ho : Hid (safeF ch (inB 0) = true)) (hi : Hid (safeF ch (inB 1) = false)) (hf : Hid (inB c = true)) (w : World) :
    Calls Try.prog 4 #[.int .u8 ch, .int .i64 c] w fun e w' => e = .returned (.bool true) ∧ w' = w := by
  go_enter Try.func4, Try.ntmps4
  go_wp2_with fail
  refine (safe_at ch c _ hg _).mono ?_; rintro e w' ⟨rfl, rfl⟩
  go_wp2_with fail
  refine (safe_at ch 0 _ ho _).mono ?_; rintro e w' ⟨rfl, rfl⟩
  go_wp2_with fail
  refine (safe_at ch 1 _ hi _).mono ?_; rintro e w' ⟨rfl, rfl⟩
  go_wp2_with fail
  refine (zin_at c _ hf _).mono ?_; rintro e w' ⟨rfl, rfl⟩
  go_wp2
  go_ret
  exact ⟨rfl, rfl⟩

set_option maxRecDepth 100000 in
theorem ob_ft (ch : Int) (c : Int) (h0 : 91 ≤ ch) (h1 : ch ≤ 96) (g32 : (ch == 32) = false) (g9 : (ch == 9) = false) (g10 : (ch == 10) = false) (g0 : (ch == 0) = false) (hg : Hid (safeF ch (inB c) = true)) (ho : Hid (safeF ch (inB 0) = true)) (hi : Hid (safeF ch (inB 1) = true)) (hf : Hid (inB c = false)) (w : World) :
    Calls Try.prog 4 #[.int .u8 ch, .int .i64 c] w fun e w' => e = .returned (.bool true) ∧ w' = w := by
  go_enter Try.func4, Try.ntmps4
  go_wp2_with fail
  refine (safe_at ch c _ hg _).mono ?_; rintro e w' ⟨rfl, rfl⟩
  go_wp2_with fail
  refine (safe_at ch 0 _ ho _).mono ?_; rintro e w' ⟨rfl, rfl⟩
  go_wp2_with fail
  refine (safe_at ch 1 _ hi _).mono ?_; rintro e w' ⟨rfl, rfl⟩
  go_wp2_with fail
  refine (zin_at c _ hf _).mono ?_; rintro e w' ⟨rfl, rfl⟩
  go_wp2
  go_ret
  exact ⟨rfl, rfl⟩

set_option maxRecDepth 100000 in
theorem ob_ff (ch : Int) (c : Int) (h0 : 91 ≤ ch) (h1 : ch ≤ 96) (g32 : (ch == 32) = false) (g9 : (ch == 9) = false) (g10 : (ch == 10) = false) (g0 : (ch == 0) = false) (hg : Hid (safeF ch (inB c) = true)) (ho : Hid (safeF ch (inB 0) = true)) (hi : Hid (safeF ch (inB 1) = false)) (hf : Hid (inB c = false)) (w : World) :
    Calls Try.prog 4 #[.int .u8 ch, .int .i64 c] w fun e w' => e = .returned (.bool true) ∧ w' = w := by
  go_enter Try.func4, Try.ntmps4
  go_wp2_with fail
  refine (safe_at ch c _ hg _).mono ?_; rintro e w' ⟨rfl, rfl⟩
  go_wp2_with fail
  refine (safe_at ch 0 _ ho _).mono ?_; rintro e w' ⟨rfl, rfl⟩
  go_wp2_with fail
  refine (safe_at ch 1 _ hi _).mono ?_; rintro e w' ⟨rfl, rfl⟩
  go_wp2_with fail
  refine (zin_at c _ hf _).mono ?_; rintro e w' ⟨rfl, rfl⟩
  go_wp2
  go_ret
  exact ⟨rfl, rfl⟩

set_option maxRecDepth 100000 in
theorem oc_tt (ch : Int) (c : Int) (h0 : 58 ≤ ch) (h1 : ch ≤ 64) (g32 : (ch == 32) = false) (g9 : (ch == 9) = false) (g10 : (ch == 10) = false) (g0 : (ch == 0) = false) (hg : Hid (safeF ch (inB c) = true)) (ho : Hid (safeF ch (inB 0) = true)) (hi : Hid (safeF ch (inB 1) = true)) (hf : Hid (inB c = true)) (w : World) :
    Calls Try.prog 4 #[.int .u8 ch, .int .i64 c] w fun e w' => e = .returned (.bool true) ∧ w' = w := by
  go_enter Try.func4, Try.ntmps4
  go_wp2_with fail
  refine (safe_at ch c _ hg _).mono ?_; rintro e w' ⟨rfl, rfl⟩
  go_wp2_with fail
  refine (safe_at ch 0 _ ho _).mono ?_; rintro e w' ⟨rfl, rfl⟩
  go_wp2_with fail
  refine (safe_at ch 1 _ hi _).mono ?_; rintro e w' ⟨rfl, rfl⟩
  go_wp2_with fail
  refine (zin_at c _ hf _).mono ?_; rintro e w' ⟨rfl, rfl⟩
  go_wp2
  go_ret
  exact ⟨rfl, rfl⟩

set_option maxRecDepth 100000 in
theorem oc_tf (ch : Int) (c : Int) (h0 : 58 ≤ ch) (h1 : ch ≤ 64) (g32 : (ch == 32) = false) (g9 : (ch == 9) = false) (g10 : (ch == 10) = false) (g0 : (ch == 0) = false) (hg : Hid (safeF ch (inB c) = false)) (ho : Hid (safeF ch (inB 0) = true)) (hi : Hid (safeF ch (inB 1) = false)) (hf : Hid (inB c = true)) (w : World) :
    Calls Try.prog 4 #[.int .u8 ch, .int .i64 c] w fun e w' => e = .returned (.bool true) ∧ w' = w := by
  go_enter Try.func4, Try.ntmps4
  go_wp2_with fail
  refine (safe_at ch c _ hg _).mono ?_; rintro e w' ⟨rfl, rfl⟩
  go_wp2_with fail
  refine (safe_at ch 0 _ ho _).mono ?_; rintro e w' ⟨rfl, rfl⟩
  go_wp2_with fail
  refine (safe_at ch 1 _ hi _).mono ?_; rintro e w' ⟨rfl, rfl⟩
  go_wp2_with fail
  refine (zin_at c _ hf _).mono ?_; rintro e w' ⟨rfl, rfl⟩
  go_wp2
  go_ret
  exact ⟨rfl, rfl⟩

set_option maxRecDepth 100000 in
theorem oc_ft (ch : Int) (c : Int) (h0 : 58 ≤ ch) (h1 : ch ≤ 64) (g32 : (ch == 32) = false) (g9 : (ch == 9) = false) (g10 : (ch == 10) = false) (g0 : (ch == 0) = false) (hg : Hid (safeF ch (inB c) = true)) (ho : Hid (safeF ch (inB 0) = true)) (hi : Hid (safeF ch (inB 1) = true)) (hf : Hid (inB c = false)) (w : World) :
    Calls Try.prog 4 #[.int .u8 ch, .int .i64 c] w fun e w' => e = .returned (.bool true) ∧ w' = w := by
  go_enter Try.func4, Try.ntmps4
  go_wp2_with fail
  refine (safe_at ch c _ hg _).mono ?_; rintro e w' ⟨rfl, rfl⟩
  go_wp2_with fail
  refine (safe_at ch 0 _ ho _).mono ?_; rintro e w' ⟨rfl, rfl⟩
  go_wp2_with fail
  refine (safe_at ch 1 _ hi _).mono ?_; rintro e w' ⟨rfl, rfl⟩
  go_wp2_with fail
  refine (zin_at c _ hf _).mono ?_; rintro e w' ⟨rfl, rfl⟩
  go_wp2
  go_ret
  exact ⟨rfl, rfl⟩

set_option maxRecDepth 100000 in
theorem oc_ff (ch : Int) (c : Int) (h0 : 58 ≤ ch) (h1 : ch ≤ 64) (g32 : (ch == 32) = false) (g9 : (ch == 9) = false) (g10 : (ch == 10) = false) (g0 : (ch == 0) = false) (hg : Hid (safeF ch (inB c) = true)) (ho : Hid (safeF ch (inB 0) = true)) (hi : Hid (safeF ch (inB 1) = false)) (hf : Hid (inB c = false)) (w : World) :
    Calls Try.prog 4 #[.int .u8 ch, .int .i64 c] w fun e w' => e = .returned (.bool true) ∧ w' = w := by
  go_enter Try.func4, Try.ntmps4
  go_wp2_with fail
  refine (safe_at ch c _ hg _).mono ?_; rintro e w' ⟨rfl, rfl⟩
  go_wp2_with fail
  refine (safe_at ch 0 _ ho _).mono ?_; rintro e w' ⟨rfl, rfl⟩
  go_wp2_with fail
  refine (safe_at ch 1 _ hi _).mono ?_; rintro e w' ⟨rfl, rfl⟩
  go_wp2_with fail
  refine (zin_at c _ hf _).mono ?_; rintro e w' ⟨rfl, rfl⟩
  go_wp2
  go_ret
  exact ⟨rfl, rfl⟩

set_option maxRecDepth 100000 in
theorem od_tt (ch : Int) (c : Int) (h1 : ch ≤ 47) (g32 : (ch == 32) = false) (g9 : (ch == 9) = false) (g10 : (ch == 10) = false) (g0 : (ch == 0) = false) (hg : Hid (safeF ch (inB c) = true)) (ho : Hid (safeF ch (inB 0) = true)) (hi : Hid (safeF ch (inB 1) = true)) (hf : Hid (inB c = true)) (w : World) :
    Calls Try.prog 4 #[.int .u8 ch, .int .i64 c] w fun e w' => e = .returned (.bool true) ∧ w' = w := by
  go_enter Try.func4, Try.ntmps4
  go_wp2_with fail
  refine (safe_at ch c _ hg _).mono ?_; rintro e w' ⟨rfl, rfl⟩
  go_wp2_with fail
  refine (safe_at ch 0 _ ho _).mono ?_; rintro e w' ⟨rfl, rfl⟩
  go_wp2_with fail
  refine (safe_at ch 1 _ hi _).mono ?_; rintro e w' ⟨rfl, rfl⟩
  go_wp2_with fail
  refine (zin_at c _ hf _).mono ?_; rintro e w' ⟨rfl, rfl⟩
  go_wp2
  go_ret
  exact ⟨rfl, rfl⟩

set_option maxRecDepth 100000 in
theorem od_tf (ch : Int) (c : Int) (h1 : ch ≤ 47) (g32 : (ch == 32) = false) (g9 : (ch == 9) = false) (g10 : (ch == 10) = false) (g0 : (ch == 0) = false) (hg : Hid (safeF ch (inB c) = false)) (ho : Hid (safeF ch (inB 0) = true)) (hi : Hid (safeF ch (inB 1) = false)) (hf : Hid (inB c = true)) (w : World) :
    Calls Try.prog 4 #[.int .u8 ch, .int .i64 c] w fun e w' => e = .returned (.bool true) ∧ w' = w := by
  go_enter Try.func4, Try.ntmps4
  go_wp2_with fail
  refine (safe_at ch c _ hg _).mono ?_; rintro e w' ⟨rfl, rfl⟩
  go_wp2_with fail
  refine (safe_at ch 0 _ ho _).mono ?_; rintro e w' ⟨rfl, rfl⟩
  go_wp2_with fail
  refine (safe_at ch 1 _ hi _).mono ?_; rintro e w' ⟨rfl, rfl⟩
  go_wp2_with fail
  refine (zin_at c _ hf _).mono ?_; rintro e w' ⟨rfl, rfl⟩
  go_wp2
  go_ret
  exact ⟨rfl, rfl⟩

set_option maxRecDepth 100000 in
theorem od_ft (ch : Int) (c : Int) (h1 : ch ≤ 47) (g32 : (ch == 32) = false) (g9 : (ch == 9) = false) (g10 : (ch == 10) = false) (g0 : (ch == 0) = false) (hg : Hid (safeF ch (inB c) = true)) (ho : Hid (safeF ch (inB 0) = true)) (hi : Hid (safeF ch (inB 1) = true)) (hf : Hid (inB c = false)) (w : World) :
    Calls Try.prog 4 #[.int .u8 ch, .int .i64 c] w fun e w' => e = .returned (.bool true) ∧ w' = w := by
  go_enter Try.func4, Try.ntmps4
  go_wp2_with fail
  refine (safe_at ch c _ hg _).mono ?_; rintro e w' ⟨rfl, rfl⟩
  go_wp2_with fail
  refine (safe_at ch 0 _ ho _).mono ?_; rintro e w' ⟨rfl, rfl⟩
  go_wp2_with fail
  refine (safe_at ch 1 _ hi _).mono ?_; rintro e w' ⟨rfl, rfl⟩
  go_wp2_with fail
  refine (zin_at c _ hf _).mono ?_; rintro e w' ⟨rfl, rfl⟩
  go_wp2
  go_ret
  exact ⟨rfl, rfl⟩

set_option maxRecDepth 100000 in
theorem od_ff (ch : Int) (c : Int) (h1 : ch ≤ 47) (g32 : (ch == 32) = false) (g9 : (ch == 9) = false) (g10 : (ch == 10) = false) (g0 : (ch == 0) = false) (hg : Hid (safeF ch (inB c) = true)) (ho : Hid (safeF ch (inB 0) = true)) (hi : Hid (safeF ch (inB 1) = false)) (hf : Hid (inB c = false)) (w : World) :
    Calls Try.prog 4 #[.int .u8 ch, .int .i64 c] w fun e w' => e = .returned (.bool true) ∧ w' = w := by
  go_enter Try.func4, Try.ntmps4
  go_wp2_with fail
  refine (safe_at ch c _ hg _).mono ?_; rintro e w' ⟨rfl, rfl⟩
  go_wp2_with fail
  refine (safe_at ch 0 _ ho _).mono ?_; rintro e w' ⟨rfl, rfl⟩
  go_wp2_with fail
  refine (safe_at ch 1 _ hi _).mono ?_; rintro e w' ⟨rfl, rfl⟩
  go_wp2_with fail
  refine (zin_at c _ hf _).mono ?_; rintro e w' ⟨rfl, rfl⟩
  go_wp2
  go_ret
  exact ⟨rfl, rfl⟩


theorem safe_blank (ch : Int) (f : Bool) (h : blankB ch = true) : safeF ch f = false := by simp [safeF, h]
theorem safe_plain (ch : Int) (f : Bool) (h : blankB ch = false) (h2 : flowB ch = false) : safeF ch f = true := by simp [safeF, h, h2]
theorem safe_far (ch : Int) (h : blankB ch = false) : safeF ch false = true := by simp [safeF, h]
theorem safe_near (ch : Int) (h : blankB ch = false) (h2 : flowB ch = true) : safeF ch true = false := by simp [safeF, h, h2]

theorem letter_plain (ch : Int) (h : 128 ≤ ch ∨ (97 ≤ ch ∧ ch ≤ 122) ∨ (65 ≤ ch ∧ ch ≤ 90) ∨ (48 ≤ ch ∧ ch ≤ 57)) : blankB ch = false ∧ flowB ch = false := by
  unfold blankB flowB
  simp only [decide_eq_false_iff_not]
  omega

theorem narrow_walk (ch c : Int) (h0 : 0 ≤ ch) (w : World) : Calls Try.prog 4 #[.int .u8 ch, .int .i64 c] w fun e w' => e = .returned (.bool true) ∧ w' = w := by
  by_cases hl : 128 ≤ ch ∨ (97 ≤ ch ∧ ch ≤ 122) ∨ (65 ≤ ch ∧ ch ≤ 90) ∨ (48 ≤ ch ∧ ch ≤ 57)
  · obtain ⟨p, q⟩ := letter_plain ch hl
    have sa := fun f => safe_plain ch f p q
    cases hf : inB c with
    | true =>
      rcases hl with h | ⟨h, h'⟩ | ⟨h, h'⟩ | ⟨h, h'⟩
      · exact la_true ch c h (sa _) (sa _) (sa _) hf w
      · exact lb_true ch c h h' (sa _) (sa _) (sa _) hf w
      · exact lc_true ch c h h' (sa _) (sa _) (sa _) hf w
      · exact ld_true ch c h h' (sa _) (sa _) (sa _) hf w
    | false =>
      rcases hl with h | ⟨h, h'⟩ | ⟨h, h'⟩ | ⟨h, h'⟩
      · exact la_false ch c h (sa _) (sa _) (sa _) hf w
      · exact lb_false ch c h h' (sa _) (sa _) (sa _) hf w
      · exact lc_false ch c h h' (sa _) (sa _) (sa _) hf w
      · exact ld_false ch c h h' (sa _) (sa _) (sa _) hf w
  by_cases e32 : ch = 32
  · subst e32
    have sa := fun f => safe_blank 32 f rfl
    cases hf : inB c with
    | true => exact b32_true c (sa _) (sa _) (sa _) hf w
    | false => exact b32_false c (sa _) (sa _) (sa _) hf w
  by_cases e9 : ch = 9
  · subst e9
    have sa := fun f => safe_blank 9 f rfl
    cases hf : inB c with
    | true => exact b9_true c (sa _) (sa _) (sa _) hf w
    | false => exact b9_false c (sa _) (sa _) (sa _) hf w
  by_cases e10 : ch = 10
  · subst e10
    have sa := fun f => safe_blank 10 f rfl
    cases hf : inB c with
    | true => exact b10_true c (sa _) (sa _) (sa _) hf w
    | false => exact b10_false c (sa _) (sa _) (sa _) hf w
  by_cases e0 : ch = 0
  · subst e0
    have sa := fun f => safe_blank 0 f rfl
    cases hf : inB c with
    | true => exact b0_true c (sa _) (sa _) (sa _) hf w
    | false => exact b0_false c (sa _) (sa _) (sa _) hf w
  have p : blankB ch = false := by simp [blankB, e32, e9, e10, e0]
  have g32 := ne_beq e32
  have g9 := ne_beq e9
  have g10 := ne_beq e10
  have g0 := ne_beq e0
  have ho : safeF ch (inB 0) = true := safe_far ch p
  have hcl : (123 ≤ ch ∧ ch ≤ 127) ∨ (91 ≤ ch ∧ ch ≤ 96) ∨ (58 ≤ ch ∧ ch ≤ 64) ∨ ch ≤ 47 := by omega
  cases q : flowB ch with
  | false =>
    have sa := fun f => safe_plain ch f p q
    cases hf : inB c with
    | true =>
      rcases hcl with ⟨h, h'⟩ | ⟨h, h'⟩ | ⟨h, h'⟩ | h
      · exact oa_tt ch c h h' g32 g9 g10 g0 (sa _) (sa _) (sa _) hf w
      · exact ob_tt ch c h h' g32 g9 g10 g0 (sa _) (sa _) (sa _) hf w
      · exact oc_tt ch c h h' g32 g9 g10 g0 (sa _) (sa _) (sa _) hf w
      · exact od_tt ch c h g32 g9 g10 g0 (sa _) (sa _) (sa _) hf w
    | false =>
      rcases hcl with ⟨h, h'⟩ | ⟨h, h'⟩ | ⟨h, h'⟩ | h
      · exact oa_ft ch c h h' g32 g9 g10 g0 (sa _) (sa _) (sa _) hf w
      · exact ob_ft ch c h h' g32 g9 g10 g0 (sa _) (sa _) (sa _) hf w
      · exact oc_ft ch c h h' g32 g9 g10 g0 (sa _) (sa _) (sa _) hf w
      · exact od_ft ch c h g32 g9 g10 g0 (sa _) (sa _) (sa _) hf w
  | true =>
    have hi : safeF ch (inB 1) = false := safe_near ch p q
    cases hf : inB c with
    | true =>
      have hg : safeF ch (inB c) = false := by rw [hf]; exact safe_near ch p q
      rcases hcl with ⟨h, h'⟩ | ⟨h, h'⟩ | ⟨h, h'⟩ | h
      · exact oa_tf ch c h h' g32 g9 g10 g0 hg ho hi hf w
      · exact ob_tf ch c h h' g32 g9 g10 g0 hg ho hi hf w
      · exact oc_tf ch c h h' g32 g9 g10 g0 hg ho hi hf w
      · exact od_tf ch c h g32 g9 g10 g0 hg ho hi hf w
    | false =>
      have hg : safeF ch (inB c) = true := by rw [hf]; exact safe_far ch p
      rcases hcl with ⟨h, h'⟩ | ⟨h, h'⟩ | ⟨h, h'⟩ | h
      · exact oa_ff ch c h h' g32 g9 g10 g0 hg ho hi hf w
      · exact ob_ff ch c h h' g32 g9 g10 g0 hg ho hi hf w
      · exact oc_ff ch c h h' g32 g9 g10 g0 hg ho hi hf w
      · exact od_ff ch c h g32 g9 g10 g0 hg ho hi hf w

theorem narrow_law (ch c : Int) (hch : (Lit.int .u8 ch).wf = true) (w : World) : Calls Try.prog 4 #[.int .u8 ch, .int .i64 c] w fun e w' => e = .returned (.bool true) ∧ Below w.heap.size w w' :=
  (narrow_walk ch c (bounds_u8 hch).1 w).mono fun _ _ ⟨he, hw⟩ => ⟨he, hw ▸ Below.refl _ _⟩
end Go.Proofs.Qxb6614439a
