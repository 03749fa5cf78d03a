import Derived.Test.Qxb6614439aSafe
namespace Go.Proofs.Qxb6614439a
open Go.RowKit

/-- how many of the bytes below k are refused -/
def cnt (f : Bool) : Nat → Nat
  | 0 => 0
  | k + 1 => cnt f k + (if safeF k f = true then 0 else 1)

theorem cnt_le (f : Bool) : ∀ k, cnt f k ≤ k
  | 0 => Nat.le_refl _
  | k + 1 => by
    have := cnt_le f k
    simp only [cnt]
    split <;> omega

theorem cnt_in : cnt true 256 = 9 := by decide +kernel
theorem cnt_out : cnt false 256 = 4 := by decide +kernel

theorem safe_out (ch : Int) (f : Bool) (h : safeF ch f = true) : safeF ch (inB 0) = true := by
  have e : inB 0 = false := rfl
  rw [e]
  unfold safeF at *
  simp at *
  exact h.1

set_option maxRecDepth 100000 in
set_option maxHeartbeats 2000000 in
theorem refusals (c : Int) (f : Bool) (hf : Hid (inB c = f)) (i : Bool) (n : Int) (hin : (c = 1 ∧ i = true ∧ f = true ∧ n = 9) ∨ (c = 3 ∧ i = true ∧ f = true ∧ n = 9) ∨ ((c == 1) = false ∧ (c == 3) = false ∧ i = false ∧ f = false ∧ n = 4)) (w : World) :
    Calls Try.prog 3 #[.int .i64 c] w fun e w' => e = .returned (.bool true) ∧ w' = w := by
  have HN : Hid ((cnt f 256 : Int) = n) := by
    show _ = _
    rcases hin with ⟨_, _, rfl, rfl⟩ | ⟨_, _, rfl, rfl⟩ | ⟨_, _, _, rfl, rfl⟩
    · rw [cnt_in]; rfl
    · rw [cnt_in]; rfl
    · rw [cnt_out]; rfl
  have HIN : Hid ((c = 1 ∧ i = true ∧ f = true ∧ n = 9) ∨ (c = 3 ∧ i = true ∧ f = true ∧ n = 9) ∨ ((c == 1) = false ∧ (c == 3) = false ∧ i = false ∧ f = false ∧ n = 4)) := hin
  clear hin
  go_enter Try.func3, Try.ntmps3
  go_wp2
  go_loop [3, 4] (fun r i => ∃ k : Nat, k ≤ 256 ∧ i = .int .i64 k ∧ r = .int .i64 (cnt f k)) (fun _ i => 256 - (intOf i).toNat)
  case atStart => exact ⟨0, Nat.zero_le _, rfl, rfl⟩
  case round =>
    obtain ⟨k, hk, rfl, rfl⟩ := hrel
    have hc := cnt_le f k
    by_cases hlt : k < 256
    · cases hs : safeF k f with
      | true =>
        have HS : Hid (safeF k (inB c) = true) := by show _ = _; rw [hf.out, hs]
        have HO : Hid (safeF k (inB 0) = true) := safe_out _ _ hs
        have HC : Hid (cnt f (k + 1) = cnt f k) := by show _ = _; simp [cnt, hs]
        clear hs
        go_wp2_with fail
        refine (safe_at k c true HS _).mono ?_; rintro e w' ⟨rfl, rfl⟩
        go_wp2_with fail
        refine (safe_at k 0 true HO _).mono ?_; rintro e w' ⟨rfl, rfl⟩
        go_wp2
        go_round
        case rel => exact ⟨k + 1, by omega, by go_num, by rw [HC.out]⟩
        case measure => simp [intOf]; omega
      | false =>
        have HS : Hid (safeF k (inB c) = false) := by show _ = _; rw [hf.out, hs]
        have HC : Hid (cnt f (k + 1) = cnt f k + 1) := by show _ = _; simp [cnt, hs]
        clear hs
        go_wp2_with fail
        refine (safe_at k c false HS _).mono ?_; rintro e w' ⟨rfl, rfl⟩
        go_wp2
        go_round
        case rel => exact ⟨k + 1, by omega, by go_num, by rw [HC.out]; go_num⟩
        case measure => simp [intOf]; omega
    · have hk' : k = 256 := by omega
      subst hk'
      rw [HN.out]
      rcases HIN.out with ⟨rfl, rfl, rfl, rfl⟩ | ⟨rfl, rfl, rfl, rfl⟩ | ⟨h1, h3, rfl, rfl, rfl⟩
      all_goals
        clear HIN HN hc
        go_wp2_with fail
        refine (zin_at _ _ hf _).mono ?_; rintro e w' ⟨rfl, rfl⟩
        go_wp2
        go_ret
        exact ⟨rfl, rfl⟩

theorem refusals_walk (c : Int) (w : World) : Calls Try.prog 3 #[.int .i64 c] w fun e w' => e = .returned (.bool true) ∧ w' = w := by
  by_cases h1 : c = 1
  · subst h1; exact refusals 1 true rfl true 9 (.inl ⟨rfl, rfl, rfl, rfl⟩) w
  by_cases h3 : c = 3
  · subst h3; exact refusals 3 true rfl true 9 (.inr (.inl ⟨rfl, rfl, rfl, rfl⟩)) w
  exact refusals c false (by show _ = _; simp [inB, h1, h3]) false 4 (.inr (.inr ⟨ne_beq h1, ne_beq h3, rfl, rfl, rfl⟩)) w

theorem refusals_law (c : Int) (w : World) : Calls Try.prog 3 #[.int .i64 c] w fun e w' => e = .returned (.bool true) ∧ Below w.heap.size w w' :=
  (refusals_walk c w).mono fun _ _ ⟨he, hw⟩ => ⟨he, hw ▸ Below.refl _ _⟩
end Go.Proofs.Qxb6614439a
