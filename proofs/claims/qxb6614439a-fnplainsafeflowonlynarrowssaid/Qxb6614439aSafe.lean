import Derived.Test.Qxb6614439aRows
import Derived.WalkKit
import Derived.WalkSpells
import Derived.ProofKit
import Derived.Handy
namespace Go.Proofs.Qxb6614439a
open Go.RowKit

def blankB (c : Int) : Bool := decide (c = 32 ∨ c = 9 ∨ c = 10 ∨ c = 0)
def flowB (c : Int) : Bool := decide (c = 44 ∨ c = 91 ∨ c = 93 ∨ c = 123 ∨ c = 125)
def inB (c : Int) : Bool := decide (c = 1 ∨ c = 3)
def safeF (ch : Int) (f : Bool) : Bool := !blankB ch && !(f && flowB ch)

theorem ne_beq {a b : Int} (h : a ≠ b) : (a == b) = false := by simpa using h

theorem blank_any (c : Int) (w : World) :
    Calls Try.prog 9 #[.int .u8 c] w fun e w' => e = .returned (.bool (blankB c)) ∧ w' = w := by
  by_cases h32 : c = 32
  · subst h32
    go_enter Try.func9, Try.ntmps9
    go_wp2
    go_ret
    exact ⟨rfl, rfl⟩
  by_cases h9 : c = 9
  · subst h9
    go_enter Try.func9, Try.ntmps9
    go_wp2
    go_ret
    exact ⟨rfl, rfl⟩
  by_cases h10 : c = 10
  · subst h10
    go_enter Try.func9, Try.ntmps9
    go_wp2
    go_ret
    exact ⟨rfl, rfl⟩
  by_cases h0 : c = 0
  · subst h0
    go_enter Try.func9, Try.ntmps9
    go_wp2
    go_ret
    exact ⟨rfl, rfl⟩
  have g32 := ne_beq h32
  have g9 := ne_beq h9
  have g10 := ne_beq h10
  have g0 := ne_beq h0
  have e : blankB c = false := by simp [blankB, h32, h9, h10, h0]
  clear h32 h9 h10 h0
  rw [e]
  go_enter Try.func9, Try.ntmps9
  go_wp2
  go_ret
  exact ⟨rfl, rfl⟩

theorem flow_any (c : Int) (w : World) :
    Calls Try.prog 10 #[.int .u8 c] w fun e w' => e = .returned (.bool (flowB c)) ∧ w' = w := by
  by_cases h44 : c = 44
  · subst h44
    go_enter Try.func10, Try.ntmps10
    go_wp2
    go_ret
    exact ⟨rfl, rfl⟩
  by_cases h91 : c = 91
  · subst h91
    go_enter Try.func10, Try.ntmps10
    go_wp2
    go_ret
    exact ⟨rfl, rfl⟩
  by_cases h93 : c = 93
  · subst h93
    go_enter Try.func10, Try.ntmps10
    go_wp2
    go_ret
    exact ⟨rfl, rfl⟩
  by_cases h123 : c = 123
  · subst h123
    go_enter Try.func10, Try.ntmps10
    go_wp2
    go_ret
    exact ⟨rfl, rfl⟩
  by_cases h125 : c = 125
  · subst h125
    go_enter Try.func10, Try.ntmps10
    go_wp2
    go_ret
    exact ⟨rfl, rfl⟩
  have g44 := ne_beq h44
  have g91 := ne_beq h91
  have g93 := ne_beq h93
  have g123 := ne_beq h123
  have g125 := ne_beq h125
  have e : flowB c = false := by simp [flowB, h44, h91, h93, h123, h125]
  clear h44 h91 h93 h123 h125
  rw [e]
  go_enter Try.func10, Try.ntmps10
  go_wp2
  go_ret
  exact ⟨rfl, rfl⟩

theorem in_any (c : Int) (w : World) :
    Calls Try.prog 8 #[.int .i64 c] w fun e w' => e = .returned (.bool (inB c)) ∧ w' = w := by
  by_cases h1 : c = 1
  · subst h1
    go_enter Try.func8, Try.ntmps8
    go_wp2
    go_ret
    exact ⟨rfl, rfl⟩
  by_cases h3 : c = 3
  · subst h3
    go_enter Try.func8, Try.ntmps8
    go_wp2
    go_ret
    exact ⟨rfl, rfl⟩
  have g1 := ne_beq h1
  have g3 := ne_beq h3
  have e : inB c = false := by simp [inB, h1, h3]
  clear h1 h3
  rw [e]
  go_enter Try.func8, Try.ntmps8
  go_wp2
  go_ret
  exact ⟨rfl, rfl⟩


theorem blank_at (c : Int) (b : Bool) (h : Hid (blankB c = b)) (w : World) : Calls Try.prog 9 #[.int .u8 c] w fun e w' => e = .returned (.bool b) ∧ w' = w := by
  have := blank_any c w
  rw [h.out] at this
  exact this
theorem flow_at (c : Int) (b : Bool) (h : Hid (flowB c = b)) (w : World) : Calls Try.prog 10 #[.int .u8 c] w fun e w' => e = .returned (.bool b) ∧ w' = w := by
  have := flow_any c w
  rw [h.out] at this
  exact this
theorem in_at (c : Int) (b : Bool) (h : Hid (inB c = b)) (w : World) : Calls Try.prog 8 #[.int .i64 c] w fun e w' => e = .returned (.bool b) ∧ w' = w := by
  have := in_any c w
  rw [h.out] at this
  exact this

theorem plain_of (ch c : Int) (x y z : Bool) (hx : Hid (blankB ch = x)) (hy : Hid (inB c = y)) (hz : Hid (flowB ch = z)) (w : World) :
    Calls Try.prog 7 #[.int .u8 ch, .int .i64 c] w fun e w' => e = .returned (.bool (!x && !(y && z))) ∧ w' = w := by
  cases x <;> cases y <;> cases z
  all_goals
    go_enter Try.func7, Try.ntmps7
    go_wp2_with (first | (go_at_call 9; refine (blank_at ch _ hx _).mono ?_; rintro e w' ⟨rfl, rfl⟩) | (go_at_call 8; refine (in_at c _ hy _).mono ?_; rintro e w' ⟨rfl, rfl⟩) | (go_at_call 10; refine (flow_at ch _ hz _).mono ?_; rintro e w' ⟨rfl, rfl⟩))
    go_ret
    exact ⟨rfl, rfl⟩

theorem plain_any (ch c : Int) (w : World) :
    Calls Try.prog 7 #[.int .u8 ch, .int .i64 c] w fun e w' => e = .returned (.bool (safeF ch (inB c))) ∧ w' = w :=
  plain_of ch c _ _ _ rfl rfl rfl w

theorem safe_at (ch c : Int) (b : Bool) (h : Hid (safeF ch (inB c) = b)) (w : World) :
    Calls Try.prog 5 #[.int .u8 ch, .int .i64 c] w fun e w' => e = .returned (.bool b) ∧ w' = w := by
  have hp := plain_any ch c w
  rw [h.out] at hp
  have HP : Hid (Calls Try.prog 7 #[.int .u8 ch, .int .i64 c] w fun e w' => e = .returned (.bool b) ∧ w' = w) := hp
  clear hp
  go_enter Try.func5, Try.ntmps5
  go_wp2_with fail
  refine HP.out.mono ?_
  rintro e w' ⟨rfl, rfl⟩
  go_wp2
  go_ret
  exact ⟨rfl, rfl⟩

theorem zin_at (c : Int) (b : Bool) (h : Hid (inB c = b)) (w : World) :
    Calls Try.prog 6 #[.int .i64 c] w fun e w' => e = .returned (.bool b) ∧ w' = w := by
  go_enter Try.func6, Try.ntmps6
  go_wp2_with fail
  refine (in_at c b h _).mono ?_
  rintro e w' ⟨rfl, rfl⟩
  go_wp2
  go_ret
  exact ⟨rfl, rfl⟩
end Go.Proofs.Qxb6614439a
