import Derived.Test.Qxb6608953aDec
import Derived.Lib.QuoteBits
namespace Go.Proofs.Qxb6608953a
open Go.RowKit

def hexd (d : Int) : Int := if d < 10 then d + 48 else d + 87

theorem hexDigit_any (d : Int) (h0 : 0 ≤ d) (h1 : d < 16) (w : World) :
    Calls Try.prog 9 #[.int .i32 d] w fun e w' => e = .returned (.int .u8 (hexd d)) ∧ w' = w := by
  by_cases h : d < 10
  · go_enter Try.func9, Try.ntmps9
    go_wp2
    go_ret
    refine ⟨?_, rfl⟩
    simp [hexd, h]
    omega
  · go_enter Try.func9, Try.ntmps9
    go_wp2
    go_ret
    refine ⟨?_, rfl⟩
    simp [hexd]
    omega

/-- the five characters in which the two escapes differ -/
def sp (c : Int) : Bool := decide (c = 60 ∨ c = 62 ∨ c = 38 ∨ c = 8 ∨ c = 12)
def okB (s : ByteArray) : Bool := decide (∀ k, k < s.size → sp (bt s k) = false)

theorem okB_false (s : ByteArray) (k : Nat) (hk : k < s.size) (h : sp (bt s k) = true) : okB s = false := by
  unfold okB
  rw [decide_eq_false_iff_not]
  intro hh
  have := hh k hk
  rw [h] at this
  cases this

theorem okB_true (s : ByteArray) (h : ∀ k, k < s.size → sp (bt s k) = false) : okB s = true := by
  unfold okB
  rw [decide_eq_true_eq]
  exact h

theorem ret_bool {a b : Bool} (h : a = b) : Ending.returned (.bool a) = .returned (.bool b) := by rw [h]

set_option maxRecDepth 100000 in
theorem matches_any (s : ByteArray) (hs : s.size ≤ 2097152) (w : World) :
    Calls Try.prog 5 #[.string s] w fun e w' => e = .returned (.bool (okB s)) ∧ w' = w := by
  go_enter Try.func5, Try.ntmps5
  go_wp2
  go_loop [3] (fun i => ∃ k : Nat, k ≤ s.size ∧ i = .int .i64 k ∧ Hid (∀ j, j < k → sp (bt s j) = false)) (fun i => s.size - (intOf i).toNat)
  case atStart => exact ⟨0, Nat.zero_le _, rfl, fun j hj => absurd hj (Nat.not_lt_zero j)⟩
  case round =>
    obtain ⟨k, hk, rfl, hall⟩ := hrel
    by_cases hlt : k < s.size
    · have HE : Hid (bt s k = (s[k].toNat : Int)) := bt_in s k hlt
      by_cases h1 : (s[k].toNat : Int) = 60
      · have hf := okB_false s k hlt (by rw [HE.out, h1]; rfl)
        go_wp2
        go_ret
        exact ⟨rfl, rfl⟩
      by_cases h2 : (s[k].toNat : Int) = 62
      · have hf := okB_false s k hlt (by rw [HE.out, h2]; rfl)
        go_wp2
        go_ret
        exact ⟨rfl, rfl⟩
      by_cases h3 : (s[k].toNat : Int) = 38
      · have hf := okB_false s k hlt (by rw [HE.out, h3]; rfl)
        go_wp2
        go_ret
        exact ⟨rfl, rfl⟩
      by_cases h4 : (s[k].toNat : Int) = 8
      · have hf := okB_false s k hlt (by rw [HE.out, h4]; rfl)
        go_wp2
        go_ret
        exact ⟨rfl, rfl⟩
      by_cases h5 : (s[k].toNat : Int) = 12
      · have hf := okB_false s k hlt (by rw [HE.out, h5]; rfl)
        go_wp2
        go_ret
        exact ⟨rfl, rfl⟩
      have hn : Hid (sp (bt s k) = false) := by
        show sp (bt s k) = false
        rw [HE.out]; simp [sp, h1, h2, h3, h4, h5]
      have g1 : ((s[k].toNat : Int) == 60) = false := by simpa using h1
      have g2 : ((s[k].toNat : Int) == 62) = false := by simpa using h2
      have g3 : ((s[k].toNat : Int) == 38) = false := by simpa using h3
      have g4 : ((s[k].toNat : Int) == 8) = false := by simpa using h4
      have g5 : ((s[k].toNat : Int) == 12) = false := by simpa using h5
      clear h1 h2 h3 h4 h5
      go_wp2
      go_round
      case rel => exact ⟨k + 1, by omega, by go_num, fun j hj => by
        rcases (show j < k ∨ j = k from by omega) with h | rfl
        · exact hall.out j h
        · exact hn.out⟩
      case measure => simp [intOf]; omega
    · have hf : okB s = true := okB_true s fun j hj => hall.out j (by omega)
      go_wp2
      go_ret
      exact ⟨rfl, rfl⟩
end Go.Proofs.Qxb6608953a
