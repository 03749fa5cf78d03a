import Derived.Test.Qxb6608927aRows
import Derived.WalkKit
import Derived.WalkSpells
import Derived.ProofKit
namespace Go.Proofs.Qxb6608927a
open Go.RowKit

theorem wrap16_mod (v : Int) : IntKind.u16.wrap v = v % 65536 := by
  simp [IntKind.wrap, IntKind.signed, IntKind.bits]

theorem grown_trans {a b c : World} (h : Grown a b) (g : Grown b c) : Grown a c :=
  ⟨World.keptBut_trans h.1 g.1, fun x => (g.2.1 x).trans (h.2.1 x), Nat.le_trans h.2.2 g.2.2⟩

set_option linter.unusedVariables false in
theorem ofWire_any (v : Int) (h0 : 0 ≤ v) (h1 : v < 18446744073709551616) (w : World) :
    Calls Try.prog 13 #[.int .u64 v] w fun e w' => e = .returned (.agg #[.int .u64 (v / 65536), .int .u16 (v % 65536)]) ∧ ∃ c, w' = w.alloc (.cells c 25) := by
  go_enter Try.func13, Try.ntmps13
  go_wp2
  simp [bodyPost, results, Try.results13, go_sem]
  exact ⟨wrap16_mod v, _, rfl⟩

theorem zzOfWire_any (v : Int) (h0 : 0 ≤ v) (h1 : v < 18446744073709551616) (w : World) :
    Calls Try.prog 5 #[.int .u64 v] w fun e w' => e = .returned (.agg #[.int .u64 (v / 65536), .int .u16 (v % 65536)]) ∧ ∃ c1 c2, w' = (w.alloc (.cells c1 25)).alloc (.cells c2 25) := by
  go_enter Try.func5, Try.ntmps5
  go_wp2_with (go_at_call 13; refine (ofWire_any v h0 h1 _).mono ?_; rintro e w' ⟨rfl, c, rfl⟩)
  simp [bodyPost, results, Try.results5, go_sem]
  exact ⟨_, _, rfl⟩

def lessB (al ac bl bc : Int) : Bool := if al = bl then decide (ac < bc) else decide (al < bl)

theorem less_any (al ac bl bc : Int) (w : World) :
    Calls Try.prog 14 #[.agg #[.int .u64 al, .int .u16 ac], .agg #[.int .u64 bl, .int .u16 bc]] w fun e w' =>
      e = .returned (.bool (lessB al ac bl bc)) ∧ ∃ c1 c2, w' = (w.alloc (.cells c1 25)).alloc (.cells c2 25) := by
  by_cases h : al = bl
  · subst h
    go_enter Try.func14, Try.ntmps14
    go_wp2
    go_ret
    exact ⟨by simp [lessB], _, _, rfl⟩
  · have h' : (al == bl) = false := by simpa using h
    go_enter Try.func14, Try.ntmps14
    go_wp2
    go_ret
    exact ⟨by simp [lessB, h], _, _, rfl⟩

def cmpI (x y : Bool) : Int := if x then -1 else if y then 1 else 0

theorem cmp_any (al ac bl bc : Int) (w : World) :
    Calls Try.prog 6 #[.agg #[.int .u64 al, .int .u16 ac], .agg #[.int .u64 bl, .int .u16 bc]] w fun e w' =>
      e = .returned (.int .i64 (cmpI (lessB al ac bl bc) (lessB bl bc al ac))) ∧ Grown w w' := by
  cases h1 : lessB al ac bl bc
  · cases h2 : lessB bl bc al ac
    · go_enter Try.func6, Try.ntmps6
      go_wp2_with (go_at_call 14; refine (less_any _ _ _ _ _).mono ?_; rintro e w' ⟨rfl, c1, c2, rfl⟩)
      go_ret
      exact ⟨by simp [cmpI], by repeat (first | exact Grown.refl _ | apply Grown.drew | apply Grown.alloc)⟩
    · go_enter Try.func6, Try.ntmps6
      go_wp2_with (go_at_call 14; refine (less_any _ _ _ _ _).mono ?_; rintro e w' ⟨rfl, c1, c2, rfl⟩)
      go_ret
      exact ⟨by simp [cmpI], by repeat (first | exact Grown.refl _ | apply Grown.drew | apply Grown.alloc)⟩
  · go_enter Try.func6, Try.ntmps6
    go_wp2_with (go_at_call 14; refine (less_any _ _ _ _ _).mono ?_; rintro e w' ⟨rfl, c1, c2, rfl⟩)
    go_ret
    exact ⟨by simp [cmpI], by repeat (first | exact Grown.refl _ | apply Grown.drew | apply Grown.alloc)⟩

theorem u64Cmp_any (a b : Int) (w : World) :
    Calls Try.prog 7 #[.int .u64 a, .int .u64 b] w fun e w' =>
      e = .returned (.int .i64 (cmpI (decide (a < b)) (decide (b < a)))) ∧ w' = w := by
  by_cases h1 : a < b
  · go_enter Try.func7, Try.ntmps7
    go_wp2
    go_ret
    exact ⟨by simp [cmpI, h1], rfl⟩
  · by_cases h2 : b < a
    · go_enter Try.func7, Try.ntmps7
      go_wp2
      go_ret
      exact ⟨by simp [cmpI]; omega, rfl⟩
    · go_enter Try.func7, Try.ntmps7
      go_wp2
      go_ret
      exact ⟨by simp [cmpI]; omega, rfl⟩

theorem less_wire (a b : Int) : lessB (a / 65536) (a % 65536) (b / 65536) (b % 65536) = decide (a < b) := by
  unfold lessB
  split <;> rw [Bool.eq_iff_iff] <;> simp <;> omega

theorem law_walk (a b : Int) (a0 : 0 ≤ a) (a1 : a < 18446744073709551616) (b0 : 0 ≤ b) (b1 : b < 18446744073709551616) (w : World) :
    Calls Try.prog 3 #[.int .u64 a, .int .u64 b] w fun e w' => e = .returned (.bool true) ∧ Grown w w' := by
  go_enter Try.func3, Try.ntmps3
  go_wp2_with fail
  refine (zzOfWire_any a a0 a1 _).mono ?_; rintro e w' ⟨rfl, c1, c2, rfl⟩
  go_wp2_with fail
  refine (zzOfWire_any b b0 b1 _).mono ?_; rintro e w' ⟨rfl, d1, d2, rfl⟩
  go_wp2_with fail
  refine (cmp_any _ _ _ _ _).mono ?_; rintro e w2 ⟨rfl, hg⟩
  rw [less_wire a b, less_wire b a]
  go_wp2_with fail
  refine (u64Cmp_any _ _ _).mono ?_; rintro e w3 ⟨rfl, rfl⟩
  go_wp2
  go_ret
  refine ⟨by simp, grown_trans ?_ hg⟩
  repeat (first | exact Grown.refl _ | apply Grown.drew | apply Grown.alloc)
end Go.Proofs.Qxb6608927a
