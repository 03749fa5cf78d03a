import Derived.Test.Qxb6608927aFmtRows
import Derived.WalkKit
import Derived.WalkSpells
import Derived.ProofKit
import Derived.Handy
import Derived.Laws.BitsAllLaws
import Derived.Stop.LaidErr
import Derived.Deep.QuietTactic
import Derived.BigQuiet
import Derived.Laws.BytesArg
import Derived.WalkSmall
namespace Go.Proofs.Qxb6608927aFmt
open Go.RowKit

theorem or_join (i : Nat) (x y : Int) (x0 : 0 ≤ x) (x1 : x < 18446744073709551616) (y0 : 0 ≤ y) (y1 : y < 18446744073709551616) (hx : x.toNat % 2 ^ i = 0) (hy : y.toNat < 2 ^ i) : bits .or .u64 x y = x + y := by
  rw [u64_or x y x0 x1 y0 y1, nat_join i _ _ hx hy]
  omega
theorem or_join' (i : Nat) (x y : Int) (x0 : 0 ≤ x) (x1 : x < 18446744073709551616) (y0 : 0 ≤ y) (y1 : y < 18446744073709551616) (hx : x.toNat % 2 ^ i = 0) (hy : y.toNat < 2 ^ i) : bits .or .u64 y x = y + x := by
  rw [u64_or y x y0 y1 x0 x1, Nat.or_comm, nat_join i _ _ hx hy]
  omega

set_option linter.unusedVariables false in
theorem ofWire_any (v : Int) (h0 : 0 ≤ v) (h1 : v < 18446744073709551616) (w : World) :
    Calls Tryf.prog 19 #[.int .u64 v] w fun e w' => e = .returned (.agg #[.int .u64 (v / 65536), .int .u16 (v % 65536)]) ∧ ∃ c, w' = w.alloc (.cells c 25) := by
  go_enter Tryf.func19, Tryf.ntmps19
  go_wp2
  simp [bodyPost, results, Tryf.results19, go_sem]
  exact ⟨IntKind.wrap_u16 v, _, rfl⟩

theorem zzOfWire_any (v : Int) (h0 : 0 ≤ v) (h1 : v < 18446744073709551616) (w : World) :
    Calls Tryf.prog 6 #[.int .u64 v] w fun e w' => e = .returned (.agg #[.int .u64 (v / 65536), .int .u16 (v % 65536)]) ∧ ∃ c1 c2, w' = (w.alloc (.cells c1 25)).alloc (.cells c2 25) := by
  go_enter Tryf.func6, Tryf.ntmps6
  go_wp2_with (go_at_call 19; refine (ofWire_any v h0 h1 _).mono ?_; rintro e w' ⟨rfl, c, rfl⟩)
  simp [bodyPost, results, Tryf.results6, go_sem]
  exact ⟨_, _, rfl⟩

set_option linter.unusedVariables false in
theorem wireOf_any (l c : Int) (l0 : 0 ≤ l) (l1 : l < 281474976710656) (c0 : 0 ≤ c) (c1 : c < 65536) (w : World) :
    Calls Tryf.prog 7 #[.agg #[.int .u64 l, .int .u16 c]] w fun e w' => e = .returned (.int .u64 (l * 65536 + c)) ∧ ∃ c1, w' = w.alloc (.cells c1 25) := by
  go_enter Tryf.func7, Tryf.ntmps7
  go_wp2
  go_ret
  refine ⟨?_, _, rfl⟩
  have e : bits .or .u64 (l * 65536) c = l * 65536 + c := or_join 16 _ _ (by omega) (by omega) (by omega) (by omega) (by omega) (by omega)
  simp [e]

theorem hmk8 (w : World) : (Instr.makeSlice 31 (.int .i64 8) (.int .i64 8)).run Tryf.prog w = .ok (.slice (some ⟨w.heap.size, 0, none⟩) 8 8) (w.alloc (.cells #[.int .u8 0, .int .u8 0, .int .u8 0, .int .u8 0, .int .u8 0, .int .u8 0, .int .u8 0, .int .u8 0] 5)) := by kernel_rfl

set_option linter.unusedVariables false in
theorem be8_any (v : Int) (h0 : 0 ≤ v) (h1 : v < 18446744073709551616) (w : World) :
    Calls Tryf.prog 9 #[.int .u64 v] w fun e w' => e = .returned (.slice (some ⟨w.heap.size, 0, none⟩) 8 8) ∧ w' = w.alloc (.cells #[.int .u8 (v / 72057594037927936), .int .u8 (v / 281474976710656 % 256), .int .u8 (v / 1099511627776 % 256), .int .u8 (v / 4294967296 % 256), .int .u8 (v / 16777216 % 256), .int .u8 (v / 65536 % 256), .int .u8 (v / 256 % 256), .int .u8 (v % 256)] 5) := by
  have hmk := hmk8
  go_enter Tryf.func9, Tryf.ntmps9
  go_wp2
  go_rounds 9
  go_ret
  exact ⟨rfl, rfl⟩

set_option maxHeartbeats 8000000 in
set_option maxRecDepth 100000 in
theorem uint64_any (b : Nat) (b0 b1 b2 b3 b4 b5 b6 b7 : Int) (w : World)
    (h0 : 0 ≤ b0 ∧ b0 < 256) (h1 : 0 ≤ b1 ∧ b1 < 256) (h2 : 0 ≤ b2 ∧ b2 < 256) (h3 : 0 ≤ b3 ∧ b3 < 256) (h4 : 0 ≤ b4 ∧ b4 < 256) (h5 : 0 ≤ b5 ∧ b5 < 256) (h6 : 0 ≤ b6 ∧ b6 < 256) (h7 : 0 ≤ b7 ∧ b7 < 256)
    (c0 : w.cell? ⟨b, 0, none⟩ = some (.int .u8 b0)) (c1 : w.cell? ⟨b, 1, none⟩ = some (.int .u8 b1)) (c2 : w.cell? ⟨b, 2, none⟩ = some (.int .u8 b2)) (c3 : w.cell? ⟨b, 3, none⟩ = some (.int .u8 b3)) (c4 : w.cell? ⟨b, 4, none⟩ = some (.int .u8 b4)) (c5 : w.cell? ⟨b, 5, none⟩ = some (.int .u8 b5)) (c6 : w.cell? ⟨b, 6, none⟩ = some (.int .u8 b6)) (c7 : w.cell? ⟨b, 7, none⟩ = some (.int .u8 b7)) :
    Calls Tryf.prog 21 #[.agg #[], .slice (some ⟨b, 0, none⟩) 8 8] w fun e w' => e = .returned (.int .u64 (b7 + b6 * 256 + b5 * 65536 + b4 * 16777216 + b3 * 4294967296 + b2 * 1099511627776 + b1 * 281474976710656 + b0 * 72057594037927936)) ∧ ∃ n, w' = (w.alloc (.cells #[] 49)).drewN n := by
  have d0 := cell?_alloc_old (.cells #[] 49) c0
  have d1 := cell?_alloc_old (.cells #[] 49) c1
  have d2 := cell?_alloc_old (.cells #[] 49) c2
  have d3 := cell?_alloc_old (.cells #[] 49) c3
  have d4 := cell?_alloc_old (.cells #[] 49) c4
  have d5 := cell?_alloc_old (.cells #[] 49) c5
  have d6 := cell?_alloc_old (.cells #[] 49) c6
  have d7 := cell?_alloc_old (.cells #[] 49) c7
  obtain ⟨h0, g0⟩ := h0; obtain ⟨h1, g1⟩ := h1; obtain ⟨h2, g2⟩ := h2; obtain ⟨h3, g3⟩ := h3; obtain ⟨h4, g4⟩ := h4; obtain ⟨h5, g5⟩ := h5; obtain ⟨h6, g6⟩ := h6; obtain ⟨h7, g7⟩ := h7
  go_enter Tryf.func21, Tryf.ntmps21
  go_wp2
  go_quiet (fail)
  go_wp2
  go_ret
  refine ⟨?_, _, rfl⟩
  rw [or_join' 8 (b6 * 256) b7 (by omega) (by omega) (by omega) (by omega) (by omega) (by omega),
    or_join' 16 (b5 * 65536) _ (by omega) (by omega) (by omega) (by omega) (by omega) (by omega),
    or_join' 24 (b4 * 16777216) _ (by omega) (by omega) (by omega) (by omega) (by omega) (by omega),
    or_join' 32 (b3 * 4294967296) _ (by omega) (by omega) (by omega) (by omega) (by omega) (by omega),
    or_join' 40 (b2 * 1099511627776) _ (by omega) (by omega) (by omega) (by omega) (by omega) (by omega),
    or_join' 48 (b1 * 281474976710656) _ (by omega) (by omega) (by omega) (by omega) (by omega) (by omega),
    or_join' 56 (b0 * 72057594037927936) _ (by omega) (by omega) (by omega) (by omega) (by omega) (by omega)]
  rfl

def hexd (d : Int) : Int := if d < 10 then d + 48 else d + 87

theorem hexDigit_any (d : Int) (h0 : 0 ≤ d) (h1 : d < 16) (w : World) :
    Calls Tryf.prog 24 #[.int .u64 d] w fun e w' => e = .returned (.int .u8 (hexd d)) ∧ w' = w := by
  by_cases h : d < 10
  · go_enter Tryf.func24, Tryf.ntmps24
    go_wp2
    go_ret
    exact ⟨by simp [hexd, h], rfl⟩
  · go_enter Tryf.func24, Tryf.ntmps24
    go_wp2
    go_ret
    exact ⟨by simp [hexd]; omega, rfl⟩

theorem hexDigit_and (x : Int) (h0 : 0 ≤ x) (h1 : x < 18446744073709551616) (w : World) :
    Calls Tryf.prog 24 #[.int .u64 (bits .and .u64 x 15)] w fun e w' => e = .returned (.int .u8 (hexd (x % 16))) ∧ w' = w := by
  have e : bits .and .u64 x 15 = x % 16 := by
    rw [u64_and x 15 h0 h1 (by omega) (by omega), show (15 : Int).toNat = 15 from rfl, nat_mask4]
    omega
  rw [e]
  exact hexDigit_any _ (by omega) (by omega) w

theorem hmk16 (w : World) : (Instr.makeSlice 31 (.int .i64 16) (.int .i64 16)).run Tryf.prog w = .ok (.slice (some ⟨w.heap.size, 0, none⟩) 16 16) (w.alloc (.cells #[.int .u8 0, .int .u8 0, .int .u8 0, .int .u8 0, .int .u8 0, .int .u8 0, .int .u8 0, .int .u8 0, .int .u8 0, .int .u8 0, .int .u8 0, .int .u8 0, .int .u8 0, .int .u8 0, .int .u8 0, .int .u8 0] 5)) := by kernel_rfl

theorem conv16 (w : World) (x0 x1 x2 x3 x4 x5 x6 x7 x8 x9 x10 x11 x12 x13 x14 x15 : Int) : (convert 31 9 (.slice (some ⟨w.heap.size, 0, none⟩) 16 16)).run Tryf.prog (w.alloc (.cells #[.int .u8 x0, .int .u8 x1, .int .u8 x2, .int .u8 x3, .int .u8 x4, .int .u8 x5, .int .u8 x6, .int .u8 x7, .int .u8 x8, .int .u8 x9, .int .u8 x10, .int .u8 x11, .int .u8 x12, .int .u8 x13, .int .u8 x14, .int .u8 x15] 5)) = .ok (.string (strOfNums [x0, x1, x2, x3, x4, x5, x6, x7, x8, x9, x10, x11, x12, x13, x14, x15])) (w.alloc (.cells #[.int .u8 x0, .int .u8 x1, .int .u8 x2, .int .u8 x3, .int .u8 x4, .int .u8 x5, .int .u8 x6, .int .u8 x7, .int .u8 x8, .int .u8 x9, .int .u8 x10, .int .u8 x11, .int .u8 x12, .int .u8 x13, .int .u8 x14, .int .u8 x15] 5)) := by
  refine run_convert_bytes_arg _ 31 5 Tryf.underlying31 Tryf.underlying5 w.heap.size 0 16 16 [x0, x1, x2, x3, x4, x5, x6, x7, x8, x9, x10, x11, x12, x13, x14, x15] rfl ?_ 9 Tryf.underlying9
  intro i hi
  match i, hi with
  | 0, _ | 1, _ | 2, _ | 3, _ | 4, _ | 5, _ | 6, _ | 7, _ | 8, _ | 9, _ | 10, _ | 11, _ | 12, _ | 13, _ | 14, _ | 15, _ => simp [go_sem]
  | n + 16, h => omega

def hexNums (v : Int) : List Int := [hexd (v / 1152921504606846976 % 16), hexd (v / 72057594037927936 % 16), hexd (v / 4503599627370496 % 16), hexd (v / 281474976710656 % 16), hexd (v / 17592186044416 % 16), hexd (v / 1099511627776 % 16), hexd (v / 68719476736 % 16), hexd (v / 4294967296 % 16), hexd (v / 268435456 % 16), hexd (v / 16777216 % 16), hexd (v / 1048576 % 16), hexd (v / 65536 % 16), hexd (v / 4096 % 16), hexd (v / 256 % 16), hexd (v / 16 % 16), hexd (v % 16)]

theorem hex16_any (v : Int) (h0 : 0 ≤ v) (h1 : v < 18446744073709551616) (w : World) :
    Calls Tryf.prog 11 #[.int .u64 v] w fun e w' => e = .returned (.string (strOfNums (hexNums v))) ∧ ∃ c, w' = w.alloc (.cells c 5) := by
  have hmk := hmk16
  have hcv := conv16
  go_enter Tryf.func11, Tryf.ntmps11
  go_wp2
  refine wp_loop_rounds 17 ?_
  repeat any_goals (rw [rounds_succ]; go_wp2_with (go_at_call 24; refine (hexDigit_and _ (by omega) (by omega) _).mono ?_; rintro e w' ⟨rfl, rfl⟩))
  go_ret
  exact ⟨rfl, _, rfl⟩
end Go.Proofs.Qxb6608927aFmt
