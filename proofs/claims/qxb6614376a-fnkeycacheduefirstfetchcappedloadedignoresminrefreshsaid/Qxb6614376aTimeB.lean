import Derived.Test.Qxb6614376aTimeA
import Derived.Deep.RegionHeld3
import Derived.Laws.Pointers
namespace Go.Proofs.Qxb6614376a
open Go.RowKit

theorem add_zero (a y : Int) (a0 : 0 ≤ a) (a1 : a < 1000000000) (y0 : -4900000000 ≤ y) (y1 : y ≤ 4900000000) (w : World) :
    Calls Try.prog 24 #[.agg #[.int .u64 0, .int .i64 0, .pointer none], .int .i64 (y * 1000000000 + a)] w fun e w' => e = .returned (.agg #[.int .u64 a, .int .i64 y, .pointer none]) ∧ ∃ c1 c2, w' = (w.alloc (.cells c1 62)).alloc (.cells c2 62) := by
  have h := add_tm 0 (y * 1000000000 + a) (by omega) (by omega) (by omega) (by omega) w
  have e : tm (0 + (y * 1000000000 + a)) = .agg #[.int .u64 a, .int .i64 y, .pointer none] := by
    unfold tm
    rw [show (0 + (y * 1000000000 + a)) % 1000000000 = a from by omega, show (0 + (y * 1000000000 + a)) / 1000000000 = y from by omega]
  rw [e] at h
  exact h

set_option maxRecDepth 100000 in
set_option maxHeartbeats 1000000 in
theorem sub_zero (a y : Int) (a0 : 0 ≤ a) (a1 : a < 1000000000) (y0 : -4900000000 ≤ y) (y1 : y ≤ 4900000000) (w : World) :
    Calls Try.prog 27 #[.agg #[.int .u64 a, .int .i64 y, .pointer none], .agg #[.int .u64 0, .int .i64 0, .pointer none]] w fun e w' => e = .returned (.int .i64 (y * 1000000000 + a)) ∧ Below w.heap.size w w' := by
  have k1 := nsec_of a a0 (by omega)
  have k2 := and_zero64 a a0 (by omega)
  have k3 := mono0 a a0 (by omega)
  have k4 := nsec_of 0 (by omega) (by omega)
  have k5 := mono0 0 (by omega) (by omega)
  go_enter Try.func27, Try.ntmps27
  go_wp2
  go_region_held3 (fun w' => w'.cell? ⟨w.heap.size, 0, none⟩ = some (.int .u64 a) ∧ w'.cell? ⟨w.heap.size, 1, none⟩ = some (.int .i64 y) ∧ w'.cell? ⟨w.heap.size, 2, none⟩ = some (.pointer none) ∧ w'.cell? ⟨w.heap.size + 1, 0, none⟩ = some (.int .u64 0) ∧ w'.cell? ⟨w.heap.size + 1, 1, none⟩ = some (.int .i64 0) ∧ w'.cell? ⟨w.heap.size + 1, 2, none⟩ = some (.pointer none)) (simp [go_sem, World.cell?_alloc_past])
    (first
      | (go_at_call 24; refine (add_zero a y a0 a1 y0 y1 _).mono ?_; rintro e w' ⟨rfl, o1, o2, rfl⟩)
      | (go_at_call 40; refine (equal_same a y a0 a1 _).mono ?_; rintro e w' ⟨rfl, o1, o2, rfl⟩))
  go_wp2
  go_ret
  exact ⟨rfl, by go_grown⟩

/-- Sub of the zero Time: the nanoseconds -/
theorem sub_tm (x : Int) (x0 : -4800000000000000000 ≤ x) (x1 : x ≤ 4800000000000000000) (w : World) :
    Calls Try.prog 27 #[tm x, .agg #[.int .u64 0, .int .i64 0, .pointer none]] w fun e w' => e = .returned (.int .i64 x) ∧ Below w.heap.size w w' := by
  have h := sub_zero (x % 1000000000) (x / 1000000000) (by omega) (by omega) (by omega) (by omega) w
  rw [show x / 1000000000 * 1000000000 + x % 1000000000 = x from by omega] at h
  exact h
end Go.Proofs.Qxb6614376a
