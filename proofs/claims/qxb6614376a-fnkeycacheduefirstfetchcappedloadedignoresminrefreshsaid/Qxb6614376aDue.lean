import Derived.Test.Qxb6614376aCache
namespace Go.Proofs.Qxb6614376a
open Go.RowKit
set_option linter.unusedVariables false

theorem shape_alloc {w : World} {g : Nat} {t : TypeId} {n : Nat} {o : Obj} (h : w.shape? g = some (t, n)) : (w.alloc o).shape? g = some (t, n) := by
  have hlt : g < w.heap.size := by
    unfold World.shape? at h
    cases hh : w.heap[g]? with
    | none => rw [hh] at h; cases h
    | some x => exact (Array.getElem?_eq_some_iff.1 hh).1
  have e : (w.alloc o).heap[g]? = w.heap[g]? := Below.heap_alloc w o g hlt
  unfold World.shape? at h ⊢
  rw [e]
  exact h

set_option maxRecDepth 100000 in
set_option maxHeartbeats 1000000 in
theorem due_low (b : Nat) (ls mr : Int) (l0 : -2305843009213693952 ≤ ls) (l1 : ls ≤ 2305843009213693952) (m0 : -2305843009213693952 ≤ mr) (m1 : mr ≤ 2305843009213693952) (hm : mr ≤ 5000000000) (w : World) (hb : b < w.heap.size)
    (c0 : w.cell? ⟨b, 0, none⟩ = some (.pointer none)) (c7 : w.cell? ⟨b, 7, none⟩ = some (.int .i64 mr))
    (c11 : w.cell? ⟨b, 11, none⟩ = some (.int .u64 (ls % 1000000000))) (c12 : w.cell? ⟨b, 12, none⟩ = some (.int .i64 (ls / 1000000000))) (c13 : w.cell? ⟨b, 13, none⟩ = some (.pointer none)) :
    Calls Try.prog 31 #[.pointer (some ⟨b, 0, none⟩)] w fun e w' => e = .returned (tm (ls + mr)) ∧ Below w.heap.size w w' := by
  have hmin : (if (5000000000 : Int) < mr then 5000000000 else mr) = mr := if_neg (by omega)
  go_enter Try.func31, Try.ntmps31
  go_wp2_with fail
  refine (load_nil b _ (cell?_alloc_old _ c0)).mono ?_
  rintro e w' ⟨rfl, rfl⟩
  go_wp2_with fail
  go_region_held3 (fun w' => w'.cell? ⟨b, 7, none⟩ = some (.int .i64 mr) ∧ w'.cell? ⟨b, 11, none⟩ = some (.int .u64 (ls % 1000000000)) ∧ w'.cell? ⟨b, 12, none⟩ = some (.int .i64 (ls / 1000000000)) ∧ w'.cell? ⟨b, 13, none⟩ = some (.pointer none)) (refine ⟨?_, ?_, ?_, ?_⟩ <;> repeat' (first | (with_reducible assumption) | (with_reducible refine cell_drew ?_) | (with_reducible refine cell?_alloc_old _ ?_)))
    ((go_at_call 24; refine (add_agg ls mr (by omega) (by omega) (by omega) (by omega) _).mono ?_; rintro e w' ⟨rfl, o1, o2, rfl⟩))
  go_wp2
  exact bodyPost_ret (v := tm (ls + mr)) (by simp [results, Try.results31, go_sem, tm]) rfl ⟨rfl, by go_grown⟩


set_option maxRecDepth 100000 in
set_option maxHeartbeats 1000000 in
theorem due_high (b : Nat) (ls mr : Int) (l0 : -2305843009213693952 ≤ ls) (l1 : ls ≤ 2305843009213693952) (m0 : -2305843009213693952 ≤ mr) (m1 : mr ≤ 2305843009213693952) (hm : 5000000000 < mr) (w : World) (hb : b < w.heap.size)
    (c0 : w.cell? ⟨b, 0, none⟩ = some (.pointer none)) (c7 : w.cell? ⟨b, 7, none⟩ = some (.int .i64 mr))
    (c11 : w.cell? ⟨b, 11, none⟩ = some (.int .u64 (ls % 1000000000))) (c12 : w.cell? ⟨b, 12, none⟩ = some (.int .i64 (ls / 1000000000))) (c13 : w.cell? ⟨b, 13, none⟩ = some (.pointer none)) :
    Calls Try.prog 31 #[.pointer (some ⟨b, 0, none⟩)] w fun e w' => e = .returned (tm (ls + 5000000000)) ∧ Below w.heap.size w w' := by
  go_enter Try.func31, Try.ntmps31
  go_wp2_with fail
  refine (load_nil b _ (cell?_alloc_old _ c0)).mono ?_
  rintro e w' ⟨rfl, rfl⟩
  go_wp2_with fail
  go_region_held3 (fun w' => w'.cell? ⟨b, 7, none⟩ = some (.int .i64 mr) ∧ w'.cell? ⟨b, 11, none⟩ = some (.int .u64 (ls % 1000000000)) ∧ w'.cell? ⟨b, 12, none⟩ = some (.int .i64 (ls / 1000000000)) ∧ w'.cell? ⟨b, 13, none⟩ = some (.pointer none)) (refine ⟨?_, ?_, ?_, ?_⟩ <;> repeat' (first | (with_reducible assumption) | (with_reducible refine cell_drew ?_) | (with_reducible refine cell?_alloc_old _ ?_)))
    ((go_at_call 24; refine (add_agg ls 5000000000 (by omega) (by omega) (by omega) (by omega) _).mono ?_; rintro e w' ⟨rfl, o1, o2, rfl⟩))
  go_wp2
  exact bodyPost_ret (v := tm (ls + 5000000000)) (by simp [results, Try.results31, go_sem, tm]) rfl ⟨rfl, by go_grown⟩


set_option maxRecDepth 100000 in
set_option maxHeartbeats 1000000 in
theorem due_set (b : Nat) (ls mr : Int) (l0 : -2305843009213693952 ≤ ls) (l1 : ls ≤ 2305843009213693952) (m0 : -2305843009213693952 ≤ mr) (m1 : mr ≤ 2305843009213693952) (g : Nat) (w : World) (hb : b < w.heap.size)
    (c0 : w.cell? ⟨b, 0, none⟩ = some (.pointer (some ⟨g, 0, none⟩))) (hg : w.shape? g = some (91, 1)) (c6 : w.cell? ⟨b, 6, none⟩ = some (.int .i64 mr))
    (c11 : w.cell? ⟨b, 11, none⟩ = some (.int .u64 (ls % 1000000000))) (c12 : w.cell? ⟨b, 12, none⟩ = some (.int .i64 (ls / 1000000000))) (c13 : w.cell? ⟨b, 13, none⟩ = some (.pointer none)) :
    Calls Try.prog 31 #[.pointer (some ⟨b, 0, none⟩)] w fun e w' => e = .returned (tm (ls + mr)) ∧ Below w.heap.size w w' := by
  go_enter Try.func31, Try.ntmps31
  go_wp2_with fail
  refine (load_set b g _ (cell?_alloc_old _ c0) (shape_alloc hg)).mono ?_
  rintro e w' ⟨rfl, rfl⟩
  go_wp2_with fail
  go_region_held3 (fun w' => w'.cell? ⟨b, 6, none⟩ = some (.int .i64 mr) ∧ w'.cell? ⟨b, 11, none⟩ = some (.int .u64 (ls % 1000000000)) ∧ w'.cell? ⟨b, 12, none⟩ = some (.int .i64 (ls / 1000000000)) ∧ w'.cell? ⟨b, 13, none⟩ = some (.pointer none)) (refine ⟨?_, ?_, ?_, ?_⟩ <;> repeat' (first | (with_reducible assumption) | (with_reducible refine cell_drew ?_) | (with_reducible refine cell?_alloc_old _ ?_)))
    ((go_at_call 24; refine (add_agg ls mr (by omega) (by omega) (by omega) (by omega) _).mono ?_; rintro e w' ⟨rfl, o1, o2, rfl⟩))
  go_wp2
  exact bodyPost_ret (v := tm (ls + mr)) (by simp [results, Try.results31, go_sem, tm]) rfl ⟨rfl, by go_grown⟩



/-- atomic.Pointer's Store -/
theorem store_any (b g : Nat) (u : Value) (w : World) (hc : w.cell? ⟨b, 0, none⟩ = some u) (hz : w.frozen? ⟨b, 0, none⟩ = false) (hg : w.shape? g = some (91, 1)) :
    Calls Try.prog 28 #[.pointer (some ⟨b, 0, none⟩), .pointer (some ⟨g, 0, none⟩)] w fun e w' => e = .returned (.tuple #[]) ∧ w' = w.setCell ⟨b, 0, none⟩ (.pointer (some ⟨g, 0, none⟩)) := by
  have hl := storep (y := some ⟨g, 0, none⟩) hc hz
  have hcv := conv_to w g hg
  go_enter Try.func28, Try.ntmps28
  go_wp2
  go_end0
  exact ⟨rfl, rfl⟩
end Go.Proofs.Qxb6614376a
