import Derived.Test.Qxb6614376aDue
namespace Go.Proofs.Qxb6614376a
open Go.RowKit
open Go.MuLone

theorem row_setCell {w : World} {b j : Nat} {c : Array Value} {v : Value} {t : TypeId} (h : w.heap[b]? = some (.cells c t (0, 0))) : (w.setCell ⟨b, j, none⟩ v).heap[b]? = some (.cells (c.setIfInBounds j v) t (0, 0)) := by
  have hlt := lt_of_block h
  have h' : w.heap[b] = .cells c t (0, 0) := by simpa [Array.getElem?_eq_getElem hlt] using h
  show (w.heap.modify b _)[b]? = _
  rw [Array.getElem?_eq_getElem (by simpa using hlt), Array.getElem_modify_self, h']
  rfl

theorem load_any (b : Nat) (ls rf mr : Int) (w : World) (hb : w.heap[b]? = some (blk none ls rf mr)) :
    Calls Try.prog 14 #[.pointer (some ⟨b, 0, none⟩)] w fun e w' => e = .returned (.tuple #[]) ∧ w' = (w.setCell ⟨b, 0, none⟩ (.pointer (some ⟨w.heap.size, 0, none⟩))).alloc (.cells #[.map none] 91) := by
  have hlt := lt_of_block hb
  have hb1 : (w.alloc (.cells #[.map none] 91)).heap[b]? = some (blk none ls rf mr) := (Below.heap_alloc w _ b hlt).trans hb
  have c0 : (w.alloc (.cells #[.map none] 91)).cell? ⟨b, 0, none⟩ = some (.pointer none) := cell_of_row _ b 0 _ 87 (0, 0) hb1
  have f0 : (w.alloc (.cells #[.map none] 91)).frozen? ⟨b, 0, none⟩ = false := frozen_of_row _ b 0 _ 87 hb1
  have hg : (w.alloc (.cells #[.map none] 91)).shape? w.heap.size = some (91, 1) := by
    unfold World.shape?
    rw [heap_alloc_new]
    rfl
  go_enter Try.func14, Try.ntmps14
  go_wp2_with fail
  refine (store_any b w.heap.size _ _ c0 f0 hg).mono ?_
  rintro e w' ⟨rfl, rfl⟩
  go_wp2
  go_end0
  exact ⟨rfl, rfl⟩

/-- the lock taken and given back: the old blocks are as they were -/
theorem below_lock {w w5 : World} {b : Nat} {p : Option Addr} {ls rf mr : Int} (hb : w.heap[b]? = some (blk p ls rf mr)) (h : Below w.heap.size (w.setCell ⟨b, 9, none⟩ (.int .i32 1)) w5) :
    Below w.heap.size w (w5.setCell ⟨b, 9, none⟩ (.int .i32 0)) := by
  have hlt := lt_of_block hb
  have h1 : (w.setCell ⟨b, 9, none⟩ (.int .i32 1)).heap[b]? = _ := row_setCell (j := 9) (v := .int .i32 1) hb
  have h5 : w5.heap[b]? = _ := (h.block b hlt).trans h1
  have h6 : (w5.setCell ⟨b, 9, none⟩ (.int .i32 0)).heap[b]? = _ := row_setCell (j := 9) (v := .int .i32 0) h5
  refine ⟨h.os, h.tape, h.output, ?_, ?_⟩
  · have := h.size
    simp at this ⊢
    exact this
  · intro k hk
    by_cases e : k = b
    · subst e
      rw [h6, hb]
      rfl
    · rw [Below.heap_setCell w5 ⟨b, 9, none⟩ _ k e, h.block k hk, Below.heap_setCell w ⟨b, 9, none⟩ _ k e]

set_option maxRecDepth 100000 in
set_option maxHeartbeats 1000000 in
theorem off_of (b : Nat) (p : Option Addr) (ls rf mr x : Int) (x0 : -4800000000000000000 ≤ x) (x1 : x ≤ 4800000000000000000) (w : World) (hb : w.heap[b]? = some (blk p ls rf mr))
    (HDUE : Hid (Calls Try.prog 31 #[.pointer (some ⟨b, 0, none⟩)] (w.setCell ⟨b, 9, none⟩ (.int .i32 1)) fun e w' => e = .returned (tm x) ∧ Below w.heap.size (w.setCell ⟨b, 9, none⟩ (.int .i32 1)) w')) :
    Calls Try.prog 15 #[.pointer (some ⟨b, 0, none⟩)] w fun e w' => e = .returned (.int .i64 x) ∧ Below w.heap.size w w' := by
  have hlt := lt_of_block hb
  have c9 : w.cell? ⟨b, 9, none⟩ = some (.int .i32 0) := cell_of_row _ b 9 _ 87 (0, 0) hb
  have f9 : w.frozen? ⟨b, 9, none⟩ = false := frozen_of_row _ b 9 _ 87 hb
  go_enter_defers Try.func15, Try.ntmps15
  go_wp2_with (go_at_call 29; refine (lock_free Try.muLib ⟨b, 9, none⟩ _ c9 f9).mono ?_; rintro e w' ⟨rfl, rfl⟩)
  refine HDUE.out.mono ?_
  rintro e w3 ⟨rfl, hb3⟩
  go_wp2_with fail
  refine (sub_tm x x0 x1 _).mono ?_
  rintro e w4 ⟨rfl, hb4⟩
  have hs3 : w.heap.size ≤ w3.heap.size := by have := hb3.size; simpa using this
  have hb5 : Below w.heap.size (w.setCell ⟨b, 9, none⟩ (.int .i32 1)) w4 := hb3.trans (hb4.mono hs3)
  have h9 : (w.setCell ⟨b, 9, none⟩ (.int .i32 1)).heap[b]? = _ := row_setCell (j := 9) (v := .int .i32 1) hb
  have h94 : w4.heap[b]? = _ := (hb5.block b hlt).trans h9
  have k9 : w4.cell? ⟨b, 9, none⟩ = some (.int .i32 1) := cell_of_row _ b 9 _ 87 (0, 0) h94
  have kf : w4.frozen? ⟨b, 9, none⟩ = false := frozen_of_row _ b 9 _ 87 h94
  have fin := below_lock hb hb5
  clear hb3 hb4 hb5 h9 h94
  go_wp2
  refine leaves_cons (f := 30) (args := #[.pointer (some ⟨b, 9, none⟩)]) (by simp) (by simp [go_sem]) ?_
  refine (unlock_deferred Try.muLib ⟨b, 9, none⟩ .returning _ k9 kf).mono ?_
  rintro e u' w'' ⟨rfl, rfl, rfl⟩
  exact ⟨_, results_tmp rfl _ _ _, rfl, fin⟩
end Go.Proofs.Qxb6614376a
