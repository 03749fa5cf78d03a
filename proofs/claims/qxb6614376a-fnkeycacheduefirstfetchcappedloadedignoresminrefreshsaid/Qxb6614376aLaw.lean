import Derived.Test.Qxb6614376aOff
namespace Go.Proofs.Qxb6614376a
open Go.RowKit

/-- a cache that no fetch has filled -/
def Fresh (w : World) (b : Nat) (ls rf mr : Int) : Prop := w.heap[b]? = some (blk none ls rf mr)
/-- a cache that holds a key set -/
def Full (w : World) (b : Nat) (ls rf mr : Int) : Prop := ∃ g, w.heap[b]? = some (blk (some ⟨g, 0, none⟩) ls rf mr) ∧ w.heap[g]? = some (.cells #[.map none] 91 (0, 0))

theorem Fresh.lt {w : World} {b : Nat} {ls rf mr : Int} (h : Fresh w b ls rf mr) : b < w.heap.size := lt_of_block h
theorem Full.lt {w : World} {b : Nat} {ls rf mr : Int} (h : Full w b ls rf mr) : b < w.heap.size := by obtain ⟨g, h, _⟩ := h; exact lt_of_block h

theorem Fresh.below {w w' : World} {b : Nat} {ls rf mr : Int} (h : Fresh w b ls rf mr) (hb : Below w.heap.size w w') : Fresh w' b ls rf mr := (hb.block b h.lt).trans h
theorem Full.below {w w' : World} {b : Nat} {ls rf mr : Int} (h : Full w b ls rf mr) (hb : Below w.heap.size w w') : Full w' b ls rf mr := by
  obtain ⟨g, h1, h2⟩ := h
  exact ⟨g, (hb.block b (lt_of_block h1)).trans h1, (hb.block g (lt_of_block h2)).trans h2⟩

/-- what filling the cache at b leaves of the other blocks -/
def Filled (w w' : World) (b : Nat) : Prop := w.grownBy w' (some b)

theorem Fresh.filled {w w' : World} {b c : Nat} {ls rf mr : Int} (h : Fresh w b ls rf mr) (hf : Filled w w' c) (hne : b ≠ c) : Fresh w' b ls rf mr :=
  (hf.block b h.lt (by simpa using hne)).trans h
theorem Full.filled {w w' : World} {b c : Nat} {ls rf mr l2 r2 m2 : Int} (h : Full w b ls rf mr) (hc : Fresh w c l2 r2 m2) (hf : Filled w w' c) (hne : b ≠ c) : Full w' b ls rf mr := by
  obtain ⟨g, h1, h2⟩ := h
  have hg : g ≠ c := by
    intro e
    subst e
    rw [Fresh, h2] at hc
    simp [blk] at hc
  exact ⟨g, (hf.block b (lt_of_block h1) (by simpa using hne)).trans h1, (hf.block g (lt_of_block h2) (by simpa using hg)).trans h2⟩

theorem fill_any (b : Nat) (ls rf mr : Int) (w : World) (hb : Fresh w b ls rf mr) :
    Calls Try.prog 14 #[.pointer (some ⟨b, 0, none⟩)] w fun e w' => e = .returned (.tuple #[]) ∧ Full w' b ls rf mr ∧ Filled w w' b := by
  refine (load_any b ls rf mr w hb).mono ?_
  rintro e w' ⟨he, rfl⟩
  have hlt := lt_of_block hb
  have h1 : (w.setCell ⟨b, 0, none⟩ (.pointer (some ⟨w.heap.size, 0, none⟩))).heap[b]? = _ := row_setCell (j := 0) (v := .pointer (some ⟨w.heap.size, 0, none⟩)) hb
  have hsz : (w.setCell ⟨b, 0, none⟩ (.pointer (some ⟨w.heap.size, 0, none⟩))).heap.size = w.heap.size := by simp
  refine ⟨he, ⟨w.heap.size, ?_, ?_⟩, ⟨rfl, rfl, rfl, ?_, ?_⟩⟩
  · exact (Below.heap_alloc _ _ b (by rw [hsz]; exact hlt)).trans h1
  · have := heap_alloc_new (w.setCell ⟨b, 0, none⟩ (.pointer (some ⟨w.heap.size, 0, none⟩))) (.cells #[.map none] 91)
    rw [hsz] at this
    exact this
  · simp
  · intro k hk hne
    rw [Below.heap_alloc _ _ k (by rw [hsz]; exact hk)]
    exact Below.heap_setCell w ⟨b, 0, none⟩ _ k (by simpa using hne)

theorem off_nil (b : Nat) (ls rf mr : Int) (l0 : -2305843009213693952 ≤ ls) (l1 : ls ≤ 2305843009213693952) (m0 : -2305843009213693952 ≤ mr) (m1 : mr ≤ 2305843009213693952) (w : World) (hb : Fresh w b ls rf mr) :
    Calls Try.prog 15 #[.pointer (some ⟨b, 0, none⟩)] w fun e w' => e = .returned (.int .i64 (ls + capped mr)) ∧ Below w.heap.size w w' := by
  have h9 : (w.setCell ⟨b, 9, none⟩ (.int .i32 1)).heap[b]? = _ := row_setCell (j := 9) (v := .int .i32 1) hb
  have hsz : (w.setCell ⟨b, 9, none⟩ (.int .i32 1)).heap.size = w.heap.size := by simp
  have hlt := lt_of_block h9
  by_cases hm : mr ≤ 5000000000
  · have ec : capped mr = mr := by simp [capped, hm]
    rw [ec]
    refine off_of b none ls rf mr (ls + mr) (by omega) (by omega) w hb ?_
    have := due_low b ls mr l0 l1 m0 m1 hm _ hlt (cell_of_row _ b 0 _ 87 (0, 0) h9) (cell_of_row _ b 7 _ 87 (0, 0) h9) (cell_of_row _ b 11 _ 87 (0, 0) h9) (cell_of_row _ b 12 _ 87 (0, 0) h9) (cell_of_row _ b 13 _ 87 (0, 0) h9)
    rw [hsz] at this
    exact this
  · have ec : capped mr = 5000000000 := by simp [capped, hm]
    rw [ec]
    refine off_of b none ls rf mr (ls + 5000000000) (by omega) (by omega) w hb ?_
    have := due_high b ls mr l0 l1 m0 m1 (by omega) _ hlt (cell_of_row _ b 0 _ 87 (0, 0) h9) (cell_of_row _ b 7 _ 87 (0, 0) h9) (cell_of_row _ b 11 _ 87 (0, 0) h9) (cell_of_row _ b 12 _ 87 (0, 0) h9) (cell_of_row _ b 13 _ 87 (0, 0) h9)
    rw [hsz] at this
    exact this

theorem off_full (b : Nat) (ls rf mr : Int) (l0 : -2305843009213693952 ≤ ls) (l1 : ls ≤ 2305843009213693952) (m0 : -2305843009213693952 ≤ rf) (m1 : rf ≤ 2305843009213693952) (w : World) (hb : Full w b ls rf mr) :
    Calls Try.prog 15 #[.pointer (some ⟨b, 0, none⟩)] w fun e w' => e = .returned (.int .i64 (ls + rf)) ∧ Below w.heap.size w w' := by
  obtain ⟨g, hb, hg⟩ := hb
  have h9 : (w.setCell ⟨b, 9, none⟩ (.int .i32 1)).heap[b]? = _ := row_setCell (j := 9) (v := .int .i32 1) hb
  have hsz : (w.setCell ⟨b, 9, none⟩ (.int .i32 1)).heap.size = w.heap.size := by simp
  have hlt := lt_of_block h9
  have hne : g ≠ b := by
    intro e
    subst e
    rw [hg] at hb
    simp [blk] at hb
  have hg9 : (w.setCell ⟨b, 9, none⟩ (.int .i32 1)).shape? g = some (91, 1) := by
    unfold World.shape?
    rw [Below.heap_setCell w ⟨b, 9, none⟩ _ g hne, hg]
    rfl
  refine off_of b _ ls rf mr (ls + rf) (by omega) (by omega) w hb ?_
  have := due_set b ls rf l0 l1 m0 m1 g _ hlt (cell_of_row _ b 0 _ 87 (0, 0) h9) hg9 (cell_of_row _ b 6 _ 87 (0, 0) h9) (cell_of_row _ b 11 _ 87 (0, 0) h9) (cell_of_row _ b 12 _ 87 (0, 0) h9) (cell_of_row _ b 13 _ 87 (0, 0) h9)
  rw [hsz] at this
  exact this

theorem new_fresh (ls rf mr : Int) (h0 : -2305843009213693952 ≤ ls) (h1 : ls ≤ 2305843009213693952) (w : World) :
    Calls Try.prog 13 #[.int .i64 ls, .int .i64 rf, .int .i64 mr] w fun e w' => ∃ b, e = .returned (.pointer (some ⟨b, 0, none⟩)) ∧ w.heap.size ≤ b ∧ Fresh w' b ls rf mr ∧ Below w.heap.size w w' :=
  new_any ls rf mr h0 h1 w
end Go.Proofs.Qxb6614376a
