import Derived.Test.Qxb6608953aSmall
namespace Go.Proofs.Qxb6608953a
open Go.RowKit

theorem equal_len (a1 a2 : Option Addr) (n m c1 c2 : Nat) (hne : ((n : Int) == (m : Int)) = false) (w : World) :
    Calls Try.prog 6 #[.slice a1 n c1, .slice a2 m c2] w fun e w' => e = .returned (.bool false) ∧ ∃ q, w' = w.drewN q := by
  go_enter Try.func6, Try.ntmps6
  go_wp2
  go_ret
  exact ⟨rfl, 0, rfl⟩

theorem equal_nil (a1 a2 : Option Addr) (c1 c2 : Nat) (w : World) :
    Calls Try.prog 6 #[.slice a1 0 c1, .slice a2 0 c2] w fun e w' => e = .returned (.bool true) ∧ ∃ q, w' = w.drewN q := by
  go_enter Try.func6, Try.ntmps6
  go_wp2
  refine wp_loop_rounds 1 ?_
  rw [rounds_succ]
  go_wp2
  go_ret
  exact ⟨rfl, 0, rfl⟩

theorem getD_ext : ∀ (xs ys : List Int), xs.length = ys.length → (∀ j, j < xs.length → xs.getD j 0 = ys.getD j 0) → xs = ys := by
  intro xs ys hl h
  apply List.ext_getElem hl
  intro j h1 h2
  have := h j h1
  simpa [List.getD_eq_getElem?_getD, h1, h2] using this

set_option maxRecDepth 100000 in
theorem equal_some (g1 g2 c1 c2 : Nat) (xs ys : List Int) (hl : xs.length = ys.length) (hn : xs.length < 1000000000) (w : World)
    (hx : ∀ j, j < xs.length → w.cell? ⟨g1, j, none⟩ = some (.int .u8 (xs.getD j 0))) (hy : ∀ j, j < xs.length → w.cell? ⟨g2, j, none⟩ = some (.int .u8 (ys.getD j 0))) :
    Calls Try.prog 6 #[.slice (some ⟨g1, 0, none⟩) xs.length c1, .slice (some ⟨g2, 0, none⟩) xs.length c2] w fun e w' => e = .returned (.bool (decide (xs = ys))) ∧ ∃ q, w' = w.drewN q := by
  have HX : Hid (∀ j, j < xs.length → w.cell? ⟨g1, j, none⟩ = some (.int .u8 (xs.getD j 0))) := hx
  have HY : Hid (∀ j, j < xs.length → w.cell? ⟨g2, j, none⟩ = some (.int .u8 (ys.getD j 0))) := hy
  have HL : Hid (xs.length = ys.length) := hl
  clear hx hy hl
  obtain ⟨n, hnn⟩ : ∃ n, n = xs.length := ⟨_, rfl⟩
  rw [← hnn] at hn
  rw [← hnn]
  have HN : Hid (n = xs.length) := hnn
  clear hnn
  obtain ⟨b, hb⟩ : ∃ b, b = decide (xs = ys) := ⟨_, rfl⟩
  rw [← hb]
  have HB : Hid (b = decide (xs = ys)) := hb
  clear hb
  go_enter Try.func6, Try.ntmps6
  go_wp2
  go_loopw [5] (fun i wr => ∃ k q : Nat, k ≤ n ∧ i = .int .i64 k ∧ wr = w.drewN q ∧ Hid (∀ j, j < k → xs.getD j 0 = ys.getD j 0)) (fun i _ => n - (intOf i).toNat)
  case atStart => exact ⟨0, 0, Nat.zero_le _, rfl, rfl, fun j hj => absurd hj (Nat.not_lt_zero j)⟩
  case round =>
    obtain ⟨k, q, hk, rfl, rfl, hall⟩ := hrel
    by_cases hlt : k < n
    · obtain ⟨x, hxv⟩ : ∃ x, x = xs.getD k 0 := ⟨_, rfl⟩
      obtain ⟨y, hyv⟩ : ∃ y, y = ys.getD k 0 := ⟨_, rfl⟩
      have cx := HX.out k (by rw [← HN.out]; exact hlt)
      have cy := HY.out k (by rw [← HN.out]; exact hlt)
      rw [← hxv] at cx
      rw [← hyv] at cy
      have HXV : Hid (x = xs.getD k 0) := hxv
      have HYV : Hid (y = ys.getD k 0) := hyv
      clear hxv hyv
      by_cases he : x = y
      · subst he
        go_wp2
        go_quiet (fail)
        go_wp2
        go_roundw
        case rel => exact ⟨k + 1, _, by omega, by go_num, rfl, fun j hj => by
          rcases (show j < k ∨ j = k from by omega) with h | rfl
          · exact hall.out j h
          · rw [← HXV.out, ← HYV.out]⟩
        case measure => simp [intOf]; omega
      · have he' : (x == y) = false := by simpa using he
        have hbf : b = false := by
          rw [HB.out, decide_eq_false_iff_not]
          intro h
          apply he
          rw [HXV.out, HYV.out, h]
        clear he
        go_wp2
        go_quiet (fail)
        go_wp2
        go_ret
        exact ⟨ret_bool hbf.symm, _, by rw [World.drewN_drewN]⟩
    · have hbt : b = true := by
        rw [HB.out, decide_eq_true_eq]
        exact getD_ext xs ys HL.out fun j hj => hall.out j (by have := HN.out; omega)
      go_wp2
      go_ret
      exact ⟨ret_bool hbt.symm, _, rfl⟩
end Go.Proofs.Qxb6608953a
