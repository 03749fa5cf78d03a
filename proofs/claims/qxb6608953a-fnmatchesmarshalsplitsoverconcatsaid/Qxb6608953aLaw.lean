import Derived.Test.Qxb6608953aEscW
import Derived.Test.Qxb6608953aEq
namespace Go.Proofs.Qxb6608953a
open Go.RowKit

theorem piece_len (s : ByteArray) (m : Bool) (k : Nat) (hk : k < s.size) : (pieceD s m k (dec s k)).length ≤ 6 * (dec s k).2.1 := by
  obtain ⟨h1, h2⟩ := adv_pos s k hk
  have h3 := cut_length s k (dec s k).2.1 h2
  unfold pieceD pieceR
  repeat' split
  all_goals first | (simp only [List.length_cons, List.length_nil]; omega) | omega

theorem esc_len (s : ByteArray) (m : Bool) : ∀ f k, (escF s m f k).length ≤ 6 * (s.size - k)
  | 0, k => by simp [escF]
  | f + 1, k => by
    simp only [escF]
    split
    · rename_i hk
      have h1 := piece_len s m k hk
      have h2 := esc_len s m f (k + (dec s k).2.1)
      obtain ⟨h3, h4⟩ := adv_pos s k hk
      rw [List.length_append]
      omega
    · simp

theorem ownsRow_below {B C : Nat} {w w' : World} {v : Value} {n : Nat} {xs : List Value} (h : w.ownsRow B 5 1 v n xs) (hb : Below C w w') (hC : C = w.heap.size) : w'.ownsRow B 5 1 v n xs := by
  subst hC
  exact h.kept (row := none) ⟨hb.os, hb.tape, hb.output, hb.size, fun k hk _ => hb.block k hk⟩ (by cases hv : v.ownBlock <;> simp)

theorem row_cells {w : World} {B g c : Nat} {xs : List Int} (h : w.ownsRow B 5 1 (.slice (some ⟨g, 0, none⟩) xs.length c) xs.length (u8s xs)) : ∀ j, j < xs.length → w.cell? ⟨g, j, none⟩ = some (.int .u8 (xs.getD j 0)) := by
  intro j hj
  have := h.cells (g := g) rfl j (.int .u8 (xs.getD j 0)) (by simp [u8s, List.getD_eq_getElem?_getD, hj])
  have hadd : (⟨g, 0, none⟩ : Addr).add j = ⟨g, j, none⟩ := by unfold Addr.add; split <;> simp_all
  rwa [hadd] at this

theorem equal_own {w : World} {B1 B2 : Nat} {v1 v2 : Value} {xs ys : List Int} (h1 : w.ownsRow B1 5 1 v1 xs.length (u8s xs)) (h2 : w.ownsRow B2 5 1 v2 ys.length (u8s ys)) (hx : xs.length < 1000000000) :
    Calls Try.prog 6 #[v1, v2] w fun e w' => e = .returned (.bool (decide (xs = ys))) ∧ ∃ q, w' = w.drewN q := by
  have hne : xs.length ≠ ys.length → ((xs.length : Int) == (ys.length : Int)) = false ∧ decide (xs = ys) = false := by
    intro h
    refine ⟨ne_beq (by omega), ?_⟩
    rw [decide_eq_false_iff_not]
    intro e
    exact h (by rw [e])
  by_cases hl : xs.length = ys.length
  · rcases h1.2 with ⟨rfl, e1⟩ | ⟨g1, c1, cur1, rfl, _⟩
    · rcases h2.2 with ⟨rfl, e2⟩ | ⟨g2, c2, cur2, rfl, _⟩
      · have ex : xs = [] := List.eq_nil_of_length_eq_zero e1
        have ey : ys = [] := List.eq_nil_of_length_eq_zero e2
        subst ex ey
        exact equal_nil none none 0 0 w
      · have ex : xs = [] := List.eq_nil_of_length_eq_zero e1
        have ey : ys = [] := List.eq_nil_of_length_eq_zero (by omega)
        subst ex ey
        exact equal_nil none _ 0 c2 w
    · rcases h2.2 with ⟨rfl, e2⟩ | ⟨g2, c2, cur2, rfl, _⟩
      · have ex : xs = [] := List.eq_nil_of_length_eq_zero (by omega)
        have ey : ys = [] := List.eq_nil_of_length_eq_zero e2
        subst ex ey
        exact equal_nil _ none c1 0 w
      · have k1 := row_cells h1
        have k2 := row_cells h2
        rw [← hl]
        exact equal_some g1 g2 c1 c2 xs ys hl hx w k1 (fun j hj => k2 j (by omega))
  · obtain ⟨e1, e2⟩ := hne hl
    rw [e2]
    rcases h1.2 with ⟨rfl, z1⟩ | ⟨g1, c1, cur1, rfl, _⟩
    · rcases h2.2 with ⟨rfl, z2⟩ | ⟨g2, c2, cur2, rfl, _⟩
      · omega
      · rw [z1] at e1
        exact equal_len none _ 0 ys.length 0 c2 e1 w
    · rcases h2.2 with ⟨rfl, z2⟩ | ⟨g2, c2, cur2, rfl, _⟩
      · rw [z2] at e1
        exact equal_len _ none xs.length 0 c1 0 e1 w
      · exact equal_len _ _ xs.length ys.length c1 c2 e1 w

def bytesB (a b : ByteArray) : Bool := decide (a.size + b.size ≤ 1048576)

theorem bytes_any (a b : ByteArray) (ha : a.size ≤ maxLen) (hb : b.size ≤ maxLen) (w : World) :
    Calls Try.prog 4 #[.string a, .string b] w fun e w' => e = .returned (.bool (bytesB a b)) ∧ w' = w := by
  unfold maxLen at ha hb
  by_cases h1 : a.size ≤ 1048576
  · by_cases h2 : b.size ≤ 1048576
    · by_cases h3 : a.size + b.size ≤ 1048576
      · go_enter Try.func4, Try.ntmps4
        go_wp2
        go_ret
        exact ⟨by simp [bytesB, h3], rfl⟩
      · go_enter Try.func4, Try.ntmps4
        go_wp2
        go_ret
        exact ⟨by simp [bytesB]; omega, rfl⟩
    · go_enter Try.func4, Try.ntmps4
      go_wp2
      go_ret
      exact ⟨by simp [bytesB]; omega, rfl⟩
  · go_enter Try.func4, Try.ntmps4
    go_wp2
    go_ret
    exact ⟨by simp [bytesB]; omega, rfl⟩

theorem matches_at (s : ByteArray) (x : Bool) (h : Hid (okB s = x)) (hs : s.size ≤ 2097152) (w : World) :
    Calls Try.prog 5 #[.string s] w fun e w' => e = .returned (.bool x) ∧ w' = w := by
  have := matches_any s hs w
  rw [h.out] at this
  exact this

theorem bytes_at (a b : ByteArray) (ha : a.size ≤ maxLen) (hb : b.size ≤ maxLen) (x : Bool) (h : Hid (bytesB a b = x)) (w : World) :
    Calls Try.prog 4 #[.string a, .string b] w fun e w' => e = .returned (.bool x) ∧ w' = w := by
  have := bytes_any a b ha hb w
  rw [h.out] at this
  exact this

/-- the two escapes made, then held against each other: what is known behind the third call -/
theorem equal_esc (s : ByteArray) (x : Bool) (h : Hid (okB s = x)) (hs : s.size ≤ 1048576) {w w1 w2 : World} {v1 v2 : Value} (h1 : Own w.heap.size w w1 v1 (escF s false s.size 0)) (h2 : Own w1.heap.size w1 w2 v2 (escF s true s.size 0)) :
    Calls Try.prog 6 #[v1, v2] w2 fun e w' => e = .returned (.bool x) ∧ Below w.heap.size w w' := by
  have l0 := esc_len s false s.size 0
  have := equal_own (ownsRow_below h1.own h2.bel rfl) h2.own (by omega)
  rw [esc_ok, h.out] at this
  refine this.mono ?_
  rintro e w' ⟨he, q, rfl⟩
  exact ⟨he, below_drewN (h1.bel.trans (h2.bel.mono h1.le)) q⟩

set_option maxRecDepth 100000 in
set_option maxHeartbeats 2000000 in
theorem law_main (a b : ByteArray) (ha : a.size ≤ 524288) (hb : b.size ≤ 524288) (hB : Hid (bytesB a b = true)) (x y : Bool) (hA : Hid (okB a = x)) (hC : Hid (okB b = y)) (w : World) :
    Calls Try.prog 3 #[.string a, .string b] w fun e w' => e = .returned (.bool true) ∧ Below w.heap.size w w' := by
  have hAB : Hid (okB (a ++ b) = (x && y)) := by show _ = _; rw [okB_append, hA.out, hC.out]
  cases x <;> cases y
  all_goals
    go_enter Try.func3, Try.ntmps3
    go_wp2_with fail
    refine (bytes_at a b (by unfold maxLen; omega) (by unfold maxLen; omega) true hB _).mono ?_
    rintro e w' ⟨rfl, rfl⟩
    go_wp2_with fail
    refine (matches_at a _ hA (by omega) _).mono ?_
    rintro e w' ⟨rfl, rfl⟩
    go_wp2_with fail
    refine (matches_at b _ hC (by omega) _).mono ?_
    rintro e w' ⟨rfl, rfl⟩
    go_wp2_with fail
    refine (matches_at (a ++ b) _ hAB (by rw [ByteArray.size_append]; omega) _).mono ?_
    rintro e w0 ⟨rfl, rfl⟩
    go_wp2_with fail
    refine (esc_any a false (by omega) _).mono ?_
    rintro e w1 ⟨v1, rfl, h1⟩
    go_wp2_with fail
    refine (esc_any a true (by omega) _).mono ?_
    rintro e w2 ⟨v2, rfl, h2⟩
    go_wp2_with fail
    refine (equal_esc a _ hA (by omega) h1 h2).mono ?_
    rintro e w3 ⟨rfl, hb3⟩
    clear h1 h2
    go_wp2_with fail
    refine (esc_any b false (by omega) _).mono ?_
    rintro e w4 ⟨v4, rfl, h4⟩
    go_wp2_with fail
    refine (esc_any b true (by omega) _).mono ?_
    rintro e w5 ⟨v5, rfl, h5⟩
    go_wp2_with fail
    refine (equal_esc b _ hC (by omega) h4 h5).mono ?_
    rintro e w6 ⟨rfl, hb6⟩
    clear h4 h5
    go_wp2
    go_ret
    exact ⟨rfl, hb3.trans (hb6.mono hb3.size)⟩

theorem law_walk (a b : ByteArray) (ha : a.size ≤ maxLen) (hb : b.size ≤ maxLen) (w : World) :
    Calls Try.prog 3 #[.string a, .string b] w fun e w' => e = .returned (.bool true) ∧ Below w.heap.size w w' := by
  cases hB : bytesB a b with
  | false =>
    have HB : Hid (bytesB a b = false) := hB
    clear hB
    go_enter Try.func3, Try.ntmps3
    go_wp2_with fail
    refine (bytes_at a b ha hb false HB _).mono ?_
    rintro e w' ⟨rfl, rfl⟩
    go_wp2_with fail
    go_ret
    exact ⟨rfl, Below.refl _ _⟩
  | true =>
    by_cases h1 : a.size ≤ 524288
    · by_cases h2 : b.size ≤ 524288
      · exact law_main a b h1 h2 hB (okB a) (okB b) rfl rfl w
      · have HB : Hid (bytesB a b = true) := hB
        clear hB
        have ha' := ha
        have hb' := hb
        unfold maxLen at ha' hb'
        go_enter Try.func3, Try.ntmps3
        go_wp2_with fail
        refine (bytes_at a b ha hb true HB _).mono ?_
        rintro e w' ⟨rfl, rfl⟩
        go_wp2_with fail
        go_ret
        exact ⟨rfl, Below.refl _ _⟩
    · have HB : Hid (bytesB a b = true) := hB
      clear hB
      have ha' := ha
      have hb' := hb
      unfold maxLen at ha' hb'
      go_enter Try.func3, Try.ntmps3
      go_wp2_with fail
      refine (bytes_at a b ha hb true HB _).mono ?_
      rintro e w' ⟨rfl, rfl⟩
      go_wp2_with fail
      go_ret
      exact ⟨rfl, Below.refl _ _⟩
end Go.Proofs.Qxb6608953a
