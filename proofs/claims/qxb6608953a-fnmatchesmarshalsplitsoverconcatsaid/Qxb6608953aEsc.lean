import Derived.Test.Qxb6608953aSmall
import Derived.Lib.AppendStr
namespace Go.Proofs.Qxb6608953a
open Go.RowKit

/-- the bytes s[k .. k + n], as numbers -/
def cut (s : ByteArray) (k n : Nat) : List Int := (s.extract k (k + n)).data.toList.map fun c => (c.toNat : Int)

def pieceR (s : ByteArray) (m : Bool) (k : Nat) (r : Int) (n : Nat) : List Int :=
  if r = 34 ∨ r = 92 then [92, r]
  else if r = 10 then [92, 110]
  else if r = 13 then [92, 114]
  else if r = 9 then [92, 116]
  else if m = true ∧ r = 8 then [92, 98]
  else if m = true ∧ r = 12 then [92, 102]
  else if r < 32 ∨ (m = true ∧ (r = 60 ∨ r = 62 ∨ r = 38)) then [92, 117, 48, 48, hexd (r / 16), hexd (r % 16)]
  else if r = 8232 ∨ r = 8233 then [92, 117, 50, 48, 50, hexd (r % 16)]
  else cut s k n

/-- what one round appends, from what the decoder answered -/
def pieceD (s : ByteArray) (m : Bool) (k : Nat) (d : Int × Nat × Bool) : List Int :=
  if d.2.2 = false then [92, 117, 102, 102, 102, 100] else pieceR s m k d.1 d.2.1

def escF (s : ByteArray) (m : Bool) : Nat → Nat → List Int
  | 0, _ => []
  | f + 1, k => if k < s.size then pieceD s m k (dec s k) ++ escF s m f (k + (dec s k).2.1) else []

theorem size_extract (s : ByteArray) (k n : Nat) (h : k + n ≤ s.size) : (s.extract k (k + n)).size = n := by
  rw [ByteArray.size_extract]; omega

theorem cut_length (s : ByteArray) (k n : Nat) (h : k + n ≤ s.size) : (cut s k n).length = n := by
  unfold cut
  rw [List.length_map, Array.length_toList]
  exact size_extract s k n h

theorem cut_one (s : ByteArray) (k : Nat) (h : k < s.size) : cut s k 1 = [bt s k] := by
  have hl := cut_length s k 1 h
  apply List.ext_getElem
  · simpa using hl
  · intro j h1 h2
    have hj : j = 0 := by simp at h2; exact h2
    subst hj
    have hx : 0 < (s.extract k (k + 1)).size := by rw [size_extract s k 1 h]; omega
    have e : (s.extract k (k + 1))[0] = s[k] := by
      rw [ByteArray.getElem_extract]
      rfl
    have e2 : (s.extract k (k + 1)).data[0]'hx = s[k] := e
    simp only [cut, List.getElem_map, Array.getElem_toList, List.getElem_cons_zero, bt_in s k h]
    exact congrArg (fun c : UInt8 => (c.toNat : Int)) e2

theorem pieceR_eq (s : ByteArray) (k : Nat) (r : Int) (n : Nat) (h : sp r = false) : pieceR s false k r n = pieceR s true k r n := by
  have h' : ¬ (r = 60 ∨ r = 62 ∨ r = 38 ∨ r = 8 ∨ r = 12) := by simpa [sp] using h
  have a : ¬ r = 8 := by omega
  have b : ¬ r = 12 := by omega
  have c : ¬ (r = 60 ∨ r = 62 ∨ r = 38) := by omega
  unfold pieceR
  simp only [a, b, c, and_false, or_false]

theorem piece_eq (s : ByteArray) (k : Nat) (hk : k < s.size) (h : sp (bt s k) = false) : pieceD s false k (dec s k) = pieceD s true k (dec s k) := by
  by_cases hb : bt s k < 128
  · rw [dec_near s k hb]
    unfold pieceD
    simp only [Bool.true_eq_false, if_false]
    exact pieceR_eq s k _ _ h
  · unfold pieceD
    rcases dec_far s k hk hb with ⟨h1, _⟩ | ⟨h1, h2, _⟩
    · rw [if_pos h1, if_pos h1]
    · rw [if_neg (by rw [h1]; simp), if_neg (by rw [h1]; simp)]
      exact pieceR_eq s k _ _ (by simp [sp]; omega)

theorem piece_ne (s : ByteArray) (k : Nat) (hk : k < s.size) (h : sp (bt s k) = true) (t1 t2 : List Int) : pieceD s false k (dec s k) ++ t1 ≠ pieceD s true k (dec s k) ++ t2 := by
  have h' : bt s k = 60 ∨ bt s k = 62 ∨ bt s k = 38 ∨ bt s k = 8 ∨ bt s k = 12 := by simpa [sp] using h
  rw [dec_near s k (by omega)]
  unfold pieceD
  simp only [Bool.true_eq_false, if_false]
  have hc := cut_one s k hk
  rcases h' with e | e | e | e | e <;> rw [e] at hc ⊢ <;> simp [pieceR, hc]

theorem adv_pos (s : ByteArray) (k : Nat) (hk : k < s.size) : 1 ≤ (dec s k).2.1 ∧ k + (dec s k).2.1 ≤ s.size := by
  by_cases hb : bt s k < 128
  · rw [dec_near s k hb]; simp; omega
  · rcases dec_far s k hk hb with ⟨_, h2, _⟩ | ⟨_, _, _, h1, _, h2, _⟩
    · rw [h2]; omega
    · exact ⟨h1, h2⟩

/-- behind the first byte a sequence holds none of the five characters -/
theorem adv_far (s : ByteArray) (k : Nat) (hk : k < s.size) (j : Nat) (h0 : k < j) (h1 : j < k + (dec s k).2.1) : sp (bt s j) = false := by
  by_cases hb : bt s k < 128
  · rw [dec_near s k hb] at h1; simp at h1; omega
  · rcases dec_far s k hk hb with ⟨_, h2, _⟩ | ⟨_, _, _, _, _, _, h2⟩
    · rw [h2] at h1; omega
    · have := h2 j (by omega) h1
      simp [sp]; omega

/-- THE PLAIN LAW: the two escapes are the same bytes just where none of the five characters stands -/
theorem esc_iff (s : ByteArray) : ∀ (f k : Nat), s.size - k ≤ f → (escF s false f k = escF s true f k ↔ ∀ j, k ≤ j → j < s.size → sp (bt s j) = false)
  | 0, k, hf => by
    simp only [escF, true_iff]
    intro j h0 h1
    omega
  | f + 1, k, hf => by
    simp only [escF]
    by_cases hk : k < s.size
    · rw [if_pos hk, if_pos hk]
      have ha := adv_pos s k hk
      have ih := esc_iff s f (k + (dec s k).2.1) (by omega)
      cases hsp : sp (bt s k) with
      | true =>
        constructor
        · intro h
          exact absurd h (piece_ne s k hk hsp _ _)
        · intro h
          have := h k (Nat.le_refl _) hk
          rw [hsp] at this
          cases this
      | false =>
        rw [piece_eq s k hk hsp, List.append_cancel_left_eq, ih]
        constructor
        · intro h j h0 h1
          by_cases e : j = k
          · rw [e]; exact hsp
          · by_cases e2 : j < k + (dec s k).2.1
            · exact adv_far s k hk j (by omega) e2
            · exact h j (by omega) h1
        · intro h j h0 h1
          exact h j (by omega) h1
    · rw [if_neg hk, if_neg hk]
      simp only [true_iff]
      intro j h0 h1
      omega

theorem esc_ok (s : ByteArray) : decide (escF s false s.size 0 = escF s true s.size 0) = okB s := by
  unfold okB
  rw [decide_eq_decide, esc_iff s s.size 0 (by omega)]
  constructor
  · intro h k hk; exact h k (Nat.zero_le _) hk
  · intro h k _ hk; exact h k hk

theorem bt_append_left (a b : ByteArray) (k : Nat) (h : k < a.size) : bt (a ++ b) k = bt a k := by
  rw [bt_in a k h, bt_in (a ++ b) k (by rw [ByteArray.size_append]; omega)]
  rw [ByteArray.getElem_append_left]
theorem bt_append_right (a b : ByteArray) (k : Nat) (h : k < b.size) : bt (a ++ b) (a.size + k) = bt b k := by
  rw [bt_in b k h, bt_in (a ++ b) (a.size + k) (by rw [ByteArray.size_append]; omega)]
  rw [ByteArray.getElem_append_right (by omega)]
  simp

theorem okB_append (a b : ByteArray) : okB (a ++ b) = (okB a && okB b) := by
  rw [Bool.eq_iff_iff, Bool.and_eq_true]
  unfold okB
  simp only [decide_eq_true_eq]
  constructor
  · intro h
    refine ⟨fun k hk => ?_, fun k hk => ?_⟩
    · have := h k (by rw [ByteArray.size_append]; omega)
      rwa [bt_append_left a b k hk] at this
    · have := h (a.size + k) (by rw [ByteArray.size_append]; omega)
      rwa [bt_append_right a b k hk] at this
  · rintro ⟨h1, h2⟩ k hk
    rw [ByteArray.size_append] at hk
    by_cases e : k < a.size
    · rw [bt_append_left a b k e]; exact h1 k e
    · obtain ⟨j, rfl⟩ : ∃ j, k = a.size + j := ⟨k - a.size, by omega⟩
      rw [bt_append_right a b j (by omega)]; exact h2 j (by omega)
end Go.Proofs.Qxb6608953a
