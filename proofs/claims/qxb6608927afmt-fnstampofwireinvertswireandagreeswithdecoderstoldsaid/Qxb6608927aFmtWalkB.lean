import Derived.Test.Qxb6608927aFmtWalkA
namespace Go.Proofs.Qxb6608927aFmt
open Go.RowKit

theorem cell_other {w : World} {a b : Addr} {v u : Value} (h : a ≠ b) (hc : w.cell? b = some u) : (w.setCell a v).cell? b = some u := by
  rw [World.cell?_setCell_other _ _ _ _ h]; exact hc

theorem unmarshal_any (v : Int) (h0 : 0 ≤ v) (h1 : v < 18446744073709551616) (w : World) :
    Calls Tryf.prog 8 #[.pointer (some ⟨w.heap.size, 0, none⟩), .slice (some ⟨w.heap.size + 1, 0, none⟩) 8 8] ((w.alloc (.cells #[.int .u64 1, .int .u16 1] 25)).alloc (.cells #[.int .u8 (v / 72057594037927936), .int .u8 (v / 281474976710656 % 256), .int .u8 (v / 1099511627776 % 256), .int .u8 (v / 4294967296 % 256), .int .u8 (v / 16777216 % 256), .int .u8 (v / 65536 % 256), .int .u8 (v / 256 % 256), .int .u8 (v % 256)] 5)) fun e w' => e = .returned .nilIface ∧
      Below w.heap.size w w' ∧ w.heap.size + 1 < w'.heap.size ∧ w'.cell? ⟨w.heap.size, 0, none⟩ = some (.int .u64 (v / 65536)) ∧ w'.cell? ⟨w.heap.size, 1, none⟩ = some (.int .u16 (v % 65536)) := by
  go_enter Tryf.func8, Tryf.ntmps8
  go_wp2_with fail
  refine (uint64_any (w.heap.size + 1) (v / 72057594037927936) (v / 281474976710656 % 256) (v / 1099511627776 % 256) (v / 4294967296 % 256) (v / 16777216 % 256) (v / 65536 % 256) (v / 256 % 256) (v % 256) _ ?_ ?_ ?_ ?_ ?_ ?_ ?_ ?_ (by go_cell) (by go_cell) (by go_cell) (by go_cell) (by go_cell) (by go_cell) (by go_cell) (by go_cell)).mono ?_
  · omega
  · omega
  · omega
  · omega
  · omega
  · omega
  · omega
  · omega
  rintro e w' ⟨rfl, n, rfl⟩
  rw [show (v % 256 + v / 256 % 256 * 256 + v / 65536 % 256 * 65536 + v / 16777216 % 256 * 16777216 + v / 4294967296 % 256 * 4294967296 + v / 1099511627776 % 256 * 1099511627776 + v / 281474976710656 % 256 * 281474976710656 + v / 72057594037927936 * 72057594037927936) = v from by omega]
  go_wp2_with fail
  refine (ofWire_any v h0 h1 _).mono ?_; rintro e w' ⟨rfl, d, rfl⟩
  go_wp2
  go_ret
  refine ⟨rfl, ?_, by simp, ?_, ?_⟩
  · refine Below.alloc (Below.setCell (Below.setCell (below_drewN (Below.alloc (Below.alloc (Below.alloc (Below.refl _ _) (Nat.le_refl _) _) (by simp) _) (by simp; omega) _) n) (Nat.le_refl _) _) (Nat.le_refl _) _) (by simp; omega) _
  · refine cell?_alloc_old _ ?_
    refine cell_other (by simp) ?_
    exact World.cell?_setCell_same _ _ _ (u := .int .u64 1) (by simp [go_sem])
  · refine cell?_alloc_old _ ?_
    refine World.cell?_setCell_same _ _ _ (u := .int .u16 1) ?_
    refine cell_other (by simp) ?_
    simp [go_sem]

def val (dig : Nat → Int) : Nat → Int
  | 0 => 0
  | k + 1 => val dig k * 16 + dig k

theorem val_bd (dig : Nat → Int) (hd : ∀ k, 0 ≤ dig k ∧ dig k < 16) : ∀ k, 0 ≤ val dig k ∧ val dig k < 16 ^ k
  | 0 => by simp [val]
  | k + 1 => by
    have h1 := val_bd dig hd k
    have h2 := hd k
    have e : (16 : Int) ^ (k + 1) = 16 ^ k * 16 := Int.pow_succ _ _
    rw [e]
    simp only [val]
    generalize (16 : Int) ^ k = m at *
    omega

theorem val_bd15 (dig : Nat → Int) (hd : ∀ k, 0 ≤ dig k ∧ dig k < 16) (k : Nat) (hk : k < 16) : 0 ≤ val dig k ∧ val dig k < 1152921504606846976 := by
  have h := val_bd dig hd k
  have h2 : 16 ^ k ≤ 16 ^ 15 := Nat.pow_le_pow_right (by omega) (by omega)
  have e : (16 : Nat) ^ 15 = 1152921504606846976 := by decide
  rw [e] at h2
  have e2 : (16 : Int) ^ k = ((16 ^ k : Nat) : Int) := by simp
  rw [e2] at h
  omega

theorem val_bd16 (dig : Nat → Int) (hd : ∀ k, 0 ≤ dig k ∧ dig k < 16) : 0 ≤ val dig 16 ∧ val dig 16 < 18446744073709551616 := by
  have h := val_bd15 dig hd 15 (by omega)
  have h2 := hd 15
  have e : val dig 16 = val dig 15 * 16 + dig 15 := rfl
  omega

theorem u64_int {a b : Int} (h : a = b) : Value.int .u64 a = .int .u64 b := by rw [h]

theorem val_step (x d : Int) (h0 : 0 ≤ x) (h1 : x < 1152921504606846976) (d0 : 0 ≤ d) (d1 : d < 16) : bits .or .u64 (x * 16) d = x * 16 + d :=
  or_join 4 _ _ (by omega) (by omega) (by omega) (by omega) (by omega) (by omega)

theorem parse_any (s : ByteArray) (dig : Nat → Int) (hsz : s.size = 16) (hd : ∀ k, 0 ≤ dig k ∧ dig k < 16)
    (hs : ∀ k (hk : k < s.size), (s[k].toNat : Int) = hexd (dig k)) (w : World) :
    Calls Tryf.prog 10 #[.string s] w fun e w' => e = .returned (.tuple #[.agg #[.int .u64 (val dig 16 / 65536), .int .u16 (val dig 16 % 65536)], .nilIface]) ∧ Below w.heap.size w w' := by
  have HS : Hid (∀ k (hk : k < s.size), (s[k].toNat : Int) = hexd (dig k)) := hs
  have HD : Hid (∀ k, 0 ≤ dig k ∧ dig k < 16) := hd
  clear hs hd
  have hsz1 : ((s.size : Nat) : Int) = 16 := by omega
  go_enter Tryf.func10, Tryf.ntmps10
  go_wp2
  go_loop [4, 16] (fun v i => ∃ k : Nat, k ≤ 16 ∧ i = .int .i64 k ∧ v = .int .u64 (val dig k)) (fun _ i => 16 - (intOf i).toNat)
  case atStart => exact ⟨0, Nat.zero_le _, rfl, rfl⟩
  case round =>
    obtain ⟨k, hk, rfl, rfl⟩ := hrel
    by_cases hlt : k < 16
    · have hlt' : k < s.size := by omega
      have hb := val_bd15 dig HD.out k hlt
      have hdk := HD.out k
      have hsk := HS.out k hlt'
      obtain ⟨b0, b1⟩ := hb
      obtain ⟨d0, d1⟩ := hdk
      by_cases h10 : dig k < 10
      · have e : Hid ((s[k].toNat : Int) = dig k + 48) := by rw [Hid]; rw [hsk]; simp [hexd, h10]
        have l1 : 48 ≤ (s[k].toNat : Int) := by have := e.out; omega
        have l2 : (s[k].toNat : Int) ≤ 57 := by have := e.out; omega
        clear hsk
        go_wp2
        go_round
        case rel => exact ⟨k + 1, by omega, by go_num, u64_int (by rw [show (s[k].toNat : Int) - 48 = dig k from by have := e.out; omega, val_step _ _ b0 b1 d0 d1]; rfl)⟩
        case measure => simp [intOf]; omega
      · have e : Hid ((s[k].toNat : Int) = dig k + 87) := by rw [Hid]; rw [hsk]; simp [hexd, h10]
        have l1 : 97 ≤ (s[k].toNat : Int) := by have := e.out; omega
        have l2 : (s[k].toNat : Int) ≤ 102 := by have := e.out; omega
        clear hsk
        go_wp2
        go_round
        case rel =>
          refine ⟨_, _, _, _, _, ⟨k + 1, by omega, ?_, ?_⟩, rfl, rfl, rfl, rfl, rfl⟩
          · go_num
          · exact u64_int (by rw [show (s[k].toNat : Int) - 87 = dig k from by have := e.out; omega, val_step _ _ b0 b1 d0 d1]; rfl)
        case measure => simp [intOf]; omega
    · have : k = 16 := by omega
      subst this
      have hv := val_bd16 dig HD.out
      obtain ⟨v0, v1⟩ := hv
      go_wp2_with (go_at_call 19; refine (ofWire_any _ v0 v1 _).mono ?_; rintro e w' ⟨rfl, c, rfl⟩)
      exact bodyPost_ret (v := .tuple #[.agg #[.int .u64 (val dig 16 / 65536), .int .u16 (val dig 16 % 65536)], .nilIface]) (by simp [results, Tryf.results10, go_sem]) rfl ⟨rfl, Below.alloc (Below.alloc (Below.refl _ _) (Nat.le_refl _) _) (by simp) _⟩
end Go.Proofs.Qxb6608927aFmt
