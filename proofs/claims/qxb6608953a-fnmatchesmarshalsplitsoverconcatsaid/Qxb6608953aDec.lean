import Derived.Test.Qxb6608953aDecA
import Derived.Test.Qxb6608953aDecB
import Derived.Test.Qxb6608953aDecC
namespace Go.Proofs.Qxb6608953a
open Go.RowKit

/-- byte k of s, as a number (0 behind the end) -/
def bt (s : ByteArray) (k : Nat) : Int := if h : k < s.size then (s[k].toNat : Int) else 0

theorem bt_in (s : ByteArray) (k : Nat) (h : k < s.size) : bt s k = (s[k].toNat : Int) := by simp [bt, h]
theorem bt_bd (s : ByteArray) (k : Nat) : 0 ≤ bt s k ∧ bt s k < 256 := by
  unfold bt
  split
  · exact u8_bd _
  · omega

def lo1 (c : Int) : Int := if c = 224 then 160 else if c = 240 then 144 else 128
def hi1 (c : Int) : Int := if c = 237 then 159 else if c = 244 then 143 else 191

/-- what the walk of zzDecodeRune computes -/
def dec (s : ByteArray) (i : Nat) : Int × Nat × Bool :=
  if bt s i < 128 then (bt s i, 1, true)
  else if bt s i < 194 ∨ 244 < bt s i then (0, 1, false)
  else if bt s i < 224 then
    if i + 1 < s.size ∧ inB (bt s (i + 1)) 128 191 = true then (bt s i % 32 * 64 + bt s (i + 1) % 64, 2, true) else (0, 1, false)
  else if bt s i < 240 then
    if i + 2 < s.size ∧ inB (bt s (i + 1)) (lo1 (bt s i)) (hi1 (bt s i)) = true ∧ inB (bt s (i + 2)) 128 191 = true then (bt s i % 16 * 4096 + bt s (i + 1) % 64 * 64 + bt s (i + 2) % 64, 3, true) else (0, 1, false)
  else
    if i + 3 < s.size ∧ inB (bt s (i + 1)) (lo1 (bt s i)) (hi1 (bt s i)) = true ∧ inB (bt s (i + 2)) 128 191 = true ∧ inB (bt s (i + 3)) 128 191 = true then (bt s i % 8 * 262144 + bt s (i + 1) % 64 * 4096 + bt s (i + 2) % 64 * 64 + bt s (i + 3) % 64, 4, true) else (0, 1, false)

theorem inB_iff (c lo hi : Int) : inB c lo hi = true ↔ lo ≤ c ∧ c ≤ hi := by simp [inB]

/-- what the plain law needs of dec beyond a byte below 128 -/
theorem dec_far (s : ByteArray) (i : Nat) (hi : i < s.size) (h : ¬ bt s i < 128) :
    ((dec s i).2.2 = false ∧ (dec s i).2.1 = 1 ∧ (dec s i).1 = 0) ∨
    ((dec s i).2.2 = true ∧ 128 ≤ (dec s i).1 ∧ (dec s i).1 < 2097152 ∧ 1 ≤ (dec s i).2.1 ∧ (dec s i).2.1 ≤ 4 ∧ i + (dec s i).2.1 ≤ s.size ∧ ∀ j, i ≤ j → j < i + (dec s i).2.1 → 128 ≤ bt s j) := by
  have b0 := bt_bd s i
  unfold dec
  rw [if_neg h]
  by_cases h1 : bt s i < 194 ∨ 244 < bt s i
  · rw [if_pos h1]; exact .inl ⟨rfl, rfl, rfl⟩
  rw [if_neg h1]
  by_cases h2 : bt s i < 224
  · rw [if_pos h2]
    by_cases h3 : i + 1 < s.size ∧ inB (bt s (i + 1)) 128 191 = true
    · rw [if_pos h3]
      obtain ⟨k1, k2⟩ := h3
      rw [inB_iff] at k2
      refine .inr ⟨rfl, ?_, ?_, by simp, by simp, by simp; omega, ?_⟩
      · simp only; omega
      · simp only; omega
      · intro j j0 j1
        simp only at j1
        rcases (show j = i ∨ j = i + 1 from by omega) with rfl | rfl <;> omega
    · rw [if_neg h3]; exact .inl ⟨rfl, rfl, rfl⟩
  rw [if_neg h2]
  by_cases h4 : bt s i < 240
  · rw [if_pos h4]
    by_cases h3 : i + 2 < s.size ∧ inB (bt s (i + 1)) (lo1 (bt s i)) (hi1 (bt s i)) = true ∧ inB (bt s (i + 2)) 128 191 = true
    · rw [if_pos h3]
      obtain ⟨k1, k2, k3⟩ := h3
      rw [inB_iff] at k2 k3
      have l0 : 128 ≤ lo1 (bt s i) := by unfold lo1; split <;> (try split) <;> omega
      have l1 : hi1 (bt s i) ≤ 191 := by unfold hi1; split <;> (try split) <;> omega
      have l2 : bt s i = 224 → lo1 (bt s i) = 160 := by intro h; simp [lo1, h]
      refine .inr ⟨rfl, ?_, ?_, by simp, by simp, by simp; omega, ?_⟩
      · simp only
        by_cases h5 : bt s i = 224
        · have := l2 h5; omega
        · omega
      · simp only; omega
      · intro j j0 j1
        simp only at j1
        rcases (show j = i ∨ j = i + 1 ∨ j = i + 2 from by omega) with rfl | rfl | rfl <;> omega
    · rw [if_neg h3]; exact .inl ⟨rfl, rfl, rfl⟩
  rw [if_neg h4]
  by_cases h3 : i + 3 < s.size ∧ inB (bt s (i + 1)) (lo1 (bt s i)) (hi1 (bt s i)) = true ∧ inB (bt s (i + 2)) 128 191 = true ∧ inB (bt s (i + 3)) 128 191 = true
  · rw [if_pos h3]
    obtain ⟨k1, k2, k3, k4⟩ := h3
    rw [inB_iff] at k2 k3 k4
    have l0 : 128 ≤ lo1 (bt s i) := by unfold lo1; split <;> (try split) <;> omega
    have l1 : hi1 (bt s i) ≤ 191 := by unfold hi1; split <;> (try split) <;> omega
    have l2 : bt s i = 240 → lo1 (bt s i) = 144 := by intro h; simp [lo1, h]
    refine .inr ⟨rfl, ?_, ?_, by simp, by simp, by simp; omega, ?_⟩
    · simp only
      by_cases h5 : bt s i = 240
      · have := l2 h5; omega
      · omega
    · simp only; omega
    · intro j j0 j1
      simp only at j1
      rcases (show j = i ∨ j = i + 1 ∨ j = i + 2 ∨ j = i + 3 from by omega) with rfl | rfl | rfl | rfl <;> omega
  · rw [if_neg h3]; exact .inl ⟨rfl, rfl, rfl⟩

theorem dec_near (s : ByteArray) (i : Nat) (h : bt s i < 128) : dec s i = (bt s i, 1, true) := by
  unfold dec; rw [if_pos h]

theorem bool_ff {b : Bool} (h : ¬ b = true) : b = false := by cases b <;> simp_all

/-- the Go function's answer, as data -/
def decE (d : Int × Nat × Bool) : Ending := .returned (.tuple #[.int .i32 d.1, .int .i64 d.2.1, .bool d.2.2])

theorem dec_any (s : ByteArray) (i : Nat) (hs : s.size ≤ 1048576) (hi : i < s.size) (w : World) :
    Calls Try.prog 8 #[.string s, .int .i64 i] w fun e w' => e = decE (dec s i) ∧ ∃ n, w' = w.drewN n := by
  have e0 := bt_in s i hi
  by_cases h0 : bt s i < 128
  · have hd : decE (dec s i) = .returned (.tuple #[.int .i32 (s[i].toNat), .int .i64 1, .bool true]) := by rw [dec_near s i h0, e0]; rfl
    rw [hd]; exact dec_ascii s i hs hi (by omega) w
  by_cases h1 : bt s i < 194 ∨ 244 < bt s i
  · have hd : decE (dec s i) = .returned (.tuple #[.int .i32 0, .int .i64 1, .bool false]) := by unfold dec; rw [if_neg h0, if_pos h1]; rfl
    rw [hd]
    rcases h1 with h1 | h1
    · exact dec_low s i hs hi (by omega) (by omega) w
    · exact dec_high s i hs hi (by omega) w
  by_cases h2 : bt s i < 224
  · by_cases h3 : i + 1 < s.size ∧ inB (bt s (i + 1)) 128 191 = true
    · obtain ⟨k1, k2⟩ := h3
      have e1 := bt_in s (i + 1) k1
      have hd : decE (dec s i) = .returned (.tuple #[.int .i32 ((s[i].toNat : Int) % 32 * 64 + (s[i+1].toNat : Int) % 64), .int .i64 2, .bool true]) := by unfold dec; rw [if_neg h0, if_neg h1, if_pos h2, if_pos ⟨k1, k2⟩, e0, e1]; rfl
      rw [hd]; exact dec2_yes s i hs k1 (by omega) (by omega) (by rw [← e1]; exact k2) w
    · have hd : decE (dec s i) = .returned (.tuple #[.int .i32 0, .int .i64 1, .bool false]) := by unfold dec; rw [if_neg h0, if_neg h1, if_pos h2, if_neg h3]; rfl
      rw [hd]
      by_cases k1 : i + 1 < s.size
      · have e1 := bt_in s (i + 1) k1
        exact dec2_no s i hs k1 (by omega) (by omega) (by rw [← e1]; exact bool_ff fun k => h3 ⟨k1, k⟩) w
      · exact dec2_short s i hs hi (by omega) (by omega) (by omega) w
  by_cases h4 : bt s i < 240
  · by_cases k1 : i + 2 < s.size
    · have e1 := bt_in s (i + 1) (by omega)
      have e2 := bt_in s (i + 2) k1
      by_cases qa : bt s i = 224
      · have hl : lo1 (bt s i) = 160 := by unfold lo1; split <;> (try split) <;> omega
        have hh : hi1 (bt s i) = 191 := by unfold hi1; split <;> (try split) <;> omega
        by_cases k2 : inB (bt s (i + 1)) 160 191 = true
        · by_cases k3 : inB (bt s (i + 2)) 128 191 = true
          · have hd : decE (dec s i) = .returned (.tuple #[.int .i32 (0 * 4096 + (s[i+1].toNat : Int) % 64 * 64 + (s[i+2].toNat : Int) % 64), .int .i64 3, .bool true]) := by unfold dec; rw [if_neg h0, if_neg h1, if_neg h2, if_pos h4, hl, hh, if_pos ⟨k1, k2, k3⟩, e1, e2]; exact ret3 (by omega)
            rw [hd]; exact dec3a_yes s i hs k1 (by omega) (by rw [← e1]; exact k2) (by rw [← e2]; exact k3) w
          · have hd : decE (dec s i) = .returned (.tuple #[.int .i32 0, .int .i64 1, .bool false]) := by unfold dec; rw [if_neg h0, if_neg h1, if_neg h2, if_pos h4, hl, hh, if_neg (fun k => k3 k.2.2)]; rfl
            rw [hd]; exact dec3a_no2 s i hs k1 (by omega) (by rw [← e1]; exact k2) (by rw [← e2]; exact bool_ff k3) w
        · have hd : decE (dec s i) = .returned (.tuple #[.int .i32 0, .int .i64 1, .bool false]) := by unfold dec; rw [if_neg h0, if_neg h1, if_neg h2, if_pos h4, hl, hh, if_neg (fun k => k2 k.2.1)]; rfl
          rw [hd]; exact dec3a_no1 s i hs k1 (by omega) (by rw [← e1]; exact bool_ff k2) w
      by_cases qc : bt s i = 237
      · have hl : lo1 (bt s i) = 128 := by unfold lo1; split <;> (try split) <;> omega
        have hh : hi1 (bt s i) = 159 := by unfold hi1; split <;> (try split) <;> omega
        by_cases k2 : inB (bt s (i + 1)) 128 159 = true
        · by_cases k3 : inB (bt s (i + 2)) 128 191 = true
          · have hd : decE (dec s i) = .returned (.tuple #[.int .i32 (13 * 4096 + (s[i+1].toNat : Int) % 64 * 64 + (s[i+2].toNat : Int) % 64), .int .i64 3, .bool true]) := by unfold dec; rw [if_neg h0, if_neg h1, if_neg h2, if_pos h4, hl, hh, if_pos ⟨k1, k2, k3⟩, e1, e2]; exact ret3 (by omega)
            rw [hd]; exact dec3c_yes s i hs k1 (by omega) (by rw [← e1]; exact k2) (by rw [← e2]; exact k3) w
          · have hd : decE (dec s i) = .returned (.tuple #[.int .i32 0, .int .i64 1, .bool false]) := by unfold dec; rw [if_neg h0, if_neg h1, if_neg h2, if_pos h4, hl, hh, if_neg (fun k => k3 k.2.2)]; rfl
            rw [hd]; exact dec3c_no2 s i hs k1 (by omega) (by rw [← e1]; exact k2) (by rw [← e2]; exact bool_ff k3) w
        · have hd : decE (dec s i) = .returned (.tuple #[.int .i32 0, .int .i64 1, .bool false]) := by unfold dec; rw [if_neg h0, if_neg h1, if_neg h2, if_pos h4, hl, hh, if_neg (fun k => k2 k.2.1)]; rfl
          rw [hd]; exact dec3c_no1 s i hs k1 (by omega) (by rw [← e1]; exact bool_ff k2) w
      by_cases qb : bt s i < 237
      · have hl : lo1 (bt s i) = 128 := by unfold lo1; split <;> (try split) <;> omega
        have hh : hi1 (bt s i) = 191 := by unfold hi1; split <;> (try split) <;> omega
        by_cases k2 : inB (bt s (i + 1)) 128 191 = true
        · by_cases k3 : inB (bt s (i + 2)) 128 191 = true
          · have hd : decE (dec s i) = .returned (.tuple #[.int .i32 (((s[i].toNat : Int) % 16) * 4096 + (s[i+1].toNat : Int) % 64 * 64 + (s[i+2].toNat : Int) % 64), .int .i64 3, .bool true]) := by unfold dec; rw [if_neg h0, if_neg h1, if_neg h2, if_pos h4, hl, hh, if_pos ⟨k1, k2, k3⟩, e1, e2]; exact ret3 (by omega)
            rw [hd]; exact dec3b_yes s i hs k1 (by omega) (by omega) (by rw [← e1]; exact k2) (by rw [← e2]; exact k3) w
          · have hd : decE (dec s i) = .returned (.tuple #[.int .i32 0, .int .i64 1, .bool false]) := by unfold dec; rw [if_neg h0, if_neg h1, if_neg h2, if_pos h4, hl, hh, if_neg (fun k => k3 k.2.2)]; rfl
            rw [hd]; exact dec3b_no2 s i hs k1 (by omega) (by omega) (by rw [← e1]; exact k2) (by rw [← e2]; exact bool_ff k3) w
        · have hd : decE (dec s i) = .returned (.tuple #[.int .i32 0, .int .i64 1, .bool false]) := by unfold dec; rw [if_neg h0, if_neg h1, if_neg h2, if_pos h4, hl, hh, if_neg (fun k => k2 k.2.1)]; rfl
          rw [hd]; exact dec3b_no1 s i hs k1 (by omega) (by omega) (by rw [← e1]; exact bool_ff k2) w
      have hl : lo1 (bt s i) = 128 := by unfold lo1; split <;> (try split) <;> omega
      have hh : hi1 (bt s i) = 191 := by unfold hi1; split <;> (try split) <;> omega
      by_cases k2 : inB (bt s (i + 1)) 128 191 = true
      · by_cases k3 : inB (bt s (i + 2)) 128 191 = true
        · have hd : decE (dec s i) = .returned (.tuple #[.int .i32 (((s[i].toNat : Int) % 16) * 4096 + (s[i+1].toNat : Int) % 64 * 64 + (s[i+2].toNat : Int) % 64), .int .i64 3, .bool true]) := by unfold dec; rw [if_neg h0, if_neg h1, if_neg h2, if_pos h4, hl, hh, if_pos ⟨k1, k2, k3⟩, e1, e2]; exact ret3 (by omega)
          rw [hd]; exact dec3d_yes s i hs k1 (by omega) (by omega) (by rw [← e1]; exact k2) (by rw [← e2]; exact k3) w
        · have hd : decE (dec s i) = .returned (.tuple #[.int .i32 0, .int .i64 1, .bool false]) := by unfold dec; rw [if_neg h0, if_neg h1, if_neg h2, if_pos h4, hl, hh, if_neg (fun k => k3 k.2.2)]; rfl
          rw [hd]; exact dec3d_no2 s i hs k1 (by omega) (by omega) (by rw [← e1]; exact k2) (by rw [← e2]; exact bool_ff k3) w
      · have hd : decE (dec s i) = .returned (.tuple #[.int .i32 0, .int .i64 1, .bool false]) := by unfold dec; rw [if_neg h0, if_neg h1, if_neg h2, if_pos h4, hl, hh, if_neg (fun k => k2 k.2.1)]; rfl
        rw [hd]; exact dec3d_no1 s i hs k1 (by omega) (by omega) (by rw [← e1]; exact bool_ff k2) w
    · have hd : decE (dec s i) = .returned (.tuple #[.int .i32 0, .int .i64 1, .bool false]) := by unfold dec; rw [if_neg h0, if_neg h1, if_neg h2, if_pos h4, if_neg (fun k => k1 k.1)]; rfl
      rw [hd]
      by_cases qa : bt s i = 224
      · exact dec3a_short s i hs hi (by omega) (by omega) w
      by_cases qc : bt s i = 237
      · exact dec3c_short s i hs hi (by omega) (by omega) w
      by_cases qb : bt s i < 237
      · exact dec3b_short s i hs hi (by omega) (by omega) (by omega) w
      exact dec3d_short s i hs hi (by omega) (by omega) (by omega) w
  · by_cases k1 : i + 3 < s.size
    · have e1 := bt_in s (i + 1) (by omega)
      have e2 := bt_in s (i + 2) (by omega)
      have e3 := bt_in s (i + 3) k1
      by_cases qa : bt s i = 240
      · have hl : lo1 (bt s i) = 144 := by unfold lo1; split <;> (try split) <;> omega
        have hh : hi1 (bt s i) = 191 := by unfold hi1; split <;> (try split) <;> omega
        by_cases k2 : inB (bt s (i + 1)) 144 191 = true
        · by_cases k3 : inB (bt s (i + 2)) 128 191 = true
          · by_cases k4 : inB (bt s (i + 3)) 128 191 = true
            · have hd : decE (dec s i) = .returned (.tuple #[.int .i32 (0 * 262144 + (s[i+1].toNat : Int) % 64 * 4096 + (s[i+2].toNat : Int) % 64 * 64 + (s[i+3].toNat : Int) % 64), .int .i64 4, .bool true]) := by unfold dec; rw [if_neg h0, if_neg h1, if_neg h2, if_neg h4, hl, hh, if_pos ⟨k1, k2, k3, k4⟩, e1, e2, e3]; exact ret3 (by omega)
              rw [hd]; exact dec4a_yes s i hs k1 (by omega) (by rw [← e1]; exact k2) (by rw [← e2]; exact k3) (by rw [← e3]; exact k4) w
            · have hd : decE (dec s i) = .returned (.tuple #[.int .i32 0, .int .i64 1, .bool false]) := by unfold dec; rw [if_neg h0, if_neg h1, if_neg h2, if_neg h4, hl, hh, if_neg (fun k => k4 k.2.2.2)]; rfl
              rw [hd]; exact dec4a_no3 s i hs k1 (by omega) (by rw [← e1]; exact k2) (by rw [← e2]; exact k3) (by rw [← e3]; exact bool_ff k4) w
          · have hd : decE (dec s i) = .returned (.tuple #[.int .i32 0, .int .i64 1, .bool false]) := by unfold dec; rw [if_neg h0, if_neg h1, if_neg h2, if_neg h4, hl, hh, if_neg (fun k => k3 k.2.2.1)]; rfl
            rw [hd]; exact dec4a_no2 s i hs k1 (by omega) (by rw [← e1]; exact k2) (by rw [← e2]; exact bool_ff k3) w
        · have hd : decE (dec s i) = .returned (.tuple #[.int .i32 0, .int .i64 1, .bool false]) := by unfold dec; rw [if_neg h0, if_neg h1, if_neg h2, if_neg h4, hl, hh, if_neg (fun k => k2 k.2.1)]; rfl
          rw [hd]; exact dec4a_no1 s i hs k1 (by omega) (by rw [← e1]; exact bool_ff k2) w
      by_cases qc : bt s i = 244
      · have hl : lo1 (bt s i) = 128 := by unfold lo1; split <;> (try split) <;> omega
        have hh : hi1 (bt s i) = 143 := by unfold hi1; split <;> (try split) <;> omega
        by_cases k2 : inB (bt s (i + 1)) 128 143 = true
        · by_cases k3 : inB (bt s (i + 2)) 128 191 = true
          · by_cases k4 : inB (bt s (i + 3)) 128 191 = true
            · have hd : decE (dec s i) = .returned (.tuple #[.int .i32 (4 * 262144 + (s[i+1].toNat : Int) % 64 * 4096 + (s[i+2].toNat : Int) % 64 * 64 + (s[i+3].toNat : Int) % 64), .int .i64 4, .bool true]) := by unfold dec; rw [if_neg h0, if_neg h1, if_neg h2, if_neg h4, hl, hh, if_pos ⟨k1, k2, k3, k4⟩, e1, e2, e3]; exact ret3 (by omega)
              rw [hd]; exact dec4c_yes s i hs k1 (by omega) (by rw [← e1]; exact k2) (by rw [← e2]; exact k3) (by rw [← e3]; exact k4) w
            · have hd : decE (dec s i) = .returned (.tuple #[.int .i32 0, .int .i64 1, .bool false]) := by unfold dec; rw [if_neg h0, if_neg h1, if_neg h2, if_neg h4, hl, hh, if_neg (fun k => k4 k.2.2.2)]; rfl
              rw [hd]; exact dec4c_no3 s i hs k1 (by omega) (by rw [← e1]; exact k2) (by rw [← e2]; exact k3) (by rw [← e3]; exact bool_ff k4) w
          · have hd : decE (dec s i) = .returned (.tuple #[.int .i32 0, .int .i64 1, .bool false]) := by unfold dec; rw [if_neg h0, if_neg h1, if_neg h2, if_neg h4, hl, hh, if_neg (fun k => k3 k.2.2.1)]; rfl
            rw [hd]; exact dec4c_no2 s i hs k1 (by omega) (by rw [← e1]; exact k2) (by rw [← e2]; exact bool_ff k3) w
        · have hd : decE (dec s i) = .returned (.tuple #[.int .i32 0, .int .i64 1, .bool false]) := by unfold dec; rw [if_neg h0, if_neg h1, if_neg h2, if_neg h4, hl, hh, if_neg (fun k => k2 k.2.1)]; rfl
          rw [hd]; exact dec4c_no1 s i hs k1 (by omega) (by rw [← e1]; exact bool_ff k2) w
      have hl : lo1 (bt s i) = 128 := by unfold lo1; split <;> (try split) <;> omega
      have hh : hi1 (bt s i) = 191 := by unfold hi1; split <;> (try split) <;> omega
      by_cases k2 : inB (bt s (i + 1)) 128 191 = true
      · by_cases k3 : inB (bt s (i + 2)) 128 191 = true
        · by_cases k4 : inB (bt s (i + 3)) 128 191 = true
          · have hd : decE (dec s i) = .returned (.tuple #[.int .i32 (((s[i].toNat : Int) % 8) * 262144 + (s[i+1].toNat : Int) % 64 * 4096 + (s[i+2].toNat : Int) % 64 * 64 + (s[i+3].toNat : Int) % 64), .int .i64 4, .bool true]) := by unfold dec; rw [if_neg h0, if_neg h1, if_neg h2, if_neg h4, hl, hh, if_pos ⟨k1, k2, k3, k4⟩, e1, e2, e3]; exact ret3 (by omega)
            rw [hd]; exact dec4b_yes s i hs k1 (by omega) (by omega) (by rw [← e1]; exact k2) (by rw [← e2]; exact k3) (by rw [← e3]; exact k4) w
          · have hd : decE (dec s i) = .returned (.tuple #[.int .i32 0, .int .i64 1, .bool false]) := by unfold dec; rw [if_neg h0, if_neg h1, if_neg h2, if_neg h4, hl, hh, if_neg (fun k => k4 k.2.2.2)]; rfl
            rw [hd]; exact dec4b_no3 s i hs k1 (by omega) (by omega) (by rw [← e1]; exact k2) (by rw [← e2]; exact k3) (by rw [← e3]; exact bool_ff k4) w
        · have hd : decE (dec s i) = .returned (.tuple #[.int .i32 0, .int .i64 1, .bool false]) := by unfold dec; rw [if_neg h0, if_neg h1, if_neg h2, if_neg h4, hl, hh, if_neg (fun k => k3 k.2.2.1)]; rfl
          rw [hd]; exact dec4b_no2 s i hs k1 (by omega) (by omega) (by rw [← e1]; exact k2) (by rw [← e2]; exact bool_ff k3) w
      · have hd : decE (dec s i) = .returned (.tuple #[.int .i32 0, .int .i64 1, .bool false]) := by unfold dec; rw [if_neg h0, if_neg h1, if_neg h2, if_neg h4, hl, hh, if_neg (fun k => k2 k.2.1)]; rfl
        rw [hd]; exact dec4b_no1 s i hs k1 (by omega) (by omega) (by rw [← e1]; exact bool_ff k2) w
    · have hd : decE (dec s i) = .returned (.tuple #[.int .i32 0, .int .i64 1, .bool false]) := by unfold dec; rw [if_neg h0, if_neg h1, if_neg h2, if_neg h4, if_neg (fun k => k1 k.1)]; rfl
      rw [hd]
      by_cases qa : bt s i = 240
      · exact dec4a_short s i hs hi (by omega) (by omega) w
      by_cases qc : bt s i = 244
      · exact dec4c_short s i hs hi (by omega) (by omega) w
      exact dec4b_short s i hs hi (by omega) (by omega) (by omega) w

end Go.Proofs.Qxb6608953a
