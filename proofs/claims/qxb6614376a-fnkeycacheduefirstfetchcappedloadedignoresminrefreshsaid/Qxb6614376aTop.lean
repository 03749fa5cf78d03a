import Derived.Test.Qxb6614376aLaw
namespace Go.Proofs.Qxb6614376a
open Go.RowKit

theorem ret_dec {p : Prop} [Decidable p] (h : p) : Ending.returned (.bool (decide p)) = .returned (.bool true) := by rw [decide_eq_true h]

def outB (x : Int) : Bool := decide (x < -2305843009213693952 ∨ 2305843009213693952 < x)
def In (x : Int) : Prop := -2305843009213693952 ≤ x ∧ x ≤ 2305843009213693952

theorem in_out {x : Int} (h : In x) : outB x = false := by
  obtain ⟨h0, h1⟩ := h
  unfold outB
  rw [decide_eq_false_iff_not]
  omega
theorem out_in {x : Int} (h : outB x = false) : In x := by
  unfold outB at h
  rw [decide_eq_false_iff_not] at h
  unfold In
  omega

theorem out_at (x : Int) (b : Bool) (h : Hid (outB x = b)) (w : World) :
    Calls Try.prog 12 #[.int .i64 x] w fun e w' => e = .returned (.bool b) ∧ w' = w := by
  have := outside_any x w
  rw [show decide (x < -2305843009213693952 ∨ 2305843009213693952 < x) = b from h.out] at this
  exact this

theorem below_filled {B : Nat} {w0 w w' : World} {b : Nat} (h : Below B w0 w) (hf : Filled w w' b) (hB : B ≤ b) (hs : B ≤ w.heap.size) : Below B w0 w' :=
  h.grown hf hs (fun k hk => by cases hk; exact hB)

theorem early0 (ls rf mr om : Int) (o0 : Hid (outB ls = true)) (w : World) :
    Calls Try.prog 5 #[.int .i64 ls, .int .i64 rf, .int .i64 mr, .int .i64 om] w fun e w' => e = .returned (.bool true) ∧ Below w.heap.size w w' := by
  go_enter Try.func5, Try.ntmps5
  go_wp2_with fail
  refine (out_at ls _ o0 _).mono ?_; rintro e w' ⟨rfl, rfl⟩
  go_wp2
  go_ret
  exact ⟨rfl, Below.refl _ _⟩

theorem early1 (ls rf mr om : Int) (o0 : Hid (outB ls = false)) (o1 : Hid (outB rf = true)) (w : World) :
    Calls Try.prog 5 #[.int .i64 ls, .int .i64 rf, .int .i64 mr, .int .i64 om] w fun e w' => e = .returned (.bool true) ∧ Below w.heap.size w w' := by
  go_enter Try.func5, Try.ntmps5
  go_wp2_with fail
  refine (out_at ls _ o0 _).mono ?_; rintro e w' ⟨rfl, rfl⟩
  go_wp2_with fail
  refine (out_at rf _ o1 _).mono ?_; rintro e w' ⟨rfl, rfl⟩
  go_wp2
  go_ret
  exact ⟨rfl, Below.refl _ _⟩

theorem early2 (ls rf mr om : Int) (o0 : Hid (outB ls = false)) (o1 : Hid (outB rf = false)) (o2 : Hid (outB mr = true)) (w : World) :
    Calls Try.prog 5 #[.int .i64 ls, .int .i64 rf, .int .i64 mr, .int .i64 om] w fun e w' => e = .returned (.bool true) ∧ Below w.heap.size w w' := by
  go_enter Try.func5, Try.ntmps5
  go_wp2_with fail
  refine (out_at ls _ o0 _).mono ?_; rintro e w' ⟨rfl, rfl⟩
  go_wp2_with fail
  refine (out_at rf _ o1 _).mono ?_; rintro e w' ⟨rfl, rfl⟩
  go_wp2_with fail
  refine (out_at mr _ o2 _).mono ?_; rintro e w' ⟨rfl, rfl⟩
  go_wp2
  go_ret
  exact ⟨rfl, Below.refl _ _⟩

theorem early3 (ls rf mr om : Int) (o0 : Hid (outB ls = false)) (o1 : Hid (outB rf = false)) (o2 : Hid (outB mr = false)) (o3 : Hid (outB om = true)) (w : World) :
    Calls Try.prog 5 #[.int .i64 ls, .int .i64 rf, .int .i64 mr, .int .i64 om] w fun e w' => e = .returned (.bool true) ∧ Below w.heap.size w w' := by
  go_enter Try.func5, Try.ntmps5
  go_wp2_with fail
  refine (out_at ls _ o0 _).mono ?_; rintro e w' ⟨rfl, rfl⟩
  go_wp2_with fail
  refine (out_at rf _ o1 _).mono ?_; rintro e w' ⟨rfl, rfl⟩
  go_wp2_with fail
  refine (out_at mr _ o2 _).mono ?_; rintro e w' ⟨rfl, rfl⟩
  go_wp2_with fail
  refine (out_at om _ o3 _).mono ?_; rintro e w' ⟨rfl, rfl⟩
  go_wp2
  go_ret
  exact ⟨rfl, Below.refl _ _⟩

set_option maxRecDepth 100000 in
set_option maxHeartbeats 2000000 in
theorem main_low (ls rf mr om : Int) (i0 : In ls) (i1 : In rf) (i2 : In mr) (i3 : In om) (hm : mr ≤ 5000000000) (w : World) :
    Calls Try.prog 5 #[.int .i64 ls, .int .i64 rf, .int .i64 mr, .int .i64 om] w fun e w' => e = .returned (.bool true) ∧ Below w.heap.size w w' := by
  have o0 : Hid (outB ls = false) := in_out i0
  have o1 : Hid (outB rf = false) := in_out i1
  have o2 : Hid (outB mr = false) := in_out i2
  have o3 : Hid (outB om = false) := in_out i3
  obtain ⟨a0, a1⟩ := i0
  obtain ⟨b0, b1⟩ := i1
  obtain ⟨m0, m1⟩ := i2
  obtain ⟨n0, n1⟩ := i3
  have EC : Hid (capped mr = mr) := by show capped mr = _; unfold capped; split <;> omega
  go_enter Try.func5, Try.ntmps5
  go_wp2_with fail
  refine (out_at ls _ o0 _).mono ?_; rintro e w' ⟨rfl, rfl⟩
  go_wp2_with fail
  refine (out_at rf _ o1 _).mono ?_; rintro e w' ⟨rfl, rfl⟩
  go_wp2_with fail
  refine (out_at mr _ o2 _).mono ?_; rintro e w' ⟨rfl, rfl⟩
  go_wp2_with fail
  refine (out_at om _ o3 _).mono ?_; rintro e w0 ⟨rfl, rfl⟩
  go_wp2_with fail
  refine (new_fresh ls rf mr a0 a1 _).mono ?_
  rintro e w1 ⟨k1, rfl, g1, f1, h1⟩
  go_wp2_with fail
  refine (new_fresh ls mr om a0 a1 _).mono ?_
  rintro e w2 ⟨k2, rfl, g2, f2, h2⟩
  have l1 := f1.lt
  replace f1 := f1.below h2
  replace h2 := h1.trans (h2.mono h1.size)
  clear h1
  go_wp2_with fail
  refine (fill_any k2 ls mr om _ f2).mono ?_
  rintro e w3 ⟨rfl, u2, h3⟩
  replace f1 := f1.filled h3 (by omega)
  have s2 := h2.size
  have l2 := f2.lt
  replace h3 := below_filled h2 h3 (by omega) h2.size
  clear h2 f2
  go_wp2_with fail
  refine (new_fresh ls rf mr a0 a1 _).mono ?_
  rintro e w4 ⟨k3, rfl, g3, f3, h4⟩
  have j1 := f1.lt
  have j2 := u2.lt
  replace f1 := f1.below h4
  replace u2 := u2.below h4
  replace h4 := h3.trans (h4.mono h3.size)
  have s3 := h3.size
  clear h3
  go_wp2_with fail
  refine (fill_any k3 ls rf mr _ f3).mono ?_
  rintro e w5 ⟨rfl, u3, h5⟩
  replace f1 := f1.filled h5 (by omega)
  replace u2 := u2.filled f3 h5 (by omega)
  replace h5 := below_filled h4 h5 (by omega) h4.size
  clear h4 f3
  go_wp2_with fail
  refine (new_fresh ls rf om a0 a1 _).mono ?_
  rintro e w6 ⟨k4, rfl, g4, f4, h6⟩
  have q1 := f1.lt
  have q2 := u2.lt
  have q3 := u3.lt
  replace f1 := f1.below h6
  replace u2 := u2.below h6
  replace u3 := u3.below h6
  replace h6 := h5.trans (h6.mono h5.size)
  have s5 := h5.size
  clear h5
  go_wp2_with fail
  refine (fill_any k4 ls rf om _ f4).mono ?_
  rintro e w7 ⟨rfl, u4, h7⟩
  replace f1 := f1.filled h7 (by omega)
  replace u2 := u2.filled f4 h7 (by omega)
  replace u3 := u3.filled f4 h7 (by omega)
  replace h7 := below_filled h6 h7 (by omega) h6.size
  clear h6 f4
  go_wp2_with fail
  refine (off_nil k1 ls rf mr a0 a1 m0 m1 _ f1).mono ?_
  rintro e w8 ⟨rfl, h8⟩
  rw [EC.out]
  replace u2 := u2.below h8
  replace u3 := u3.below h8
  replace u4 := u4.below h8
  replace h8 := h7.trans (h8.mono h7.size)
  clear h7 f1
  go_wp2_with fail
  refine (off_full k2 ls mr om a0 a1 (by omega) (by omega) _ u2).mono ?_
  rintro e w9 ⟨rfl, h9⟩
  replace u3 := u3.below h9
  replace u4 := u4.below h9
  replace h9 := h8.trans (h9.mono h8.size)
  clear h8 u2
  go_wp2_with fail
  refine (off_full k3 ls rf mr a0 a1 b0 b1 _ u3).mono ?_
  rintro e w10 ⟨rfl, h10⟩
  replace u4 := u4.below h10
  replace h10 := h9.trans (h10.mono h9.size)
  clear h9 u3
  go_wp2_with fail
  refine (off_full k4 ls rf om a0 a1 b0 b1 _ u4).mono ?_
  rintro e w11 ⟨rfl, h11⟩
  replace h11 := h10.trans (h11.mono h10.size)
  clear h10 u4
  go_wp2
  go_ret
  exact ⟨ret_dec (by omega), h11⟩

set_option maxRecDepth 100000 in
set_option maxHeartbeats 2000000 in
theorem main_high (ls rf mr om : Int) (i0 : In ls) (i1 : In rf) (i2 : In mr) (i3 : In om) (hm : 5000000000 < mr) (w : World) :
    Calls Try.prog 5 #[.int .i64 ls, .int .i64 rf, .int .i64 mr, .int .i64 om] w fun e w' => e = .returned (.bool true) ∧ Below w.heap.size w w' := by
  have o0 : Hid (outB ls = false) := in_out i0
  have o1 : Hid (outB rf = false) := in_out i1
  have o2 : Hid (outB mr = false) := in_out i2
  have o3 : Hid (outB om = false) := in_out i3
  obtain ⟨a0, a1⟩ := i0
  obtain ⟨b0, b1⟩ := i1
  obtain ⟨m0, m1⟩ := i2
  obtain ⟨n0, n1⟩ := i3
  have EC : Hid (capped mr = 5000000000) := by show capped mr = _; unfold capped; split <;> omega
  go_enter Try.func5, Try.ntmps5
  go_wp2_with fail
  refine (out_at ls _ o0 _).mono ?_; rintro e w' ⟨rfl, rfl⟩
  go_wp2_with fail
  refine (out_at rf _ o1 _).mono ?_; rintro e w' ⟨rfl, rfl⟩
  go_wp2_with fail
  refine (out_at mr _ o2 _).mono ?_; rintro e w' ⟨rfl, rfl⟩
  go_wp2_with fail
  refine (out_at om _ o3 _).mono ?_; rintro e w0 ⟨rfl, rfl⟩
  go_wp2_with fail
  refine (new_fresh ls rf mr a0 a1 _).mono ?_
  rintro e w1 ⟨k1, rfl, g1, f1, h1⟩
  go_wp2_with fail
  refine (new_fresh ls 5000000000 om a0 a1 _).mono ?_
  rintro e w2 ⟨k2, rfl, g2, f2, h2⟩
  have l1 := f1.lt
  replace f1 := f1.below h2
  replace h2 := h1.trans (h2.mono h1.size)
  clear h1
  go_wp2_with fail
  refine (fill_any k2 ls 5000000000 om _ f2).mono ?_
  rintro e w3 ⟨rfl, u2, h3⟩
  replace f1 := f1.filled h3 (by omega)
  have s2 := h2.size
  have l2 := f2.lt
  replace h3 := below_filled h2 h3 (by omega) h2.size
  clear h2 f2
  go_wp2_with fail
  refine (new_fresh ls rf mr a0 a1 _).mono ?_
  rintro e w4 ⟨k3, rfl, g3, f3, h4⟩
  have j1 := f1.lt
  have j2 := u2.lt
  replace f1 := f1.below h4
  replace u2 := u2.below h4
  replace h4 := h3.trans (h4.mono h3.size)
  have s3 := h3.size
  clear h3
  go_wp2_with fail
  refine (fill_any k3 ls rf mr _ f3).mono ?_
  rintro e w5 ⟨rfl, u3, h5⟩
  replace f1 := f1.filled h5 (by omega)
  replace u2 := u2.filled f3 h5 (by omega)
  replace h5 := below_filled h4 h5 (by omega) h4.size
  clear h4 f3
  go_wp2_with fail
  refine (new_fresh ls rf om a0 a1 _).mono ?_
  rintro e w6 ⟨k4, rfl, g4, f4, h6⟩
  have q1 := f1.lt
  have q2 := u2.lt
  have q3 := u3.lt
  replace f1 := f1.below h6
  replace u2 := u2.below h6
  replace u3 := u3.below h6
  replace h6 := h5.trans (h6.mono h5.size)
  have s5 := h5.size
  clear h5
  go_wp2_with fail
  refine (fill_any k4 ls rf om _ f4).mono ?_
  rintro e w7 ⟨rfl, u4, h7⟩
  replace f1 := f1.filled h7 (by omega)
  replace u2 := u2.filled f4 h7 (by omega)
  replace u3 := u3.filled f4 h7 (by omega)
  replace h7 := below_filled h6 h7 (by omega) h6.size
  clear h6 f4
  go_wp2_with fail
  refine (off_nil k1 ls rf mr a0 a1 m0 m1 _ f1).mono ?_
  rintro e w8 ⟨rfl, h8⟩
  rw [EC.out]
  replace u2 := u2.below h8
  replace u3 := u3.below h8
  replace u4 := u4.below h8
  replace h8 := h7.trans (h8.mono h7.size)
  clear h7 f1
  go_wp2_with fail
  refine (off_full k2 ls 5000000000 om a0 a1 (by omega) (by omega) _ u2).mono ?_
  rintro e w9 ⟨rfl, h9⟩
  replace u3 := u3.below h9
  replace u4 := u4.below h9
  replace h9 := h8.trans (h9.mono h8.size)
  clear h8 u2
  go_wp2_with fail
  refine (off_full k3 ls rf mr a0 a1 b0 b1 _ u3).mono ?_
  rintro e w10 ⟨rfl, h10⟩
  replace u4 := u4.below h10
  replace h10 := h9.trans (h10.mono h9.size)
  clear h9 u3
  go_wp2_with fail
  refine (off_full k4 ls rf om a0 a1 b0 b1 _ u4).mono ?_
  rintro e w11 ⟨rfl, h11⟩
  replace h11 := h10.trans (h11.mono h10.size)
  clear h10 u4
  go_wp2
  go_ret
  exact ⟨ret_dec (by omega), h11⟩

theorem law_walk (ls rf mr om : Int) (w : World) :
    Calls Try.prog 5 #[.int .i64 ls, .int .i64 rf, .int .i64 mr, .int .i64 om] w fun e w' => e = .returned (.bool true) ∧ Below w.heap.size w w' := by
  cases h0 : outB ls with
  | true => exact early0 ls rf mr om h0 w
  | false =>
    cases h1 : outB rf with
    | true => exact early1 ls rf mr om h0 h1 w
    | false =>
      cases h2 : outB mr with
      | true => exact early2 ls rf mr om h0 h1 h2 w
      | false =>
        cases h3 : outB om with
        | true => exact early3 ls rf mr om h0 h1 h2 h3 w
        | false =>
          by_cases hm : mr ≤ 5000000000
          · exact main_low ls rf mr om (out_in h0) (out_in h1) (out_in h2) (out_in h3) hm w
          · exact main_high ls rf mr om (out_in h0) (out_in h1) (out_in h2) (out_in h3) (by omega) w
end Go.Proofs.Qxb6614376a
