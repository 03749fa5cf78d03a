import Derived.Test.Qxb6608927aFmtWalkB
namespace Go.Proofs.Qxb6608927aFmt
open Go.RowKit

def ds (v : Int) : List Int := [v / 1152921504606846976 % 16, v / 72057594037927936 % 16, v / 4503599627370496 % 16, v / 281474976710656 % 16, v / 17592186044416 % 16, v / 1099511627776 % 16, v / 68719476736 % 16, v / 4294967296 % 16, v / 268435456 % 16, v / 16777216 % 16, v / 1048576 % 16, v / 65536 % 16, v / 4096 % 16, v / 256 % 16, v / 16 % 16, v % 16]
def dig (v : Int) (k : Nat) : Int := (ds v).getD k 0

theorem hexNums_eq (v : Int) : hexNums v = (ds v).map hexd := rfl

theorem ds_bd (v : Int) : ∀ x ∈ ds v, 0 ≤ x ∧ x < 16 := by
  intro x hx
  simp only [ds, List.mem_cons, List.not_mem_nil, or_false] at hx
  omega

theorem dig_bd (v : Int) (k : Nat) : 0 ≤ dig v k ∧ dig v k < 16 := by
  unfold dig
  rw [List.getD_eq_getElem?_getD]
  by_cases h : k < (ds v).length
  · rw [List.getElem?_eq_getElem h]
    exact ds_bd v _ (List.getElem_mem h)
  · rw [List.getElem?_eq_none (by omega)]
    simp

theorem val_s (d : Nat → Int) (k : Nat) : val d (k + 1) = val d k * 16 + d k := rfl

theorem val_dig (v : Int) (h0 : 0 ≤ v) (h1 : v < 18446744073709551616) : val (dig v) 16 = v := by
  have e0 : val (dig v) 0 = 0 := rfl
  have e1 : val (dig v) 1 = v / 1152921504606846976 := by rw [val_s (dig v) 0, e0, show dig v 0 = v / 1152921504606846976 % 16 from rfl]; omega
  have e2 : val (dig v) 2 = v / 72057594037927936 := by rw [val_s (dig v) 1, e1, show dig v 1 = v / 72057594037927936 % 16 from rfl]; omega
  have e3 : val (dig v) 3 = v / 4503599627370496 := by rw [val_s (dig v) 2, e2, show dig v 2 = v / 4503599627370496 % 16 from rfl]; omega
  have e4 : val (dig v) 4 = v / 281474976710656 := by rw [val_s (dig v) 3, e3, show dig v 3 = v / 281474976710656 % 16 from rfl]; omega
  have e5 : val (dig v) 5 = v / 17592186044416 := by rw [val_s (dig v) 4, e4, show dig v 4 = v / 17592186044416 % 16 from rfl]; omega
  have e6 : val (dig v) 6 = v / 1099511627776 := by rw [val_s (dig v) 5, e5, show dig v 5 = v / 1099511627776 % 16 from rfl]; omega
  have e7 : val (dig v) 7 = v / 68719476736 := by rw [val_s (dig v) 6, e6, show dig v 6 = v / 68719476736 % 16 from rfl]; omega
  have e8 : val (dig v) 8 = v / 4294967296 := by rw [val_s (dig v) 7, e7, show dig v 7 = v / 4294967296 % 16 from rfl]; omega
  have e9 : val (dig v) 9 = v / 268435456 := by rw [val_s (dig v) 8, e8, show dig v 8 = v / 268435456 % 16 from rfl]; omega
  have e10 : val (dig v) 10 = v / 16777216 := by rw [val_s (dig v) 9, e9, show dig v 9 = v / 16777216 % 16 from rfl]; omega
  have e11 : val (dig v) 11 = v / 1048576 := by rw [val_s (dig v) 10, e10, show dig v 10 = v / 1048576 % 16 from rfl]; omega
  have e12 : val (dig v) 12 = v / 65536 := by rw [val_s (dig v) 11, e11, show dig v 11 = v / 65536 % 16 from rfl]; omega
  have e13 : val (dig v) 13 = v / 4096 := by rw [val_s (dig v) 12, e12, show dig v 12 = v / 4096 % 16 from rfl]; omega
  have e14 : val (dig v) 14 = v / 256 := by rw [val_s (dig v) 13, e13, show dig v 13 = v / 256 % 16 from rfl]; omega
  have e15 : val (dig v) 15 = v / 16 := by rw [val_s (dig v) 14, e14, show dig v 14 = v / 16 % 16 from rfl]; omega
  have e16 : val (dig v) 16 = v := by rw [val_s (dig v) 15, e15, show dig v 15 = v % 16 from rfl]; omega
  exact e16

theorem hexd_bd (d : Int) (h0 : 0 ≤ d) (h1 : d < 16) : 0 ≤ hexd d ∧ hexd d < 256 := by
  unfold hexd
  split <;> omega

theorem str_size (v : Int) : (strOfNums (hexNums v)).size = 16 := by
  rw [strOfNums_size]; rfl

theorem str_get (v : Int) (k : Nat) (hk : k < (strOfNums (hexNums v)).size) : ((strOfNums (hexNums v))[k].toNat : Int) = hexd (dig v k) := by
  have hl : k < (ds v).length := by rw [str_size] at hk; exact hk
  have e : (strOfNums (hexNums v))[k] = UInt8.ofNat (hexd (dig v k)).toNat := by
    show (strOfNums (hexNums v)).data[k] = _
    simp only [strOfNums, hexNums_eq, List.getElem_toArray, List.getElem_map, dig, List.getD_eq_getElem?_getD, List.getElem?_eq_getElem hl, Option.getD_some]
  refine (congrArg (fun b : UInt8 => (b.toNat : Int)) e).trans ?_
  have hb := dig_bd v k
  have hh := hexd_bd _ hb.1 hb.2
  simp only [UInt8.toNat_ofNat']
  omega

theorem unmarshal_at (v : Int) (h0 : 0 ≤ v) (h1 : v < 18446744073709551616) (w : World) (p q : Nat) (hp : p = w.heap.size) (hq : q = w.heap.size + 1) :
    Calls Tryf.prog 8 #[.pointer (some ⟨p, 0, none⟩), .slice (some ⟨q, 0, none⟩) 8 8] ((w.alloc (.cells #[.int .u64 1, .int .u16 1] 25)).alloc (.cells #[.int .u8 (v / 72057594037927936), .int .u8 (v / 281474976710656 % 256), .int .u8 (v / 1099511627776 % 256), .int .u8 (v / 4294967296 % 256), .int .u8 (v / 16777216 % 256), .int .u8 (v / 65536 % 256), .int .u8 (v / 256 % 256), .int .u8 (v % 256)] 5)) fun e w' => e = .returned .nilIface ∧
      Below w.heap.size w w' ∧ p + 1 < w'.heap.size ∧ w'.cell? ⟨p, 0, none⟩ = some (.int .u64 (v / 65536)) ∧ w'.cell? ⟨p, 1, none⟩ = some (.int .u16 (v % 65536)) := by
  subst hp hq
  exact unmarshal_any v h0 h1 w

theorem law_walk (v : Int) (h0 : 0 ≤ v) (h1 : v < 18446744073709551616) (w : World) :
    Calls Tryf.prog 3 #[.int .u64 v] w fun e w' => e = .returned (.bool true) ∧ Below w.heap.size w w' := by
  have hq : ¬ 281474976710655 < v / 65536 := by omega
  go_enter Tryf.func3, Tryf.ntmps3
  go_wp2_with fail
  refine (zzOfWire_any v h0 h1 _).mono ?_; rintro e w' ⟨rfl, c1, c2, rfl⟩
  go_wp2_with fail
  refine (wireOf_any _ _ (by omega) (by omega) (by omega) (by omega) _).mono ?_; rintro e w' ⟨rfl, c3, rfl⟩
  rw [show v / 65536 * 65536 + v % 65536 = v from by omega]
  go_wp2_with fail
  refine (be8_any v h0 h1 _).mono ?_; rintro e w' ⟨rfl, rfl⟩
  go_wp2_with fail
  refine (unmarshal_at v h0 h1 _ _ _ (by simp) (by simp)).mono ?_
  rintro e w5 ⟨rfl, hb, hz, k0, k1⟩
  have s0 : w5.cell? ⟨w.heap.size + 1 + 1, 0, none⟩ = some (.int .u64 (v / 65536)) := by
    rw [hb.cell (by simp)]; simp [go_sem]
  have s1 : w5.cell? ⟨w.heap.size + 1 + 1, 1, none⟩ = some (.int .u16 (v % 65536)) := by
    rw [hb.cell (by simp)]; simp [go_sem]
  have hbw : Below w.heap.size w w5 := (Below.alloc (Below.alloc (Below.alloc (Below.alloc (Below.refl _ _) (Nat.le_refl _) _) (by simp) _) (by simp; omega) _) (by simp; omega) _).trans (hb.mono (by simp; omega))
  clear hb
  go_wp2_with fail
  refine (hex16_any v h0 h1 _).mono ?_; rintro e w6 ⟨rfl, c6, rfl⟩
  go_wp2_with fail
  refine (parse_any _ (dig v) (str_size v) (dig_bd v) (str_get v) _).mono ?_; rintro e w7 ⟨rfl, hb7⟩
  rw [val_dig v h0 h1]
  have t0 : w7.cell? ⟨w.heap.size + 1 + 1, 0, none⟩ = some (.int .u64 (v / 65536)) := by
    rw [hb7.cell (by simp; omega)]; exact cell?_alloc_old _ s0
  have t1 : w7.cell? ⟨w.heap.size + 1 + 1, 1, none⟩ = some (.int .u16 (v % 65536)) := by
    rw [hb7.cell (by simp; omega)]; exact cell?_alloc_old _ s1
  have hsz : w5.heap.size + 1 ≤ w7.heap.size := by have := hb7.size; simpa using this
  have hbw7 : Below w.heap.size w w7 := (hbw.alloc (by omega) _).trans (hb7.mono (by simp; omega))
  have t0' : ∀ o, (w7.alloc o).cell? ⟨w.heap.size + 1 + 1, 0, none⟩ = some (.int .u64 (v / 65536)) := fun o => cell?_alloc_old o t0
  have t1' : ∀ o, (w7.alloc o).cell? ⟨w.heap.size + 1 + 1, 1, none⟩ = some (.int .u16 (v % 65536)) := fun o => cell?_alloc_old o t1
  go_wp2
  go_ret
  exact ⟨rfl, hbw7.alloc (by omega) _⟩
end Go.Proofs.Qxb6608927aFmt
