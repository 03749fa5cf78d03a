import Derived.Test.Qxb6608953aEscL
namespace Go.Proofs.Qxb6608953a
open Go.RowKit

theorem and15 (r : Int) (h0 : 0 ≤ r) (h1 : r < 2097152) : bits .and .i32 r 15 = r % 16 := by
  obtain ⟨x, rfl⟩ := Int.eq_ofNat_of_zero_le h0
  rw [Lib.and15_i32 x (by omega)]
  omega

theorem ne_beq {a b : Int} (h : a ≠ b) : (a == b) = false := by simpa using h

set_option maxRecDepth 100000 in
set_option maxHeartbeats 40000000 in
theorem esc_any (s : ByteArray) (m : Bool) (hs : s.size ≤ 1048576) (w : World) :
    Calls Try.prog 7 #[.string s, .bool m] w fun e w' => ∃ v, e = .returned v ∧ Own w.heap.size w w' v (escF s m s.size 0) := by
  obtain ⟨B, hB⟩ : ∃ B, B = w.heap.size := ⟨_, rfl⟩
  rw [← hB]
  have HB : Hid (B = w.heap.size) := hB
  clear hB
  go_enter Try.func7, Try.ntmps7
  go_wp2
  go_loopw [5, 6] (fun v i wr => ∃ (k f : Nat) (acc : List Int), k ≤ s.size ∧ i = .int .i64 k ∧ s.size - k ≤ f ∧ acc.length ≤ 6 * k ∧ Own B w wr v acc ∧ Hid (acc ++ escF s m f k = escF s m s.size 0)) (fun _ i _ => s.size - (intOf i).toNat)
  case atStart => exact ⟨0, s.size, [], Nat.zero_le _, rfl, by omega, by simp, ⟨World.ownsRow_nil _ _ _ _, Below.refl _ _, by have := HB.out; omega⟩, rfl⟩
  case round =>
    obtain ⟨k, f, acc, hk, rfl, hf, hlen, hown, heq⟩ := hrel
    by_cases hlt : k < s.size
    · obtain ⟨r, n, o, hd⟩ : ∃ r n o, dec s k = (r, n, o) := ⟨_, _, _, rfl⟩
      obtain ⟨f', hf', heq'⟩ := esc_step s m k f acc _ hlt r n o hd hf heq.out
      obtain ⟨n1, n4, kn, r0, r1, on⟩ := dec_facts s k hlt r n o hd
      have HD : Hid (dec s k = (r, n, o)) := hd
      have HO : Hid (o = false → n = 1) := on
      clear hd on heq hf
      cases o with
      | false =>
        obtain rfl : n = 1 := HO.out rfl
        go_wp2_with (first | (go_at_call 8; refine (dec_rel s k hs hlt r 1 false HD hown).mono ?_; rintro e w' ⟨rfl, hown2⟩) | (at_builtin; refine wpList_app rfl (.tmp 24) (.tmp 25) rfl [92, 117, 102, 102, 102, 100] _ rfl hown2 rfl rfl (by simp; omega) ?_; intro v' w3 hown3))
        go_roundw
        case rel => exact ⟨k + 1, f', acc ++ [92, 117, 102, 102, 102, 100], kn, by go_num, hf', by simp; omega, hown3, heq'⟩
        case measure => simp [intOf]; omega
      | true =>
        clear HO
        by_cases c34 : r = 34
        · subst c34
          have hp : pieceD s m k (34, n, true) = [92, 34] := by simp [pieceD, pieceR]
          have heq2 : Hid ((acc ++ [92, 34]) ++ escF s m f' (k + n) = escF s m s.size 0) := by show _ = _; rw [← hp]; exact heq'.out
          clear hp heq'
          go_wp2_with (first | (go_at_call 8; refine (dec_rel s k hs hlt (34) n true HD hown).mono ?_; rintro e w' ⟨rfl, hown2⟩) | (at_builtin; refine wpList_app rfl (.tmp 54) (.tmp 57) rfl [92, 34] _ rfl hown2 rfl rfl (by simp; omega) ?_; intro v' w3 hown3))
          go_roundw
          case rel => exact ⟨k + n, f', acc ++ [92, 34], kn, by go_num, hf', by simp; omega, hown3, heq2⟩
          case measure => simp [intOf]; omega
        have g34 : (r == 34) = false := by simpa using c34
        by_cases c92 : r = 92
        · subst c92
          have hp : pieceD s m k (92, n, true) = [92, 92] := by simp [pieceD, pieceR]
          have heq2 : Hid ((acc ++ [92, 92]) ++ escF s m f' (k + n) = escF s m s.size 0) := by show _ = _; rw [← hp]; exact heq'.out
          clear hp heq'
          go_wp2_with (first | (go_at_call 8; refine (dec_rel s k hs hlt (92) n true HD hown).mono ?_; rintro e w' ⟨rfl, hown2⟩) | (at_builtin; refine wpList_app rfl (.tmp 54) (.tmp 57) rfl [92, 92] _ rfl hown2 rfl rfl (by simp; omega) ?_; intro v' w3 hown3))
          go_roundw
          case rel => exact ⟨k + n, f', acc ++ [92, 92], kn, by go_num, hf', by simp; omega, hown3, heq2⟩
          case measure => simp [intOf]; omega
        have g92 : (r == 92) = false := by simpa using c92
        by_cases c10 : r = 10
        · subst c10
          have hp : pieceD s m k (10, n, true) = [92, 110] := by simp [pieceD, pieceR]
          have heq2 : Hid ((acc ++ [92, 110]) ++ escF s m f' (k + n) = escF s m s.size 0) := by show _ = _; rw [← hp]; exact heq'.out
          clear hp heq'
          go_wp2_with (first | (go_at_call 8; refine (dec_rel s k hs hlt (10) n true HD hown).mono ?_; rintro e w' ⟨rfl, hown2⟩) | (at_builtin; refine wpList_app rfl (.tmp 62) (.tmp 63) rfl [92, 110] _ rfl hown2 rfl rfl (by simp; omega) ?_; intro v' w3 hown3))
          go_roundw
          case rel => exact ⟨k + n, f', acc ++ [92, 110], kn, by go_num, hf', by simp; omega, hown3, heq2⟩
          case measure => simp [intOf]; omega
        have g10 : (r == 10) = false := by simpa using c10
        by_cases c13 : r = 13
        · subst c13
          have hp : pieceD s m k (13, n, true) = [92, 114] := by simp [pieceD, pieceR]
          have heq2 : Hid ((acc ++ [92, 114]) ++ escF s m f' (k + n) = escF s m s.size 0) := by show _ = _; rw [← hp]; exact heq'.out
          clear hp heq'
          go_wp2_with (first | (go_at_call 8; refine (dec_rel s k hs hlt (13) n true HD hown).mono ?_; rintro e w' ⟨rfl, hown2⟩) | (at_builtin; refine wpList_app rfl (.tmp 68) (.tmp 69) rfl [92, 114] _ rfl hown2 rfl rfl (by simp; omega) ?_; intro v' w3 hown3))
          go_roundw
          case rel => exact ⟨k + n, f', acc ++ [92, 114], kn, by go_num, hf', by simp; omega, hown3, heq2⟩
          case measure => simp [intOf]; omega
        have g13 : (r == 13) = false := by simpa using c13
        by_cases c9 : r = 9
        · subst c9
          have hp : pieceD s m k (9, n, true) = [92, 116] := by simp [pieceD, pieceR]
          have heq2 : Hid ((acc ++ [92, 116]) ++ escF s m f' (k + n) = escF s m s.size 0) := by show _ = _; rw [← hp]; exact heq'.out
          clear hp heq'
          go_wp2_with (first | (go_at_call 8; refine (dec_rel s k hs hlt (9) n true HD hown).mono ?_; rintro e w' ⟨rfl, hown2⟩) | (at_builtin; refine wpList_app rfl (.tmp 74) (.tmp 75) rfl [92, 116] _ rfl hown2 rfl rfl (by simp; omega) ?_; intro v' w3 hown3))
          go_roundw
          case rel => exact ⟨k + n, f', acc ++ [92, 116], kn, by go_num, hf', by simp; omega, hown3, heq2⟩
          case measure => simp [intOf]; omega
        have g9 : (r == 9) = false := by simpa using c9
        cases m with
        | true =>
          by_cases c8 : r = 8
          · subst c8
            have hp : pieceD s true k (8, n, true) = [92, 98] := by simp [pieceD, pieceR]
            have heq2 : Hid ((acc ++ [92, 98]) ++ escF s true f' (k + n) = escF s true s.size 0) := by show _ = _; rw [← hp]; exact heq'.out
            clear hp heq'
            go_wp2_with (first | (go_at_call 8; refine (dec_rel s k hs hlt (8) n true HD hown).mono ?_; rintro e w' ⟨rfl, hown2⟩) | (at_builtin; refine wpList_app rfl (.tmp 83) (.tmp 84) rfl [92, 98] _ rfl hown2 rfl rfl (by simp; omega) ?_; intro v' w3 hown3))
            go_roundw
            case rel => exact ⟨k + n, f', acc ++ [92, 98], kn, by go_num, hf', by simp; omega, hown3, heq2⟩
            case measure => simp [intOf]; omega
          have g8 : (r == 8) = false := by simpa using c8
          by_cases c12 : r = 12
          · subst c12
            have hp : pieceD s true k (12, n, true) = [92, 102] := by simp [pieceD, pieceR]
            have heq2 : Hid ((acc ++ [92, 102]) ++ escF s true f' (k + n) = escF s true s.size 0) := by show _ = _; rw [← hp]; exact heq'.out
            clear hp heq'
            go_wp2_with (first | (go_at_call 8; refine (dec_rel s k hs hlt (12) n true HD hown).mono ?_; rintro e w' ⟨rfl, hown2⟩) | (at_builtin; refine wpList_app rfl (.tmp 92) (.tmp 93) rfl [92, 102] _ rfl hown2 rfl rfl (by simp; omega) ?_; intro v' w3 hown3))
            go_roundw
            case rel => exact ⟨k + n, f', acc ++ [92, 102], kn, by go_num, hf', by simp; omega, hown3, heq2⟩
            case measure => simp [intOf]; omega
          have g12 : (r == 12) = false := by simpa using c12
          by_cases h32 : r < 32
          · have e15 : bits .and .i32 r 15 = r % 16 := and15 _ (by omega) (by omega)
            have g60 : (r == 60) = false := ne_beq (by omega)
            have g62 : (r == 62) = false := ne_beq (by omega)
            have g38 : (r == 38) = false := ne_beq (by omega)
            have hp : pieceD s true k (r, n, true) = [92, 117, 48, 48, hexd (r / 16), hexd (r % 16)] := by show pieceR s true k r n = _; unfold pieceR; rw [if_neg (by omega), if_neg (by omega), if_neg (by omega), if_neg (by omega), if_neg (fun h => c8 h.2), if_neg (fun h => c12 h.2), if_pos (Or.inl h32)]
            have heq2 : Hid ((acc ++ [92, 117, 48, 48, hexd (r / 16), hexd (r % 16)]) ++ escF s true f' (k + n) = escF s true s.size 0) := by show _ = _; rw [← hp]; exact heq'.out
            clear hp heq' c34 c92 c10 c13 c9 c8 c12
            go_wp2_with (first | (go_at_call 8; refine (dec_rel s k hs hlt (r) n true HD hown).mono ?_; rintro e w' ⟨rfl, hown2⟩) | (go_at_call 9; refine (hexDigit_any _ (by omega) (by omega) _).mono ?_; rintro e w' ⟨rfl, rfl⟩) | (at_builtin; refine wpList_app rfl (.tmp 104) (.tmp 111) rfl [92, 117, 48, 48, hexd (r / 16), hexd (r % 16)] _ rfl hown2 rfl rfl (by simp; omega) ?_; intro v' w3 hown3))
            go_roundw
            case rel => exact ⟨k + n, f', acc ++ [92, 117, 48, 48, hexd (r / 16), hexd (r % 16)], kn, by go_num, hf', by simp; omega, hown3, heq2⟩
            case measure => simp [intOf]; omega
          by_cases c60 : r = 60
          · subst c60
            have e15 : bits .and .i32 (60) 15 = (60) % 16 := and15 _ (by omega) (by omega)
            have hp : pieceD s true k (60, n, true) = [92, 117, 48, 48, hexd 3, hexd 12] := by simp [pieceD, pieceR]
            have heq2 : Hid ((acc ++ [92, 117, 48, 48, hexd 3, hexd 12]) ++ escF s true f' (k + n) = escF s true s.size 0) := by show _ = _; rw [← hp]; exact heq'.out
            clear hp heq'
            go_wp2_with (first | (go_at_call 8; refine (dec_rel s k hs hlt (60) n true HD hown).mono ?_; rintro e w' ⟨rfl, hown2⟩) | (go_at_call 9; refine (hexDigit_any _ (by omega) (by omega) _).mono ?_; rintro e w' ⟨rfl, rfl⟩) | (at_builtin; refine wpList_app rfl (.tmp 104) (.tmp 111) rfl [92, 117, 48, 48, hexd 3, hexd 12] _ rfl hown2 rfl rfl (by simp; omega) ?_; intro v' w3 hown3))
            go_roundw
            case rel => exact ⟨k + n, f', acc ++ [92, 117, 48, 48, hexd 3, hexd 12], kn, by go_num, hf', by simp; omega, hown3, heq2⟩
            case measure => simp [intOf]; omega
          have g60 : (r == 60) = false := by simpa using c60
          by_cases c62 : r = 62
          · subst c62
            have e15 : bits .and .i32 (62) 15 = (62) % 16 := and15 _ (by omega) (by omega)
            have hp : pieceD s true k (62, n, true) = [92, 117, 48, 48, hexd 3, hexd 14] := by simp [pieceD, pieceR]
            have heq2 : Hid ((acc ++ [92, 117, 48, 48, hexd 3, hexd 14]) ++ escF s true f' (k + n) = escF s true s.size 0) := by show _ = _; rw [← hp]; exact heq'.out
            clear hp heq'
            go_wp2_with (first | (go_at_call 8; refine (dec_rel s k hs hlt (62) n true HD hown).mono ?_; rintro e w' ⟨rfl, hown2⟩) | (go_at_call 9; refine (hexDigit_any _ (by omega) (by omega) _).mono ?_; rintro e w' ⟨rfl, rfl⟩) | (at_builtin; refine wpList_app rfl (.tmp 104) (.tmp 111) rfl [92, 117, 48, 48, hexd 3, hexd 14] _ rfl hown2 rfl rfl (by simp; omega) ?_; intro v' w3 hown3))
            go_roundw
            case rel => exact ⟨k + n, f', acc ++ [92, 117, 48, 48, hexd 3, hexd 14], kn, by go_num, hf', by simp; omega, hown3, heq2⟩
            case measure => simp [intOf]; omega
          have g62 : (r == 62) = false := by simpa using c62
          by_cases c38 : r = 38
          · subst c38
            have e15 : bits .and .i32 (38) 15 = (38) % 16 := and15 _ (by omega) (by omega)
            have hp : pieceD s true k (38, n, true) = [92, 117, 48, 48, hexd 2, hexd 6] := by simp [pieceD, pieceR]
            have heq2 : Hid ((acc ++ [92, 117, 48, 48, hexd 2, hexd 6]) ++ escF s true f' (k + n) = escF s true s.size 0) := by show _ = _; rw [← hp]; exact heq'.out
            clear hp heq'
            go_wp2_with (first | (go_at_call 8; refine (dec_rel s k hs hlt (38) n true HD hown).mono ?_; rintro e w' ⟨rfl, hown2⟩) | (go_at_call 9; refine (hexDigit_any _ (by omega) (by omega) _).mono ?_; rintro e w' ⟨rfl, rfl⟩) | (at_builtin; refine wpList_app rfl (.tmp 104) (.tmp 111) rfl [92, 117, 48, 48, hexd 2, hexd 6] _ rfl hown2 rfl rfl (by simp; omega) ?_; intro v' w3 hown3))
            go_roundw
            case rel => exact ⟨k + n, f', acc ++ [92, 117, 48, 48, hexd 2, hexd 6], kn, by go_num, hf', by simp; omega, hown3, heq2⟩
            case measure => simp [intOf]; omega
          have g38 : (r == 38) = false := by simpa using c38
          by_cases c8232 : r = 8232
          · subst c8232
            have e15 : bits .and .i32 (8232) 15 = (8232) % 16 := and15 _ (by omega) (by omega)
            have hp : pieceD s true k (8232, n, true) = [92, 117, 50, 48, 50, hexd 8] := by simp [pieceD, pieceR]
            have heq2 : Hid ((acc ++ [92, 117, 50, 48, 50, hexd 8]) ++ escF s true f' (k + n) = escF s true s.size 0) := by show _ = _; rw [← hp]; exact heq'.out
            clear hp heq'
            go_wp2_with (first | (go_at_call 8; refine (dec_rel s k hs hlt (8232) n true HD hown).mono ?_; rintro e w' ⟨rfl, hown2⟩) | (go_at_call 9; refine (hexDigit_any _ (by omega) (by omega) _).mono ?_; rintro e w' ⟨rfl, rfl⟩) | (at_builtin; refine wpList_app rfl (.tmp 120) (.tmp 124) rfl [92, 117, 50, 48, 50, hexd 8] _ rfl hown2 rfl rfl (by simp; omega) ?_; intro v' w3 hown3))
            go_roundw
            case rel => exact ⟨k + n, f', acc ++ [92, 117, 50, 48, 50, hexd 8], kn, by go_num, hf', by simp; omega, hown3, heq2⟩
            case measure => simp [intOf]; omega
          have g8232 : (r == 8232) = false := by simpa using c8232
          by_cases c8233 : r = 8233
          · subst c8233
            have e15 : bits .and .i32 (8233) 15 = (8233) % 16 := and15 _ (by omega) (by omega)
            have hp : pieceD s true k (8233, n, true) = [92, 117, 50, 48, 50, hexd 9] := by simp [pieceD, pieceR]
            have heq2 : Hid ((acc ++ [92, 117, 50, 48, 50, hexd 9]) ++ escF s true f' (k + n) = escF s true s.size 0) := by show _ = _; rw [← hp]; exact heq'.out
            clear hp heq'
            go_wp2_with (first | (go_at_call 8; refine (dec_rel s k hs hlt (8233) n true HD hown).mono ?_; rintro e w' ⟨rfl, hown2⟩) | (go_at_call 9; refine (hexDigit_any _ (by omega) (by omega) _).mono ?_; rintro e w' ⟨rfl, rfl⟩) | (at_builtin; refine wpList_app rfl (.tmp 120) (.tmp 124) rfl [92, 117, 50, 48, 50, hexd 9] _ rfl hown2 rfl rfl (by simp; omega) ?_; intro v' w3 hown3))
            go_roundw
            case rel => exact ⟨k + n, f', acc ++ [92, 117, 50, 48, 50, hexd 9], kn, by go_num, hf', by simp; omega, hown3, heq2⟩
            case measure => simp [intOf]; omega
          have g8233 : (r == 8233) = false := by simpa using c8233
          have hp : pieceD s true k (r, n, true) = cut s k n := by show pieceR s true k r n = _; unfold pieceR; rw [if_neg (by omega), if_neg (by omega), if_neg (by omega), if_neg (by omega), if_neg (fun h => c8 h.2), if_neg (fun h => c12 h.2), if_neg (by omega), if_neg (by omega)]
          have heq2 : Hid ((acc ++ cut s k n) ++ escF s true f' (k + n) = escF s true s.size 0) := by show _ = _; rw [← hp]; exact heq'.out
          clear hp heq' c34 c92 c10 c13 c9 c60 c62 c38 c8232 c8233 c8 c12
          go_wp2_with (first | (go_at_call 8; refine (dec_rel s k hs hlt (r) n true HD hown).mono ?_; rintro e w' ⟨rfl, hown2⟩) | (at_builtin; refine wpList_app_str rfl (.tmp 39) (.tmp 45) rfl s k n kn hown2 rfl rfl (by omega) ?_; intro v' w3 hown3))
          go_roundw
          case rel => exact ⟨k + n, f', acc ++ cut s k n, kn, by go_num, hf', by rw [List.length_append, cut_length s k n kn]; omega, hown3, heq2⟩
          case measure => simp [intOf]; omega
        | false =>
          by_cases h32 : r < 32
          · have e15 : bits .and .i32 r 15 = r % 16 := and15 _ (by omega) (by omega)
            have g60 : (r == 60) = false := ne_beq (by omega)
            have g62 : (r == 62) = false := ne_beq (by omega)
            have g38 : (r == 38) = false := ne_beq (by omega)
            have hp : pieceD s false k (r, n, true) = [92, 117, 48, 48, hexd (r / 16), hexd (r % 16)] := by show pieceR s false k r n = _; unfold pieceR; rw [if_neg (by omega), if_neg (by omega), if_neg (by omega), if_neg (by omega), if_neg (by simp), if_neg (by simp), if_pos (Or.inl h32)]
            have heq2 : Hid ((acc ++ [92, 117, 48, 48, hexd (r / 16), hexd (r % 16)]) ++ escF s false f' (k + n) = escF s false s.size 0) := by show _ = _; rw [← hp]; exact heq'.out
            clear hp heq' c34 c92 c10 c13 c9
            go_wp2_with (first | (go_at_call 8; refine (dec_rel s k hs hlt (r) n true HD hown).mono ?_; rintro e w' ⟨rfl, hown2⟩) | (go_at_call 9; refine (hexDigit_any _ (by omega) (by omega) _).mono ?_; rintro e w' ⟨rfl, rfl⟩) | (at_builtin; refine wpList_app rfl (.tmp 104) (.tmp 111) rfl [92, 117, 48, 48, hexd (r / 16), hexd (r % 16)] _ rfl hown2 rfl rfl (by simp; omega) ?_; intro v' w3 hown3))
            go_roundw
            case rel => exact ⟨k + n, f', acc ++ [92, 117, 48, 48, hexd (r / 16), hexd (r % 16)], kn, by go_num, hf', by simp; omega, hown3, heq2⟩
            case measure => simp [intOf]; omega
          by_cases c60 : r = 60
          · subst c60
            have hp : pieceD s false k (60, n, true) = cut s k n := by simp [pieceD, pieceR]
            have heq2 : Hid ((acc ++ cut s k n) ++ escF s false f' (k + n) = escF s false s.size 0) := by show _ = _; rw [← hp]; exact heq'.out
            clear hp heq'
            go_wp2_with (first | (go_at_call 8; refine (dec_rel s k hs hlt (60) n true HD hown).mono ?_; rintro e w' ⟨rfl, hown2⟩) | (at_builtin; refine wpList_app_str rfl (.tmp 39) (.tmp 45) rfl s k n kn hown2 rfl rfl (by omega) ?_; intro v' w3 hown3))
            go_roundw
            case rel => exact ⟨k + n, f', acc ++ cut s k n, kn, by go_num, hf', by rw [List.length_append, cut_length s k n kn]; omega, hown3, heq2⟩
            case measure => simp [intOf]; omega
          have g60 : (r == 60) = false := by simpa using c60
          by_cases c62 : r = 62
          · subst c62
            have hp : pieceD s false k (62, n, true) = cut s k n := by simp [pieceD, pieceR]
            have heq2 : Hid ((acc ++ cut s k n) ++ escF s false f' (k + n) = escF s false s.size 0) := by show _ = _; rw [← hp]; exact heq'.out
            clear hp heq'
            go_wp2_with (first | (go_at_call 8; refine (dec_rel s k hs hlt (62) n true HD hown).mono ?_; rintro e w' ⟨rfl, hown2⟩) | (at_builtin; refine wpList_app_str rfl (.tmp 39) (.tmp 45) rfl s k n kn hown2 rfl rfl (by omega) ?_; intro v' w3 hown3))
            go_roundw
            case rel => exact ⟨k + n, f', acc ++ cut s k n, kn, by go_num, hf', by rw [List.length_append, cut_length s k n kn]; omega, hown3, heq2⟩
            case measure => simp [intOf]; omega
          have g62 : (r == 62) = false := by simpa using c62
          by_cases c38 : r = 38
          · subst c38
            have hp : pieceD s false k (38, n, true) = cut s k n := by simp [pieceD, pieceR]
            have heq2 : Hid ((acc ++ cut s k n) ++ escF s false f' (k + n) = escF s false s.size 0) := by show _ = _; rw [← hp]; exact heq'.out
            clear hp heq'
            go_wp2_with (first | (go_at_call 8; refine (dec_rel s k hs hlt (38) n true HD hown).mono ?_; rintro e w' ⟨rfl, hown2⟩) | (at_builtin; refine wpList_app_str rfl (.tmp 39) (.tmp 45) rfl s k n kn hown2 rfl rfl (by omega) ?_; intro v' w3 hown3))
            go_roundw
            case rel => exact ⟨k + n, f', acc ++ cut s k n, kn, by go_num, hf', by rw [List.length_append, cut_length s k n kn]; omega, hown3, heq2⟩
            case measure => simp [intOf]; omega
          have g38 : (r == 38) = false := by simpa using c38
          by_cases c8232 : r = 8232
          · subst c8232
            have e15 : bits .and .i32 (8232) 15 = (8232) % 16 := and15 _ (by omega) (by omega)
            have hp : pieceD s false k (8232, n, true) = [92, 117, 50, 48, 50, hexd 8] := by simp [pieceD, pieceR]
            have heq2 : Hid ((acc ++ [92, 117, 50, 48, 50, hexd 8]) ++ escF s false f' (k + n) = escF s false s.size 0) := by show _ = _; rw [← hp]; exact heq'.out
            clear hp heq'
            go_wp2_with (first | (go_at_call 8; refine (dec_rel s k hs hlt (8232) n true HD hown).mono ?_; rintro e w' ⟨rfl, hown2⟩) | (go_at_call 9; refine (hexDigit_any _ (by omega) (by omega) _).mono ?_; rintro e w' ⟨rfl, rfl⟩) | (at_builtin; refine wpList_app rfl (.tmp 120) (.tmp 124) rfl [92, 117, 50, 48, 50, hexd 8] _ rfl hown2 rfl rfl (by simp; omega) ?_; intro v' w3 hown3))
            go_roundw
            case rel => exact ⟨k + n, f', acc ++ [92, 117, 50, 48, 50, hexd 8], kn, by go_num, hf', by simp; omega, hown3, heq2⟩
            case measure => simp [intOf]; omega
          have g8232 : (r == 8232) = false := by simpa using c8232
          by_cases c8233 : r = 8233
          · subst c8233
            have e15 : bits .and .i32 (8233) 15 = (8233) % 16 := and15 _ (by omega) (by omega)
            have hp : pieceD s false k (8233, n, true) = [92, 117, 50, 48, 50, hexd 9] := by simp [pieceD, pieceR]
            have heq2 : Hid ((acc ++ [92, 117, 50, 48, 50, hexd 9]) ++ escF s false f' (k + n) = escF s false s.size 0) := by show _ = _; rw [← hp]; exact heq'.out
            clear hp heq'
            go_wp2_with (first | (go_at_call 8; refine (dec_rel s k hs hlt (8233) n true HD hown).mono ?_; rintro e w' ⟨rfl, hown2⟩) | (go_at_call 9; refine (hexDigit_any _ (by omega) (by omega) _).mono ?_; rintro e w' ⟨rfl, rfl⟩) | (at_builtin; refine wpList_app rfl (.tmp 120) (.tmp 124) rfl [92, 117, 50, 48, 50, hexd 9] _ rfl hown2 rfl rfl (by simp; omega) ?_; intro v' w3 hown3))
            go_roundw
            case rel => exact ⟨k + n, f', acc ++ [92, 117, 50, 48, 50, hexd 9], kn, by go_num, hf', by simp; omega, hown3, heq2⟩
            case measure => simp [intOf]; omega
          have g8233 : (r == 8233) = false := by simpa using c8233
          have hp : pieceD s false k (r, n, true) = cut s k n := by show pieceR s false k r n = _; unfold pieceR; rw [if_neg (by omega), if_neg (by omega), if_neg (by omega), if_neg (by omega), if_neg (by simp), if_neg (by simp), if_neg (by simp; omega), if_neg (by omega)]
          have heq2 : Hid ((acc ++ cut s k n) ++ escF s false f' (k + n) = escF s false s.size 0) := by show _ = _; rw [← hp]; exact heq'.out
          clear hp heq' c34 c92 c10 c13 c9 c60 c62 c38 c8232 c8233
          go_wp2_with (first | (go_at_call 8; refine (dec_rel s k hs hlt (r) n true HD hown).mono ?_; rintro e w' ⟨rfl, hown2⟩) | (at_builtin; refine wpList_app_str rfl (.tmp 39) (.tmp 45) rfl s k n kn hown2 rfl rfl (by omega) ?_; intro v' w3 hown3))
          go_roundw
          case rel => exact ⟨k + n, f', acc ++ cut s k n, kn, by go_num, hf', by rw [List.length_append, cut_length s k n kn]; omega, hown3, heq2⟩
          case measure => simp [intOf]; omega
    · go_wp2
      go_ret
      have e : escF s m f k = [] := by
        cases f with
        | zero => rfl
        | succ f => show (if k < s.size then _ else []) = []; rw [if_neg hlt]
      have h2 := heq.out
      rw [e, List.append_nil] at h2
      rw [h2] at hown
      exact ⟨_, rfl, hown⟩
end Go.Proofs.Qxb6608953a
