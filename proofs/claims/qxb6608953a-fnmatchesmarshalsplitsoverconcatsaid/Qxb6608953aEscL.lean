import Derived.Test.Qxb6608953aEsc
import Derived.WalkSmall
namespace Go.Proofs.Qxb6608953a
open Go.RowKit

theorem Try.info5 : (Try.prog.info? 5).map (fun i => (i.zero, i.size, i.bytes)) = some (some (.int .u8 0), 1, 1) := by kernel_rfl

def u8s (l : List Int) : List Value := l.map (Value.int .u8)

theorem u8s_append (a b : List Int) : u8s (a ++ b) = u8s a ++ u8s b := by simp [u8s]
theorem u8s_length (a : List Int) : (u8s a).length = a.length := by simp [u8s]

/-- what the loop carries of the slice that grows -/
structure Own (B : Nat) (w wr : World) (v : Value) (acc : List Int) : Prop where
  own : wr.ownsRow B 5 1 v acc.length (u8s acc)
  bel : Below B w wr
  le : B ≤ wr.heap.size

theorem Own.drewN {B : Nat} {w wr : World} {v : Value} {acc : List Int} (h : Own B w wr v acc) (q : Nat) : Own B w (wr.drewN q) v acc :=
  ⟨h.own, below_drewN h.bel q, h.le⟩

theorem dec_rel (s : ByteArray) (i : Nat) (hs : s.size ≤ 1048576) (hi : i < s.size) (r : Int) (n : Nat) (o : Bool) (h : Hid (dec s i = (r, n, o))) {B : Nat} {w wr : World} {v : Value} {acc : List Int} (hr : Own B w wr v acc) :
    Calls Try.prog 8 #[.string s, .int .i64 i] wr fun e w' => e = .returned (.tuple #[.int .i32 r, .int .i64 n, .bool o]) ∧ Own B w w' v acc := by
  have := dec_any s i hs hi wr
  rw [h.out] at this
  refine this.mono ?_
  rintro e w' ⟨he, q, rfl⟩
  exact ⟨he, hr.drewN q⟩

theorem wpList_app {ops : Array Oper} {rest : List Oper} {o : Oper} {a : Act} {Q : Exit → Act → World → Prop} (hgd : o.guard = none) (sl x : Operand)
    (ho : o.op = .call { callee := .builtin .append, args := #[sl, x], argTypes := #[25, 25] }) (news : List Int) (cells : Array Value) (hc : cells = (u8s news).toArray)
    {B : Nat} {w wd : World} {v : Value} {acc : List Int} (hr : Own B w wd v acc) (hs : a.eval sl = v) (hx : a.eval x = .slice (some ⟨wd.heap.size, 0, none⟩) news.length news.length) (hbd : acc.length + news.length ≤ 100000000)
    (h : ∀ v' w', Own B w w' v' (acc ++ news) → wpList Try.prog ops Q rest (a.put o.dst v') w') : wpList Try.prog ops Q (o :: rest) a (wd.alloc (.cells cells 5)) := by
  obtain ⟨i0, hi, hz0, hz1, hz2⟩ := info_parts Try.info5
  subst hc
  refine wpList_append_own _ hgd sl x 25 ho B 5 i0 (.int .u8 0) 1 1 Try.underlying25 hi hz0 hz1 hz2 rfl (by decide) v acc.length (u8s acc) hs (hr.own.alloc _) ⟨wd.heap.size, 0, none⟩ news.length news.length (u8s news) hx (by simp [u8s_length]) ?_ ?_ (by unfold maxLen; omega) (by omega) (by have := hr.le; simp; omega) ?_
  · intro j u hj
    have hadd : (⟨wd.heap.size, 0, none⟩ : Addr).add j = ⟨wd.heap.size, j, none⟩ := by unfold Addr.add; split <;> simp_all
    rw [hadd]
    rw [cell_of_row _ wd.heap.size j (u8s news).toArray 5 (0, 0) (heap_alloc_new wd _)]
    simpa using hj
  · intro u hu
    simp only [u8s, List.mem_map] at hu
    obtain ⟨z, _, rfl⟩ := hu
    rfl
  · intro v' w' h1 h2 _
    refine h v' w' ⟨?_, ?_, ?_⟩
    · rw [List.length_append, u8s_append]; exact h1
    · refine Below.grown (Below.alloc hr.bel hr.le _) h2 (by have := hr.le; simp; omega) ?_
      intro k hk
      exact (hr.own.lt k hk).1
    · have := h2.size
      have := hr.le
      simp at *
      omega

theorem strCells_cut (s : ByteArray) (k n : Nat) : Lib.strCells (s.extract k (k + n)) = u8s (cut s k n) := by
  unfold Lib.strCells u8s cut
  rw [List.map_map]
  rfl

theorem wpList_app_str {ops : Array Oper} {rest : List Oper} {o : Oper} {a : Act} {Q : Exit → Act → World → Prop} (hgd : o.guard = none) (sl x : Operand)
    (ho : o.op = .call { callee := .builtin .append, args := #[sl, x], argTypes := #[25, 9] }) (s : ByteArray) (k n : Nat) (hkn : k + n ≤ s.size)
    {B : Nat} {w wd : World} {v : Value} {acc : List Int} (hr : Own B w wd v acc) (hs : a.eval sl = v) (hx : a.eval x = .string (s.extract k (k + n))) (hbd : acc.length + n ≤ 100000000)
    (h : ∀ v' w', Own B w w' v' (acc ++ cut s k n) → wpList Try.prog ops Q rest (a.put o.dst v') w') : wpList Try.prog ops Q (o :: rest) a wd := by
  obtain ⟨i0, hi, hz0, hz1, hz2⟩ := info_parts Try.info5
  have hsz := size_extract s k n hkn
  refine Lib.wpList_append_own_string _ hgd sl x 25 9 ho B 5 i0 Try.underlying25 Try.underlying9 hi hz0 hz1 hz2 v acc.length (u8s acc) hs hr.own _ hx (by rw [hsz]; unfold maxLen; omega) (by rw [hsz]; omega) hr.le ?_
  intro v' w' h1 h2 _
  rw [hsz, strCells_cut] at h1
  refine h v' w' ⟨?_, ?_, ?_⟩
  · rw [List.length_append, u8s_append, cut_length s k n hkn]; exact h1
  · refine Below.grown hr.bel h2 hr.le ?_
    intro j hj
    exact (hr.own.lt j hj).1
  · have := h2.size
    have := hr.le
    omega

theorem esc_step (s : ByteArray) (m : Bool) (k f : Nat) (acc full : List Int) (hlt : k < s.size) (r : Int) (n : Nat) (o : Bool) (hd : dec s k = (r, n, o)) (hf : s.size - k ≤ f) (heq : acc ++ escF s m f k = full) :
    ∃ f', s.size - (k + n) ≤ f' ∧ Hid ((acc ++ pieceD s m k (r, n, o)) ++ escF s m f' (k + n) = full) := by
  obtain ⟨f', rfl⟩ : ∃ f', f = f' + 1 := ⟨f - 1, by omega⟩
  have ha := adv_pos s k hlt
  rw [hd] at ha
  refine ⟨f', by simp only at ha; omega, ?_⟩
  show _ = _
  rw [List.append_assoc, ← heq]
  congr 1
  show _ = (if k < s.size then pieceD s m k (dec s k) ++ escF s m f' (k + (dec s k).2.1) else [])
  rw [if_pos hlt, hd]

/-- the numbers of a decoded rune -/
theorem dec_facts (s : ByteArray) (k : Nat) (hlt : k < s.size) (r : Int) (n : Nat) (o : Bool) (hd : dec s k = (r, n, o)) :
    1 ≤ n ∧ n ≤ 4 ∧ k + n ≤ s.size ∧ 0 ≤ r ∧ r < 2097152 ∧ (o = false → n = 1) := by
  have hb := bt_bd s k
  by_cases h : bt s k < 128
  · rw [dec_near s k h] at hd
    simp only [Prod.mk.injEq] at hd
    obtain ⟨rfl, rfl, rfl⟩ := hd
    refine ⟨by omega, by omega, by omega, by omega, by omega, by simp⟩
  · have := dec_far s k hlt h
    rw [hd] at this
    rcases this with ⟨h1, h2, h3⟩ | ⟨h1, h2, h3, h4, h5, h6, _⟩
    · simp only at h1 h2 h3
      subst h1 h2 h3
      refine ⟨by omega, by omega, by omega, by omega, by omega, by simp⟩
    · simp only at h1 h2 h3 h4 h5 h6
      subst h1
      refine ⟨h4, h5, h6, by omega, h3, by simp⟩
end Go.Proofs.Qxb6608953a
