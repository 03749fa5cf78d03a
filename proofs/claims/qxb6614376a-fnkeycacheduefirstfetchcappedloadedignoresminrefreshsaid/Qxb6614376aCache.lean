import Derived.Test.Qxb6614376aTimeB
import Derived.Test.Qxb6614376aLocks
import Derived.Conc.MuLone
import Derived.Laws.LoneSync
import Derived.Defers
import Derived.Stop.LaidErr
namespace Go.Proofs.Qxb6614376a
open Go.RowKit

section
variable {P : Program} {f : FuncId} {fn : Func}
/-- sync/atomic.LoadPointer: what the cell holds (after the guide's law for numbers). -/
theorem run_call_loadp (hf : P.funcs[f]? = some fn) (hname : (fn.name == "runtime.NumGoroutine") = false) (hb : fn.body.isNone = true) (hn : Extern.findNext fn = none)
    (he : Extern.find fn = some (Extern.Atomic.loadT .ptr)) {a : Addr} {x : Option Addr} {w : World} (hc : w.cell? a = some (.pointer x)) :
    (callFunc f #[.pointer (some a)]).run P w = .ok (.value (.pointer x)) w := by
  rw [run_callFunc_extern hf hname hb hn he]
  change (Sem.run P (do Extern.Atomic.read .ptr (← asAddr (.pointer (some a)))) w).andThen _ = _
  simp [Extern.Atomic.read, asAddr, hc, Result.andThen]

/-- sync/atomic.StorePointer: the pointer is stored. -/
theorem run_call_storep (hf : P.funcs[f]? = some fn) (hname : (fn.name == "runtime.NumGoroutine") = false) (hb : fn.body.isNone = true) (hn : Extern.findNext fn = none)
    (he : Extern.find fn = some Extern.Atomic.storeT) {a : Addr} {y : Option Addr} {u : Value} {w : World} (hc : w.cell? a = some u) (hz : w.frozen? a = false) :
    (callFunc f #[.pointer (some a), .pointer y]).run P w = .ok (.value (.tuple #[])) (w.setCell a (.pointer y)) := by
  rw [run_callFunc_extern hf hname hb hn he]
  change (Sem.run P (do
    store (← asAddr (.pointer (some a))) (.pointer y) .atomic
    pure Extern.Atomic.none_) w).andThen _ = _
  simp [asAddr, hc, hz, run_store P w a (.pointer y) .atomic rfl, Result.andThen, Extern.Atomic.none_]
end

theorem loadp {a : Addr} {x : Option Addr} {w : World} (hc : w.cell? a = some (.pointer x)) : (callFunc 54 #[.pointer (some a)]).run Try.prog w = .ok (.value (.pointer x)) w :=
  run_call_loadp Try.func54 (by kernel_rfl) (by kernel_rfl) (by kernel_rfl) (by kernel_rfl) hc
theorem storep {a : Addr} {y : Option Addr} {u : Value} {w : World} (hc : w.cell? a = some u) (hz : w.frozen? a = false) : (callFunc 42 #[.pointer (some a), .pointer y]).run Try.prog w = .ok (.value (.tuple #[])) (w.setCell a (.pointer y)) :=
  run_call_storep Try.func42 (by kernel_rfl) (by kernel_rfl) (by kernel_rfl) (by kernel_rfl) hc hz

theorem tm_zero : tm 0 = .agg #[.int .u64 0, .int .i64 0, .pointer none] := rfl

theorem add_start (d : Int) (hd0 : -5000000000000000000 ≤ d) (hd1 : d ≤ 5000000000000000000) (w : World) :
    Calls Try.prog 24 #[.agg #[.int .u64 0, .int .i64 0, .pointer none], .int .i64 d] w fun e w' => e = .returned (tm d) ∧ ∃ c1 c2, w' = (w.alloc (.cells c1 62)).alloc (.cells c2 62) := by
  have h := add_tm 0 d (by omega) (by omega) hd0 hd1 w
  rw [tm_zero, Int.zero_add] at h
  exact h

/-- the block of a keyCache whose lock is free -/
def blk (p : Option Addr) (ls rf mr : Int) : Obj := .cells #[.pointer p, .pointer none, .string ⟨#[]⟩, .pointer none, .nilIface, .int .i64 0, .int .i64 rf, .int .i64 mr, .pointer none, .int .i32 0, .int .u32 0, .int .u64 (ls % 1000000000), .int .i64 (ls / 1000000000), .pointer none, .chan none] 87 (0, 0)

theorem new_any (ls rf mr : Int) (h0 : -2305843009213693952 ≤ ls) (h1 : ls ≤ 2305843009213693952) (w : World) :
    Calls Try.prog 13 #[.int .i64 ls, .int .i64 rf, .int .i64 mr] w fun e w' => ∃ b, e = .returned (.pointer (some ⟨b, 0, none⟩)) ∧ w.heap.size ≤ b ∧ w'.heap[b]? = some (blk none ls rf mr) ∧ Below w.heap.size w w' := by
  go_enter Try.func13, Try.ntmps13
  go_wp2_with fail
  refine (add_start ls (by omega) (by omega) _).mono ?_
  rintro e w' ⟨rfl, c1, c2, rfl⟩
  unfold tm
  go_wp2
  go_ret
  have hsz : ((w.alloc (.cells c1 62)).alloc (.cells c2 62)).heap.size = w.heap.size + 1 + 1 := by simp
  refine ⟨w.heap.size + 1 + 1, rfl, by omega, ?_, by go_grown⟩
  rw [← hsz]
  exact heap_alloc_new _ _

/-- atomic.Pointer's Load, the cell nil -/
theorem load_nil (b : Nat) (w : World) (hc : w.cell? ⟨b, 0, none⟩ = some (.pointer none)) :
    Calls Try.prog 45 #[.pointer (some ⟨b, 0, none⟩)] w fun e w' => e = .returned (.pointer none) ∧ w' = w := by
  have hl := loadp hc
  have hcv : ∀ wx, (convert 75 72 (.pointer none)).run Try.prog wx = .ok (.pointer none) wx := fun wx => by kernel_rfl
  go_enter Try.func45, Try.ntmps45
  go_wp2
  go_ret
  exact ⟨rfl, rfl⟩

theorem info91 : (Try.prog.info? 91).isSome = true := by kernel_rfl

theorem conv_back (w : World) (g : Nat) (hg : w.shape? g = some (91, 1)) : (convert 75 72 (.pointer (some ⟨g, 0, none⟩))).run Try.prog w = .ok (.pointer (some ⟨g, 0, none⟩)) w := by
  obtain ⟨j, hj⟩ := Option.isSome_iff_exists.1 info91
  have hlies : liesAt Try.prog Try.prog.depth 91 (1 / Try.prog.cellsOf 91) 0 91 1 = true := by kernel_rfl
  simp only [convert, Sem.run_bind, run_underlying Try.underlying75, run_underlying Try.underlying72, Result.andThen_ok]
  show Sem.run Try.prog (underlying 75 >>= _) w = _
  simp [run_underlying Try.underlying75, run_underlying Try.underlying72, Conv.seenAt, viewAt, hg, variablesAt, hlies, sizeOf, typeInfo, hj]

theorem conv_to (w : World) (g : Nat) (hg : w.shape? g = some (91, 1)) : (convert 72 75 (.pointer (some ⟨g, 0, none⟩))).run Try.prog w = .ok (.pointer (some ⟨g, 0, none⟩)) w := by
  obtain ⟨j, hj⟩ := Option.isSome_iff_exists.1 info91
  have hs : j.size ≠ 0 := by
    have h1 : (Try.prog.info? 91).map (fun i => i.size) = some 1 := by kernel_rfl
    rw [hj] at h1
    simp at h1
    omega
  simp only [convert, Sem.run_bind, run_underlying Try.underlying75, run_underlying Try.underlying72, Result.andThen_ok]
  show Sem.run Try.prog (underlying 72 >>= _) w = _
  simp [run_underlying Try.underlying75, run_underlying Try.underlying72, Conv.seenAt, viewAt, cellsIn, hg, sizeOf, typeInfo, hj, hs]

/-- .. the cell a pointer to a KeySet -/
theorem load_set (b g : Nat) (w : World) (hc : w.cell? ⟨b, 0, none⟩ = some (.pointer (some ⟨g, 0, none⟩))) (hg : w.shape? g = some (91, 1)) :
    Calls Try.prog 45 #[.pointer (some ⟨b, 0, none⟩)] w fun e w' => e = .returned (.pointer (some ⟨g, 0, none⟩)) ∧ w' = w := by
  have hl := loadp hc
  have hcv := conv_back w g hg
  go_enter Try.func45, Try.ntmps45
  go_wp2
  go_ret
  exact ⟨rfl, rfl⟩

def capped (mr : Int) : Int := if mr ≤ 5000000000 then mr else 5000000000

theorem cell_drew {w : World} {a : Addr} {v : Value} (h : w.cell? a = some v) : w.drew.cell? a = some v := h

theorem add_agg (x d : Int) (hx0 : -5000000000000000000 ≤ x) (hx1 : x ≤ 5000000000000000000) (hd0 : -5000000000000000000 ≤ d) (hd1 : d ≤ 5000000000000000000) (w : World) :
    Calls Try.prog 24 #[.agg #[.int .u64 (x % 1000000000), .int .i64 (x / 1000000000), .pointer none], .int .i64 d] w fun e w' => e = .returned (.agg #[.int .u64 ((x + d) % 1000000000), .int .i64 ((x + d) / 1000000000), .pointer none]) ∧ ∃ c1 c2, w' = (w.alloc (.cells c1 62)).alloc (.cells c2 62) :=
  add_tm x d hx0 hx1 hd0 hd1 w

end Go.Proofs.Qxb6614376a
