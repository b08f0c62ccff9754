/-
  Records over qxb6628748a: zzWantStateB1, Ended.
-/
import Derived.Test.Qxb6628748aTime
namespace Go.Proofs.Qxb6628748a
open Go.RowKit

/-- A record as a value: the time of its start lies flat among its cells. -/
def recV (key trigger state holder : ByteArray) (fence ns : Int) (pe px : Option Addr) : Value :=
  .agg #[.string key, .string trigger, .string state, .string holder, .int .i64 fence, .int .u64 (wallOf ns), .int .i64 (extOf ns), .pointer none, .pointer pe, .pointer px]
/-- The state of a take that ended with status s. -/
def stateOf (s : Int) : ByteArray := if s = 0 then { data := #[115, 117, 99, 99, 101, 101, 100, 101, 100] } else { data := #[102, 97, 105, 108, 101, 100] }

theorem wantState_any (s : Int) (w : World) : Calls Try.prog 13 #[.int .i64 s] w fun e w' => e = .returned (.string (stateOf s)) ∧ w = w' := by
  unfold stateOf
  by_cases h : s = 0
  · subst h
    go_enter Try.func13, Try.ntmps13
    go_wp2
    go_ret
    exact ⟨rfl, rfl⟩
  · have h' : (s == 0) = false := by simp; omega
    rw [if_neg h]
    go_enter Try.func13, Try.ntmps13
    go_wp2
    go_ret
    exact ⟨rfl, rfl⟩

/-- What Ended leaves: a record whose end and status lie in two new variables. -/
def EndedPost (key trigger holder : ByteArray) (fence ns t s : Int) (w : World) (e : Ending) (w' : World) : Prop :=
  e = .returned (recV key trigger (stateOf s) holder fence ns (some ⟨w.heap.size + 1, 0, none⟩) (some ⟨w.heap.size + 2, 0, none⟩)) ∧ Below w.heap.size w w' ∧
    w'.heap[w.heap.size + 1]? = some (.cells #[.int .u64 (wallOf t), .int .i64 (extOf t), .pointer none] 29) ∧ w'.heap[w.heap.size + 2]? = some (.cells #[.int .i64 s] 3)

theorem four_blocks (w : World) (a b c d : Obj) : ((((w.alloc a).alloc b).alloc c).alloc d).heap[w.heap.size + 1]? = some b ∧ ((((w.alloc a).alloc b).alloc c).alloc d).heap[w.heap.size + 2]? = some c := by
  constructor
  · rw [Below.heap_alloc _ _ _ (by simp), Below.heap_alloc _ _ _ (by simp)]
    have := heap_alloc_new (w.alloc a) b
    simpa using this
  · rw [Below.heap_alloc _ _ _ (by simp)]
    have := heap_alloc_new ((w.alloc a).alloc b) c
    simpa using this

theorem below4 (w : World) (a b c d : Obj) : Below w.heap.size w ((((w.alloc a).alloc b).alloc c).alloc d) := below_then (below_then (below_then (below_alloc w a) (below_alloc _ b)) (below_alloc _ c)) (below_alloc _ d)

set_option maxHeartbeats 400000 in
theorem ended_any (key trigger state holder : ByteArray) (fence ns t s : Int) (pe px : Option Addr) (w : World) :
    Calls Try.prog 8 #[recV key trigger state holder fence ns pe px, timeV t, .int .i64 s] w (EndedPost key trigger holder fence ns t s w) := by
  unfold recV timeV
  by_cases h : s = 0
  · subst h
    go_enter Try.func8, Try.ntmps8
    go_wp2
    refine bodyPost_ret (v := recV key trigger (stateOf 0) holder fence ns (some ⟨w.heap.size + 1, 0, none⟩) (some ⟨w.heap.size + 2, 0, none⟩)) (by simp [results, Try.results8, go_sem, recV, stateOf]) rfl ⟨rfl, below4 _ _ _ _ _, (four_blocks _ _ _ _ _).1, (four_blocks _ _ _ _ _).2⟩
  · have h' : (s != 0) = true := by simp [bne_iff_ne]; omega
    go_enter Try.func8, Try.ntmps8
    go_wp2
    refine bodyPost_ret (v := recV key trigger (stateOf s) holder fence ns (some ⟨w.heap.size + 1, 0, none⟩) (some ⟨w.heap.size + 2, 0, none⟩)) (by simp [results, Try.results8, go_sem, recV, stateOf, h]) rfl ⟨rfl, below4 _ _ _ _ _, (four_blocks _ _ _ _ _).1, (four_blocks _ _ _ _ _).2⟩
end Go.Proofs.Qxb6628748a
