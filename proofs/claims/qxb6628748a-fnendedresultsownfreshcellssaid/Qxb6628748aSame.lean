/-
  zzSameRecordB1 and the size guards over qxb6628748a.
-/
import Derived.Test.Qxb6628748aEndedAs
namespace Go.Proofs.Qxb6628748a
open Go.RowKit

set_option maxHeartbeats 1000000 in
theorem same_any (key trigger st holder : ByteArray) (fence ns t s : Int) (be bx ce cx : Nat) (w : World)
    (hE : w.heap[be]? = some (.cells #[.int .u64 (wallOf t), .int .i64 (extOf t), .pointer none] 29)) (hX : w.heap[bx]? = some (.cells #[.int .i64 s] 3))
    (hF : w.heap[ce]? = some (.cells #[.int .u64 (wallOf t), .int .i64 (extOf t), .pointer none] 29)) (hY : w.heap[cx]? = some (.cells #[.int .i64 s] 3)) :
    Calls Try.prog 10 #[recV key trigger st holder fence ns (some ⟨be, 0, none⟩) (some ⟨bx, 0, none⟩), recV key trigger st holder fence ns (some ⟨ce, 0, none⟩) (some ⟨cx, 0, none⟩)] w fun e w' =>
      e = .returned (.bool true) ∧ Below w.heap.size w w' := by
  have hcE := cell_of hE
  have hcX := cell_of hX
  have hcF := cell_of hF
  have hcY := cell_of hY
  have lE := (Array.getElem?_eq_some_iff.1 hE).1
  have lX := (Array.getElem?_eq_some_iff.1 hX).1
  have lF := (Array.getElem?_eq_some_iff.1 hF).1
  have lY := (Array.getElem?_eq_some_iff.1 hY).1
  have lE' : be < w.heap.size + 1 := by omega
  have lX' : bx < w.heap.size + 1 := by omega
  have lF' : ce < w.heap.size + 1 := by omega
  have lY' : cx < w.heap.size + 1 := by omega
  unfold recV
  have hq := eq_nilLoc
  go_enter Try.func10, Try.ntmps10
  go_wp2_with fail
  go_quiet (fail)
  go_wp2_with fail
  go_quiet (fail)
  go_wp2_with fail
  go_ret
  refine ⟨rfl, ?_⟩
  exact below_drewN (below_drewN (below_then (below_alloc w _) (below_alloc _ _)) _) _

/-- The call ended in some bool. -/
def AnyBool (e : Ending) : Prop := ∃ b, e = .returned (.bool b)

set_option maxHeartbeats 400000 in
theorem bytesA_any (key trigger state holder : ByteArray) (v4 v5 v6 v7 v8 v9 v10 v11 : Value) (w : World) :
    Calls Try.prog 5 #[.string key, .string trigger, .string state, .string holder, v4, v5, v6, v7, v8, v9, v10, v11] w fun e w' => AnyBool e ∧ w = w' := by
  go_enter Try.func5, Try.ntmps5
  go_wp2
  all_goals (go_ret; exact ⟨⟨_, rfl⟩, rfl⟩)

set_option maxHeartbeats 400000 in
theorem bytesB_any (key trigger state holder : ByteArray) (v4 v5 v6 v7 v8 v9 : Value) (w : World) :
    Calls Try.prog 11 #[.string key, .string trigger, .string state, .string holder, v4, v5, v6, v7, v8, v9] w fun e w' => AnyBool e ∧ w = w' := by
  go_enter Try.func11, Try.ntmps11
  go_wp2
  all_goals (go_ret; exact ⟨⟨_, rfl⟩, rfl⟩)

end Go.Proofs.Qxb6628748a
