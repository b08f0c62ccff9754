/-
  zzEndedAsB1 over qxb6628748a.
-/
import Derived.Test.Qxb6628748aRecord
import Derived.Deep.RegionHeld3
namespace Go.Proofs.Qxb6628748a
open Go.RowKit

theorem timeAt_agg (ns : Int) (w : World) (h0 : -9223372036854775808 ≤ ns) (h1 : ns ≤ 9223372036854775807) :
    Calls Try.prog 7 #[.int .i64 ns] w fun e w' => e = .returned (.agg #[.int .u64 (wallOf ns), .int .i64 (extOf ns), .pointer none]) ∧ Below w.heap.size w w' := timeAt_any ns w h0 h1

theorem eq_nilPtr (d : Nat) (w : World) : Sem.run Try.prog (Op.equalIn (d + 1) 27 (.pointer none) (.pointer none)) w = .ok true w := by
  simp [Op.equalIn, run_underlying Try.underlying27]
theorem eq_nilLoc (w : World) : Sem.run Try.prog (Op.equalIn 9999 27 (.pointer none) (.pointer none)) w = .ok true w := eq_nilPtr 9998 w
theorem below_undrew {X w1 : World} (h : Below X.drew.heap.size X.drew w1) : Below X.heap.size X w1 := ⟨h.os, h.tape, h.output, h.size, h.block⟩
theorem wantState_st (s : Int) (st : ByteArray) (w : World) (h : Hid (stateOf s = st)) : Calls Try.prog 13 #[.int .i64 s] w fun e w' => e = .returned (.string st) ∧ w = w' := by
  have := wantState_any s w
  rwa [h.out] at this

set_option maxHeartbeats 1000000 in
theorem endedAs_any (key trigger holder : ByteArray) (fence ns t s : Int) (be bx : Nat) (w : World) (h0 : -9223372036854775808 ≤ ns) (h1 : ns ≤ 9223372036854775807) (t0 : -9223372036854775808 ≤ t) (t1 : t ≤ 9223372036854775807)
    (hE : w.heap[be]? = some (.cells #[.int .u64 (wallOf t), .int .i64 (extOf t), .pointer none] 29)) (hX : w.heap[bx]? = some (.cells #[.int .i64 s] 3)) :
    Calls Try.prog 9 #[recV key trigger (stateOf s) holder fence ns (some ⟨be, 0, none⟩) (some ⟨bx, 0, none⟩), .string key, .string trigger, .string holder, .int .i64 fence, .int .i64 ns, .int .i64 t, .int .i64 s] w fun e w' =>
      e = .returned (.bool true) ∧ Below w.heap.size w w' := by
  have hcE := cell_of hE
  have hcX := cell_of hX
  have lE := (Array.getElem?_eq_some_iff.1 hE).1
  have lX := (Array.getElem?_eq_some_iff.1 hX).1
  unfold recV
  generalize hst : stateOf s = st
  have Hst : Hid (stateOf s = st) := hst
  clear hst
  have hq := eq_nilLoc
  go_enter Try.func9, Try.ntmps9
  go_wp2_with fail
  go_region_held3 (fun w' => w'.cell? ⟨w.heap.size, 5, none⟩ = some (.int .u64 (wallOf ns)) ∧ w'.cell? ⟨w.heap.size, 6, none⟩ = some (.int .i64 (extOf ns)) ∧ w'.cell? ⟨w.heap.size, 7, none⟩ = some (.pointer none)) (first | (simp; done) | (refine ⟨?_, ?_, ?_⟩ <;> (rw [hb1.cell (by simp)]; simp))) ((go_at_call 7; refine (timeAt_agg ns _ h0 h1).mono ?_; rintro e w1 ⟨rfl, hb1⟩))
  have hb2 := below_undrew hb1
  have T1 : Below w.heap.size w w1 := below_then (below_alloc w _) hb2
  have hN := block_later (w := w.alloc _) (heap_alloc_new w _) hb2
  have hE1 := block_later hE T1
  have hX1 := block_later hX T1
  clear hcE hcX hE hX hb1 hb2
  have hcN := cell_of hN
  have hcE := cell_of hE1
  have hcX := cell_of hX1
  go_wp2_with fail
  go_region_held3 (fun w' => w'.cell? ⟨w.heap.size, 2, none⟩ = some (.string st)) (first | (simp; done) | (simp [hcN]; done)) ((go_at_call 13; refine (wantState_st s st _ Hst).mono ?_; rintro e w1' ⟨rfl, rfl⟩))
  go_wp2_with fail
  have zN := (Array.getElem?_eq_some_iff.1 hN).1
  have zE := (Array.getElem?_eq_some_iff.1 hE1).1
  have zX := (Array.getElem?_eq_some_iff.1 hX1).1
  go_region_held3 (fun w' => w'.cell? ⟨w.heap.size, 8, none⟩ = some (.pointer (some ⟨be, 0, none⟩)) ∧ w'.cell? ⟨be, 0, none⟩ = some (.int .u64 (wallOf t)) ∧ w'.cell? ⟨be, 1, none⟩ = some (.int .i64 (extOf t)) ∧ w'.cell? ⟨be, 2, none⟩ = some (.pointer none)) (first | (simp [hcN, hcE]; done) | (refine ⟨?_, ?_, ?_, ?_⟩ <;> (rw [hb1.cell (by simp; omega)]; simp [hcN, hcE]))) ((go_at_call 7; refine (timeAt_agg t _ t0 t1).mono ?_; rintro e w2 ⟨rfl, hb1⟩))
  have hb2 := below_undrew (below_undrew hb1)
  have T2 := below_then T1 hb2
  have hN2 := block_later hN hb2
  have hX2 := block_later hX1 hb2
  clear hcE hcX hcN hE1 hX1 hb1 hb2 hN T1
  have hcN := cell_of hN2
  have hcX := cell_of hX2
  go_wp2_with fail
  go_ret
  exact ⟨rfl, T2⟩
end Go.Proofs.Qxb6628748a
