/-
  The law FnHolderIsFirstBestOfItsSite (func 3) walked: it returns true.
-/
import Derived.Test.Qxb6628861aAids
import Derived.Laws.StructEq
namespace Go.Proofs.Qxb6628861a
open Go.RowKit
set_option maxHeartbeats 1000000 in
theorem law1 (name key : ByteArray) (a : Option Addr) (n cap : Nat) (I D : Nat → ByteArray) (c1 c2 c3 : Int) (w : World) (hG : Given w a n I D) (hs : name.size ≤ 9223372036854775807) (hk : key.size ≤ 9223372036854775807) :
    Calls Try.prog 3 #[.string name, .slice a n cap, .int .i64 c1, .int .i64 c2, .int .i64 c3, .string key] w fun e w' => e = .returned (.bool true) ∧ Below w.heap.size w w' := by
  have hmax := hG.max
  go_enter Try.func3, Try.ntmps3
  go_wp2_with fail
  refine (bytesA_any name key a n cap I D _ _ _ w hG.at_ hmax hs hk hG.ids hG.adr).mono ?_
  rintro e w0 ⟨⟨g0, rfl, hg0⟩, hw⟩
  obtain rfl := hw
  cases g0 with
  | false =>
    go_wp2_with fail
    go_ret
    exact ⟨rfl, Below.refl _ _⟩
  | true =>
  have hn := hg0 rfl
  clear hg0
  go_wp2_with fail
  refine (within_any name key _ _ a n cap I D w hG.at_ hmax hs hk (by decide) (by decide) hG.ids hG.adr).mono ?_
  rintro e w0 ⟨⟨g0, rfl, -⟩, hw⟩
  obtain rfl := hw
  cases g0 with
  | false =>
    go_wp2_with fail
    go_ret
    exact ⟨rfl, Below.refl _ _⟩
  | true =>
  cases n with
  | zero =>
    go_wp2_with fail
    go_ret
    exact ⟨rfl, Below.refl _ _⟩
  | succ m =>
  go_wp2_with fail
  refine (nodes_any a (m + 1) cap I D w hG.at_ hn).mono ?_
  rintro e w1 ⟨rfl, hN1, B1⟩
  go_wp2_with fail
  obtain ⟨j, hj, hF⟩ : ∃ j, best (hashOf key) I m = j ∧ First (hashOf key) I m j := ⟨_, rfl, best_first _ _ _⟩
  have hjle := hF.le
  refine (holder_any name key _ m (m + 1) c1 c2 c3 I D _ (hN1.later (below_alloc _ _)) (Nat.le_refl _) (by omega) hk hG.ids).mono ?_
  rintro e w2 ⟨rfl, B2⟩
  rw [hj]
  clear hj
  have T2 : Below w.heap.size w w2 := below_then (below_then B1 (below_alloc _ _)) B2
  clear B2 hN1 B1
  go_wp2_with fail
  have T3 : Below w.heap.size w (w2.alloc (.cells #[.string (I j), .string (D j)] 31)) := below_then T2 (below_alloc _ _)
  have hR := heap_alloc_new w2 (.cells #[.string (I j), .string (D j)] 31)
  refine (firstId_any (I j) a (m + 1) cap j I D _ (hG.at_.later T3) hmax (by omega) rfl (fun r hr => hF.first r hr)).mono ?_
  rintro e w3 ⟨rfl, hw⟩
  obtain rfl := hw
  generalize hw3 : w2.alloc (.cells #[.string (I j), .string (D j)] 31) = w3 at *
  generalize hr : w2.heap.size = R at *
  clear hw3 hr
  have hN3 := hG.at_.later T3
  obtain ⟨b, o, rfl, hc⟩ := hN3.resolve_left (by omega)
  obtain ⟨p0, p1⟩ := hc j (by omega)
  have cR := cell_of hR
  have hjn : (j : Int) < (m : Int) + 1 := by omega
  go_wp2_with fail
  go_quiet (fail)
  clear p0 p1 cR hc hN3
  go_wp2_with fail
  go_loopw [16] (fun i wr => ∃ k : Nat, k ≤ m + 1 ∧ i = .int .i64 k ∧ wr.heap[R]? = some (.cells #[.string (I j), .string (D j)] 31) ∧ Below w.heap.size w wr) (fun i _ => m + 1 - (intOf i).toNat)
  case atStart => exact ⟨0, Nat.zero_le _, rfl, hR, ⟨T3.os, T3.tape, T3.output, T3.size, T3.block⟩⟩
  case round =>
    clear hR T3 T2
    obtain ⟨i, hi, rfl, hR, T3⟩ := hrel
    by_cases hlt : i < m + 1
    · obtain ⟨b', o', heq, hc⟩ := (hG.at_.later T3).resolve_left (by omega)
      cases heq
      obtain ⟨p0, p1⟩ := hc i hlt
      have hlb := World.block_lt_of_cell? wr _ p0
      simp only at hlb
      have hI := hG.ids i hlt
      have hIj := hG.ids j (by omega)
      have e1 : (i : Int) < (m : Int) + 1 := by omega
      have zR := lt_of_block hR
      have cR := cell_of hR
      clear hc
      go_wp2_with fail
      go_region
      have T4 : Below w.heap.size w (wr.alloc (.cells #[.string (I i), .string (D i)] 31)).drew := (below_then T3 (below_alloc _ _)).drew
      have hR4 : (wr.alloc (.cells #[.string (I i), .string (D i)] 31)).drew.heap[R]? = some (.cells #[.string (I j), .string (D j)] 31) := old_at hR
      have hV4 : (wr.alloc (.cells #[.string (I i), .string (D i)] 31)).drew.heap[wr.heap.size]? = some (.cells #[.string (I i), .string (D i)] 31) := heap_alloc_new wr _
      have hne : wr.heap.size ≠ R := by omega
      clear cR p0 p1 zR hlb hR T3
      generalize (wr.alloc (.cells #[.string (I i), .string (D i)] 31)).drew = w4 at *
      generalize wr.heap.size = V at *
      have cR := cell_of hR4
      have cV := cell_of hV4
      go_wp2_with fail
      refine (two_first name key _ c1 c2 c3 (I j) (D j) (I i) (D i) _ (heap_alloc_new w4 _) hk hIj hI (hF.top i (by omega))).mono ?_
      rintro e w5 ⟨rfl, B5⟩
      have T5 : Below w.heap.size w (w5.alloc (.cells #[.string (I j), .string (D j)] 31)) := below_then (below_then (below_then T4 (below_alloc _ _)) B5) (below_alloc _ _)
      have hR5 : (w5.alloc (.cells #[.string (I j), .string (D j)] 31)).heap[R]? = some (.cells #[.string (I j), .string (D j)] 31) := old_at (block_later (old_at hR4) B5)
      have hV5 : (w5.alloc (.cells #[.string (I j), .string (D j)] 31)).heap[V]? = some (.cells #[.string (I i), .string (D i)] 31) := old_at (block_later (old_at hV4) B5)
      have zR5 := lt_of_block (block_later (old_at (o := .cells #[.string (I j), .string (D j), .string (I i), .string (D i)] 31) hR4) B5)
      have zV5 := lt_of_block (block_later (old_at (o := .cells #[.string (I j), .string (D j), .string (I i), .string (D i)] 31) hV4) B5)
      have cR5 := cell_of (block_later (old_at (o := .cells #[.string (I j), .string (D j), .string (I i), .string (D i)] 31) hR4) B5)
      have cV5 := cell_of (block_later (old_at (o := .cells #[.string (I j), .string (D j), .string (I i), .string (D i)] 31) hV4) B5)
      clear cR cV hR4 hV4 T4 B5
      go_wp2_with fail
      by_cases hij : I i = I j
      · have Hij : Hid (I i = I j) := hij
        clear hij
        have q : ((I i).toList == (I j).toList) = true := by rw [Hij.out]; exact beq_self _
        refine (two_first name key _ c1 c2 c3 (I i) (D i) (I j) (D j) _ (new_at (by simp)) hk hI hIj (by rw [Hij.out]; exact outr_irr _ _)).mono ?_
        rintro e w6 ⟨rfl, B6⟩
        have T6 : Below w.heap.size w (w6.alloc (.cells #[.string (I i), .string (D i)] 31)) := below_then (below_then (below_then T5 (below_alloc _ _)) B6) (below_alloc _ _)
        have hR6 : (w6.alloc (.cells #[.string (I i), .string (D i)] 31)).heap[R]? = some (.cells #[.string (I j), .string (D j)] 31) := old_at (block_later (old_at hR5) B6)
        have k1 := block_later (old_at (o := .cells #[.string (I i), .string (D i), .string (I j), .string (D j)] 31) hR5) B6
        have k2 := block_later (old_at (o := .cells #[.string (I i), .string (D i), .string (I j), .string (D j)] 31) hV5) B6
        have zR6 := lt_of_block k1
        have zV6 := lt_of_block k2
        have cR6 := cell_of k1
        have cV6 := cell_of k2
        clear k1 k2 T5 hR5 hV5 zR5 zV5 cR5 cV5 B6 Hij
        go_wp2_with fail
        go_roundw
        case rel => exact ⟨i + 1, by omega, by go_num, hR6, T6⟩
        case measure => simp [intOf]; omega
      · have Hij : Hid (I i ≠ I j) := hij
        clear hij
        have q : ((I i).toList == (I j).toList) = false := beq_ne Hij.out
        refine (two_second name key _ c1 c2 c3 (I i) (D i) (I j) (D j) _ (new_at (by simp)) hk hI hIj ((outr_total (Ne.symm Hij.out)).resolve_right (by rw [hF.top i (by omega)]; decide))).mono ?_
        rintro e w6 ⟨rfl, B6⟩
        have T6 : Below w.heap.size w (w6.alloc (.cells #[.string (I j), .string (D j)] 31)) := below_then (below_then (below_then T5 (below_alloc _ _)) B6) (below_alloc _ _)
        have hR6 : (w6.alloc (.cells #[.string (I j), .string (D j)] 31)).heap[R]? = some (.cells #[.string (I j), .string (D j)] 31) := old_at (block_later (old_at hR5) B6)
        have k1 := block_later (old_at (o := .cells #[.string (I i), .string (D i), .string (I j), .string (D j)] 31) hR5) B6
        have k2 := block_later (old_at (o := .cells #[.string (I i), .string (D i), .string (I j), .string (D j)] 31) hV5) B6
        have zR6 := lt_of_block k1
        have zV6 := lt_of_block k2
        have cR6 := cell_of k1
        have cV6 := cell_of k2
        clear k1 k2 T5 hR5 hV5 zR5 zV5 cR5 cV5 B6 Hij
        go_wp2_with fail
        go_roundw
        case rel => exact ⟨i + 1, by omega, by go_num, hR6, T6⟩
        case measure => simp [intOf]; omega
    · have hkn : i = m + 1 := by omega
      subst hkn
      go_wp2_with fail
      go_ret
      exact ⟨rfl, T3⟩
end Go.Proofs.Qxb6628861a
