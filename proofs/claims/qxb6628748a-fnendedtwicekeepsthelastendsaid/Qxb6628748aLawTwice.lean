/-
  The law FnEndedTwiceKeepsTheLastEnd over qxb6628748a: its walk out of the callees' contracts.
-/
import Derived.Test.Qxb6628748aAids
import Derived.Deep.DeepCutAuto
namespace Go.Proofs.Qxb6628748a
open Go.RowKit

set_option maxRecDepth 100000 in
set_option maxHeartbeats 1000000 in
theorem law1 (key trigger state holder : ByteArray) (fence ns t1 s1 t2 s2 : Int) (p1 p2 : Option Addr) (o1 o2 : Option Int) (w : World)
    (h0 : -9223372036854775808 ≤ ns) (h1 : ns ≤ 9223372036854775807) (a0 : -9223372036854775808 ≤ t1) (a1 : t1 ≤ 9223372036854775807) (b0 : -9223372036854775808 ≤ t2) (b1 : t2 ≤ 9223372036854775807)
    (hp1 : PtrInt w p1 o1) (hp2 : PtrInt w p2 o2) :
    Calls Try.prog 3 #[.string key, .string trigger, .string state, .string holder, .int .i64 fence, .int .i64 ns, .pointer p1, .pointer p2, .int .i64 t1, .int .i64 s1, .int .i64 t2, .int .i64 s2] w fun e w' =>
      e = .returned (.bool true) ∧ Below w.heap.size w w' := by
  go_enter Try.func3, Try.ntmps3
  go_wp2_with fail
  refine (bytesA_any key trigger state holder _ _ _ _ _ _ _ _ w).mono ?_
  rintro e w' ⟨⟨b, rfl⟩, rfl⟩
  cases b
  · go_wp2_with fail
    go_ret
    exact ⟨rfl, Below.refl _ _⟩
  go_upto_if 66 with fail
  all_goals first
    | (go_ret; exact ⟨rfl, Below.refl _ _⟩)
    | skip
  go_cut [6] (fun a wc => ∃ q, a = .pointer q ∧ PtrInt wc q o1 ∧ Below w.heap.size w wc)
  case first =>
    rcases hp1 with ⟨rfl, rfl⟩ | ⟨b, off, n, rfl, rfl, hc, n0, n1⟩
    · go_wp2_with fail
      go_meet
      case rel => exact ⟨none, rfl, .inl ⟨rfl, rfl⟩, Below.refl _ _⟩
    · go_wp2_with fail
      go_meet
      case rel => exact ⟨_, rfl, .inr ⟨_, _, n, rfl, rfl, cell_of (heap_alloc_new w _) 0, n0, n1⟩, below_alloc _ _⟩
  case rest =>
    obtain ⟨q1, rfl, hq1, B1⟩ := hcut
    have hp2' := hp2.later B1
    go_upto_if 71 with fail
    go_cut [7] (fun a wc' => ∃ q, a = .pointer q ∧ PtrInt wc' q o2 ∧ Below wc.heap.size wc wc')
    case first =>
      rcases hp2' with ⟨rfl, rfl⟩ | ⟨b, off, n, rfl, rfl, hc, n0, n1⟩
      · go_wp2_with fail
        go_meet
        case rel => exact ⟨none, rfl, .inl ⟨rfl, rfl⟩, Below.refl _ _⟩
      · go_wp2_with fail
        go_meet
        case rel => exact ⟨_, rfl, .inr ⟨_, _, n, rfl, rfl, cell_of (heap_alloc_new wc _) 0, n0, n1⟩, below_alloc _ _⟩
    case rest =>
      obtain ⟨q2, rfl, hq2, B2⟩ := hcut
      have T0 := below_then B1 B2
      have hq1' := hq1.later B2
      clear hq1 hp1 hp2 hp2' B1 B2
      go_wp2_with fail
      refine (record_agg key trigger state holder fence ns q1 q2 o1 o2 _ h0 h1 hq1' hq2).mono ?_
      rintro e w1 ⟨pe, px, rfl, hb1, _, _⟩
      have T1 := below_then (below_then T0 hb1) (below_alloc w1 (recO key trigger state holder fence ns pe px))
      have H1 := (Has.nil w1).new (recO key trigger state holder fence ns pe px)
      clear T0 hb1 hq1' hq2
      go_wp2_with fail
      refine (timeAt_agg t1 _ a0 a1).mono ?_
      rintro e w2 ⟨rfl, hb2⟩
      have T2 := below_then (below_then T1 hb2) (below_alloc w2 (timeO t1))
      have H2 := (H1.later hb2).new (timeO t1)
      clear T1 H1 hb2
      go_wp2_with fail
      refine (timeAt_agg t2 _ b0 b1).mono ?_
      rintro e w3 ⟨rfl, hb3⟩
      have T3 := below_then (below_then T2 hb3) (below_alloc w3 (timeO t2))
      have H3 := (H2.later hb3).new (timeO t2)
      clear T2 H2 hb3
      have rR := H3.tail.g1
      have rA := H3.g1
      have rB := H3.g0
      clear H3
      have cR := cell_of rR
      have cA := cell_of rA
      go_wp2_with fail
      refine (ended_new key trigger state holder fence ns t1 s1 pe px _).mono ?_
      rintro e w4 ⟨be1, bx1, rfl, hb4, e1, x1, _, _, _⟩
      have T4 := below_then (below_then T3 hb4) (below_alloc w4 (recO key trigger (stateOf s1) holder fence ns (some ⟨be1, 0, none⟩) (some ⟨bx1, 0, none⟩)))
      have H4 := (((((Has.nil w4).put (block_later rR hb4)).put (block_later rB hb4)).put e1).put x1).new (recO key trigger (stateOf s1) holder fence ns (some ⟨be1, 0, none⟩) (some ⟨bx1, 0, none⟩))
      clear T3 rR rA rB cR cA hb4 e1 x1
      have rF := H4.g0
      have x1 := H4.g1
      have e1 := H4.tail.g1
      have rB := H4.tail.tail.g1
      have rR := H4.tail.tail.tail.g1
      clear H4
      have cF := cell_of rF
      have cB := cell_of rB
      go_wp2_with fail
      refine (ended_new key trigger (stateOf s1) holder fence ns t2 s2 _ _ _).mono ?_
      rintro e w5 ⟨be2, bx2, rfl, hb5, e2, x2, _, _, _⟩
      have T5 := below_then (below_then T4 hb5) (below_alloc w5 (recO key trigger (stateOf s2) holder fence ns (some ⟨be2, 0, none⟩) (some ⟨bx2, 0, none⟩)))
      have H5 := (((((((((Has.nil w5).put (block_later rR hb5)).put (block_later rB hb5)).put (block_later e1 hb5)).put (block_later x1 hb5)).put (block_later rF hb5)).put e2).put x2)).new (recO key trigger (stateOf s2) holder fence ns (some ⟨be2, 0, none⟩) (some ⟨bx2, 0, none⟩))
      clear T4 rR rB e1 x1 rF cF cB hb5 e2 x2
      have rG := H5.g0
      have x2 := H5.g1
      have e2 := H5.tail.g1
      have rF := H5.tail.tail.g1
      have x1 := H5.tail.tail.tail.g1
      have e1 := H5.tail.tail.tail.tail.g1
      have rB := H5.tail.tail.tail.tail.tail.g1
      have rR := H5.tail.tail.tail.tail.tail.tail.g1
      clear H5
      have cR := cell_of rR
      have cB := cell_of rB
      go_wp2_with fail
      refine (ended_new key trigger state holder fence ns t2 s2 pe px _).mono ?_
      rintro e w6 ⟨be3, bx3, rfl, hb6, e3, x3, _, _, _⟩
      have T6 := below_then (below_then T5 hb6) (below_alloc w6 (recO key trigger (stateOf s2) holder fence ns (some ⟨be3, 0, none⟩) (some ⟨bx3, 0, none⟩)))
      have H6 := (((((((((Has.nil w6).put (block_later e1 hb6)).put (block_later x1 hb6)).put (block_later rF hb6)).put (block_later e2 hb6)).put (block_later x2 hb6)).put (block_later rG hb6)).put e3).put x3).new (recO key trigger (stateOf s2) holder fence ns (some ⟨be3, 0, none⟩) (some ⟨bx3, 0, none⟩))
      clear T5 rR rB e1 x1 rF cR cB hb6 e2 x2 rG e3 x3
      have cF := cell_of H6.tail.tail.tail.tail.tail.g1
      go_wp2_with fail
      refine (endedAs_any key trigger holder fence ns t1 s1 be1 bx1 _ h0 h1 a0 a1 H6.tail.tail.tail.tail.tail.tail.tail.g1 H6.tail.tail.tail.tail.tail.tail.g1).mono ?_
      rintro e w7 ⟨rfl, hb7⟩
      have T7 := below_then T6 hb7
      have H7 := H6.later hb7
      clear T6 H6 cF hb7
      have cG := cell_of H7.tail.tail.g1
      have cI := cell_of H7.g0
      go_wp2_with fail
      refine (same_any key trigger (stateOf s2) holder fence ns t2 s2 be2 bx2 be3 bx3 _ H7.tail.tail.tail.tail.g1 H7.tail.tail.tail.g1 H7.tail.g1 H7.g1).mono ?_
      rintro e w8 ⟨rfl, hb8⟩
      have T8 := below_then T7 hb8
      have H8 := H7.later hb8
      clear T7 H7 cG cI hb8
      have cI := cell_of H8.g0
      go_wp2_with fail
      refine (endedAs_any key trigger holder fence ns t2 s2 be3 bx3 _ h0 h1 b0 b1 H8.tail.g1 H8.g1).mono ?_
      rintro e w9 ⟨rfl, hb9⟩
      have T9 := below_then T8 hb9
      go_wp2_with fail
      go_ret
      exact ⟨rfl, T9⟩
end Go.Proofs.Qxb6628748a
