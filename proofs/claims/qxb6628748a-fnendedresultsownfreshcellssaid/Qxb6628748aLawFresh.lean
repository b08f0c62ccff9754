/-
  The law FnEndedResultsOwnFreshCells over qxb6628748a: its walk out of the callees' contracts.
-/
import Derived.Test.Qxb6628748aAids
import Derived.Deep.DeepCutAuto
import Derived.LaidEqlPtr
namespace Go.Proofs.Qxb6628748a
open Go.RowKit

theorem TimeAt.later {w w' : World} {p : Option Addr} {o : Option Int} (h : TimeAt w p o) (hb : Below w.heap.size w w') : TimeAt w' p o := by
  rcases h with h | ⟨b, n, rfl, rfl, hc⟩
  · exact .inl h
  · exact .inr ⟨b, n, rfl, rfl, block_later hc hb⟩
theorem IntAt.later {w w' : World} {p : Option Addr} {o : Option Int} (h : IntAt w p o) (hb : Below w.heap.size w w') : IntAt w' p o := by
  rcases h with h | ⟨b, n, rfl, rfl, hc⟩
  · exact .inl h
  · exact .inr ⟨b, n, rfl, rfl, block_later hc hb⟩
theorem lt_of_block {w : World} {b : Nat} {o : Obj} (h : w.heap[b]? = some o) : b < w.heap.size := (Array.getElem?_eq_some_iff.1 h).1

theorem Has.set {w : World} {l : List (Nat × Obj)} (h : Has w l) {b i : Nat} (u : Value) (hne : ∀ p ∈ l, p.1 ≠ b) : Has (w.setCell ⟨b, i, none⟩ u) l := fun p hp => by
  rw [Below.heap_setCell _ _ _ _ (hne p hp)]
  exact h p hp

theorem Try.info3 : ∃ j, Try.prog.info? 3 = some j ∧ j.size ≠ 0 := by
  have h : (Try.prog.info? 3).map (·.size) = some 1 := by kernel_rfl
  obtain ⟨j, hj, hs⟩ := Option.map_eq_some_iff.1 h
  exact ⟨j, hj, by omega⟩
theorem Try.info29 : ∃ j, Try.prog.info? 29 = some j ∧ j.size ≠ 0 := by
  have h : (Try.prog.info? 29).map (·.size) = some 3 := by kernel_rfl
  obtain ⟨j, hj, hs⟩ := Option.map_eq_some_iff.1 h
  exact ⟨j, hj, by omega⟩

theorem ne_addr {a b : Nat} (h : a ≠ b) : (⟨a, 0, none⟩ : Addr) ≠ ⟨b, 0, none⟩ := fun e => h (congrArg Addr.block e)

/-- Two pointers to ints in two blocks are not equal. -/
theorem eql_int {w : World} {a b : Nat} {m n : Int} (h : a ≠ b) (ha : w.heap[a]? = some (intO m)) (hb : w.heap[b]? = some (intO n)) :
    Sem.run Try.prog (binOp .eql 23 (.pointer (some ⟨a, 0, none⟩)) (.pointer (some ⟨b, 0, none⟩))) w = .ok (.bool false) w := by
  obtain ⟨j, hj, hs⟩ := Try.info3
  exact run_eql_ptr_other w Try.underlying23 hj hs (ne_addr h) ha hb
theorem eql_time {w : World} {a b : Nat} {m n : Int} (h : a ≠ b) (ha : w.heap[a]? = some (timeO m)) (hb : w.heap[b]? = some (timeO n)) :
    Sem.run Try.prog (binOp .eql 30 (.pointer (some ⟨a, 0, none⟩)) (.pointer (some ⟨b, 0, none⟩))) w = .ok (.bool false) w := by
  obtain ⟨j, hj, hs⟩ := Try.info29
  exact run_eql_ptr_other w Try.underlying30 hj hs (ne_addr h) ha hb
/-- .. and one that may be nil. -/
theorem eql_intAt {w : World} {a : Nat} {m : Int} {p : Option Addr} {o : Option Int} (hne : ∀ x, p = some x → a ≠ x.block) (ha : w.heap[a]? = some (intO m)) (hp : IntAt w p o) :
    Sem.run Try.prog (binOp .eql 23 (.pointer (some ⟨a, 0, none⟩)) (.pointer p)) w = .ok (.bool false) w := by
  rcases hp with ⟨rfl, _⟩ | ⟨b, n, rfl, _, hb⟩
  · exact run_eql_pointer_nil w 23 _ rfl
  · exact eql_int (hne _ rfl) ha hb
theorem eql_timeAt {w : World} {a : Nat} {m : Int} {p : Option Addr} {o : Option Int} (hne : ∀ x, p = some x → a ≠ x.block) (ha : w.heap[a]? = some (timeO m)) (hp : TimeAt w p o) :
    Sem.run Try.prog (binOp .eql 30 (.pointer (some ⟨a, 0, none⟩)) (.pointer p)) w = .ok (.bool false) w := by
  rcases hp with ⟨rfl, _⟩ | ⟨b, n, rfl, _, hb⟩
  · exact run_eql_pointer_nil w 30 _ rfl
  · exact eql_time (hne _ rfl) ha hb
theorem TimeAt.lt {w : World} {p : Option Addr} {o : Option Int} (h : TimeAt w p o) : ∀ x, p = some x → x.block < w.heap.size := by
  rcases h with ⟨rfl, _⟩ | ⟨b, n, rfl, _, hb⟩
  · intro x hx; cases hx
  · intro x hx; cases hx; exact lt_of_block hb
theorem IntAt.lt {w : World} {p : Option Addr} {o : Option Int} (h : IntAt w p o) : ∀ x, p = some x → x.block < w.heap.size := by
  rcases h with ⟨rfl, _⟩ | ⟨b, n, rfl, _, hb⟩
  · intro x hx; cases hx
  · intro x hx; cases hx; exact lt_of_block hb

set_option maxRecDepth 100000 in
set_option maxHeartbeats 1000000 in
theorem law2 (key trigger state holder : ByteArray) (fence ns t s : Int) (p1 p2 : Option Addr) (o1 o2 : Option Int) (w : World)
    (h0 : -9223372036854775808 ≤ ns) (h1 : ns ≤ 9223372036854775807) (a0 : -9223372036854775808 ≤ t) (a1 : t ≤ 9223372036854775807)
    (hp1 : PtrInt w p1 o1) (hp2 : PtrInt w p2 o2) :
    Calls Try.prog 4 #[.string key, .string trigger, .string state, .string holder, .int .i64 fence, .int .i64 ns, .pointer p1, .pointer p2, .int .i64 t, .int .i64 s] w fun e w' =>
      e = .returned (.bool true) ∧ Below w.heap.size w w' := by
  go_enter Try.func4, Try.ntmps4
  go_wp2_with fail
  refine (bytesB_any key trigger state holder _ _ _ _ _ _ w).mono ?_
  rintro e w' ⟨⟨b, rfl⟩, rfl⟩
  cases b
  · go_wp2_with fail
    go_ret
    exact ⟨rfl, Below.refl _ _⟩
  go_upto_if 58 with fail
  all_goals first
    | (go_ret; exact ⟨rfl, Below.refl _ _⟩)
    | skip
  go_cut [6] (fun a wc => ∃ q, a = .pointer q ∧ PtrInt wc q o1 ∧ Below w.heap.size w wc)
  case first =>
    rcases hp1 with ⟨rfl, rfl⟩ | ⟨b, off, n, rfl, rfl, hc, n0, n1⟩
    · go_wp2_with fail
      go_meet
      case rel => exact ⟨none, rfl, .inl ⟨rfl, rfl⟩, Below.refl _ _⟩
    · go_wp2_with fail
      go_meet
      case rel => exact ⟨_, rfl, .inr ⟨_, _, n, rfl, rfl, cell_of (heap_alloc_new w _) 0, n0, n1⟩, below_alloc _ _⟩
  case rest =>
    obtain ⟨q1, rfl, hq1, B1⟩ := hcut
    have hp2' := hp2.later B1
    go_upto_if 63 with fail
    go_cut [7] (fun a wc' => ∃ q, a = .pointer q ∧ PtrInt wc' q o2 ∧ Below wc.heap.size wc wc')
    case first =>
      rcases hp2' with ⟨rfl, rfl⟩ | ⟨b, off, n, rfl, rfl, hc, n0, n1⟩
      · go_wp2_with fail
        go_meet
        case rel => exact ⟨none, rfl, .inl ⟨rfl, rfl⟩, Below.refl _ _⟩
      · go_wp2_with fail
        go_meet
        case rel => exact ⟨_, rfl, .inr ⟨_, _, n, rfl, rfl, cell_of (heap_alloc_new wc _) 0, n0, n1⟩, below_alloc _ _⟩
    case rest =>
      obtain ⟨q2, rfl, hq2, B2⟩ := hcut
      have T0 := below_then B1 B2
      have hq1' := hq1.later B2
      clear hq1 hp1 hp2 hp2' B1 B2
      go_wp2_with fail
      refine (record_agg key trigger state holder fence ns q1 q2 o1 o2 _ h0 h1 hq1' hq2).mono ?_
      rintro e w1 ⟨pe, px, rfl, hb1, hpe0, hpx0⟩
      have T1 := below_then (below_then T0 hb1) (below_alloc w1 (recO key trigger state holder fence ns pe px))
      have hqA := (hq1'.later hb1).later (below_alloc w1 (recO key trigger state holder fence ns pe px))
      have hqB := (hq2.later hb1).later (below_alloc w1 (recO key trigger state holder fence ns pe px))
      have hpe1 := hpe0.later (below_alloc w1 (recO key trigger state holder fence ns pe px))
      have hpx1 := hpx0.later (below_alloc w1 (recO key trigger state holder fence ns pe px))
      have H1 := (Has.nil w1).new (recO key trigger state holder fence ns pe px)
      clear T0 hb1 hq1' hq2
      go_wp2_with fail
      refine (timeAt_agg t _ a0 a1).mono ?_
      rintro e w2 ⟨rfl, hb2⟩
      have T2 := below_then (below_then T1 hb2) (below_alloc w2 (timeO t))
      have H2 := (H1.later hb2).new (timeO t)
      have hqC := (hqA.later hb2).later (below_alloc w2 (timeO t))
      have hqD := (hqB.later hb2).later (below_alloc w2 (timeO t))
      have hpe := (hpe1.later hb2).later (below_alloc w2 (timeO t))
      have hpx := (hpx1.later hb2).later (below_alloc w2 (timeO t))
      clear T1 H1 hb2 hpe1 hpx1 hqA hqB hpe0 hpx0
      have rR := H2.g1
      have rA := H2.g0
      have lR := lt_of_block rR
      have cR := cell_of rR
      have cA := cell_of rA
      go_wp2_with fail
      refine (ended_new key trigger state holder fence ns t s pe px _).mono ?_
      rintro e w3 ⟨be1, bx1, rfl, hb3, e1, x1, u1, u2, u3⟩
      obtain ⟨V, hV⟩ : ∃ V, V = w2.alloc (timeO t) := ⟨_, rfl⟩
      replace hb3 : Below V.heap.size V w3 := by rw [hV]; exact hb3
      replace u1 : V.heap.size ≤ be1 := by rw [hV]; exact u1
      replace u2 : V.heap.size ≤ bx1 := by rw [hV]; exact u2
      rw [← hV] at T2 hqC hqD hpe hpx rR rA lR
      clear H2 cR cA
      have le1 := lt_of_block e1
      have lx1 := lt_of_block x1
      have D3 := below_then hb3 (below_alloc w3 (recO key trigger (stateOf s) holder fence ns (some ⟨be1, 0, none⟩) (some ⟨bx1, 0, none⟩)))
      have H3 := (((Has.nil w3).put e1).put x1).new (recO key trigger (stateOf s) holder fence ns (some ⟨be1, 0, none⟩) (some ⟨bx1, 0, none⟩))
      clear e1 x1 hb3 hV
      have cR := cell_of (block_later rR D3)
      have cA := cell_of (block_later rA D3)
      go_wp2_with fail
      refine (ended_new key trigger state holder fence ns t s pe px _).mono ?_
      rintro e w4 ⟨be2, bx2, rfl, hb4, e2, x2, u4, u5, u6⟩
      simp only [World.size_alloc] at u4 u5
      have le2 := lt_of_block e2
      have lx2 := lt_of_block x2
      have D4 := below_then (below_then D3 hb4) (below_alloc w4 (recO key trigger (stateOf s) holder fence ns (some ⟨be2, 0, none⟩) (some ⟨bx2, 0, none⟩)))
      have H4 := ((((H3.later hb4).put e2).put x2)).new (recO key trigger (stateOf s) holder fence ns (some ⟨be2, 0, none⟩) (some ⟨bx2, 0, none⟩))
      clear D3 H3 hb4 e2 x2 cR cA
      have cVA := cell_of H4.tail.tail.g1
      go_wp2_with fail
      refine (endedAs_any key trigger holder fence ns t s be1 bx1 _ h0 h1 a0 a1 H4.tail.tail.tail.tail.g1 H4.tail.tail.tail.g1).mono ?_
      rintro e w5 ⟨rfl, hb5⟩
      have D5 := below_then D4 hb5
      have H5 := H4.later hb5
      clear D4 H4 hb5 cVA
      have cVB := cell_of H5.g0
      go_wp2_with fail
      refine (endedAs_any key trigger holder fence ns t s be2 bx2 _ h0 h1 a0 a1 H5.tail.g1 H5.g1).mono ?_
      rintro e w6 ⟨rfl, hb6⟩
      have D6 := below_then D5 hb6
      have H6 := H5.later hb6
      clear D5 H5 hb6 cVB
      have rVB := H6.g0
      have x2 := H6.g1
      have e2 := H6.tail.g1
      have rVA := H6.tail.tail.g1
      have x1 := H6.tail.tail.tail.g1
      have e1 := H6.tail.tail.tail.tail.g1
      have lpe := hpe.lt
      have lpx := hpx.lt
      have n1 := eql_int (show bx1 ≠ bx2 by omega) x1 x2
      have n2 := eql_time (show be1 ≠ be2 by omega) e1 e2
      have n3 := eql_intAt (fun x hx => by have := lpx x hx; omega) x1 (hpx.later D6)
      have n4 := eql_timeAt (fun x hx => by have := lpe x hx; omega) e1 (hpe.later D6)
      have n5 := eql_intAt (fun x hx => by have := lpx x hx; omega) x2 (hpx.later D6)
      have n6 := eql_timeAt (fun x hx => by have := lpe x hx; omega) e2 (hpe.later D6)
      have cVA := cell_of rVA
      have cVB := cell_of rVB
      have cR := cell_of (block_later rR D6)
      have cX := cell_of x1
      have fX := frozen_of x1
      go_wp2_with fail
      have hbv := i64_bd (wf_bits .xor .i64 t 1)
      have D7 : Below V.heap.size V (w6.setCell ⟨bx1, 0, none⟩ (.int .i64 (bits .xor .i64 s 1))) := D6.setCell (p := ⟨bx1, 0, none⟩) u2 _
      have H7 : Has (w6.setCell ⟨bx1, 0, none⟩ (.int .i64 (bits .xor .i64 s 1))) [(w4.heap.size, recO key trigger (stateOf s) holder fence ns (some ⟨be2, 0, none⟩) (some ⟨bx2, 0, none⟩)), (bx2, intO s), (be2, timeO t), (w3.heap.size, recO key trigger (stateOf s) holder fence ns (some ⟨be1, 0, none⟩) (some ⟨bx1, 0, none⟩)), (be1, timeO t)] :=
        (((((((Has.nil w6).put e1).put rVA).put e2).put x2).put rVB)).set _ (by simp; omega)
      clear n1 n2 n3 n4 n5 n6 cVA cVB cR cX fX rVB x2 e2 rVA x1 e1 H6 D6
      have cVA := cell_of H7.tail.tail.g1
      have rE := H7.tail.tail.tail.g1
      have hlA : w3.heap.size < w6.heap.size := by simpa using lt_of_block H7.tail.tail.g1
      have hne : w3.heap.size ≠ be1 := by omega
      go_region_held3 (fun w' => w'.cell? ⟨w3.heap.size, 8, none⟩ = some (.pointer (some ⟨be1, 0, none⟩))) (first | (simp [cVA]; done) | (rw [hb7.cell (by simp; omega)]; simp [cVA]; done) | (rw [World.cell?_of_block (w := w7) (((Below.heap_setCell _ _ _ _ hne).trans (Below.heap_setCell _ _ _ _ hne)).trans (Below.heap_setCell _ _ _ _ hne))]; rw [hb7.cell (by simp; omega)]; simp [cVA]; done)) ((go_at_call 7; refine (timeAt_agg (bits .xor .i64 t 1) _ hbv.1 hbv.2).mono ?_; rintro e w7 ⟨rfl, hb7⟩; have cE7 := cell_of (block_later rE (below_undrew hb7)); have fE7 := frozen_of (block_later rE (below_undrew hb7))))
      have hb8 := below_undrew hb7
      have D8 : Below V.heap.size V (((w7.setCell ⟨be1, 0, none⟩ (.int .u64 (wallOf (bits .xor .i64 t 1)))).setCell ⟨be1, 1, none⟩ (.int .i64 (extOf (bits .xor .i64 t 1)))).setCell ⟨be1, 2, none⟩ (.pointer none)) := (((below_then D7 hb8).setCell (p := ⟨be1, 0, none⟩) u1 _).setCell (p := ⟨be1, 1, none⟩) u1 _).setCell (p := ⟨be1, 2, none⟩) u1 _
      have H8 : Has (((w7.setCell ⟨be1, 0, none⟩ (.int .u64 (wallOf (bits .xor .i64 t 1)))).setCell ⟨be1, 1, none⟩ (.int .i64 (extOf (bits .xor .i64 t 1)))).setCell ⟨be1, 2, none⟩ (.pointer none)) [(w4.heap.size, recO key trigger (stateOf s) holder fence ns (some ⟨be2, 0, none⟩) (some ⟨bx2, 0, none⟩)), (bx2, intO s), (be2, timeO t)] :=
        ((((((Has.nil _).put (H7.later hb8).tail.g1).put (H7.later hb8).g1).put (H7.later hb8).g0).set _ (by simp; omega)).set _ (by simp; omega)).set _ (by simp; omega)
      clear hb7 hb8 H7 D7 cVA rE cE7 fE7 hbv
      have cVB := cell_of H8.g0
      go_wp2_with fail
      refine (endedAs_any key trigger holder fence ns t s be2 bx2 _ h0 h1 a0 a1 H8.tail.g1 H8.g1).mono ?_
      rintro e w9 ⟨rfl, hb9⟩
      have D9 := below_then D8 hb9
      clear hb9 D8 H8 cVB
      have T9 := below_then T2 D9
      have cRb := block_later rR D9
      have cR := cell_of cRb
      replace hpe := hpe.later D9
      replace hpx := hpx.later D9
      replace hqC := hqC.later D9
      replace hqD := hqD.later D9
      clear rR rA T2 D9
      go_upto_if 166 with fail
      go_cut [20] (fun a wd => a = .bool false ∧ Below w9.heap.size w9 wd)
      case first =>
        rcases hpx with ⟨rfl, rfl⟩ | ⟨b, n, rfl, rfl, hx⟩
        · rcases hqD with ⟨rfl, _⟩ | ⟨b, off, n, rfl, hno, _⟩
          · go_wp2_with fail
            go_meet
            case rel => exact ⟨rfl, Below.refl _ _⟩
          · cases hno
        · rcases hqD with ⟨rfl, hno⟩ | ⟨b2, off, n', rfl, hno, hc, _, _⟩
          · cases hno
          · cases hno
            have cX := cell_of hx
            go_wp2_with fail
            go_quiet (fail)
            go_wp2_with fail
            go_meet
            case rel => exact ⟨rfl, below_drewN (Below.refl _ _) _⟩
      case rest =>
        obtain ⟨rfl, hd⟩ := hcut
        have T10 := below_then T9 hd
        have rR := block_later cRb hd
        replace hpe := hpe.later hd
        replace hqC := hqC.later hd
        clear hpx hqD T9 cR cRb hd
        have cR := cell_of rR
        rcases hpe with ⟨rfl, rfl⟩ | ⟨b, n, rfl, rfl, hx⟩
        · rcases hqC with ⟨rfl, _⟩ | ⟨b, off, n, rfl, hno, _⟩
          · go_wp2_with fail
            go_ret
            exact ⟨rfl, T10⟩
          · cases hno
        · rcases hqC with ⟨rfl, hno⟩ | ⟨b2, off, n', rfl, hno, hc, z0, z1⟩
          · cases hno
          · cases hno
            have cX := cell_of hx
            have lX := lt_of_block hx
            have lR := lt_of_block rR
            have hq := eq_nilLoc
            go_wp2_with fail
            have k0 : wc.cell? ⟨w1.heap.size, 8, none⟩ = some (.pointer (some ⟨b, 0, none⟩)) := cR 8
            have k1 : wc.cell? ⟨b, 0, none⟩ = some (.int .u64 (wallOf n)) := cX 0
            have k2 : wc.cell? ⟨b, 1, none⟩ = some (.int .i64 (extOf n)) := cX 1
            have k3 : wc.cell? ⟨b, 2, none⟩ = some (.pointer none) := cX 2
            have k4 : wc.cell? ⟨b2, off, none⟩ = some (.int .i64 n) := hc
            have lC : b2 < wc.heap.size := World.block_lt_of_cell? _ _ hc
            clear cR cX hc
            go_region_held3 (fun w' => w'.cell? ⟨w1.heap.size, 8, none⟩ = some (.pointer (some ⟨b, 0, none⟩)) ∧ w'.cell? ⟨b, 0, none⟩ = some (.int .u64 (wallOf n)) ∧ w'.cell? ⟨b, 1, none⟩ = some (.int .i64 (extOf n)) ∧ w'.cell? ⟨b, 2, none⟩ = some (.pointer none) ∧ w'.cell? ⟨b2, off, none⟩ = some (.int .i64 n)) (first | exact ⟨k0, k1, k2, k3, k4⟩ | exact ⟨(hb1.cell lR).trans k0, (hb1.cell lX).trans k1, (hb1.cell lX).trans k2, (hb1.cell lX).trans k3, (hb1.cell lC).trans k4⟩) ((go_at_call 7; refine (timeAt_agg n _ z0 z1).mono ?_; rintro e w11 ⟨rfl, hb1⟩))
            go_wp2_with fail
            go_ret
            exact ⟨rfl, below_then T10 (below_undrew hb1)⟩
end Go.Proofs.Qxb6628748a
