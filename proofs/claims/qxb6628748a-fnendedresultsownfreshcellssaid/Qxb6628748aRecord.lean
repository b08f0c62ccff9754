/-
  zzRecordB1 over qxb6628748a.
-/
import Derived.Test.Qxb6628748aRec
namespace Go.Proofs.Qxb6628748a
open Go.RowKit
theorem Try.size32 : (Try.prog.info? 32).map (·.size) = some 10 := by kernel_rfl

theorem bodyPost_block {P : Program} {fn : Func} {R : Ending → World → Prop} {p : Tmp} {ty t : TypeId} {a : Act} {w : World} {B : Nat} {cs : Array Value} {d : TypeDesc} (h : fn.results = #[.cell p ty]) (ha : a.tmps[p]?.getD undef = .pointer (some ⟨B, 0, none⟩))
    (hB : w.heap[B]? = some (.cells cs t)) (hu : P.underlying ty = some d) (hd : (match d with | .struct _ | .array _ _ => true | _ => false) = true) (hi : (P.info? ty).map (·.size) = some cs.size) (hdef : a.defers = [])
    (hR : R (.returned (.agg cs)) w) : bodyPost P fn R .ret a w := by
  refine bodyPost_ret (v := .agg cs) ?_ hdef hR
  simp only [results, h]
  have hload := run_loadVar_row (P := P) w B t ty cs (0, 0) d hB hu hd hi
  simp [ha, asAddr, hload]

theorem new_at {S : World} {o : Obj} {k : Nat} (h : S.heap.size = k) : (S.alloc o).heap[k]? = some o := by subst h; exact heap_alloc_new _ _
theorem old_at {S : World} {o x : Obj} {k : Nat} (h : S.heap[k]? = some x) : (S.alloc o).heap[k]? = some x := (Below.heap_alloc _ _ _ (Array.getElem?_eq_some_iff.1 h).1).trans h

section
variable {Y : World} {B : Nat} (v0 v1 v2 v3 v4 v5 v6 v7 v8 v9 : Value)
/-- Ten stores, one a cell, into a block of ten cells. -/
theorem ten_at {c0 c1 c2 c3 c4 c5 c6 c7 c8 c9 : Value} {t : TypeId} (h : Y.heap[B]? = some (.cells #[c0, c1, c2, c3, c4, c5, c6, c7, c8, c9] t)) :
    ((((((((((Y.setCell ⟨B, 0, none⟩ v0).setCell ⟨B, 1, none⟩ v1).setCell ⟨B, 2, none⟩ v2).setCell ⟨B, 3, none⟩ v3).setCell ⟨B, 4, none⟩ v4).setCell ⟨B, 5, none⟩ v5).setCell ⟨B, 6, none⟩ v6).setCell ⟨B, 7, none⟩ v7).setCell ⟨B, 8, none⟩ v8).setCell ⟨B, 9, none⟩ v9).heap[B]?
      = some (.cells #[v0, v1, v2, v3, v4, v5, v6, v7, v8, v9] t) := by
  simpa using heap_set (heap_set (heap_set (heap_set (heap_set (heap_set (heap_set (heap_set (heap_set (heap_set h 0 v0) 1 v1) 2 v2) 3 v3) 4 v4) 5 v5) 6 v6) 7 v7) 8 v8) 9 v9
theorem ten_other {k : Nat} (hk : k ≠ B) :
    ((((((((((Y.setCell ⟨B, 0, none⟩ v0).setCell ⟨B, 1, none⟩ v1).setCell ⟨B, 2, none⟩ v2).setCell ⟨B, 3, none⟩ v3).setCell ⟨B, 4, none⟩ v4).setCell ⟨B, 5, none⟩ v5).setCell ⟨B, 6, none⟩ v6).setCell ⟨B, 7, none⟩ v7).setCell ⟨B, 8, none⟩ v8).setCell ⟨B, 9, none⟩ v9).heap[k]?
      = Y.heap[k]? := by
  repeat rw [Below.heap_setCell _ _ _ _ hk]
theorem ten_size :
    ((((((((((Y.setCell ⟨B, 0, none⟩ v0).setCell ⟨B, 1, none⟩ v1).setCell ⟨B, 2, none⟩ v2).setCell ⟨B, 3, none⟩ v3).setCell ⟨B, 4, none⟩ v4).setCell ⟨B, 5, none⟩ v5).setCell ⟨B, 6, none⟩ v6).setCell ⟨B, 7, none⟩ v7).setCell ⟨B, 8, none⟩ v8).setCell ⟨B, 9, none⟩ v9).heap.size
      = Y.heap.size := by simp
theorem ten_below {w : World} {C : Nat} (h : Below C w Y) (hC : C ≤ B) :
    Below C w ((((((((((Y.setCell ⟨B, 0, none⟩ v0).setCell ⟨B, 1, none⟩ v1).setCell ⟨B, 2, none⟩ v2).setCell ⟨B, 3, none⟩ v3).setCell ⟨B, 4, none⟩ v4).setCell ⟨B, 5, none⟩ v5).setCell ⟨B, 6, none⟩ v6).setCell ⟨B, 7, none⟩ v7).setCell ⟨B, 8, none⟩ v8).setCell ⟨B, 9, none⟩ v9) :=
  (((((((((h.setCell (p := ⟨B, 0, none⟩) hC _).setCell (p := ⟨B, 1, none⟩) hC _).setCell (p := ⟨B, 2, none⟩) hC _).setCell (p := ⟨B, 3, none⟩) hC _).setCell (p := ⟨B, 4, none⟩) hC _).setCell (p := ⟨B, 5, none⟩) hC _).setCell (p := ⟨B, 6, none⟩) hC _).setCell (p := ⟨B, 7, none⟩) hC _).setCell (p := ⟨B, 8, none⟩) hC _).setCell (p := ⟨B, 9, none⟩) hC _
end

/-- A pointer to a time, or nil. -/
def TimeAt (w : World) (p : Option Addr) (o : Option Int) : Prop :=
  (p = none ∧ o = none) ∨ ∃ b n, p = some ⟨b, 0, none⟩ ∧ o = some n ∧ w.heap[b]? = some (.cells #[.int .u64 (wallOf n), .int .i64 (extOf n), .pointer none] 29)
/-- A pointer to an int, or nil. -/
def IntAt (w : World) (p : Option Addr) (o : Option Int) : Prop :=
  (p = none ∧ o = none) ∨ ∃ b n, p = some ⟨b, 0, none⟩ ∧ o = some n ∧ w.heap[b]? = some (.cells #[.int .i64 n] 3)
/-- What zzRecordB1 leaves. -/
def RecPost (key trigger state holder : ByteArray) (fence ns : Int) (o1 o2 : Option Int) (w : World) (e : Ending) (w' : World) : Prop :=
  ∃ pe px, e = .returned (recV key trigger state holder fence ns pe px) ∧ Below w.heap.size w w' ∧ TimeAt w' pe o1 ∧ IntAt w' px o2

set_option maxHeartbeats 1000000 in
theorem record_nn (key trigger state holder : ByteArray) (fence ns : Int) (w : World) (h0 : -9223372036854775808 ≤ ns) (h1 : ns ≤ 9223372036854775807) :
    Calls Try.prog 6 #[.string key, .string trigger, .string state, .string holder, .int .i64 fence, .int .i64 ns, .pointer (none), .pointer (none)] w (RecPost key trigger state holder fence ns none none w) := by
  go_enter Try.func6, Try.ntmps6
  go_wp2_with fail
  refine (timeAt_any ns _ h0 h1).mono ?_
  rintro e w1 ⟨rfl, hb⟩
  unfold timeV
  have hB := block_later (heap_alloc_new w _) hb
  have T1 := below_then (below_alloc w _) hb
  have hz : w.heap.size < w1.heap.size := by have := hb.size; simp at this; omega
  have hcB := cell_of hB
  have hfB := frozen_of hB
  go_wp2_with fail
  refine bodyPost_block Try.results6 rfl (old_at (ten_at _ _ _ _ _ _ _ _ _ _ hB)) Try.underlying32 rfl Try.size32 rfl ⟨none, none, rfl, ?_, .inl ⟨rfl, rfl⟩, .inl ⟨rfl, rfl⟩⟩
  exact (ten_below _ _ _ _ _ _ _ _ _ _ T1 (Nat.le_refl _)).alloc (by simp; omega) _

set_option maxHeartbeats 1000000 in
theorem record_ns (key trigger state holder : ByteArray) (fence ns : Int) (w : World) (h0 : -9223372036854775808 ≤ ns) (h1 : ns ≤ 9223372036854775807) (b2 o2 : Nat) (m : Int) (hc2 : w.cell? ⟨b2, o2, none⟩ = some (.int .i64 m)) :
    Calls Try.prog 6 #[.string key, .string trigger, .string state, .string holder, .int .i64 fence, .int .i64 ns, .pointer (none), .pointer (some ⟨b2, o2, none⟩)] w (RecPost key trigger state holder fence ns none (some m) w) := by
  go_enter Try.func6, Try.ntmps6
  go_wp2_with fail
  refine (timeAt_any ns _ h0 h1).mono ?_
  rintro e w1 ⟨rfl, hb⟩
  unfold timeV
  have hB := block_later (heap_alloc_new w _) hb
  have T1 := below_then (below_alloc w _) hb
  have hz : w.heap.size < w1.heap.size := by have := hb.size; simp at this; omega
  have hcB := cell_of hB
  have hfB := frozen_of hB
  have g2 := cell_later T1 hc2
  have l2 := World.block_lt_of_cell? w1 _ g2
  simp only at l2
  clear hb
  go_wp2_with fail
  refine bodyPost_block Try.results6 rfl (old_at (old_at (ten_at _ _ _ _ _ _ _ _ _ _ hB))) Try.underlying32 rfl Try.size32 rfl ⟨none, _, rfl, ?_, .inl ⟨rfl, rfl⟩, .inr ⟨_, m, rfl, rfl, new_at (by simp)⟩⟩
  exact ((ten_below _ _ _ _ _ _ _ _ _ _ T1 (Nat.le_refl _)).alloc (by simp; omega) _).alloc (by simp; omega) _

set_option maxHeartbeats 1000000 in
theorem record_sn (key trigger state holder : ByteArray) (fence ns : Int) (w : World) (h0 : -9223372036854775808 ≤ ns) (h1 : ns ≤ 9223372036854775807) (b1 o1 : Nat) (n : Int) (hn0 : -9223372036854775808 ≤ n) (hn1 : n ≤ 9223372036854775807) (hc1 : w.cell? ⟨b1, o1, none⟩ = some (.int .i64 n)) :
    Calls Try.prog 6 #[.string key, .string trigger, .string state, .string holder, .int .i64 fence, .int .i64 ns, .pointer (some ⟨b1, o1, none⟩), .pointer (none)] w (RecPost key trigger state holder fence ns (some n) none w) := by
  go_enter Try.func6, Try.ntmps6
  go_wp2_with fail
  refine (timeAt_any ns _ h0 h1).mono ?_
  rintro e w1 ⟨rfl, hb⟩
  unfold timeV
  have hB := block_later (heap_alloc_new w _) hb
  have T1 := below_then (below_alloc w _) hb
  have hz : w.heap.size < w1.heap.size := by have := hb.size; simp at this; omega
  have g1 := cell_later T1 hc1
  have l1 := World.block_lt_of_cell? w1 _ g1
  simp only at l1
  go_wp2_with fail
  refine (timeAt_any n _ hn0 hn1).mono ?_
  rintro e w2 ⟨rfl, hb2⟩
  unfold timeV
  have T2 := below_then (below_then T1 (below_alloc _ _)) hb2
  have hR := block_later (heap_alloc_new w1 _) hb2
  have hB2 := block_later hB (below_then (below_alloc w1 _) hb2)
  have hcR := cell_of hR
  have hcB := cell_of hB2
  have hfR := frozen_of hR
  have hfB := frozen_of hB2
  have z1 : w1.heap.size < w2.heap.size := by have := hb2.size; simp at this; omega
  have z2 : w.heap.size < w2.heap.size := by omega
  clear T1 hb2 hb g1 l1
  go_wp2_with fail
  refine bodyPost_block Try.results6 rfl (old_at (ten_at _ _ _ _ _ _ _ _ _ _ ((Below.heap_setCell _ _ _ _ (by simp; omega)).trans hB2))) Try.underlying32 rfl Try.size32 rfl ⟨_, none, rfl, ?_, .inr ⟨_, n, rfl, rfl, new_at (by simp)⟩, .inl ⟨rfl, rfl⟩⟩
  exact (ten_below _ _ _ _ _ _ _ _ _ _ (T2.setCell (p := ⟨w1.heap.size, 8, none⟩) (by simp; omega) _) (Nat.le_refl _)).alloc (by simp; omega) _

set_option maxHeartbeats 1000000 in
theorem record_ss (key trigger state holder : ByteArray) (fence ns : Int) (w : World) (h0 : -9223372036854775808 ≤ ns) (h1 : ns ≤ 9223372036854775807) (b1 o1 : Nat) (n : Int) (hn0 : -9223372036854775808 ≤ n) (hn1 : n ≤ 9223372036854775807) (hc1 : w.cell? ⟨b1, o1, none⟩ = some (.int .i64 n)) (b2 o2 : Nat) (m : Int) (hc2 : w.cell? ⟨b2, o2, none⟩ = some (.int .i64 m)) :
    Calls Try.prog 6 #[.string key, .string trigger, .string state, .string holder, .int .i64 fence, .int .i64 ns, .pointer (some ⟨b1, o1, none⟩), .pointer (some ⟨b2, o2, none⟩)] w (RecPost key trigger state holder fence ns (some n) (some m) w) := by
  go_enter Try.func6, Try.ntmps6
  go_wp2_with fail
  refine (timeAt_any ns _ h0 h1).mono ?_
  rintro e w1 ⟨rfl, hb⟩
  unfold timeV
  have hB := block_later (heap_alloc_new w _) hb
  have T1 := below_then (below_alloc w _) hb
  have hz : w.heap.size < w1.heap.size := by have := hb.size; simp at this; omega
  have g1 := cell_later T1 hc1
  have l1 := World.block_lt_of_cell? w1 _ g1
  simp only at l1
  go_wp2_with fail
  refine (timeAt_any n _ hn0 hn1).mono ?_
  rintro e w2 ⟨rfl, hb2⟩
  unfold timeV
  have T2 := below_then (below_then T1 (below_alloc _ _)) hb2
  have hR := block_later (heap_alloc_new w1 _) hb2
  have hB2 := block_later hB (below_then (below_alloc w1 _) hb2)
  have hcR := cell_of hR
  have hcB := cell_of hB2
  have hfR := frozen_of hR
  have hfB := frozen_of hB2
  have z1 : w1.heap.size < w2.heap.size := by have := hb2.size; simp at this; omega
  have z2 : w.heap.size < w2.heap.size := by omega
  have g2 := cell_later T2 hc2
  have l2 := World.block_lt_of_cell? w2 _ g2
  have l3 := World.block_lt_of_cell? w _ hc2
  simp only at l2 l3
  have g3 : (w2.setCell ⟨w1.heap.size, 8, none⟩ (.pointer (some ⟨w2.heap.size, 0, none⟩))).cell? ⟨b2, o2, none⟩ = some (.int .i64 m) := by
    rw [World.cell?_of_block (w := w2) (Below.heap_setCell _ _ _ _ (by simp; omega))]; exact g2
  clear T1 hb2 hb g1 l1
  go_wp2_with fail
  refine bodyPost_block Try.results6 rfl (old_at (old_at (ten_at _ _ _ _ _ _ _ _ _ _ ((Below.heap_setCell _ _ _ _ (by simp; omega)).trans ((Below.heap_setCell _ _ _ _ (by simp; omega)).trans hB2))))) Try.underlying32 rfl Try.size32 rfl ⟨_, _, rfl, ?_, .inr ⟨_, n, rfl, rfl, old_at (new_at (by simp))⟩, .inr ⟨_, m, rfl, rfl, new_at (by simp)⟩⟩
  exact ((ten_below _ _ _ _ _ _ _ _ _ _ ((T2.setCell (p := ⟨w1.heap.size, 8, none⟩) (by simp; omega) _).setCell (p := ⟨w1.heap.size, 9, none⟩) (by simp; omega) _) (Nat.le_refl _)).alloc (by simp; omega) _).alloc (by simp; omega) _

/-- A pointer argument: nil, or an int that fits its kind. -/
def PtrInt (w : World) (p : Option Addr) (o : Option Int) : Prop :=
  (p = none ∧ o = none) ∨ ∃ b off n, p = some ⟨b, off, none⟩ ∧ o = some n ∧ w.cell? ⟨b, off, none⟩ = some (.int .i64 n) ∧ -9223372036854775808 ≤ n ∧ n ≤ 9223372036854775807

theorem record_any (key trigger state holder : ByteArray) (fence ns : Int) (p1 p2 : Option Addr) (o1 o2 : Option Int) (w : World) (h0 : -9223372036854775808 ≤ ns) (h1 : ns ≤ 9223372036854775807) (hp1 : PtrInt w p1 o1) (hp2 : PtrInt w p2 o2) :
    Calls Try.prog 6 #[.string key, .string trigger, .string state, .string holder, .int .i64 fence, .int .i64 ns, .pointer p1, .pointer p2] w (RecPost key trigger state holder fence ns o1 o2 w) := by
  rcases hp1 with ⟨rfl, rfl⟩ | ⟨b1, f1, n, rfl, rfl, c1, n0, n1⟩
  · rcases hp2 with ⟨rfl, rfl⟩ | ⟨b2, f2, m, rfl, rfl, c2, _, _⟩
    · exact record_nn key trigger state holder fence ns w h0 h1
    · exact record_ns key trigger state holder fence ns w h0 h1 b2 f2 m c2
  · rcases hp2 with ⟨rfl, rfl⟩ | ⟨b2, f2, m, rfl, rfl, c2, _, _⟩
    · exact record_sn key trigger state holder fence ns w h0 h1 b1 f1 n n0 n1 c1
    · exact record_ss key trigger state holder fence ns w h0 h1 b1 f1 n n0 n1 c1 b2 f2 m c2

end Go.Proofs.Qxb6628748a
