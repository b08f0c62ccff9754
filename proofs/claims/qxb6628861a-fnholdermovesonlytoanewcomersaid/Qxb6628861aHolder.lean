/-
  Holder over qxb6628861a.
-/
import Derived.Test.Qxb6628861aRank
namespace Go.Proofs.Qxb6628861a
open Go.RowKit

/-- A slice of nodes: cells 2r and 2r + 1 hold the r-th ID and address. -/
def NodesAt (w : World) (a : Option Addr) (n : Nat) (I D : Nat → ByteArray) : Prop :=
  n = 0 ∨ ∃ b o, a = some ⟨b, o, none⟩ ∧ ∀ r, r < n → w.cell? ⟨b, o + r * 2, none⟩ = some (.string (I r)) ∧ w.cell? ⟨b, o + r * 2 + 1, none⟩ = some (.string (D r))

/-- The index of the first best of nodes 0 to m. -/
def best (k : Int) (I : Nat → ByteArray) : Nat → Nat
  | 0 => 0
  | m + 1 => if outr k (I (m + 1)) (I (best k I m)) then m + 1 else best k I m

theorem best_le (k : Int) (I : Nat → ByteArray) (m : Nat) : best k I m ≤ m := by
  induction m with
  | zero => exact Nat.le_refl _
  | succ m ih => unfold best; split <;> omega

theorem cell_of {w : World} {g : Nat} {cs : Array Value} {t : TypeId} (h : w.heap[g]? = some (.cells cs t)) (j : Nat) : w.cell? ⟨g, j, none⟩ = cs[j]? := cell_of_row w g j cs t (0, 0) h
theorem frozen_of {w : World} {g : Nat} {cs : Array Value} {t : TypeId} (h : w.heap[g]? = some (.cells cs t)) (j : Nat) : w.frozen? ⟨g, j, none⟩ = false := by simp [World.frozen?, h]
theorem block_later {w w' : World} {g : Nat} {x : Obj} (h : w.heap[g]? = some x) (hb : Below w.heap.size w w') : w'.heap[g]? = some x :=
  (hb.block g (Array.getElem?_eq_some_iff.1 h).1).trans h
theorem lt_of_block {w : World} {b : Nat} {o : Obj} (h : w.heap[b]? = some o) : b < w.heap.size := (Array.getElem?_eq_some_iff.1 h).1
theorem new_at {S : World} {o : Obj} {k : Nat} (h : S.heap.size = k) : (S.alloc o).heap[k]? = some o := by subst h; exact heap_alloc_new _ _
theorem old_at {S : World} {o x : Obj} {k : Nat} (h : S.heap[k]? = some x) : (S.alloc o).heap[k]? = some x := (Below.heap_alloc _ _ _ (Array.getElem?_eq_some_iff.1 h).1).trans h
theorem heap_set {w : World} {g : Nat} {cs : Array Value} {t : TypeId} (h : w.heap[g]? = some (.cells cs t)) (i : Nat) (u : Value) : (w.setCell ⟨g, i, none⟩ u).heap[g]? = some (.cells (cs.setIfInBounds i u) t) := by
  simp [World.setCell, Array.getElem?_modify, h]

theorem Try.size31 : (Try.prog.info? 31).map (·.size) = some 2 := by kernel_rfl
theorem bodyPost_block {P : Program} {fn : Func} {R : Ending → World → Prop} {p : Tmp} {ty t : TypeId} {a : Act} {w : World} {B : Nat} {cs : Array Value} {d : TypeDesc} (h : fn.results = #[.cell p ty]) (ha : a.tmps[p]?.getD undef = .pointer (some ⟨B, 0, none⟩))
    (hB : w.heap[B]? = some (.cells cs t)) (hu : P.underlying ty = some d) (hd : (match d with | .struct _ | .array _ _ => true | _ => false) = true) (hi : (P.info? ty).map (·.size) = some cs.size) (hdef : a.defers = [])
    (hR : R (.returned (.agg cs)) w) : bodyPost P fn R .ret a w := by
  refine bodyPost_ret (v := .agg cs) ?_ hdef hR
  simp only [results, h]
  have hload := run_loadVar_row (P := P) w B t ty cs (0, 0) d hB hu hd hi
  simp [ha, asAddr, hload]

set_option maxHeartbeats 1000000 in
theorem holder_any (name key : ByteArray) (a : Option Addr) (m cap : Nat) (c1 c2 c3 : Int) (I D : Nat → ByteArray) (w : World) (hN : NodesAt w a (m + 1) I D) (hm : m + 1 ≤ cap) (hcap : cap ≤ 9223372036854775807) (hk : key.size ≤ 9223372036854775807) (hI : ∀ r, r < m + 1 → (I r).size ≤ 9223372036854775807) :
    Calls Try.prog 8 #[.agg #[.string name, .slice a (m + 1) cap, .int .i64 c1, .int .i64 c2, .int .i64 c3], .string key] w fun e w' =>
      e = .returned (.agg #[.string (I (best (hashOf key) I m)), .string (D (best (hashOf key) I m))]) ∧ Below w.heap.size w w' := by
  obtain ⟨b, o, rfl, hc⟩ := hN.resolve_left (by omega)
  have hc0 := (hc 0 (by omega)).1
  have hc1 := (hc 0 (by omega)).2
  have lb := World.block_lt_of_cell? w _ hc0
  simp only [Nat.zero_mul, Nat.add_zero] at hc0 hc1 lb
  have Hh : Hid (∀ w, Calls Try.prog 11 #[.string key] w fun e w' => e = .returned (.int .u64 (hashOf key)) ∧ Below w.heap.size w w') := fun w => hash_any key w hk
  generalize hashOf key = kk at Hh ⊢
  go_enter Try.func8, Try.ntmps8
  go_wp2_with fail
  refine (Hh.out _).mono ?_
  rintro e w1 ⟨rfl, hb1⟩
  have T1 := below_then (below_then (below_alloc w _) (below_alloc _ _)) hb1
  have d0 := cell_later T1 hc0
  have d1 := cell_later T1 hc1
  have hBox := block_later (old_at (o := .cells #[.string { data := #[] }, .string { data := #[] }] 31) (heap_alloc_new w (.cells #[.string name, .slice (some ⟨b, o, none⟩) (m + 1) cap, .int .i64 c1, .int .i64 c2, .int .i64 c3] 29))) hb1
  have hRes := block_later (new_at (S := w.alloc (.cells #[.string name, .slice (some ⟨b, o, none⟩) (m + 1) cap, .int .i64 c1, .int .i64 c2, .int .i64 c3] 29)) (o := .cells #[.string { data := #[] }, .string { data := #[] }] 31) (k := w.heap.size + 1) (by simp)) hb1
  have cB := cell_of hBox
  have zB := lt_of_block hBox
  have zb : b < w1.heap.size := by omega
  clear hb1 hc0 hc1
  clear Hh
  by_cases h1 : cap = 1
  · subst h1
    have hm0 : m = 0 := by omega
    subst hm0
    go_wp2_with fail
    go_loopw [19] (fun i wr => ∃ k : Nat, k ≤ 0 ∧ i = .int .i64 k ∧ wr.heap[w1.heap.size]? = some (.cells #[.string (I (best kk I k)), .string (D (best kk I k))] 31) ∧ Below w1.heap.size w1 wr) (fun i _ => 0 - (intOf i).toNat)
    case atStart => exact ⟨0, Nat.zero_le _, rfl, heap_alloc_new w1 _, below_alloc _ _⟩
    case round =>
      obtain ⟨k, hk, rfl, hV, hB⟩ := hrel
      have hkm : k = 0 := by omega
      subst hkm
      have cV := cell_of hV
      have cR := cell_of (block_later hRes hB)
      have fR := frozen_of (block_later hRes hB)
      have hR := block_later hRes hB
      have T2 := below_then T1 hB
      go_wp2_with fail
      have hb' := heap_set (heap_set hR 0 (.string (I (best kk I 0)))) 1 (.string (D (best kk I 0)))
      refine bodyPost_block (cs := #[.string (I (best kk I 0)), .string (D (best kk I 0))]) Try.results8 rfl (by simpa using hb') Try.underlying31 rfl Try.size31 rfl ⟨rfl, ?_⟩
      exact (T2.setCell (p := ⟨w.heap.size + 1, 0, none⟩) (by simp) _).setCell (p := ⟨w.heap.size + 1, 1, none⟩) (by simp) _
  · go_wp2_with fail
    go_loopw [19] (fun i wr => ∃ k : Nat, k ≤ m ∧ i = .int .i64 k ∧ wr.heap[w1.heap.size]? = some (.cells #[.string (I (best kk I k)), .string (D (best kk I k))] 31) ∧ Below w1.heap.size w1 wr) (fun i _ => m - (intOf i).toNat)
    case atStart => exact ⟨0, Nat.zero_le _, rfl, heap_alloc_new w1 _, below_alloc _ _⟩
    case round =>
      obtain ⟨k, hk, rfl, hV, hB⟩ := hrel
      by_cases hlt : k < m
      · obtain ⟨g0, g1⟩ := hc (k + 1) (by omega)
        rw [show o + (k + 1) * 2 = o + 2 + k * 2 by omega] at g0 g1
        have g2 := cell_later hB (cell_later T1 g0)
        have g3 := cell_later hB (cell_later T1 g1)
        have e1 : (k : Int) < (m : Int) := by omega
        have cV := cell_of hV
        have zV := lt_of_block hV
        have zb' : b < wr.heap.size := by have := hB.size; omega
        have hbest : best kk I (k + 1) = if outr kk (I (k + 1)) (I (best kk I k)) then k + 1 else best kk I k := rfl
        have Hbest : Hid (best kk I (k + 1) = if outr kk (I (k + 1)) (I (best kk I k)) then k + 1 else best kk I k) := hbest
        have hIk := hI (k + 1) (by omega)
        clear g0 g1 hbest hc
        go_wp2_with fail
        refine (outranks_any kk (I (k + 1)) (D (k + 1)) (I (best kk I k)) (D (best kk I k)) _ hIk (hI _ (by have := best_le kk I k; omega))).mono ?_
        rintro e w2 ⟨rfl, hb2⟩
        have B2 := below_then (below_then hB (below_alloc wr _)) hb2
        have hV2 := block_later (old_at (o := .cells #[.string (I (k + 1)), .string (D (k + 1))] 31) hV) hb2
        have hn2 := block_later (heap_alloc_new wr (.cells #[.string (I (k + 1)), .string (D (k + 1))] 31)) hb2
        have cV2 := cell_of hV2
        have fV2 := frozen_of hV2
        have cn2 := cell_of hn2
        have hne : wr.heap.size ≠ w1.heap.size := by omega
        clear hb2 cV g2 g3
        cases ho : outr kk (I (k + 1)) (I (best kk I k)) with
        | true =>
          have hB1 : best kk I (k + 1) = k + 1 := by rw [Hbest.out, ho]; rfl
          have H3 : Hid ((w2.setCell ⟨w1.heap.size, 0, none⟩ (.string (I (k + 1)))).setCell ⟨w1.heap.size, 1, none⟩ (.string (D (k + 1))) |>.heap[w1.heap.size]? = some (.cells #[.string (I (best kk I (k + 1))), .string (D (best kk I (k + 1)))] 31)) := by
            rw [hB1]
            have := heap_set (heap_set hV2 0 (.string (I (k + 1)))) 1 (.string (D (k + 1)))
            simpa [Hid] using this
          clear ho hB1 Hbest
          go_wp2_with fail
          go_roundw
          case rel => exact ⟨k + 1, by omega, by go_num, H3.out, (B2.setCell (p := ⟨w1.heap.size, 0, none⟩) (Nat.le_refl _) _).setCell (p := ⟨w1.heap.size, 1, none⟩) (Nat.le_refl _) _⟩
          case measure => simp [intOf]; omega
        | false =>
          have hB1 : best kk I (k + 1) = best kk I k := by rw [Hbest.out, ho]; rfl
          have H3 : Hid (w2.heap[w1.heap.size]? = some (.cells #[.string (I (best kk I (k + 1))), .string (D (best kk I (k + 1)))] 31)) := by
            rw [hB1]; exact hV2
          clear ho hB1 Hbest
          go_wp2_with fail
          go_roundw
          case rel => exact ⟨k + 1, by omega, by go_num, H3.out, B2⟩
          case measure => simp [intOf]; omega
      · have hkm : m = k := by omega
        subst hkm
        have cV := cell_of hV
        have cR := cell_of (block_later hRes hB)
        have fR := frozen_of (block_later hRes hB)
        have hR := block_later hRes hB
        have T2 := below_then T1 hB
        go_wp2_with fail
        have hb' := heap_set (heap_set hR 0 (.string (I (best kk I m)))) 1 (.string (D (best kk I m)))
        refine bodyPost_block (cs := #[.string (I (best kk I m)), .string (D (best kk I m))]) Try.results8 rfl (by simpa using hb') Try.underlying31 rfl Try.size31 rfl ⟨rfl, ?_⟩
        exact (T2.setCell (p := ⟨w.heap.size + 1, 0, none⟩) (by simp) _).setCell (p := ⟨w.heap.size + 1, 1, none⟩) (by simp) _
end Go.Proofs.Qxb6628861a
