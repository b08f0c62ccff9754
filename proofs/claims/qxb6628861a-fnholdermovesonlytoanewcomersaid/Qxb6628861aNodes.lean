/-
  holderNodes over qxb6628861a.
-/
import Derived.Test.Qxb6628861aGuards
import Derived.Deep.OwnRows
import Derived.Deep.AppendLies
import Derived.Laws.OwnMore
import Derived.BigRegion
namespace Go.Proofs.Qxb6628861a
open Go.RowKit
theorem Try.info31 : (Try.prog.info? 31).map (fun i => (i.zero, i.size, i.bytes)) = some (some (.agg #[.string { data := #[] }, .string { data := #[] }]), 2, 32) := by kernel_rfl

theorem make_nodes (l c : Nat) (hlc : l ≤ c) (hc : c ≤ 1048577) (w : World) : (Instr.makeSlice 25 (.int .i64 (l : Int)) (.int .i64 (c : Int))).run Try.prog w = .ok (.slice (some ⟨w.heap.size, 0, none⟩) l c) (w.alloc (.cells (madeCells #[.string { data := #[] }, .string { data := #[] }] (c * 2)) 31)) := by
  obtain ⟨i, hi, hzz⟩ := Option.map_eq_some_iff.1 Try.info31
  simp only [Prod.mk.injEq] at hzz
  obtain ⟨hz, hs, hb⟩ := hzz
  have := run_make (P := Try.prog) w 25 31 i _ Try.underlying25 hi hz .i64 .i64 l c (by omega) (by omega) (by rw [hb]; omega) (by omega)
  rw [this, hs]
  rfl

/-- What holds at the head of each round of holderNodes's loop. -/
structure NodesRel (I D : Nat → ByteArray) (n W0 : Nat) (w : World) (k : Nat) (xs : List Value) (wr : World) : Prop where
  own : wr.ownsRow W0 31 2 (.slice (some ⟨W0, 0, none⟩) n n) n xs
  cells : ∀ r, r < k → xs[r * 2]? = some (.string (I r)) ∧ xs[r * 2 + 1]? = some (.string (D r))
  bel : Below W0 w wr

theorem NodesRel.next {I D : Nat → ByteArray} {n W0 : Nat} {w : World} {k : Nat} {xs : List Value} {wr : World} (h : NodesRel I D n W0 w k xs wr) (hk : k < n) :
    NodesRel I D n W0 w (k + 1) ((xs.set (k * 2) (.string (I k))).set (k * 2 + 1) (.string (D k))) ((wr.setCell ⟨W0, k * 2, none⟩ (.string (I k))).setCell ⟨W0, k * 2 + 1, none⟩ (.string (D k))) := by
  have hl := h.own.1
  refine ⟨((h.own.stored _ _).1.stored _ _).1, fun r hr => ?_, (h.bel.setCell (p := ⟨W0, k * 2, none⟩) (Nat.le_refl _) _).setCell (p := ⟨W0, k * 2 + 1, none⟩) (Nat.le_refl _) _⟩
  simp only [List.getElem?_set, List.length_set]
  by_cases e : r = k
  · subst e
    constructor
    · rw [if_neg (by omega), if_pos rfl, if_pos (by omega)]
    · rw [if_pos rfl, if_pos (by omega)]
  · obtain ⟨h1, h2⟩ := h.cells r (by omega)
    constructor
    · rw [if_neg (by omega), if_neg (by omega)]; exact h1
    · rw [if_neg (by omega), if_neg (by omega)]; exact h2

theorem NodesRel.drew {I D : Nat → ByteArray} {n W0 : Nat} {w : World} {k : Nat} {xs : List Value} {wr : World} (h : NodesRel I D n W0 w k xs wr) : NodesRel I D n W0 w k xs wr.drew := ⟨h.own.drew, h.cells, h.bel.drew⟩

theorem NodesRel.nodes {I D : Nat → ByteArray} {n W0 : Nat} {w : World} {xs : List Value} {wr : World} (h : NodesRel I D n W0 w n xs wr) : NodesAt wr (some ⟨W0, 0, none⟩) n I D := by
  refine .inr ⟨W0, 0, rfl, fun r hr => ?_⟩
  obtain ⟨h1, h2⟩ := h.cells r hr
  rw [Nat.zero_add]
  exact ⟨(h.own.cellAt _ (by omega)).trans h1, (h.own.cellAt _ (by omega)).trans h2⟩

set_option maxHeartbeats 1000000 in
theorem nodes_any (a : Option Addr) (n cap : Nat) (I D : Nat → ByteArray) (w : World) (hN : NodesAt w a n I D) (hn : n ≤ 1048576) :
    Calls Try.prog 7 #[.slice a n cap] w fun e w' => e = .returned (.slice (some ⟨w.heap.size, 0, none⟩) n n) ∧ NodesAt w' (some ⟨w.heap.size, 0, none⟩) n I D ∧ Below w.heap.size w w' := by
  have hmk := make_nodes n n (Nat.le_refl _) (by omega)
  go_enter Try.func7, Try.ntmps7
  go_wp2_with fail
  clear hmk
  have hstart : NodesRel I D n w.heap.size w 0 (madeCells #[.string { data := #[] }, .string { data := #[] }] (n * 2)).toList (w.alloc (.cells (madeCells #[.string { data := #[] }, .string { data := #[] }] (n * 2)) 31)) :=
    ⟨World.ownsRow_lit w _ n (Nat.le_refl _) (by simp [maxLen]; omega) (size_madeCells _ _), fun r hr => by omega, (Below.refl _ _).alloc (Nat.le_refl _) _⟩
  go_loopw [4] (fun i wr => ∃ (k : Nat) (xs : List Value), k ≤ n ∧ i = .int .i64 k ∧ NodesRel I D n w.heap.size w k xs wr) (fun i _ => n - (intOf i).toNat)
  case atStart => exact ⟨0, _, Nat.zero_le _, rfl, hstart⟩
  case round =>
    clear hstart
    obtain ⟨k, xs, hk, rfl, hR⟩ := hrel
    by_cases hlt : k < n
    · obtain ⟨b, o, rfl, hc⟩ := hN.resolve_left (by omega)
      obtain ⟨g0, g1⟩ := hc k hlt
      have hlb := World.block_lt_of_cell? w _ g0
      simp only at hlb
      replace g0 := (hR.bel.cell (p := ⟨b, o + k * 2, none⟩) hlb).trans g0
      replace g1 := (hR.bel.cell (p := ⟨b, o + k * 2 + 1, none⟩) hlb).trans g1
      have e1 : (k : Int) < (n : Int) := by omega
      have hl := hR.own.1
      have c0 := hR.own.cellAt (k * 2) (by omega)
      rw [List.getElem?_eq_getElem (by omega)] at c0
      have c1 := hR.own.cellAt (k * 2 + 1) (by omega)
      rw [List.getElem?_eq_getElem (by omega)] at c1
      have f0 := hR.own.frozenAt (k * 2)
      have f1 := hR.own.frozenAt (k * 2 + 1)
      have hne : b ≠ w.heap.size := by omega
      go_wp2_with fail
      go_region
      all_goals
        go_wp2_with fail
        go_roundw
        case rel => exact ⟨k + 1, _, by omega, by go_num, (hR.next hlt).drew⟩
        case measure => simp [intOf]; omega
    · have hkn : n = k := by omega
      subst hkn
      go_wp2_with fail
      go_ret
      exact ⟨rfl, hR.nodes, hR.bel⟩
end Go.Proofs.Qxb6628861a
