/-
  Times over qxb6628748a: the time that lies ns nanoseconds after the zero time: what (time.Time).Add gives of the zero time, and ZZtimeAt.
-/
import Derived.Test.Qxb6628748aRows
import Derived.WalkKit
import Derived.WalkSpells
import Derived.WalkLawsBesides
import Derived.Deep.QuietTactic
import Derived.BigQuiet
namespace Go.Proofs.Qxb6628748a
open Go.RowKit

theorem and_zero30 : bits .and .u64 0 1073741823 = 0 := by decide
theorem andNot_zero30 : bits .andNot .u64 0 1073741823 = 0 := by decide

theorem or_zero (x : Int) (h0 : 0 ≤ x) (h1 : x < 1073741824) : bits .or .u64 0 x = x := by
  rw [u64_or 0 x (by omega) (by omega) h0 (by omega)]; simp; omega
theorem and_mono (x : Int) (h0 : 0 ≤ x) (h1 : x < 1073741824) : bits .and .u64 x 9223372036854775808 = 0 := by
  rw [u64_and x _ h0 (by omega) (by omega) (by omega)]
  have := nat_bit 63 x.toNat
  simp only [show ((9223372036854775808 : Int).toNat) = 2 ^ 63 from rfl]
  rw [this, Nat.div_eq_of_lt (by omega)]
  rfl

set_option maxHeartbeats 400000 in
theorem nsec_zero (b off : Nat) (w : World) (h : w.cell? ⟨b, off, none⟩ = some (.int .u64 0)) :
    Calls Try.prog 15 #[.pointer (some ⟨b, off, none⟩)] w fun e w' => e = .returned (.int .i32 0) ∧ w = w' := by
  have k := and_zero30
  go_enter Try.func15, Try.ntmps15
  go_wp2
  go_ret
  exact ⟨rfl, rfl⟩

set_option maxHeartbeats 400000 in
theorem addSec_any (b : Nat) (x d : Int) (w : World) (h0 : w.cell? ⟨b, 0, none⟩ = some (.int .u64 x)) (h1 : w.cell? ⟨b, 1, none⟩ = some (.int .i64 0)) (hf : w.frozen? ⟨b, 1, none⟩ = false)
    (hx0 : 0 ≤ x) (hx1 : x < 1073741824) (hd0 : -9223372036854775808 ≤ d) (hd1 : d ≤ 9223372036854775807) :
    Calls Try.prog 16 #[.pointer (some ⟨b, 0, none⟩), .int .i64 d] w fun e w' => e = .returned (.tuple #[]) ∧ w.setCell ⟨b, 1, none⟩ (.int .i64 d) = w' := by
  have k := and_mono x hx0 hx1
  go_enter Try.func16, Try.ntmps16
  go_wp2
  go_end0
  exact ⟨rfl, rfl⟩

/-- The two numbers of the time that lies ns nanoseconds after the zero time. -/
def wallOf (ns : Int) : Int := if ns.tmod 1000000000 < 0 then ns.tmod 1000000000 + 1000000000 else ns.tmod 1000000000
def extOf (ns : Int) : Int := if ns.tmod 1000000000 < 0 then ns.tdiv 1000000000 - 1 else ns.tdiv 1000000000
theorem tmod_bd (ns : Int) : -1000000000 < ns.tmod 1000000000 ∧ ns.tmod 1000000000 < 1000000000 := by
  rcases Int.eq_nat_or_neg ns with ⟨n, rfl | rfl⟩
  · rw [show ((n : Int)).tmod 1000000000 = ((n % 1000000000 : Nat) : Int) from rfl]; omega
  · rw [Int.neg_tmod, show ((n : Int)).tmod 1000000000 = ((n % 1000000000 : Nat) : Int) from rfl]; omega
theorem tdiv_bd (ns : Int) (h0 : -9223372036854775808 ≤ ns) (h1 : ns ≤ 9223372036854775807) : -9223372037 < ns.tdiv 1000000000 ∧ ns.tdiv 1000000000 < 9223372037 := by
  rcases Int.eq_nat_or_neg ns with ⟨n, rfl | rfl⟩
  · rw [show ((n : Int)).tdiv 1000000000 = ((n / 1000000000 : Nat) : Int) from rfl]; omega
  · rw [Int.neg_tdiv, show ((n : Int)).tdiv 1000000000 = ((n / 1000000000 : Nat) : Int) from rfl]; omega

set_option maxHeartbeats 400000 in
theorem add_zero (ns : Int) (w : World) (h0 : -9223372036854775808 ≤ ns) (h1 : ns ≤ 9223372036854775807) :
    Calls Try.prog 12 #[.agg #[.int .u64 0, .int .i64 0, .pointer none], .int .i64 ns] w fun e w' => e = .returned (.agg #[.int .u64 (wallOf ns), .int .i64 (extOf ns), .pointer none]) ∧ Below w.heap.size w w' := by
  obtain ⟨m1, m2⟩ := tmod_bd ns
  obtain ⟨d1, d2⟩ := tdiv_bd ns h0 h1
  have k1 := andNot_zero30
  by_cases hneg : ns.tmod 1000000000 < 0
  · have k2 := or_zero (ns.tmod 1000000000 + 1000000000) (by omega) (by omega)
    have k3 := and_mono (ns.tmod 1000000000 + 1000000000) (by omega) (by omega)
    have e1 : wallOf ns = ns.tmod 1000000000 + 1000000000 := if_pos hneg
    have e2 : extOf ns = ns.tdiv 1000000000 - 1 := if_pos hneg
    rw [e1, e2]
    clear e1 e2
    go_enter Try.func12, Try.ntmps12
    go_wp2_with fail
    refine (nsec_zero _ _ _ ?_).mono ?_
    · simp
    rintro e w' ⟨rfl, rfl⟩
    go_wp2_with fail
    refine (addSec_any _ (ns.tmod 1000000000 + 1000000000) _ _ ?_ ?_ ?_ (by omega) (by omega) (by omega) (by omega)).mono ?_
    · simp [go_sem]
    · simp [go_sem]
    · simp [go_sem]
    rintro e w' ⟨rfl, rfl⟩
    go_wp2_with fail
    refine bodyPost_ret (v := .agg #[.int .u64 (ns.tmod 1000000000 + 1000000000), .int .i64 (ns.tdiv 1000000000 - 1), .pointer none]) (by simp [results, Try.results12, go_sem]) rfl ⟨rfl, ?_⟩
    repeat (first | exact Below.refl _ _ | refine Below.alloc ?_ (by simp) _ | refine Below.setCell ?_ (by simp) _)
  · have k2 := or_zero (ns.tmod 1000000000) (by omega) (by omega)
    have k3 := and_mono (ns.tmod 1000000000) (by omega) (by omega)
    have e1 : wallOf ns = ns.tmod 1000000000 := if_neg hneg
    have e2 : extOf ns = ns.tdiv 1000000000 := if_neg hneg
    rw [e1, e2]
    clear e1 e2
    go_enter Try.func12, Try.ntmps12
    go_wp2_with fail
    refine (nsec_zero _ _ _ ?_).mono ?_
    · simp
    rintro e w' ⟨rfl, rfl⟩
    go_wp2_with fail
    refine (addSec_any _ (ns.tmod 1000000000) _ _ ?_ ?_ ?_ (by omega) (by omega) (by omega) (by omega)).mono ?_
    · simp [go_sem]
    · simp [go_sem]
    · simp [go_sem]
    rintro e w' ⟨rfl, rfl⟩
    go_wp2_with fail
    refine bodyPost_ret (v := .agg #[.int .u64 (ns.tmod 1000000000), .int .i64 (ns.tdiv 1000000000), .pointer none]) (by simp [results, Try.results12, go_sem]) rfl ⟨rfl, ?_⟩
    repeat (first | exact Below.refl _ _ | refine Below.alloc ?_ (by simp) _ | refine Below.setCell ?_ (by simp) _)

/-- The time that lies ns nanoseconds after the zero time, as a value. -/
def timeV (ns : Int) : Value := .agg #[.int .u64 (wallOf ns), .int .i64 (extOf ns), .pointer none]

theorem below_then {w a b : World} (h : Below w.heap.size w a) (k : Below a.heap.size a b) : Below w.heap.size w b := h.trans (k.mono h.size)
theorem below_alloc (w : World) (o : Obj) : Below w.heap.size w (w.alloc o) := (Below.refl _ _).alloc (Nat.le_refl _) _

/-- A block whose cells are known: a cell of it, and that it may be written; behind a store. -/
theorem cell_of {w : World} {g : Nat} {cs : Array Value} {t : TypeId} (h : w.heap[g]? = some (.cells cs t)) (j : Nat) : w.cell? ⟨g, j, none⟩ = cs[j]? := cell_of_row w g j cs t (0, 0) h
theorem frozen_of {w : World} {g : Nat} {cs : Array Value} {t : TypeId} (h : w.heap[g]? = some (.cells cs t)) (j : Nat) : w.frozen? ⟨g, j, none⟩ = false := by simp [World.frozen?, h]
theorem heap_set {w : World} {g : Nat} {cs : Array Value} {t : TypeId} (h : w.heap[g]? = some (.cells cs t)) (i : Nat) (u : Value) : (w.setCell ⟨g, i, none⟩ u).heap[g]? = some (.cells (cs.setIfInBounds i u) t) := by
  simp [World.setCell, Array.getElem?_modify, h]
theorem block_later {w w' : World} {g : Nat} {x : Obj} (h : w.heap[g]? = some x) (hb : Below w.heap.size w w') : w'.heap[g]? = some x :=
  (hb.block g (Array.getElem?_eq_some_iff.1 h).1).trans h

set_option maxHeartbeats 400000 in
theorem timeAt_any (ns : Int) (w : World) (h0 : -9223372036854775808 ≤ ns) (h1 : ns ≤ 9223372036854775807) :
    Calls Try.prog 7 #[.int .i64 ns] w fun e w' => e = .returned (timeV ns) ∧ Below w.heap.size w w' := by
  go_enter Try.func7, Try.ntmps7
  go_wp2_with fail
  refine (add_zero ns _ h0 h1).mono ?_
  rintro e w1 ⟨rfl, hb⟩
  have hB := block_later (heap_alloc_new w _) hb
  have hc := cell_of hB
  have hf := frozen_of hB
  go_wp2_with fail
  have hb' := heap_set (heap_set (heap_set hB 0 (.int .u64 (wallOf ns))) 1 (.int .i64 (extOf ns))) 2 (.pointer none)
  have e0 := cell_of hb' 0
  have e1 := cell_of hb' 1
  have e2 := cell_of hb' 2
  simp at e0 e1 e2
  refine bodyPost_ret (v := timeV ns) (by simp [results, Try.results7, go_sem, timeV, e0, e1, e2]) rfl ⟨rfl, ?_⟩
  have T := below_then (below_alloc _ _) hb
  exact ((T.setCell (p := ⟨w.heap.size, 0, none⟩) (Nat.le_refl _) _).setCell (p := ⟨w.heap.size, 1, none⟩) (Nat.le_refl _) _).setCell (p := ⟨w.heap.size, 2, none⟩) (Nat.le_refl _) _

end Go.Proofs.Qxb6628748a
