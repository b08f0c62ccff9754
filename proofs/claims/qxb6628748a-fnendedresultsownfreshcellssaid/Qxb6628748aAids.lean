/-
  Small facts for the laws' walks and rows over qxb6628748a.
-/
import Derived.Test.Qxb6628748aSame
import Derived.ProofKit
import Derived.OpenShut
namespace Go.Proofs.Qxb6628748a
open Go.RowKit

theorem PtrInt.later {w w' : World} {p : Option Addr} {o : Option Int} (h : PtrInt w p o) (hb : Below w.heap.size w w') : PtrInt w' p o := by
  rcases h with h | ⟨b, off, n, rfl, rfl, hc, h0, h1⟩
  · exact .inl h
  · exact .inr ⟨b, off, n, rfl, rfl, cell_later hb hc, h0, h1⟩

/-- What lies in known blocks, in the world as it stands. -/
def Has (w : World) (l : List (Nat × Obj)) : Prop := ∀ p ∈ l, w.heap[p.1]? = some p.2
theorem Has.nil (w : World) : Has w [] := fun _ h => by cases h
theorem Has.later {w w' : World} {l : List (Nat × Obj)} (h : Has w l) (hb : Below w.heap.size w w') : Has w' l := fun p hp => block_later (h p hp) hb
theorem Has.put {w : World} {l : List (Nat × Obj)} (h : Has w l) {b : Nat} {o : Obj} (hb : w.heap[b]? = some o) : Has w ((b, o) :: l) := fun p hp => by
  rcases List.mem_cons.1 hp with rfl | hp
  · exact hb
  · exact h p hp
theorem Has.new {w : World} {l : List (Nat × Obj)} (h : Has w l) (o : Obj) : Has (w.alloc o) ((w.heap.size, o) :: l) := (h.later (below_alloc w o)).put (heap_alloc_new w o)
theorem Has.g0 {w : World} {l : List (Nat × Obj)} {p0 : Nat × Obj} (h : Has w (p0 :: l)) : w.heap[p0.1]? = some p0.2 := h p0 (by simp)
theorem Has.g1 {w : World} {l : List (Nat × Obj)} {p0 p1 : Nat × Obj} (h : Has w (p0 :: p1 :: l)) : w.heap[p1.1]? = some p1.2 := h p1 (by simp)
theorem Has.tail {w : World} {l : List (Nat × Obj)} {p0 : Nat × Obj} (h : Has w (p0 :: l)) : Has w l := fun p hp => h p (List.mem_cons_of_mem _ hp)

abbrev recO (key trigger state holder : ByteArray) (fence ns : Int) (pe px : Option Addr) : Obj :=
  .cells #[.string key, .string trigger, .string state, .string holder, .int .i64 fence, .int .u64 (wallOf ns), .int .i64 (extOf ns), .pointer none, .pointer pe, .pointer px] 32
abbrev timeO (t : Int) : Obj := .cells #[.int .u64 (wallOf t), .int .i64 (extOf t), .pointer none] 29
abbrev intO (s : Int) : Obj := .cells #[.int .i64 s] 3

/-- Ended, its two new variables by letters. -/
theorem ended_new (key trigger state holder : ByteArray) (fence ns t s : Int) (pe px : Option Addr) (w : World) :
    Calls Try.prog 8 #[.agg #[.string key, .string trigger, .string state, .string holder, .int .i64 fence, .int .u64 (wallOf ns), .int .i64 (extOf ns), .pointer none, .pointer pe, .pointer px], .agg #[.int .u64 (wallOf t), .int .i64 (extOf t), .pointer none], .int .i64 s] w fun e w' => ∃ be bx,
      e = .returned (.agg #[.string key, .string trigger, .string (stateOf s), .string holder, .int .i64 fence, .int .u64 (wallOf ns), .int .i64 (extOf ns), .pointer none, .pointer (some ⟨be, 0, none⟩), .pointer (some ⟨bx, 0, none⟩)]) ∧
      Below w.heap.size w w' ∧ w'.heap[be]? = some (timeO t) ∧ w'.heap[bx]? = some (intO s) ∧ w.heap.size ≤ be ∧ w.heap.size ≤ bx ∧ be ≠ bx := by
  refine (ended_any key trigger state holder fence ns t s pe px w).mono ?_
  rintro e w' ⟨rfl, hb, h1, h2⟩
  exact ⟨_, _, rfl, hb, h1, h2, by omega, by omega, by omega⟩

theorem record_agg (key trigger state holder : ByteArray) (fence ns : Int) (p1 p2 : Option Addr) (o1 o2 : Option Int) (w : World) (h0 : -9223372036854775808 ≤ ns) (h1 : ns ≤ 9223372036854775807) (hp1 : PtrInt w p1 o1) (hp2 : PtrInt w p2 o2) :
    Calls Try.prog 6 #[.string key, .string trigger, .string state, .string holder, .int .i64 fence, .int .i64 ns, .pointer p1, .pointer p2] w fun e w' => ∃ pe px,
      e = .returned (.agg #[.string key, .string trigger, .string state, .string holder, .int .i64 fence, .int .u64 (wallOf ns), .int .i64 (extOf ns), .pointer none, .pointer pe, .pointer px]) ∧ Below w.heap.size w w' ∧ TimeAt w' pe o1 ∧ IntAt w' px o2 :=
  record_any key trigger state holder fence ns p1 p2 o1 o2 w h0 h1 hp1 hp2

theorem Try.own : ownKnob Try.prog.godebug = none := by kernel_rfl
theorem Try.laidOut : laidOutB Try.prog = true := by kernel_rfl

theorem i64_bd {n : Int} (h : (Lit.int .i64 n).wf = true) : -9223372036854775808 ≤ n ∧ n ≤ 9223372036854775807 := by
  simp [Lit.wf, IntKind.min, IntKind.max, IntKind.signed, IntKind.bits] at h
  omega

open Go.ChangeShapes Go.WideShapes Go.ChangeAt in
/-- A pointer argument's reading, as the walks want it. -/
theorem ptr_of {H : Type} {enc : TypeId × Value → H} {W : World} {base : Nat} {t e : TypeId} {v : Value} {d : DataW H} {p : List MemPlace} (ht : Try.prog.underlying t = some (.pointer e)) (he : Try.prog.underlying e = some (.int .i64)) (ce : Try.prog.cellsOf e = 1)
    (hv : Value.okWide Try.prog W .any base t v) (h : DataW.Trod enc Try.prog W 0 (fun _ => true) true t v d p) : ∃ q o, v = .pointer q ∧ PtrInt W q o := by
  rcases open_ptr_int ht he ce hv h with ⟨rfl, rfl, rfl⟩ | ⟨b, off, n, rfl, rfl, rfl, hc, wn⟩
  · exact ⟨none, none, rfl, .inl ⟨rfl, rfl⟩⟩
  · exact ⟨_, some n, rfl, .inr ⟨b, off, n, rfl, rfl, hc, (i64_bd wn).1, (i64_bd wn).2⟩⟩

end Go.Proofs.Qxb6628748a
