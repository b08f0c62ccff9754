/-
  Small facts for the laws' walks and rows over qxb6628711a: what lies in old memory stays; what KeyOf picks; what an argument's reading gives.
-/
import Derived.Test.Qxb6628711aMember
import Derived.ProofKit
import Derived.Deep.Matrix
namespace Go.Proofs.Qxb6628711a
open Go.RowKit Go.ChangeShapes Go.WideShapes Go.ChangeAt

theorem below_then {w a b : World} (h : Below w.heap.size w a) (k : Below a.heap.size a b) : Below w.heap.size w b := h.trans (k.mono h.size)

/-- A member's variable at block B. -/
def M4 (w : World) (B : Nat) (name addr : ByteArray) (kv lv : Value) : Prop :=
  w.cell? ⟨B, 0, none⟩ = some (.string name) ∧ w.cell? ⟨B, 1, none⟩ = some (.string addr) ∧ w.cell? ⟨B, 2, none⟩ = some kv ∧ w.cell? ⟨B, 3, none⟩ = some lv
theorem M4.later {w w' : World} {B : Nat} {name addr : ByteArray} {kv lv : Value} (h : M4 w B name addr kv lv) (hb : Below w.heap.size w w') : M4 w' B name addr kv lv :=
  ⟨cell_later hb h.1, cell_later hb h.2.1, cell_later hb h.2.2.1, cell_later hb h.2.2.2⟩
theorem M4.new (w : World) (name addr : ByteArray) (kv lv : Value) : M4 (w.alloc (.cells #[.string name, .string addr, kv, lv] 29)) w.heap.size name addr kv lv :=
  ⟨cell_of (heap_alloc_new w _) 0, cell_of (heap_alloc_new w _) 1, cell_of (heap_alloc_new w _) 2, cell_of (heap_alloc_new w _) 3⟩
theorem below_alloc (w : World) (o : Obj) : Below w.heap.size w (w.alloc o) := (Below.refl _ _).alloc (Nat.le_refl _) _

theorem pick_in {α : Type} (k d : α) (n : Nat) (f : Nat → α) (i : Int) (h1 : 1 ≤ i) (h2 : i ≤ n) : pick k d n f i = f (i.toNat - 1) := by
  unfold pick; rw [if_neg (by omega), if_pos ⟨h1, h2⟩]
theorem pick_out {α : Type} (k d : α) (n : Nat) (f : Nat → α) (i : Int) (h : i < 0 ∨ n < i) : pick k d n f i = d := by
  unfold pick; rw [if_neg (by omega), if_neg (by omega)]
theorem inB_true (n : Nat) (i : Int) (h1 : 0 ≤ i) (h2 : i ≤ n) : inB n i = true := decide_eq_true ⟨h1, h2⟩
theorem inB_false (n : Nat) (i : Int) (h : i < 0 ∨ n < i) : inB n i = false := decide_eq_false (by omega)


theorem Try.own : ownKnob Try.prog.godebug = none := by kernel_rfl
theorem Try.laidOut : laidOutB Try.prog = true := by kernel_rfl

/-- A byte slice's reading, as the walks want it. -/
theorem bytes_of {H : Type} {enc : TypeId × Value → H} {W : World} {a : Option Addr} {len cap : Nat} {d : DataW H} {p : List MemPlace}
    (h : DataW.Trod enc Try.prog W 0 (fun _ => true) true 22 (.slice a len cap) d p) : BytesAt W a len := by
  obtain ⟨fuel, hf⟩ := h
  rcases open_ints Try.underlying22 Try.underlying5 (by kernel_rfl) hf with ⟨hcs, _⟩ | ⟨x, l, c, zs, hcs, _, hl, hm, hz, _, hcell, _⟩
  · simp [Value.cells] at hcs
    obtain ⟨rfl, rfl, rfl⟩ := hcs
    exact ⟨by omega, .inl rfl⟩
  · simp [Value.cells] at hcs
    obtain ⟨rfl, rfl, rfl⟩ := hcs
    simp only [if_true] at hz
    refine ⟨by simp only [maxLen] at hm; omega, ?_⟩
    by_cases h0 : len = 0
    · exact .inl h0
    · obtain ⟨b, off, spot⟩ := x
      have hspot : spot = none := by simpa [Addr.add] using World.cell?_spot (hcell 0 (by omega))
      subst hspot
      refine .inr ⟨b, off, fun i => zs.getD i 0, rfl, fun i hi => ?_⟩
      rw [← Addr.add_lit]
      exact hcell i (by omega)

/-- A slice of byte slices. -/
theorem rows_of {H : Type} {enc : TypeId × Value → H} {W : World} {a : Option Addr} {len cap : Nat} {d : DataW H} {p : List MemPlace}
    (h : DataW.Trod enc Try.prog W 0 (fun _ => true) true 23 (.slice a len cap) d p) :
    ∃ A L C, RowsAt W a len A L C ∧ (∀ r, r < len → BytesAt W (A r) (L r)) ∧ len ≤ 9223372036854775807 := by
  obtain ⟨fuel, hf⟩ := h
  rcases Deep.open_int_rows Try.underlying23 Try.underlying22 Try.underlying5 (by kernel_rfl) (by kernel_rfl) hf with ⟨hcs, _⟩ | ⟨x, l, c, A, L, C, Z, hcs, _, hl, hm, _, hrow⟩
  · simp [Value.cells] at hcs
    obtain ⟨rfl, rfl, rfl⟩ := hcs
    exact ⟨fun _ => none, fun _ => 0, fun _ => 0, .inl rfl, fun r hr => by omega, by omega⟩
  · simp [Value.cells] at hcs
    obtain ⟨rfl, rfl, rfl⟩ := hcs
    refine ⟨A, L, C, ?_, fun r hr => ?_, by simp only [maxLen] at hm; omega⟩
    · by_cases h0 : len = 0
      · exact .inl h0
      · obtain ⟨b, off, spot⟩ := x
        have hspot : spot = none := by simpa [Addr.add] using World.cell?_spot (hrow 0 (by omega)).1
        subst hspot
        refine .inr ⟨b, off, rfl, fun r hr => ?_⟩
        rw [← Addr.add_lit]
        exact (hrow r (by omega)).1
    · obtain ⟨_, hLC, hCm, _, _, hnone, hsome⟩ := hrow r (by omega)
      refine ⟨by simp only [maxLen] at hCm; omega, ?_⟩
      by_cases h0 : L r = 0
      · exact .inl h0
      · cases hA : A r with
        | none => have := hnone hA; omega
        | some x =>
          have hcs := (hsome x hA).2
          obtain ⟨b, off, spot⟩ := x
          have hspot : spot = none := by simpa [Addr.add] using World.cell?_spot (hcs 0 (by omega))
          subst hspot
          refine .inr ⟨b, off, fun i => (Z r).getD i 0, rfl, fun i hi => ?_⟩
          rw [← Addr.add_lit]
          exact hcs i (by omega)

end Go.Proofs.Qxb6628711a
