/-
  Small facts for the laws' walks and rows over qxb6628816a.
-/
import Derived.Test.Qxb6628816aSlice
import Derived.ProofKit
import Derived.Deep.Matrix
namespace Go.Proofs.Qxb6628816a
open Go.RowKit

theorem below_then {w a b : World} (h : Below w.heap.size w a) (k : Below a.heap.size a b) : Below w.heap.size w b := h.trans (k.mono h.size)
theorem cell_of {w : World} {g : Nat} {cs : Array Value} {t : TypeId} (h : w.heap[g]? = some (.cells cs t)) (j : Nat) : w.cell? ⟨g, j, none⟩ = cs[j]? := cell_of_row w g j cs t (0, 0) h
theorem frozen_of {w : World} {g : Nat} {cs : Array Value} {t : TypeId} (h : w.heap[g]? = some (.cells cs t)) (j : Nat) : w.frozen? ⟨g, j, none⟩ = false := by simp [World.frozen?, h]
theorem block_later {w w' : World} {g : Nat} {x : Obj} (h : w.heap[g]? = some x) (hb : Below w.heap.size w w') : w'.heap[g]? = some x :=
  (hb.block g (Array.getElem?_eq_some_iff.1 h).1).trans h
/-- A byte of a row of bytes. -/
theorem byte_of {w : World} {g : Nat} {l : List Int} (h : w.heap[g]? = some (.cells (vals l).toArray 5)) {j : Nat} (hj : j < l.length) : w.cell? ⟨g, j, none⟩ = some (.int .u8 (l.getD j 0)) := by
  rw [cell_of h]
  simp [vals, List.getElem?_eq_getElem hj, List.getD_eq_getElem?_getD]

/-- The bytes of a slice value: the first m cells hold l. -/
def BytesAt (w : World) (ao : Option Addr) (m : Nat) (f : Nat → Int) : Prop := m = 0 ∨ ∃ b o, ao = some ⟨b, o, none⟩ ∧ ∀ i, i < m → w.cell? ⟨b, o + i, none⟩ = some (.int .u8 (f i))

/-- What Slice answers, for whoever reads it. -/
theorem slice_read {B : Nat → List Int} {n s e : Nat} {a : Option Addr} {A : Nat → Option Addr} {L C : Nat → Nat} {w w' : World} {q : Ending} (hP : Pieces w a n A L C B) (heT : e ≤ off B n) (h : SliceOut B n s e A w q w') :
    ∃ ao, q = .returned (.slice ao (e - s) (e - s)) ∧ Below w.heap.size w w' ∧ BytesAt w' ao (e - s) (fun i => (flat B n).getD (s + i) 0) ∧ ao.isNone = (decide (s = e) && !interior B n s) := by
  rcases h with ⟨rfl, rfl, rfl, hin⟩ | ⟨ad, rfl, rfl, rfl, hin⟩ | ⟨r, b, o, hr, hA, hse, h1, h2, rfl, rfl⟩ | ⟨g, rfl, hse, _, hg, hb, _⟩
  · exact ⟨none, by rw [Nat.sub_self], Below.refl _ _, .inl (Nat.sub_self _), by simp [hin]⟩
  · exact ⟨some ad, by rw [Nat.sub_self], Below.refl _ _, .inl (Nat.sub_self _), by simp [hin]⟩
  · refine ⟨_, rfl, Below.refl _ _, .inr ⟨b, _, rfl, fun i hi => ?_⟩, by simp; omega⟩
    have hs := hP.off_succ hr
    have hpc := hP.piece r hr
    obtain ⟨b', o', hA', hcell⟩ := hpc.cells.resolve_left (by omega)
    rw [hA] at hA'
    cases hA'
    have := hcell (s - off B r + i) (by omega)
    rw [Nat.add_assoc, this, ← flat_getD B hr (by rw [hpc.len]; omega), show off B r + (s - off B r + i) = s + i by omega]
  · refine ⟨_, rfl, hb, .inr ⟨g, 0, rfl, fun i hi => ?_⟩, by simp; omega⟩
    have hl := cut_length (B := B) (n := n) (s := s) (e := e) heT
    have := byte_of hg (j := i) (by omega)
    rw [Nat.zero_add, this, cut_getD hi]

theorem Try.own : ownKnob Try.prog.godebug = none := by kernel_rfl
theorem Try.laidOut : laidOutB Try.prog = true := by kernel_rfl

open Go.ChangeShapes Go.WideShapes Go.ChangeAt in
/-- The pieces' reading, as the walks want it. -/
theorem pieces_of {H : Type} {enc : TypeId × Value → H} {W : World} {a : Option Addr} {len cap : Nat} {d : DataW H} {p : List MemPlace}
    (h : DataW.Trod enc Try.prog W 0 (fun _ => true) true 22 (.slice a len cap) d p) : ∃ A L C B, Pieces W a len A L C B := by
  obtain ⟨fuel, hf⟩ := h
  rcases Deep.open_int_rows Try.underlying22 Try.underlying26 Try.underlying5 (by kernel_rfl) (by kernel_rfl) hf with ⟨hcs, _⟩ | ⟨x, l, c, A, L, C, Z, hcs, _, hl, hm, _, hrow⟩
  · simp [Value.cells] at hcs
    obtain ⟨rfl, rfl, rfl⟩ := hcs
    exact ⟨fun _ => none, fun _ => 0, fun _ => 0, fun _ => [], .inl rfl, fun r hr => by omega, by omega⟩
  · simp [Value.cells] at hcs
    obtain ⟨rfl, rfl, rfl⟩ := hcs
    refine ⟨A, L, C, fun r => (Z r).take (L r), ?_, fun r hr => ?_, by simp only [maxLen] at hm; omega⟩
    · by_cases h0 : len = 0
      · exact .inl h0
      · obtain ⟨b, o, spot⟩ := x
        have hspot : spot = none := by simpa [Addr.add] using World.cell?_spot (hrow 0 (by omega)).1
        subst hspot
        refine .inr ⟨b, o, rfl, fun r hr => ?_⟩
        rw [← Addr.add_lit]
        exact (hrow r (by omega)).1
    · obtain ⟨_, hLC, hCm, hZ, _, hnone, hsome⟩ := hrow r (by omega)
      refine ⟨by rw [List.length_take]; omega, hLC, by simp only [maxLen] at hCm; omega, ?_, hnone⟩
      by_cases h0 : L r = 0
      · exact .inl h0
      · cases hA : A r with
        | none => have := hnone hA; omega
        | some x =>
          have hcs := (hsome x hA).2
          obtain ⟨b, o, spot⟩ := x
          have hspot : spot = none := by simpa [Addr.add] using World.cell?_spot (hcs 0 (by omega))
          subst hspot
          refine .inr ⟨b, o, rfl, fun i hi => ?_⟩
          rw [take_getD _ hi, ← Addr.add_lit]
          exact hcs i (by omega)

end Go.Proofs.Qxb6628816a
