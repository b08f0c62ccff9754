/-
  Small facts for the laws' walks and rows over qxb6628861a.
-/
import Derived.Test.Qxb6628861aNodes
import Derived.OpenShut
import Derived.ProofKit
import Derived.Deep.SlicePairs
namespace Go.Proofs.Qxb6628861a
open Go.RowKit
theorem Try.own : ownKnob Try.prog.godebug = none := by kernel_rfl
theorem Try.laidOut : laidOutB Try.prog = true := by kernel_rfl

/-- A slice of nodes as it comes in: the cells, and the bounds on lengths. -/
structure Given (w : World) (a : Option Addr) (n : Nat) (I D : Nat → ByteArray) : Prop where
  at_ : NodesAt w a n I D
  max : n ≤ 9223372036854775807
  ids : ∀ r, r < n → (I r).size ≤ 9223372036854775807
  adr : ∀ r, r < n → (D r).size ≤ 9223372036854775807

/-- A string's bytes. -/
def strOf : Value → ByteArray
  | .string s => s
  | _ => { data := #[] }

open Go.ChangeShapes Go.WideShapes Go.ChangeAt in
/-- The nodes' reading, as the walks want it. -/
theorem nodes_of {H : Type} {enc : TypeId × Value → H} {W : World} {a : Option Addr} {len cap : Nat} {d : DataW H} {p : List MemPlace}
    (h : DataW.Trod enc Try.prog W 0 (fun _ => true) true 22 (.slice a len cap) d p) : ∃ I D, Given W a len I D := by
  obtain ⟨fuel, hf⟩ := h
  rcases Deep.open_slice_pairs Try.underlying22 Try.underlying35 (by kernel_rfl) rfl rfl (by kernel_rfl) (by kernel_rfl) hf with ⟨hcs, _⟩ | ⟨x, l, c, m, k, V0, V1, D0, D1, P0, P1, hcs, _, hl, hm, hmm, _, hrow⟩
  · simp [Value.cells] at hcs
    obtain ⟨rfl, rfl, rfl⟩ := hcs
    exact ⟨fun _ => { data := #[] }, fun _ => { data := #[] }, .inl rfl, by omega, fun r hr => by omega, fun r hr => by omega⟩
  · simp [Value.cells] at hcs
    obtain ⟨rfl, rfl, rfl⟩ := hcs
    have hlm : len ≤ m := by rw [hmm]; split <;> omega
    have str : ∀ r, r < len → (∃ s : ByteArray, V0 r = .string s ∧ s.size ≤ maxLen) ∧ (∃ s : ByteArray, V1 r = .string s ∧ s.size ≤ maxLen) := by
      intro r hr
      obtain ⟨_, _, h0, h1⟩ := hrow r (by omega)
      obtain ⟨s0, e0, _, b0⟩ := DataW.trod_string Try.underlying9 h0
      obtain ⟨s1, e1, _, b1⟩ := DataW.trod_string Try.underlying9 h1
      simp only [List.cons.injEq, and_true] at e0 e1
      exact ⟨⟨s0, e0, b0⟩, ⟨s1, e1, b1⟩⟩
    refine ⟨fun r => strOf (V0 r), fun r => strOf (V1 r), ?_, by simp only [maxLen] at hm; omega, fun r hr => ?_, fun r hr => ?_⟩
    · by_cases h0 : len = 0
      · exact .inl h0
      · obtain ⟨b, o, spot⟩ := x
        have hspot : spot = none := by simpa [Addr.add] using World.cell?_spot (hrow 0 (by omega)).1
        subst hspot
        refine .inr ⟨b, o, rfl, fun r hr => ?_⟩
        obtain ⟨⟨s0, e0, _⟩, ⟨s1, e1, _⟩⟩ := str r hr
        obtain ⟨c0, c1, _, _⟩ := hrow r (by omega)
        rw [Addr.add_lit] at c0 c1
        rw [e0] at c0
        rw [e1] at c1
        simp only [e0, e1, strOf]
        exact ⟨c0, c1⟩
    · obtain ⟨⟨s0, e0, b0⟩, _⟩ := str r hr
      simp only [e0, strOf]; simp only [maxLen] at b0; exact b0
    · obtain ⟨_, ⟨s1, e1, b1⟩⟩ := str r hr
      simp only [e1, strOf]; simp only [maxLen] at b1; exact b1

/-- Two nodes, one behind the other. -/
def two (x y : ByteArray) (r : Nat) : ByteArray := if r = 0 then x else y
theorem two_at {w : World} {g : Nat} {x1 x2 y1 y2 : ByteArray} (h : w.heap[g]? = some (.cells #[.string x1, .string x2, .string y1, .string y2] 31)) : NodesAt w (some ⟨g, 0, none⟩) 2 (two x1 y1) (two x2 y2) := by
  refine .inr ⟨g, 0, rfl, fun r hr => ?_⟩
  have c := cell_of h
  rcases (show r = 0 ∨ r = 1 by omega) with rfl | rfl
  · exact ⟨(c 0).trans rfl, (c 1).trans rfl⟩
  · exact ⟨(c 2).trans rfl, (c 3).trans rfl⟩

/-- Holder of two nodes. -/
theorem two_any (name key : ByteArray) (g : Nat) (c1 c2 c3 : Int) (x1 x2 y1 y2 : ByteArray) (w : World) (h : w.heap[g]? = some (.cells #[.string x1, .string x2, .string y1, .string y2] 31)) (hk : key.size ≤ 9223372036854775807) (hx : x1.size ≤ 9223372036854775807) (hy : y1.size ≤ 9223372036854775807) :
    Calls Try.prog 8 #[.agg #[.string name, .slice (some ⟨g, 0, none⟩) 2 2, .int .i64 c1, .int .i64 c2, .int .i64 c3], .string key] w fun e w' =>
      e = .returned (.agg #[.string (if outr (hashOf key) y1 x1 then y1 else x1), .string (if outr (hashOf key) y1 x1 then y2 else x2)]) ∧ Below w.heap.size w w' := by
  refine (holder_any name key (some ⟨g, 0, none⟩) 1 2 c1 c2 c3 (two x1 y1) (two x2 y2) w (two_at h) (by omega) (by omega) hk (fun r hr => ?_)).mono ?_
  · rcases (show r = 0 ∨ r = 1 by omega) with rfl | rfl
    · exact hx
    · exact hy
  · rintro e w' ⟨rfl, hb⟩
    refine ⟨?_, hb⟩
    have hbest : best (hashOf key) (two x1 y1) 1 = if outr (hashOf key) y1 x1 then 1 else 0 := rfl
    rw [hbest]
    cases outr (hashOf key) y1 x1 <;> rfl
theorem two_first (name key : ByteArray) (g : Nat) (c1 c2 c3 : Int) (x1 x2 y1 y2 : ByteArray) (w : World) (h : w.heap[g]? = some (.cells #[.string x1, .string x2, .string y1, .string y2] 31)) (hk : key.size ≤ 9223372036854775807) (hx : x1.size ≤ 9223372036854775807) (hy : y1.size ≤ 9223372036854775807) (ho : outr (hashOf key) y1 x1 = false) :
    Calls Try.prog 8 #[.agg #[.string name, .slice (some ⟨g, 0, none⟩) 2 2, .int .i64 c1, .int .i64 c2, .int .i64 c3], .string key] w fun e w' => e = .returned (.agg #[.string x1, .string x2]) ∧ Below w.heap.size w w' := by
  refine (two_any name key g c1 c2 c3 x1 x2 y1 y2 w h hk hx hy).mono fun e w' ⟨h1, h2⟩ => ⟨?_, h2⟩
  rw [h1, ho]; rfl
theorem two_second (name key : ByteArray) (g : Nat) (c1 c2 c3 : Int) (x1 x2 y1 y2 : ByteArray) (w : World) (h : w.heap[g]? = some (.cells #[.string x1, .string x2, .string y1, .string y2] 31)) (hk : key.size ≤ 9223372036854775807) (hx : x1.size ≤ 9223372036854775807) (hy : y1.size ≤ 9223372036854775807) (ho : outr (hashOf key) y1 x1 = true) :
    Calls Try.prog 8 #[.agg #[.string name, .slice (some ⟨g, 0, none⟩) 2 2, .int .i64 c1, .int .i64 c2, .int .i64 c3], .string key] w fun e w' => e = .returned (.agg #[.string y1, .string y2]) ∧ Below w.heap.size w w' := by
  refine (two_any name key g c1 c2 c3 x1 x2 y1 y2 w h hk hx hy).mono fun e w' ⟨h1, h2⟩ => ⟨?_, h2⟩
  rw [h1, ho]; rfl
end Go.Proofs.Qxb6628861a
