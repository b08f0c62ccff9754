/-
  b1Clone and b1Equal over qxb6628816a; what a store into a cloned piece does.
-/
import Derived.Test.Qxb6628816aAids
import Derived.Deep.OwnRows
import Derived.Laws.CopyOwn
import Derived.Test.Qxb6628816aPlain2
namespace Go.Proofs.Qxb6628816a
open Go.RowKit

theorem Try.info26 : (Try.prog.info? 26).map (fun i => (i.zero, i.size, i.bytes)) = some (some (.slice none 0 0), 1, 24) := by kernel_rfl
theorem Try.size5 : (Try.prog.info? 5).map (·.size) = some 1 := by kernel_rfl

/-- The clone of piece r: nil where the piece is nil, else block G r. -/
def clA (A : Nat → Option Addr) (G : Nat → Nat) (r : Nat) : Option Addr := match A r with | none => none | some _ => some ⟨G r, 0, none⟩
theorem clA_none {A : Nat → Option Addr} {G : Nat → Nat} {r : Nat} (h : A r = none) : clA A G r = none := by simp [clA, h]
theorem clA_some {A : Nat → Option Addr} {G : Nat → Nat} {r : Nat} {x : Addr} (h : A r = some x) : clA A G r = some ⟨G r, 0, none⟩ := by simp [clA, h]

/-- What holds at the head of each round of b1Clone's loop. -/
structure CloneRel (A : Nat → Option Addr) (L : Nat → Nat) (B : Nat → List Int) (n W0 : Nat) (w : World) (k : Nat) (G : Nat → Nat) (wr : World) : Prop where
  row : wr.rowIs W0 26 n (fun r => if r < k then .slice (clA A G r) (L r) (L r) else .slice none 0 0)
  own : ∀ r, r < k → A r ≠ none → W0 < G r ∧ wr.heap[G r]? = some (.cells (vals (B r)).toArray 5)
  mono : ∀ r r', r < r' → r' < k → A r ≠ none → A r' ≠ none → G r < G r'
  bel : Below W0 w wr

theorem CloneRel.skip {A : Nat → Option Addr} {L : Nat → Nat} {B : Nat → List Int} {n W0 : Nat} {w : World} {k : Nat} {G : Nat → Nat} {wr : World} (h : CloneRel A L B n W0 w k G wr) (hA : A k = none) (hL : L k = 0) : CloneRel A L B n W0 w (k + 1) G wr := by
  refine ⟨h.row.congr fun r _ => ?_, fun r hr hne => ?_, fun r r' h1 h2 h3 h4 => ?_, h.bel⟩
  · by_cases e : r = k
    · subst e; simp [clA_none hA, hL]
    · have : (r < k) ↔ (r < k + 1) := by omega
      simp only [this]
  · exact h.own r (by rcases Nat.lt_or_eq_of_le (Nat.le_of_lt_succ hr) with h' | rfl; exact h'; exact absurd hA hne) hne
  · exact h.mono r r' h1 (by rcases Nat.lt_or_eq_of_le (Nat.le_of_lt_succ h2) with h' | rfl; exact h'; exact absurd hA h4) h3 h4

theorem CloneRel.next {A : Nat → Option Addr} {L : Nat → Nat} {B : Nat → List Int} {n W0 : Nat} {w : World} {k : Nat} {G : Nat → Nat} {wr w2 : World} {o : Obj} {x : Addr} (h : CloneRel A L B n W0 w k G wr) (hA : A k = some x)
    (hg : w2.heap[wr.heap.size]? = some (.cells (vals (B k)).toArray 5)) (hb : Below wr.heap.size (wr.alloc o) w2) :
    CloneRel A L B n W0 w (k + 1) (fun r => if r = k then wr.heap.size else G r) (w2.setCell ⟨W0, k, none⟩ (.slice (some ⟨wr.heap.size, 0, none⟩) (L k) (L k))) := by
  have lt0 := h.row.lt
  have hold : ∀ j, j < wr.heap.size → w2.heap[j]? = wr.heap[j]? := fun j hj => (hb.block j hj).trans (Below.heap_alloc wr o j hj)
  have r2 : w2.rowIs W0 26 n _ := h.row.of_block (hold W0 lt0)
  refine ⟨(r2.set k _).congr fun r _ => ?_, fun r hr hne => ?_, fun r r' h1 h2 h3 h4 => ?_, ?_⟩
  · by_cases e : r = k
    · subst e; simp [clA, hA]
    · have : (r < k) ↔ (r < k + 1) := by omega
      simp only [if_neg e, this, clA]
  · by_cases e : r = k
    · subst e
      simp only [if_true]
      exact ⟨lt0, by rw [Below.heap_setCell _ _ _ _ (by simp; omega)]; exact hg⟩
    · simp only [if_neg e]
      obtain ⟨h1, h2⟩ := h.own r (by omega) hne
      have := (Array.getElem?_eq_some_iff.1 h2).1
      exact ⟨h1, by rw [Below.heap_setCell _ _ _ _ (by simp; omega), hold _ this]; exact h2⟩
  · have e : r ≠ k := by omega
    simp only [if_neg e]
    by_cases e' : r' = k
    · subst e'
      simp only [if_true]
      exact (Array.getElem?_eq_some_iff.1 (h.own r (by omega) h3).2).1
    · simp only [if_neg e']
      exact h.mono r r' h1 (by omega) h3 h4
  · have b1 : Below W0 wr w2 := (((Below.refl wr.heap.size wr).alloc (Nat.le_refl _) o).trans hb).mono (by omega)
    exact (h.bel.trans b1).setCell (p := ⟨W0, k, none⟩) (Nat.le_refl _) _

theorem CloneRel.spot {A : Nat → Option Addr} {L : Nat → Nat} {B : Nat → List Int} {n W0 : Nat} {w : World} {k : Nat} {G : Nat → Nat} {wr w2 : World} {o : Obj} (h : CloneRel A L B n W0 w k G wr) (hk : k < n) (hb : Below wr.heap.size (wr.alloc o) w2) :
    w2.cell? ⟨W0, k, none⟩ = some (.slice none 0 0) ∧ w2.frozen? ⟨W0, k, none⟩ = false := by
  have lt0 := h.row.lt
  have r2 := h.row.of_block ((hb.block W0 lt0).trans (Below.heap_alloc wr o W0 lt0))
  exact ⟨by simpa using r2.cell hk, r2.frozen k⟩

set_option maxHeartbeats 1000000 in
theorem clone_walk (a : Option Addr) (n cap : Nat) (A : Nat → Option Addr) (L C : Nat → Nat) (B : Nat → List Int) (w : World) (hP : Pieces w a n A L C B) (hn : n ≤ 65536) (hL : ∀ r, r < n → L r ≤ 1048576) (ha : a.isNone = false) :
    Calls Try.prog 11 #[.slice a n cap] w fun e w' => ∃ G, e = .returned (.slice (some ⟨w.heap.size, 0, none⟩) n n) ∧ CloneRel A L B n w.heap.size w n G w' := by
  have hnil := @Lib.run_eql_slice_nil Try.prog
  have hmk := run_make_row' (P := Try.prog) 22 26 (.slice none 0 0) 24 Try.underlying22 Try.info26 rfl .i64 .i64 n (by omega) (by omega)
  go_enter Try.func11, Try.ntmps11
  go_wp2_with fail
  clear hmk
  have hstart : CloneRel A L B n w.heap.size w 0 (fun _ => 0) (w.alloc (.cells (madeCells #[.slice none 0 0] n) 26)) :=
    ⟨(World.rowIs_made w (.slice none 0 0) n 26).congr fun r _ => by simp, fun r hr => by omega, fun r r' _ h => by omega, (Below.refl _ _).alloc (Nat.le_refl _) _⟩
  go_loopw [4] (fun i wr => ∃ (k : Nat) (G : Nat → Nat), k ≤ n ∧ i = .int .i64 k ∧ CloneRel A L B n w.heap.size w k G wr) (fun i _ => n - (intOf i).toNat)
  case atStart => exact ⟨0, _, Nat.zero_le _, rfl, hstart⟩
  case round =>
    clear hstart
    obtain ⟨k, G, hk, rfl, hR⟩ := hrel
    by_cases hlt : k < n
    · obtain ⟨b, o, rfl, hc⟩ := hP.rows.resolve_left (by omega)
      have g : wr.cell? ⟨b, o + k, none⟩ = some (.slice (A k) (L k) (C k)) := (hR.bel.cell (p := ⟨b, o + k, none⟩) (World.block_lt_of_cell? w _ (hc k hlt))).trans (hc k hlt)
      have e1 : (k : Int) < (n : Int) := by omega
      have hpc := hP.piece k hlt
      have hLk := hL k hlt
      have hlb := World.block_lt_of_cell? wr _ g
      simp only at hlb
      cases hA : A k with
      | none =>
        have hC0 := hpc.nil hA
        have hL0 : L k = 0 := by have := hpc.le; omega
        have hnext := hR.skip hA hL0
        have HA : Hid (A k = none) := hA
        rw [hA] at g
        clear hA hC0 hL0
        go_wp2_with fail
        go_roundw
        case rel => exact ⟨k + 1, G, by omega, by go_num, hnext⟩
        case measure => simp [intOf]; omega
      | some x =>
        rw [hA] at g
        have hmk := run_make_row' (P := Try.prog) 26 5 (.int .u8 0) 1 Try.underlying26 Try.info5 rfl .i64 .i64 (L k) (by omega) (by omega)
        have q1 : (wr.alloc (.cells (madeCells #[.int .u8 0] (L k)) 5)).heap[wr.heap.size]? = some (.cells (List.replicate (L k) (Value.int .u8 0)).toArray 5) := by
          rw [← toList_madeCells_one]
          exact heap_alloc_new wr _
        have q2 : (vals (B k)).length = Nat.min (L k) (L k) := by rw [vals_length, hpc.len]; exact (Nat.min_self _).symm
        have q3 : 0 < (vals (B k)).length → some (⟨wr.heap.size, 0, none⟩ : Addr) = some ⟨wr.heap.size, 0, none⟩ ∧ ∃ ad, some x = some ad ∧ ∀ j v, (vals (B k))[j]? = some v → (wr.alloc (.cells (madeCells #[.int .u8 0] (L k)) 5)).cell? (ad.add j) = some v := by
          intro hpos
          refine ⟨rfl, x, rfl, fun j v hv => ?_⟩
          obtain ⟨hj, rfl⟩ := vals_getElem? hv
          rw [hpc.len] at hj
          obtain ⟨b', o', hA', hcell⟩ := hpc.cells.resolve_left (by omega)
          rw [hA] at hA'
          cases hA'
          rw [Addr.add_lit]
          have c1 := hcell j hj
          have c2 : wr.cell? ⟨b', o' + j, none⟩ = _ := (hR.bel.cell (p := ⟨b', o' + j, none⟩) (World.block_lt_of_cell? w _ c1)).trans c1
          exact cell_later ((Below.refl _ _).alloc (Nat.le_refl _) _) c2
        have q4 : 0 + (vals (B k)).length ≤ (List.replicate (L k) (Value.int .u8 0)).length := by rw [vals_length, hpc.len, List.length_replicate]; omega
        have q5 : splice (List.replicate (L k) (Value.int .u8 0)) 0 (vals (B k)) = vals (B k) := by
          have : (vals (B k)).length = L k := by rw [vals_length, hpc.len]
          simp [splice, this]
        have HQ : Hid (splice (List.replicate (L k) (Value.int .u8 0)) 0 (vals (B k)) = vals (B k)) := q5
        have HA : Hid (A k = some x) := hA
        clear q5 hA
        go_wp2_with (refine wpList_copy_splice rfl (.tmp 28) (.tmp 32) 26 26 rfl 5 Try.underlying26 Try.size5 _ _ _ _ _ _ rfl rfl wr.heap.size 0 (List.replicate (L k) (.int .u8 0)) 5 q1 (vals (B k)) q2 q3 q4 (vals_one _) wr.heap.size (wr.alloc (.cells (madeCells #[.int .u8 0] (L k)) 5)) (Below.refl _ _) (Nat.le_refl _) ?_; intro w2 hg2 hb2; obtain ⟨gw, fw⟩ := hR.spot hlt hb2)
        have hg3 : w2.heap[wr.heap.size]? = some (.cells (vals (B k)).toArray 5) := by have := hg2.out; rwa [HQ.out] at this
        go_roundw
        case rel => exact ⟨k + 1, _, by omega, by go_num, hR.next HA.out hg3 hb2⟩
        case measure => simp [intOf]; omega
    · have hkn : n = k := by omega
      subst hkn
      go_wp2_with fail
      go_ret
      exact ⟨G, rfl, hR⟩

/-- Cloned pieces: a row of slices, each piece alone in a block of its own, all from block number B0 on. -/
structure Cl (w : World) (B0 : Nat) (qa : Option Addr) (n : Nat) (A : Nat → Option Addr) (L : Nat → Nat) (B : Nat → List Int) : Prop where
  rows : n = 0 ∨ ∃ g0, qa = some ⟨g0, 0, none⟩ ∧ B0 ≤ g0 ∧ w.rowIs g0 26 n (fun r => .slice (A r) (L r) (L r)) ∧ ∀ r g, r < n → A r = some ⟨g, 0, none⟩ → g0 ≠ g
  own : ∀ r, r < n → (A r = none ∧ L r = 0) ∨ ∃ g, A r = some ⟨g, 0, none⟩ ∧ B0 ≤ g ∧ w.heap[g]? = some (.cells (vals (B r)).toArray 5)
  inj : ∀ r r' g, r < n → r' < n → A r = some ⟨g, 0, none⟩ → A r' = some ⟨g, 0, none⟩ → r = r'
  len : ∀ r, r < n → (B r).length = L r
  small : ∀ r, r < n → L r ≤ 1048576
  max : n ≤ 65536

theorem Cl.later {w w' : World} {B0 : Nat} {qa : Option Addr} {n : Nat} {A : Nat → Option Addr} {L : Nat → Nat} {B : Nat → List Int} (h : Cl w B0 qa n A L B) (hb : Below w.heap.size w w') : Cl w' B0 qa n A L B := by
  refine ⟨?_, fun r hr => ?_, h.inj, h.len, h.small, h.max⟩
  · rcases h.rows with h0 | ⟨g0, h1, h2, h3, h4⟩
    · exact .inl h0
    · exact .inr ⟨g0, h1, h2, h3.of_block (hb.block _ h3.lt), h4⟩
  · rcases h.own r hr with h0 | ⟨g, h1, h2, h3⟩
    · exact .inl h0
    · exact .inr ⟨g, h1, h2, block_later h3 hb⟩

theorem Cl.pieces {w : World} {B0 : Nat} {qa : Option Addr} {n : Nat} {A : Nat → Option Addr} {L : Nat → Nat} {B : Nat → List Int} (h : Cl w B0 qa n A L B) : Pieces w qa n A L L B := by
  refine ⟨?_, fun r hr => ⟨h.len r hr, Nat.le_refl _, by have := h.small r hr; omega, ?_, fun hA => ?_⟩, by have := h.max; omega⟩
  · rcases h.rows with h0 | ⟨g0, h1, _, h3, _⟩
    · exact .inl h0
    · exact .inr ⟨g0, 0, h1, fun r hr => by rw [Nat.zero_add]; exact h3.cell hr⟩
  · rcases h.own r hr with ⟨_, h0⟩ | ⟨g, h1, _, h3⟩
    · exact .inl h0
    · exact .inr ⟨g, 0, h1, fun i hi => by rw [Nat.zero_add]; exact byte_of h3 (by rw [h.len r hr]; exact hi)⟩
  · rcases h.own r hr with ⟨_, h0⟩ | ⟨g, h1, _, _⟩
    · exact h0
    · rw [hA] at h1; cases h1

/-- A store elsewhere: no block of the clone's. -/
theorem Cl.other {w : World} {B0 : Nat} {qa : Option Addr} {n : Nat} {A : Nat → Option Addr} {L : Nat → Nat} {B : Nat → List Int} (h : Cl w B0 qa n A L B) {b o : Nat} (u : Value)
    (h1 : ∀ g, qa = some ⟨g, 0, none⟩ → g ≠ b) (h2 : ∀ r g, r < n → A r = some ⟨g, 0, none⟩ → g ≠ b) : Cl (w.setCell ⟨b, o, none⟩ u) B0 qa n A L B := by
  refine ⟨?_, fun r hr => ?_, h.inj, h.len, h.small, h.max⟩
  · rcases h.rows with h0 | ⟨g0, e1, e2, e3, e4⟩
    · exact .inl h0
    · exact .inr ⟨g0, e1, e2, e3.of_block (Below.heap_setCell _ _ _ _ (h1 g0 e1)), e4⟩
  · rcases h.own r hr with h0 | ⟨g, e1, e2, e3⟩
    · exact .inl h0
    · exact .inr ⟨g, e1, e2, (Below.heap_setCell _ _ _ _ (h2 r g hr e1)).trans e3⟩

theorem heap_set {w : World} {g : Nat} {cs : Array Value} {t : TypeId} (h : w.heap[g]? = some (.cells cs t)) (i : Nat) (u : Value) : (w.setCell ⟨g, i, none⟩ u).heap[g]? = some (.cells (cs.setIfInBounds i u) t) := by
  simp [World.setCell, Array.getElem?_modify, h]

/-- A byte of piece p is written. -/
theorem Cl.put {w : World} {B0 : Nat} {qa : Option Addr} {n : Nat} {A : Nat → Option Addr} {L : Nat → Nat} {B : Nat → List Int} (h : Cl w B0 qa n A L B) {p g : Nat} (hp : p < n) (hA : A p = some ⟨g, 0, none⟩) (i : Nat) (v : Int) :
    Cl (w.setCell ⟨g, i, none⟩ (.int .u8 v)) B0 qa n A L (setB B p i v) := by
  refine ⟨?_, fun r hr => ?_, h.inj, fun r hr => by rw [setB_length]; exact h.len r hr, h.small, h.max⟩
  · rcases h.rows with h0 | ⟨g0, e1, e2, e3, e4⟩
    · exact .inl h0
    · exact .inr ⟨g0, e1, e2, e3.of_block (Below.heap_setCell _ _ _ _ (e4 p g hp hA)), e4⟩
  · rcases h.own r hr with h0 | ⟨g', e1, e2, e3⟩
    · exact .inl h0
    · refine .inr ⟨g', e1, e2, ?_⟩
      by_cases e : r = p
      · subst e
        rw [hA] at e1
        cases e1
        have := heap_set e3 i (.int .u8 v)
        rw [this]
        simp [setB, vals]
      · have hne : g' ≠ g := fun e' => by subst e'; exact e (h.inj r p g' hr hp e1 hA)
        rw [Below.heap_setCell _ _ _ _ hne, e3]
        simp only [setB, if_neg e]

theorem clone_any (a : Option Addr) (n cap : Nat) (A : Nat → Option Addr) (L C : Nat → Nat) (B : Nat → List Int) (w : World) (hP : Pieces w a n A L C B) (hn : n ≤ 65536) (hL : ∀ r, r < n → L r ≤ 1048576) :
    Calls Try.prog 11 #[.slice a n cap] w fun e w' => ∃ qa A', e = .returned (.slice qa n n) ∧ Cl w' w.heap.size qa n A' L B ∧ Below w.heap.size w w' := by
  cases ha : a.isNone with
  | true =>
    have hn0 : n = 0 := by
      rcases hP.rows with h | ⟨b, o, rfl, _⟩
      · exact h
      · cases ha
    subst hn0
    have hnil := @Lib.run_eql_slice_nil Try.prog
    go_enter Try.func11, Try.ntmps11
    go_wp2_with fail
    go_ret
    exact ⟨none, fun _ => none, rfl, ⟨.inl rfl, fun r hr => by omega, fun r r' g hr => by omega, fun r hr => by omega, fun r hr => by omega, by omega⟩, Below.refl _ _⟩
  | false =>
    refine (clone_walk a n cap A L C B w hP hn hL ha).mono ?_
    rintro e w' ⟨G, rfl, hR⟩
    refine ⟨_, clA A G, rfl, ⟨.inr ⟨_, rfl, Nat.le_refl _, hR.row.congr fun r hr => by simp [hr], fun r g hr hA => ?_⟩, fun r hr => ?_, fun r r' g hr hr' h1 h2 => ?_, fun r hr => (hP.piece r hr).len, hL, hn⟩, hR.bel⟩
    · cases h : A r with
      | none => rw [clA_none h] at hA; cases hA
      | some x =>
        rw [clA_some h] at hA
        cases hA
        have := (hR.own r hr (by rw [h]; simp)).1
        omega
    · cases h : A r with
      | none =>
        have := (hP.piece r hr).nil h
        have := (hP.piece r hr).le
        exact .inl ⟨clA_none h, by omega⟩
      | some x =>
        have := hR.own r hr (by rw [h]; simp)
        exact .inr ⟨_, clA_some h, by omega, this.2⟩
    · cases e1 : A r with
      | none => rw [clA_none e1] at h1; cases h1
      | some x =>
        cases e2 : A r' with
        | none => rw [clA_none e2] at h2; cases h2
        | some y =>
          rw [clA_some e1] at h1
          rw [clA_some e2] at h2
          simp only [Option.some.injEq, Addr.mk.injEq, and_true] at h1 h2
          rcases Nat.lt_trichotomy r r' with h | h | h
          · have := hR.mono r r' h hr' (by rw [e1]; simp) (by rw [e2]; simp); omega
          · exact h
          · have := hR.mono r' r h hr (by rw [e2]; simp) (by rw [e1]; simp); omega

set_option maxHeartbeats 400000 in
/-- b1Equal of two rows of the same bytes. -/
theorem equal_any (g h m c d : Nat) (F : Nat → Int) (w : World) (hm : m ≤ 1048576) (hg : ∀ i, i < m → w.cell? ⟨g, i, none⟩ = some (.int .u8 (F i))) (hh : ∀ i, i < m → w.cell? ⟨h, i, none⟩ = some (.int .u8 (F i))) :
    Calls Try.prog 13 #[.slice (some ⟨g, 0, none⟩) m c, .slice (some ⟨h, 0, none⟩) m d] w fun e w' => e = .returned (.bool true) ∧ Below w.heap.size w w' := by
  go_enter Try.func13, Try.ntmps13
  go_wp2
  go_loopw [5] (fun i wr => ∃ k n : Nat, k ≤ m ∧ i = .int .i64 k ∧ wr = w.drewN n) (fun i _ => m - (intOf i).toNat)
  case atStart => exact ⟨0, 0, Nat.zero_le _, rfl, rfl⟩
  case round =>
    obtain ⟨k, n, hk, rfl, rfl⟩ := hrel
    by_cases hlt : k < m
    · have g1 := hg k hlt
      have g2 := hh k hlt
      have e1 : (k : Int) < (m : Int) := by omega
      have e2 : (0 : Int) ≤ (k : Int) := by omega
      clear hg hh
      go_wp2
      go_quiet (fail)
      go_wp2
      go_roundw
      case rel => exact ⟨k + 1, n + nq, by omega, by go_num, by simp⟩
      case measure => simp [intOf]; omega
    · go_wp2
      go_ret
      exact ⟨rfl, below_drewN (Below.refl _ _) _⟩

end Go.Proofs.Qxb6628816a
