/-
  zzMemberB1, Identities, KeyOf over qxb6628711a: each call's contract.
-/
import Derived.Test.Qxb6628711aGuards
import Derived.Deep.RegionLaw
import Derived.Deep.AppendLies
namespace Go.Proofs.Qxb6628711a
open Go.RowKit

set_option maxHeartbeats 400000 in
theorem identities_any (name addr : ByteArray) (kv : Value) (la : Option Addr) (ll lc : Nat) (w : World) (hl : ll ≤ 1048577) :
    Calls Try.prog 8 #[.agg #[.string name, .string addr, kv, .slice la ll lc]] w fun e w' => e = .returned (.int .i64 (1 + ll)) ∧ w' = w.alloc (.cells #[.string name, .string addr, kv, .slice la ll lc] 29) := by
  go_enter Try.func8, Try.ntmps8
  go_wp2
  go_ret
  exact ⟨rfl, rfl⟩

set_option maxHeartbeats 400000 in
theorem keyOf_zero (name addr : ByteArray) (ka : Option Addr) (kl kc : Nat) (lv : Value) (w : World) :
    Calls Try.prog 9 #[.agg #[.string name, .string addr, .slice ka kl kc, lv], .int .i64 0] w fun e w' => e = .returned (.tuple #[.slice ka kl kc, .bool true]) ∧ w' = w.alloc (.cells #[.string name, .string addr, .slice ka kl kc, lv] 29) := by
  go_enter Try.func9, Try.ntmps9
  go_wp2
  go_ret2
  exact ⟨rfl, rfl⟩

set_option maxHeartbeats 400000 in
theorem keyOf_out (name addr : ByteArray) (kv : Value) (la : Option Addr) (ll lc : Nat) (i : Int) (w : World) (hi : i < 0 ∨ (ll : Int) < i) :
    Calls Try.prog 9 #[.agg #[.string name, .string addr, kv, .slice la ll lc], .int .i64 i] w fun e w' => e = .returned (.tuple #[.slice none 0 0, .bool false]) ∧ w' = w.alloc (.cells #[.string name, .string addr, kv, .slice la ll lc] 29) := by
  have h0 : (i == 0) = false := by simp; omega
  rcases hi with hi | hi
  · go_enter Try.func9, Try.ntmps9
    go_wp2
    go_ret2
    exact ⟨rfl, rfl⟩
  · have h1 : ¬ i < 0 := by omega
    go_enter Try.func9, Try.ntmps9
    go_wp2
    go_ret2
    exact ⟨rfl, rfl⟩

set_option maxHeartbeats 400000 in
theorem keyOf_in (name addr : ByteArray) (kv : Value) (b off ll lc : Nat) (i : Int) (a : Option Addr) (l c : Nat) (w : World) (hi1 : 1 ≤ i) (hi2 : i ≤ (ll : Int)) (hl : ll ≤ 1048577)
    (hb : b < w.heap.size) (hc : w.cell? ⟨b, off + (i.toNat - 1), none⟩ = some (.slice a l c)) :
    Calls Try.prog 9 #[.agg #[.string name, .string addr, kv, .slice (some ⟨b, off, none⟩) ll lc], .int .i64 i] w fun e w' => e = .returned (.tuple #[.slice a l c, .bool true]) ∧ w' = w.alloc (.cells #[.string name, .string addr, kv, .slice (some ⟨b, off, none⟩) ll lc] 29) := by
  have h0 : (i == 0) = false := by simp; omega
  have h1 : ¬ i < 0 := by omega
  have h2 : ¬ (ll : Int) < i := by omega
  have h3 : 0 ≤ i - 1 := by omega
  have h4 : i - 1 < ll := by omega
  have hc' : (w.alloc (.cells #[.string name, .string addr, kv, .slice (some ⟨b, off, none⟩) ll lc] 29)).cell? ⟨b, off + (i.toNat - 1), none⟩ = some (.slice a l c) := by
    rw [← hc]; exact World.cell?_of_block (Below.heap_alloc _ _ _ hb)
  go_enter Try.func9, Try.ntmps9
  go_wp2
  go_ret2
  exact ⟨rfl, rfl⟩

theorem Try.info26 : (Try.prog.info? 26).map (fun i => (i.zero, i.size, i.bytes)) = some (some (.slice none 0 0), 1, 24) := by kernel_rfl

/-- A block whose cells are known: a cell of it, and that it may be written. -/
theorem cell_of {w : World} {g : Nat} {cs : Array Value} {t : TypeId} (h : w.heap[g]? = some (.cells cs t)) (j : Nat) : w.cell? ⟨g, j, none⟩ = cs[j]? := cell_of_row w g j cs t (0, 0) h
theorem frozen_of {w : World} {g : Nat} {cs : Array Value} {t : TypeId} (h : w.heap[g]? = some (.cells cs t)) (j : Nat) : w.frozen? ⟨g, j, none⟩ = false := by simp [World.frozen?, h]
theorem heap_set {w : World} {g : Nat} {cs : Array Value} {t : TypeId} (h : w.heap[g]? = some (.cells cs t)) (i : Nat) (u : Value) : (w.setCell ⟨g, i, none⟩ u).heap[g]? = some (.cells (cs.setIfInBounds i u) t) := by
  simp [World.setCell, Array.getElem?_modify, h]

theorem own_shape {w : World} {base : Nat} {e : TypeId} {size : Nat} {v : Value} {n : Nat} {xs : List Value} (h : w.ownsRow base e size v n xs) : ∃ a c, v = .slice a n c := by
  rcases h.2 with ⟨rfl, rfl⟩ | ⟨g, cap, cur, rfl, _⟩
  · exact ⟨_, _, rfl⟩
  · exact ⟨_, _, rfl⟩

/-- The slices' values. -/
def rowVals (A : Nat → Option Addr) (L C : Nat → Nat) (n : Nat) : List Value := (List.range n).map fun r => .slice (A r) (L r) (C r)
theorem rowVals_succ (A : Nat → Option Addr) (L C : Nat → Nat) (n : Nat) : rowVals A L C (n + 1) = rowVals A L C n ++ [.slice (A n) (L n) (C n)] := by
  simp [rowVals, List.range_succ]

/-- What holds at the head of each round of zzMemberB1's loop. -/
structure MR (name addr : ByteArray) (kv : Value) (A : Nat → Option Addr) (L C : Nat → Nat) (B : Nat) (w : World) (k : Nat) (v : Value) (wr : World) : Prop where
  own : wr.ownsRow (B + 2) 26 1 v k (rowVals A L C k)
  b0 : wr.heap[B]? = some (.cells #[.string { data := #[] }, .string { data := #[] }, .slice none 0 0, .slice none 0 0] 29)
  b1 : wr.heap[B + 1]? = some (.cells #[.string name, .string addr, kv, v] 29)
  bel : Below B w wr

theorem MR.size {name addr : ByteArray} {kv : Value} {A : Nat → Option Addr} {L C : Nat → Nat} {B : Nat} {w : World} {k : Nat} {v : Value} {wr : World} (h : MR name addr kv A L C B w k v wr) : B + 2 ≤ wr.heap.size := by
  have := (Array.getElem?_eq_some_iff.1 h.b1).1
  omega

theorem MR.next {name addr : ByteArray} {kv : Value} {A : Nat → Option Addr} {L C : Nat → Nat} {B : Nat} {w : World} {k : Nat} {v v' : Value} {wr w1 : World} (h : MR name addr kv A L C B w k v wr) (o : Obj)
    (hown : w1.ownsRow (B + 2) 26 1 v' (k + 1) (rowVals A L C k ++ [.slice (A k) (L k) (C k)])) (hg : (wr.alloc o).drew.grownBy w1 v.ownBlock) : MR name addr kv A L C B w (k + 1) v' (w1.setCell ⟨B + 1, 3, none⟩ v') := by
  have hs := h.size
  have hne : ∀ j, j < B + 2 → some j ≠ v.ownBlock := fun j hj e => by have := (h.own.lt j e.symm).1; omega
  have hold : ∀ j, j < B + 2 → w1.heap[j]? = wr.heap[j]? := fun j hj => by
    rw [hg.block j (by simp; omega) (hne j hj)]
    exact Below.heap_alloc wr o j (by omega)
  have c0 : w1.heap[B]? = _ := (hold B (by omega)).trans h.b0
  have c1 : w1.heap[B + 1]? = _ := (hold (B + 1) (by omega)).trans h.b1
  refine ⟨?_, ?_, ?_, ?_⟩
  · rw [rowVals_succ]
    exact ownsRow_setCell_below hown (by simp) v'
  · rw [Below.heap_setCell _ _ _ _ (by simp)]
    exact c0
  · exact heap_set c1 3 v'
  · exact (((h.bel.alloc (by omega) o).drew).grown hg (by simp; omega) (fun j hj => by have := (h.own.lt j hj).1; omega)).setCell (by simp) v'

theorem MR.three {name addr : ByteArray} {kv : Value} {A : Nat → Option Addr} {L C : Nat → Nat} {B : Nat} {w : World} {k : Nat} {v : Value} {wr w1 : World} (h : MR name addr kv A L C B w k v wr) {o : Obj}
    (hg : (wr.alloc o).drew.grownBy w1 v.ownBlock) : w1.cell? ⟨B + 1, 3, none⟩ = some v ∧ w1.frozen? ⟨B + 1, 3, none⟩ = false := by
  have hs := h.size
  have c1 : w1.heap[B + 1]? = _ := (hg.block (B + 1) (by simp; omega) (fun e => by have := (h.own.lt _ e.symm).1; omega)).trans ((Below.heap_alloc wr o (B + 1) (by omega)).trans h.b1)
  exact ⟨cell_of c1 3, frozen_of c1 3⟩

set_option maxHeartbeats 400000 in
theorem member_own (name addr : ByteArray) (ka : Option Addr) (kl kc : Nat) (a : Option Addr) (len cap : Nat) (A : Nat → Option Addr) (L C : Nat → Nat) (w : World)
    (hm : len ≤ 1048577) (hr : RowsAt w a len A L C) :
    Calls Try.prog 7 #[.string name, .string addr, .slice ka kl kc, .slice a len cap] w fun e w' => ∃ v, e = .returned (.agg #[.string name, .string addr, .slice ka kl kc, v]) ∧
      w'.ownsRow (w.heap.size + 2) 26 1 v len (rowVals A L C len) ∧ Below w.heap.size w w' := by
  obtain ⟨i0, hi, hz0, hz1, hz2⟩ := info_parts Try.info26
  go_enter Try.func7, Try.ntmps7
  go_wp2
  go_loopw [10] (fun i wr => ∃ (k : Nat) (v : Value), k ≤ len ∧ i = .int .i64 k ∧ MR name addr (.slice ka kl kc) A L C w.heap.size w k v wr) (fun i _ => len - (intOf i).toNat)
  case atStart =>
    refine ⟨0, _, Nat.zero_le _, rfl, World.ownsRow_nil _ _ _ _, ?_, ?_, ?_⟩
    · rw [Below.heap_alloc _ _ _ (by simp)]; exact heap_alloc_new _ _
    · have := heap_alloc_new (w.alloc (.cells #[.string { data := #[] }, .string { data := #[] }, .slice none 0 0, .slice none 0 0] 29)) (.cells #[.string name, .string addr, .slice ka kl kc, .slice none 0 0] 29)
      simpa using this
    · exact ((Below.refl _ _).alloc (Nat.le_refl _) _).alloc (by simp) _
  case round =>
    obtain ⟨k, v, hk, rfl, hM⟩ := hrel
    by_cases hlt : k < len
    · obtain ⟨b, off, rfl, hc⟩ : ∃ b off, a = some ⟨b, off, none⟩ ∧ ∀ r, r < len → w.cell? ⟨b, off + r, none⟩ = some (.slice (A r) (L r) (C r)) := hr.resolve_left (by omega)
      have hbl := World.block_lt_of_cell? w _ (hc k hlt)
      have g : wr.cell? ⟨b, off + k, none⟩ = some (.slice (A k) (L k) (C k)) := (hM.bel.cell (p := ⟨b, off + k, none⟩) hbl).trans (hc k hlt)
      have g3 : wr.cell? ⟨w.heap.size + 1, 3, none⟩ = some v := cell_of hM.b1 3
      have f3 : wr.frozen? ⟨w.heap.size + 1, 3, none⟩ = false := frozen_of hM.b1 3
      have e1 : (k : Int) < (len : Int) := by omega
      have e2 : (0 : Int) ≤ (k : Int) := by omega
      have hs := hM.size
      have hs1 : w.heap.size + 1 < wr.heap.size := by omega
      go_wp2
      go_region_law ((refine step_append_lies _ (by rfl) _ _ _ (by rfl) (w.heap.size + 2) 26 i0 _ 1 24 Try.underlying27 hi hz0 hz1 hz2 rfl (by omega) v k _ (by rfl) ((hM.own.alloc _).drew) ⟨wr.heap.size, 0, none⟩ 1 1 [.slice (A k) (L k) (C k)] (by rfl) (by rfl) (World.news_of_block (cs := #[.slice (A k) (L k) (C k)]) (t := 26) (fr := (0, 0)) (heap_alloc_new wr _)) (by simp [Value.oneCell']) (by omega) (by simp [maxLen]; omega) (by omega) (by simp; omega) (wr.heap.size + 1) (by simp) ?_; intro gg cap w1 hown1 hgrow hat hlt; obtain ⟨gw, fw⟩ := hM.three hgrow))
      all_goals
        go_wp2
        go_roundw
        case rel => exact ⟨k + 1, _, by omega, by go_num, hM.next _ hown1 hgrow⟩
        case measure => simp [intOf]; omega
    · have hkl : k = len := by omega
      subst hkl
      obtain ⟨va, vc, rfl⟩ := own_shape hM.own
      have c0 : wr.cell? ⟨w.heap.size + 1, 0, none⟩ = some (.string name) := cell_of hM.b1 0
      have c1 : wr.cell? ⟨w.heap.size + 1, 1, none⟩ = some (.string addr) := cell_of hM.b1 1
      have c2 : wr.cell? ⟨w.heap.size + 1, 2, none⟩ = some (.slice ka kl kc) := cell_of hM.b1 2
      have c3 : wr.cell? ⟨w.heap.size + 1, 3, none⟩ = some (.slice va k vc) := cell_of hM.b1 3
      have d0 : wr.cell? ⟨w.heap.size, 0, none⟩ = some (.string { data := #[] }) := cell_of hM.b0 0
      have d1 : wr.cell? ⟨w.heap.size, 1, none⟩ = some (.string { data := #[] }) := cell_of hM.b0 1
      have d2 : wr.cell? ⟨w.heap.size, 2, none⟩ = some (.slice none 0 0) := cell_of hM.b0 2
      have d3 : wr.cell? ⟨w.heap.size, 3, none⟩ = some (.slice none 0 0) := cell_of hM.b0 3
      have f : ∀ j, wr.frozen? ⟨w.heap.size, j, none⟩ = false := frozen_of hM.b0
      go_wp2
      have hb := heap_set (heap_set (heap_set (heap_set hM.b0 0 (.string name)) 1 (.string addr)) 2 (.slice ka kl kc)) 3 (.slice va k vc)
      have e0 := cell_of hb 0
      have e1 := cell_of hb 1
      have e2 := cell_of hb 2
      have e3 := cell_of hb 3
      simp at e0 e1 e2 e3
      refine bodyPost_ret (v := .agg #[.string name, .string addr, .slice ka kl kc, .slice va k vc]) (by simp [results, Try.results7, go_sem, e0, e1, e2, e3]) rfl ⟨_, rfl, ?_, ?_⟩
      · exact ownsRow_setCell_below (ownsRow_setCell_below (ownsRow_setCell_below (ownsRow_setCell_below hM.own (by simp) _) (by simp) _) (by simp) _) (by simp) _
      · exact (((hM.bel.setCell (Nat.le_refl _) _).setCell (Nat.le_refl _) _).setCell (Nat.le_refl _) _).setCell (Nat.le_refl _) _

/-! ### The contracts as the laws use them -/
theorem RowsAt.later {w w' : World} {a : Option Addr} {len : Nat} {A : Nat → Option Addr} {L C : Nat → Nat} (h : RowsAt w a len A L C) (hb : Below w.heap.size w w') : RowsAt w' a len A L C := by
  rcases h with h | ⟨b, off, rfl, hc⟩
  · exact .inl h
  · exact .inr ⟨b, off, rfl, fun r hr => cell_later hb (hc r hr)⟩

theorem BytesAt.later {w w' : World} {a : Option Addr} {len : Nat} (h : BytesAt w a len) (hb : Below w.heap.size w w') : BytesAt w' a len := by
  obtain ⟨hm, h | ⟨b, off, z, rfl, hc⟩⟩ := h
  · exact ⟨hm, .inl h⟩
  · exact ⟨hm, .inr ⟨b, off, z, rfl, fun r hr => cell_later hb (hc r hr)⟩⟩

theorem rows_of_own {w : World} {base : Nat} {va : Option Addr} {n vc : Nat} {A : Nat → Option Addr} {L C : Nat → Nat} (h : w.ownsRow base 26 1 (.slice va n vc) n (rowVals A L C n)) : RowsAt w va n A L C := by
  by_cases hn : n = 0
  · exact .inl hn
  · obtain ⟨g, cap, hv, _, _⟩ := h.form (by omega)
    simp only [Value.slice.injEq] at hv
    obtain ⟨rfl, _, rfl⟩ := hv
    refine .inr ⟨g, 0, rfl, fun r hr => ?_⟩
    have := h.cells (g := g) rfl r (.slice (A r) (L r) (C r)) (by simp [rowVals, hr])
    rw [Addr.add_lit] at this
    exact this

theorem member_any (name addr : ByteArray) (ka : Option Addr) (kl kc : Nat) (a : Option Addr) (len cap : Nat) (A : Nat → Option Addr) (L C : Nat → Nat) (w : World)
    (hm : len ≤ 1048577) (hr : RowsAt w a len A L C) :
    Calls Try.prog 7 #[.string name, .string addr, .slice ka kl kc, .slice a len cap] w fun e w' => ∃ va vc, e = .returned (.agg #[.string name, .string addr, .slice ka kl kc, .slice va len vc]) ∧
      RowsAt w' va len A L C ∧ Below w.heap.size w w' := by
  refine (member_own name addr ka kl kc a len cap A L C w hm hr).mono ?_
  rintro e w' ⟨v, rfl, hown, hb⟩
  obtain ⟨va, vc, rfl⟩ := own_shape hown
  exact ⟨va, vc, rfl, rows_of_own hown, hb⟩

/-- What KeyOf picks at i: the first key at 0, linked key i - 1 from 1 to n, else nothing. -/
def pick {α : Type} (k d : α) (n : Nat) (f : Nat → α) (i : Int) : α := if i = 0 then k else if 1 ≤ i ∧ i ≤ n then f (i.toNat - 1) else d
/-- Does KeyOf accept i? -/
def inB (n : Nat) (i : Int) : Bool := decide (0 ≤ i ∧ i ≤ n)

theorem keyOf_any (name addr : ByteArray) (ka : Option Addr) (kl kc : Nat) (la : Option Addr) (ll lc : Nat) (A : Nat → Option Addr) (L C : Nat → Nat) (i : Int) (w : World) (hl : ll ≤ 1048577) (hr : RowsAt w la ll A L C) :
    Calls Try.prog 9 #[.agg #[.string name, .string addr, .slice ka kl kc, .slice la ll lc], .int .i64 i] w fun e w' =>
      e = .returned (.tuple #[.slice (pick ka none ll A i) (pick kl 0 ll L i) (pick kc 0 ll C i), .bool (inB ll i)]) ∧ Below w.heap.size w w' := by
  have hb : ∀ o, Below w.heap.size w (w.alloc o) := fun o => (Below.refl _ _).alloc (Nat.le_refl _) _
  by_cases h0 : i = 0
  · subst h0
    refine (keyOf_zero name addr ka kl kc _ w).mono ?_
    rintro e w' ⟨rfl, rfl⟩
    exact ⟨by simp [pick, inB], hb _⟩
  by_cases h1 : 1 ≤ i ∧ i ≤ ll
  · obtain ⟨b, off, rfl, hc⟩ : ∃ b off, la = some ⟨b, off, none⟩ ∧ ∀ r, r < ll → w.cell? ⟨b, off + r, none⟩ = some (.slice (A r) (L r) (C r)) := hr.resolve_left (by omega)
    have hg := hc (i.toNat - 1) (by omega)
    refine (keyOf_in name addr _ b off ll lc i _ _ _ w h1.1 h1.2 hl (World.block_lt_of_cell? w _ hg) hg).mono ?_
    rintro e w' ⟨rfl, rfl⟩
    have h2 : decide (0 ≤ i ∧ i ≤ (ll : Int)) = true := decide_eq_true (by omega)
    exact ⟨by simp only [pick, inB, if_neg h0, if_pos h1, h2], hb _⟩
  · refine (keyOf_out name addr _ la ll lc i w (by omega)).mono ?_
    rintro e w' ⟨rfl, rfl⟩
    have h2 : decide (0 ≤ i ∧ i ≤ (ll : Int)) = false := decide_eq_false (by omega)
    exact ⟨by simp only [pick, inB, if_neg h0, if_neg h1, h2], hb _⟩

end Go.Proofs.Qxb6628711a
