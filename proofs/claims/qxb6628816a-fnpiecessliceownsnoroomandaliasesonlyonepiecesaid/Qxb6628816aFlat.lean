/-
  b1Flat, b1Interior, b1WithinOne over qxb6628816a.
-/
import Derived.Test.Qxb6628816aGuards
namespace Go.Proofs.Qxb6628816a
open Go.RowKit

theorem Try.info5 : (Try.prog.info? 5).map (fun i => (i.zero, i.size, i.bytes)) = some (some (.int .u8 0), 1, 1) := by kernel_rfl

/-- Bytes as cells. -/
def vals (l : List Int) : List Value := l.map (Value.int .u8)
theorem vals_append (a b : List Int) : vals (a ++ b) = vals a ++ vals b := by simp [vals]
theorem vals_length (a : List Int) : (vals a).length = a.length := by simp [vals]

theorem take_succ_getD (l : List Int) (j : Nat) (h : j < l.length) : l.take (j + 1) = l.take j ++ [l.getD j 0] := by
  rw [List.take_succ_eq_append_getElem h, List.getD_eq_getElem?_getD, List.getElem?_eq_getElem h]; rfl

set_option maxHeartbeats 1000000 in
theorem flat_own (a : Option Addr) (n cap : Nat) (A : Nat → Option Addr) (L C : Nat → Nat) (B : Nat → List Int) (w : World) (hP : Pieces w a n A L C B) (hn : n ≤ 65536) (hT : off B n ≤ 1048576) :
    Calls Try.prog 7 #[.slice a n cap, .int .i64 (off B n)] w fun e w' => e = .returned (.slice (some ⟨w.heap.size, 0, none⟩) (off B n) (off B n)) ∧
      w'.ownsRow w.heap.size 5 1 (.slice (some ⟨w.heap.size, 0, none⟩) (off B n) (off B n)) (off B n) (vals (flat B n)) ∧ Below w.heap.size w w' := by
  obtain ⟨i0, hi0, hz0, hz1, hz2⟩ := info_parts Try.info5
  obtain ⟨T, hTT⟩ : ∃ T, T = off B n := ⟨_, rfl⟩
  have HT : Hid (T = off B n) := hTT
  rw [← hTT] at hT ⊢
  clear hTT
  obtain ⟨G, hG⟩ : ∃ G, G = w.heap.size := ⟨_, rfl⟩
  have HG : Hid (G = w.heap.size) := hG
  have hG1 : G ≤ w.heap.size := by omega
  have hG2 : w.heap.size ≤ G := by omega
  rw [← hG]
  clear hG
  go_enter Try.func7, Try.ntmps7
  go_wp2_with (at_make; refine wpList_make_own _ rfl _ _ 26 rfl G 5 i0 (.int .u8 0) 1 Try.underlying26 hi0 hz0 hz1 _ _ _ T rfl rfl (by omega) (by rw [hz2]; omega) (by simp only [maxLen]; omega) (by omega) ?_; intro w2 hown2 hgrow2)
  rw [← HG.out] at hown2 ⊢
  have B2 : Below G w w2 := (Below.refl _ _).grown hgrow2 hG1 (fun k hk => by cases hk)
  clear hgrow2
  go_loopw [5, 6] (fun v i wr => ∃ k : Nat, k ≤ n ∧ i = .int .i64 k ∧ v = .slice (some ⟨G, 0, none⟩) (off B k) T ∧ wr.ownsRow G 5 1 (.slice (some ⟨G, 0, none⟩) (off B k) T) (off B k) (vals (flat B k)) ∧ Below G w wr) (fun _ i _ => n - (intOf i).toNat)
  case atStart => exact ⟨0, Nat.zero_le _, rfl, rfl, hown2, B2⟩
  case round =>
    clear hown2 B2
    obtain ⟨k, hk, rfl, rfl, hown, hB⟩ := hrel
    by_cases hlt : k < n
    · obtain ⟨b, o, rfl, hc⟩ := hP.rows.resolve_left (by omega)
      have g : wr.cell? ⟨b, o + k, none⟩ = some (.slice (A k) (L k) (C k)) := (hB.cell (p := ⟨b, o + k, none⟩) (by have := World.block_lt_of_cell? w _ (hc k hlt); simp at this ⊢; omega)).trans (hc k hlt)
      have e1 : (k : Int) < (n : Int) := by omega
      have hpc := hP.piece k hlt
      have Hoff : Hid (off B (k + 1) = off B k + L k) := hP.off_succ hlt
      have hsum : off B k + L k ≤ T := by have := off_mono B (show k + 1 ≤ n by omega); have := HT.out; have := Hoff.out; omega
      have Hf : Hid (flat B (k + 1) = flat B k ++ B k) := rfl
      clear hc
      generalize off B k = q at hown hsum Hoff ⊢
      generalize flat B k = fk at hown Hf
      generalize A k = ak at g hpc
      generalize L k = lk at g hpc hsum Hoff
      generalize C k = ck at g hpc
      generalize B k = bk at hpc Hf
      have hLm := hpc.max
      have hLl := hpc.le
      go_wp2_with fail
      go_loopw [5, 8] (fun v jv wr => ∃ j : Nat, j ≤ lk ∧ jv = .int .i64 j ∧ v = .slice (some ⟨G, 0, none⟩) (q + j) T ∧ wr.ownsRow G 5 1 (.slice (some ⟨G, 0, none⟩) (q + j) T) (q + j) (vals (fk ++ bk.take j)) ∧ Below G w wr) (fun _ j _ => lk - (intOf j).toNat)
      case atStart => exact ⟨0, Nat.zero_le _, rfl, rfl, by simpa using hown, hB⟩
      case round =>
        clear hown hB g
        obtain ⟨j, hj, rfl, rfl, hown, hB⟩ := hrel
        have hsz : G ≤ wr.heap.size := by have := hB.size; omega
        by_cases hlj : j < lk
        · obtain ⟨b', o', rfl, hc'⟩ := hpc.cells.resolve_left (by omega)
          have g : wr.cell? ⟨b', o' + j, none⟩ = some (.int .u8 (bk.getD j 0)) := (hB.cell (p := ⟨b', o' + j, none⟩) (by have := World.block_lt_of_cell? w _ (hc' j hlj); simp at this ⊢; omega)).trans (hc' j hlj)
          have hsn := take_succ_getD bk j (by rw [hpc.len]; exact hlj)
          have Hsn : Hid (bk.take (j + 1) = bk.take j ++ [bk.getD j 0]) := hsn
          clear hsn hc'
          generalize bk.getD j 0 = x at g Hsn
          have e2 : (j : Int) < (lk : Int) := by omega
          go_wp2_with (at_builtin; refine wpList_append_fits _ rfl _ _ 26 rfl G 5 i0 1 Try.underlying26 hi0 hz1 G (q + j) T _ rfl (hown.alloc _) ⟨wr.heap.size, 0, none⟩ 1 1 [.int .u8 x] rfl rfl (World.news_of_block (cs := #[.int .u8 x]) (t := 5) (fr := (0, 0)) (heap_alloc_new wr _)) (by simp [Value.oneCell']) (by omega) ?_; intro w3 hown3 hgrow3)
          go_roundw
          case rel =>
            refine ⟨j + 1, by omega, by go_num, rfl, ?_, ?_⟩
            · rw [Hsn.out, ← List.append_assoc, vals_append]; exact hown3
            · exact (hB.alloc hsz _).grown hgrow3 (by simp; omega) (fun i hi => by cases hi; omega)
          case measure => simp [intOf]; omega
        · have hjl : lk = j := by omega
          subst hjl
          have hown' : wr.ownsRow G 5 1 (.slice (some ⟨G, 0, none⟩) (off B (k + 1)) T) (off B (k + 1)) (vals (flat B (k + 1))) := by
            rw [Hoff.out, Hf.out]
            rw [List.take_of_length_le (by rw [hpc.len]; exact Nat.le_refl _)] at hown
            exact hown
          clear hown
          go_wp2_with fail
          go_roundw
          case rel => exact ⟨k + 1, by omega, by go_num, by rw [Hoff.out], hown', hB⟩
          case measure => simp [intOf]; omega
    · have hkn : n = k := by omega
      subst hkn
      have hTn : off B n = T := HT.out.symm
      rw [hTn] at hown
      go_wp2_with fail
      go_ret
      exact ⟨(show Ending.returned (Value.slice (some ⟨G, 0, none⟩) (off B n) T) = _ by rw [hTn]), hown, hB⟩

theorem block_of_own {w : World} {g T : Nat} {xs : List Value} {base : Nat} (h : w.ownsRow base 5 1 (.slice (some ⟨g, 0, none⟩) T T) T xs) : w.heap[g]? = some (.cells xs.toArray 5) := by
  rcases h.2 with ⟨h0, _⟩ | ⟨g', cap, cur, hv, _, hg, _, _, hs, ht⟩
  · cases h0
  · simp only [Value.slice.injEq, Option.some.injEq, Addr.mk.injEq] at hv
    obtain ⟨⟨rfl, _, _⟩, _, rfl⟩ := hv
    rw [hg, ← ht, Nat.mul_one, List.take_of_length_le (by simp [hs])]
theorem own_of_block {w : World} {g T : Nat} {xs : List Value} (hl : xs.length = T) (hT : T ≤ maxLen) (h : w.heap[g]? = some (.cells xs.toArray 5)) : w.ownsRow g 5 1 (.slice (some ⟨g, 0, none⟩) T T) T xs :=
  ⟨by omega, .inr ⟨g, T, xs.toArray, rfl, Nat.le_refl _, h, Nat.le_refl _, hT, by simp [hl], by simp [← hl]⟩⟩

theorem flat_any (a : Option Addr) (n cap : Nat) (A : Nat → Option Addr) (L C : Nat → Nat) (B : Nat → List Int) (w : World) (hP : Pieces w a n A L C B) (hn : n ≤ 65536) (hT : off B n ≤ 1048576) :
    Calls Try.prog 7 #[.slice a n cap, .int .i64 (off B n)] w fun e w' => e = .returned (.slice (some ⟨w.heap.size, 0, none⟩) (off B n) (off B n)) ∧
      w'.heap[w.heap.size]? = some (.cells (vals (flat B n)).toArray 5) ∧ Below w.heap.size w w' := by
  refine (flat_own a n cap A L C B w hP hn hT).mono ?_
  rintro e w' ⟨rfl, hown, hb⟩
  exact ⟨rfl, block_of_own hown, hb⟩

set_option maxHeartbeats 400000 in
theorem interior_any (a : Option Addr) (n cap : Nat) (A : Nat → Option Addr) (L C : Nat → Nat) (B : Nat → List Int) (x : Int) (w : World) (hP : Pieces w a n A L C B) (hT : off B n ≤ 1048576) :
    Calls Try.prog 8 #[.slice a n cap, .int .i64 x] w fun e w' => e = .returned (.bool (interior B n x)) ∧ w = w' := by
  have hmx := hP.max
  go_enter Try.func8, Try.ntmps8
  go_wp2
  go_loop [5, 6] (fun t i => ∃ (k : Nat), k ≤ n ∧ i = .int .i64 k ∧ t = .int .i64 (off B k) ∧ Hid (∀ r, r < k → ¬ ((off B r : Int) < x ∧ x < off B (r + 1)))) (fun _ i => n - (intOf i).toNat)
  case atStart => exact ⟨0, by omega, rfl, rfl, fun r hr => by omega⟩
  case round =>
    obtain ⟨k, hk, rfl, rfl, hno⟩ := hrel
    by_cases hlt : k < n
    · obtain ⟨b, o, rfl, hc⟩ := hP.rows.resolve_left (by omega)
      have g := hc k hlt
      have hs := hP.off_succ hlt
      have hm := off_mono B (show k + 1 ≤ n by omega)
      have hLk : L k ≤ 1048576 := by omega
      have hok : off B k ≤ 1048576 := by omega
      have Hs : Hid (off B (k + 1) = off B k + L k) := hs
      clear hs hm hc
      by_cases h1 : (off B k : Int) < x
      · by_cases h2 : x < (off B k : Int) + L k
        · have hin : interior B n x = true := interior_true hlt h1 (by rw [Hs.out]; simpa using h2)
          go_wp2
          go_ret
          exact ⟨rfl, rfl⟩
        · go_wp2
          go_round
          case rel =>
            refine ⟨k + 1, by omega, by go_num, by rw [Hs.out]; go_num, fun r hr => ?_⟩
            by_cases hrk : r < k
            · exact hno.out r hrk
            · obtain rfl : r = k := by omega
              rw [Hs.out]; omega
          case measure => simp [intOf]; omega
      · have h1' : decide ((off B k : Int) < x) = false := decide_eq_false h1
        go_wp2
        go_round
        case rel =>
          refine ⟨k + 1, by omega, by go_num, by rw [Hs.out]; go_num, fun r hr => ?_⟩
          by_cases hrk : r < k
          · exact hno.out r hrk
          · obtain rfl : r = k := by omega
            omega
        case measure => simp [intOf]; omega
    · have hkn : n = k := by omega
      subst hkn
      have hin : interior B n x = false := interior_false hno.out
      go_wp2
      go_ret
      exact ⟨rfl, rfl⟩

set_option maxHeartbeats 400000 in
theorem within_any (a : Option Addr) (n cap : Nat) (A : Nat → Option Addr) (L C : Nat → Nat) (B : Nat → List Int) (s e : Int) (w : World) (hP : Pieces w a n A L C B) (hT : off B n ≤ 1048576) :
    Calls Try.prog 12 #[.slice a n cap, .int .i64 s, .int .i64 e] w fun q w' => q = .returned (.bool (within B n s e)) ∧ w = w' := by
  have hmx := hP.max
  go_enter Try.func12, Try.ntmps12
  go_wp2
  go_loop [7, 8] (fun t i => ∃ (k : Nat), k ≤ n ∧ i = .int .i64 k ∧ t = .int .i64 (off B k) ∧ Hid (∀ r, r < k → ¬ ((off B r : Int) ≤ s ∧ e ≤ off B (r + 1)))) (fun _ i => n - (intOf i).toNat)
  case atStart => exact ⟨0, by omega, rfl, rfl, fun r hr => by omega⟩
  case round =>
    obtain ⟨k, hk, rfl, rfl, hno⟩ := hrel
    by_cases hlt : k < n
    · obtain ⟨b, o, rfl, hc⟩ := hP.rows.resolve_left (by omega)
      have g := hc k hlt
      have hs := hP.off_succ hlt
      have hm := off_mono B (show k + 1 ≤ n by omega)
      have hLk : L k ≤ 1048576 := by omega
      have hok : off B k ≤ 1048576 := by omega
      have Hs : Hid (off B (k + 1) = off B k + L k) := hs
      clear hs hm hc
      by_cases h1 : (off B k : Int) ≤ s
      · by_cases h2 : e ≤ (off B k : Int) + L k
        · have hin : within B n s e = true := within_true hlt h1 (by rw [Hs.out]; simpa using h2)
          go_wp2
          go_ret
          exact ⟨rfl, rfl⟩
        · go_wp2
          go_round
          case rel =>
            refine ⟨k + 1, by omega, by go_num, by rw [Hs.out]; go_num, fun r hr => ?_⟩
            by_cases hrk : r < k
            · exact hno.out r hrk
            · obtain rfl : r = k := by omega
              rw [Hs.out]; omega
          case measure => simp [intOf]; omega
      · have h1' : decide ((off B k : Int) ≤ s) = false := decide_eq_false h1
        go_wp2
        go_round
        case rel =>
          refine ⟨k + 1, by omega, by go_num, by rw [Hs.out]; go_num, fun r hr => ?_⟩
          by_cases hrk : r < k
          · exact hno.out r hrk
          · obtain rfl : r = k := by omega
            omega
        case measure => simp [intOf]; omega
    · have hkn : n = k := by omega
      subst hkn
      have hin : within B n s e = false := within_false hno.out
      go_wp2
      go_ret
      exact ⟨rfl, rfl⟩

end Go.Proofs.Qxb6628816a
