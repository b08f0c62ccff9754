/-
  (Pieces).Slice over qxb6628816a.
-/
import Derived.Test.Qxb6628816aFlat
namespace Go.Proofs.Qxb6628816a
open Go.RowKit

/-- What Slice answers for s ≤ e ≤ total: nil; an empty slice inside a piece; a part of one piece, its own bytes; a copy in new memory. -/
def SliceOut (B : Nat → List Int) (n s e : Nat) (A : Nat → Option Addr) (w : World) (q : Ending) (w' : World) : Prop :=
  (q = .returned (.slice none 0 0) ∧ w' = w ∧ s = e ∧ interior B n s = false) ∨
  (∃ ad, q = .returned (.slice (some ad) 0 0) ∧ w' = w ∧ s = e ∧ interior B n s = true) ∨
  (∃ r b o, r < n ∧ A r = some ⟨b, o, none⟩ ∧ s < e ∧ off B r ≤ s ∧ e ≤ off B (r + 1) ∧ q = .returned (.slice (some ⟨b, o + (s - off B r), none⟩) (e - s) (e - s)) ∧ w' = w) ∨
  (∃ g, q = .returned (.slice (some ⟨g, 0, none⟩) (e - s) (e - s)) ∧ s < e ∧ w.heap.size ≤ g ∧ w'.heap[g]? = some (.cells (vals (cut B n s e)).toArray 5) ∧ Below w.heap.size w w' ∧ ∀ r, r < n → ¬ (off B r ≤ s ∧ e ≤ off B (r + 1)))

/-- What holds at the head of each round of Slice's loop. -/
def SliceRel (B : Nat → List Int) (n s e : Nat) (w : World) (k : Nat) (v : Value) (wr : World) : Prop :=
  (v = .slice none 0 0 ∧ wr = w ∧ (s < e → off B k ≤ s) ∧ (s = e → ∀ r, r < k → ¬ (off B r < s ∧ s < off B (r + 1)))) ∨
  (s < e ∧ s < off B k ∧ v = .slice (some ⟨w.heap.size, 0, none⟩) (min (off B k) e - s) (e - s) ∧
    wr.ownsRow w.heap.size 5 1 (.slice (some ⟨w.heap.size, 0, none⟩) (min (off B k) e - s) (e - s)) (min (off B k) e - s) (vals (cut B n s (min (off B k) e))) ∧
    Below w.heap.size w wr ∧ ∀ r, r < k → ¬ (off B r ≤ s ∧ e ≤ off B (r + 1)))

theorem vals_getElem? {l : List Int} {j : Nat} {u : Value} (h : (vals l)[j]? = some u) : j < l.length ∧ u = .int .u8 (l.getD j 0) := by
  simp only [vals, List.getElem?_map, Option.map_eq_some_iff] at h
  obtain ⟨x, hx, rfl⟩ := h
  have hj := (List.getElem?_eq_some_iff.1 hx).1
  exact ⟨hj, by rw [List.getD_eq_getElem?_getD, hx]; rfl⟩
theorem drop_getD (l : List Int) (m j : Nat) : (l.drop m).getD j 0 = l.getD (m + j) 0 := by simp [List.getD_eq_getElem?_getD]
theorem take_getD (l : List Int) {m j : Nat} (h : j < m) : (l.take m).getD j 0 = l.getD j 0 := by simp [List.getD_eq_getElem?_getD, List.getElem?_take_of_lt h]
theorem vals_one (l : List Int) : ∀ u ∈ vals l, u.oneCell' = true := ints_oneCell .u8 l

/-- The next round's relation behind an append of piece k's part. -/
theorem SliceRel.next {B : Nat → List Int} {n s e : Nat} {w w1 : World} {k lk m : Nat} (hk : k < n) (hse : s < e) (hs : off B (k + 1) = off B k + lk) (hm1 : s ≤ m) (hm2 : off B k ≤ m) (hm3 : m ≤ off B (k + 1)) (hm4 : m ≤ e) (hlt : s < off B (k + 1))
    (hown : w1.ownsRow w.heap.size 5 1 (.slice (some ⟨w.heap.size, 0, none⟩) (min (off B (k + 1)) e - s) (e - s)) (min (off B (k + 1)) e - s) (vals (cut B n s m) ++ vals (((B k).drop (m - off B k)).take (min (off B (k + 1)) e - m))))
    (hB : Below w.heap.size w w1) (hno : ∀ r, r < k + 1 → ¬ (off B r ≤ s ∧ e ≤ off B (r + 1))) :
    SliceRel B n s e w (k + 1) (.slice (some ⟨w.heap.size, 0, none⟩) (min (off B (k + 1)) e - s) (e - s)) w1 := by
  refine .inr ⟨hse, hlt, rfl, ?_, hB, hno⟩
  rw [cut_step hk hm1 hm2 (min (off B (k + 1)) e) (Nat.min_le_left _ _) (by omega), vals_append]
  exact hown

set_option maxHeartbeats 1000000 in
theorem slice_any (a : Option Addr) (n cap : Nat) (A : Nat → Option Addr) (L C : Nat → Nat) (B : Nat → List Int) (s e : Nat) (w : World) (hP : Pieces w a n A L C B) (hn : n ≤ 65536) (hT : off B n ≤ 1048576) (hse : s ≤ e) (heT : e ≤ off B n) :
    Calls Try.prog 9 #[.slice a n cap, .int .i64 s, .int .i64 e] w (SliceOut B n s e A w) := by
  have hnil := @Lib.run_eql_slice_nil Try.prog
  obtain ⟨i0, hi0, hz0, hz1, hz2⟩ := info_parts Try.info5
  go_enter Try.func9, Try.ntmps9
  go_wp2_with fail
  go_loopw [7, 8, 16] (fun v t i wr => ∃ k : Nat, k ≤ n ∧ i = .int .i64 k ∧ t = .int .i64 (off B k) ∧ SliceRel B n s e w k v wr) (fun _ _ i _ => n - (intOf i).toNat)
  case atStart => exact ⟨0, Nat.zero_le _, rfl, rfl, .inl ⟨rfl, rfl, fun _ => by simp [off_zero], fun _ r hr => by omega⟩⟩
  case round =>
    obtain ⟨k, hk, rfl, rfl, hrel⟩ := hrel
    by_cases hlt : k < n
    · obtain ⟨b, o, rfl, hc⟩ := hP.rows.resolve_left (by omega)
      have hs := hP.off_succ hlt
      have hm := off_mono B (show k + 1 ≤ n by omega)
      have hLk : L k ≤ 1048576 := by omega
      have hok : off B k ≤ 1048576 := by omega
      have e1 : (k : Int) < (n : Int) := by omega
      have g0 := hc k hlt
      have hpc := hP.piece k hlt
      have Hs : Hid (off B (k + 1) = off B k + L k) := hs
      have hN : off B k + L k ≤ off B n := by omega
      clear hs hm hc
      have hLC := hpc.le
      have hCm := hpc.max
      generalize hA : A k = ak at g0 hpc
      have HA : Hid (A k = ak) := hA
      clear hA
      generalize L k = lk at g0 hpc Hs hN hLk hLC
      generalize C k = ck at g0 hpc hLC hCm
      have Hq : Hid (∃ q, q = off B k) := ⟨_, rfl⟩
      rcases hrel with ⟨rfl, hwr, hr1, hr2⟩ | ⟨hse', hsk, rfl, hown, hB, hno⟩
      · -- nothing is joined yet
        obtain rfl := hwr.symm
        by_cases h1 : s < off B k + lk ∧ off B k < e
        · -- piece k is met
          obtain ⟨h1, h2⟩ := h1
          have hle : off B k ≤ s := by
            rcases Nat.lt_or_eq_of_le hse with h | h
            · exact hr1 h
            · omega
          have i1 : (s : Int) < (off B k : Int) + lk := by omega
          have i2 : (off B k : Int) < e := by omega
          have i3 : (off B k : Int) ≤ s := by omega
          obtain ⟨b', o', rfl, hcell⟩ := hpc.cells.resolve_left (by omega)
          by_cases h3 : e ≤ off B k + lk
          · have i5 : (e : Int) ≤ (off B k : Int) + lk := by omega
            have i7 : (e : Int) - (off B k : Int) ≤ ck := by omega
            clear hcell hpc
            by_cases h4 : s = e
            · subst h4
              have hin : interior B n s = true := interior_true hlt (by omega) (by rw [Hs.out]; omega)
              have Hin : Hid (interior B n s = true) := hin
              clear hin hr1 hr2
              go_wp2_with fail
              go_ret
              exact .inr (.inl ⟨_, rfl, rfl, rfl, Hin.out⟩)
            · have h5 : ¬ (e - off B k = s - off B k) := by omega
              have h6 : e - off B k - (s - off B k) = e - s := by omega
              clear hr1 hr2
              go_wp2_with fail
              go_ret
              exact .inr (.inr (.inl ⟨k, b', o', hlt, HA.out, by omega, hle, by rw [Hs.out]; exact h3, rfl, rfl⟩))
          · -- the joined bytes begin here
            have i5 : ¬ (e : Int) ≤ (off B k : Int) + lk := by omega
            have j1 : (off B k : Int) + lk - off B k = lk := by omega
            have j2 : ¬ (ck = s - off B k) := by omega
            have j3 : (s : Int) - off B k ≤ lk := by omega
            have hes : s < e := by omega
            clear hr1 hr2 hle
            go_wp2_with (first | (at_make; refine wpList_make_own _ rfl _ _ 26 rfl w.heap.size 5 i0 (.int .u8 0) 1 Try.underlying26 hi0 hz0 hz1 _ _ _ (e - s) rfl rfl (by omega) (by rw [hz2]; omega) (by simp only [maxLen]; omega) (by omega) ?_; intro w2 hown2 hgrow2) | (at_builtin; refine wpList_append_fits_any _ rfl _ _ 26 rfl w.heap.size 5 i0 1 Try.underlying26 hi0 hz1 w.heap.size 0 (e - s) [] rfl hown2 _ (lk - (s - off B k)) _ (vals ((B k).drop (s - off B k))) rfl ?_ ?_ ?_ (vals_one _) ?_ ?_))
            case refine_1 => simp [vals_length, hpc.len]
            case refine_3 =>
              intro j u hu
              obtain ⟨hj, rfl⟩ := vals_getElem? hu
              have B2 : Below w.heap.size w w2 := (Below.refl _ _).grown hgrow2 (Nat.le_refl _) (fun k hk => by cases hk)
              have hj' : s - off B k + j < lk := by rw [List.length_drop, hpc.len] at hj; omega
              have := cell_later B2 (hcell (s - off B k + j) hj')
              rw [drop_getD, Nat.add_assoc]
              exact this
            case refine_4 => omega
            case refine_5 =>
              intro w3 hown3 hgrow3
              have B2 : Below w.heap.size w w2 := (Below.refl _ _).grown hgrow2 (Nat.le_refl _) (fun k hk => by cases hk)
              have B3 : Below w.heap.size w w3 := B2.grown hgrow3 (by have := hgrow2.size; omega) (fun j hj => by cases hj; omega)
              have hmin : min (off B (k + 1)) e = off B k + lk := by rw [Hs.out]; omega
              have hm2 : off B k + lk - s = lk - (s - off B k) := by omega
              have hnext : SliceRel B n s e w (k + 1) (.slice (some ⟨w.heap.size, 0, none⟩) (lk - (s - off B k)) (e - s)) w3 := by
                have := SliceRel.next (B := B) (n := n) (s := s) (e := e) (w := w) (w1 := w3) (k := k) (lk := lk) (m := s) hlt hes Hs.out (Nat.le_refl _) (by omega) (by rw [Hs.out]; omega) (by omega) (by rw [Hs.out]; omega)
                  (by
                    rw [hmin, hm2, cut_nil, List.take_of_length_le (by rw [List.length_drop, hpc.len]; omega)]
                    exact hown3) B3
                  (fun r hr => by
                    rcases Nat.lt_or_eq_of_le (Nat.le_of_lt_succ hr) with h | rfl
                    · have := off_mono B (show r + 1 ≤ k by omega)
                      omega
                    · rw [Hs.out]; omega)
                rw [hmin, hm2] at this
                exact this
              clear hmin hm2 hown2 hown3 hgrow2 hgrow3 B2 B3 hcell hpc
              go_wp2_with fail
              go_roundw
              case rel => exact ⟨k + 1, by omega, by go_num, by rw [Hs.out]; go_num, hnext⟩
              case measure => simp [intOf]; omega
        · -- piece k is passed over
          have hq : ∀ v, SliceRel B n s e w k v w → v = .slice none 0 0 → SliceRel B n s e w (k + 1) v w := by
            intro v _ hv
            refine .inl ⟨hv, rfl, fun h => ?_, fun h r hr => ?_⟩
            · have := hr1 h; rw [Hs.out]; omega
            · by_cases hrk : r < k
              · exact hr2 h r hrk
              · obtain rfl : r = k := by omega
                rw [Hs.out]; omega
          have hnext : SliceRel B n s e w (k + 1) (.slice none 0 0) w := hq _ (.inl ⟨rfl, rfl, hr1, hr2⟩) rfl
          clear hq hr1 hr2
          by_cases h2 : s < off B k + lk
          · have i1 : (s : Int) < (off B k : Int) + lk := by omega
            have i2 : ¬ (off B k : Int) < e := by omega
            go_wp2_with fail
            go_roundw
            case rel => exact ⟨k + 1, by omega, by go_num, by rw [Hs.out]; go_num, hnext⟩
            case measure => simp [intOf]; omega
          · have i1 : ¬ (s : Int) < (off B k : Int) + lk := by omega
            have i1' : decide ((s : Int) < (off B k : Int) + lk) = false := decide_eq_false i1
            go_wp2_with fail
            go_roundw
            case rel => exact ⟨k + 1, by omega, by go_num, by rw [Hs.out]; go_num, hnext⟩
            case measure => simp [intOf]; omega
      · -- some bytes are joined
        have hGw : w.heap.size ≤ wr.heap.size := hB.size
        have g : wr.cell? ⟨b, o + k, none⟩ = some (.slice ak lk ck) := cell_later hB g0
        have i1 : (s : Int) < (off B k : Int) + lk := by omega
        have i3 : ¬ (off B k : Int) ≤ s := by omega
        have i4 : (s : Int) < (off B k : Int) := by omega
        clear g0
        by_cases h2 : off B k < e
        · have hmin0 : min (off B k) e = off B k := by omega
          rw [hmin0] at hown ⊢
          have i2 : (off B k : Int) < e := by omega
          have hno' : e ≤ off B (k + 1) → ∀ r, r < k + 1 → ¬ (off B r ≤ s ∧ e ≤ off B (r + 1)) := fun _ r hr => by
            rcases Nat.lt_or_eq_of_le (Nat.le_of_lt_succ hr) with h | rfl
            · exact hno r h
            · omega
          have hno2 : ∀ r, r < k + 1 → ¬ (off B r ≤ s ∧ e ≤ off B (r + 1)) := fun r hr => by
            rcases Nat.lt_or_eq_of_le (Nat.le_of_lt_succ hr) with h | rfl
            · exact hno r h
            · omega
          clear hno hno'
          by_cases hl0 : lk = 0
          · have Hn : Hid (∀ r, r < k + 1 → ¬ (off B r ≤ s ∧ e ≤ off B (r + 1))) := hno2
            clear hno2
            subst hl0
            have hs0 : off B (k + 1) = off B k := Hs.out
            have hnext : SliceRel B n s e w (k + 1) (.slice (some ⟨w.heap.size, 0, none⟩) (off B k - s) (e - s)) wr := by
              refine .inr ⟨hse', by omega, by rw [hs0]; congr 1; omega, ?_, hB, Hn.out⟩
              have hmin1 : min (off B (k + 1)) e = off B k := by omega
              rw [hmin1]; exact hown
            have Hs0 : Hid (off B (k + 1) = off B k) := hs0
            clear hs0
            cases ak with
            | none =>
              have hc0 : ck = 0 := hpc.nil rfl
              subst hc0
              go_wp2_with fail
              go_roundw
              case rel => exact ⟨k + 1, by omega, by go_num, by rw [Hs0.out], hnext⟩
              case measure => simp [intOf]; omega
            | some ad =>
              go_wp2_with fail
              go_roundw
              case rel => exact ⟨k + 1, by omega, by go_num, by rw [Hs0.out], hnext⟩
              case measure => simp [intOf]; omega
          · obtain ⟨b', o', rfl, hcell⟩ := hpc.cells.resolve_left hl0
            have j0 : ¬ (ck = 0) := by omega
            by_cases h3 : (off B k : Int) + lk < e
            · have j1 : (off B k : Int) + lk - off B k = lk := by omega
              have Hn : Hid (∀ r, r < k + 1 → ¬ (off B r ≤ s ∧ e ≤ off B (r + 1))) := hno2
              clear hno2
              go_wp2_with (at_builtin; refine wpList_append_fits_any _ rfl _ _ 26 rfl w.heap.size 5 i0 1 Try.underlying26 hi0 hz1 w.heap.size (off B k - s) (e - s) _ rfl hown _ (lk) _ (vals (B k)) rfl ?_ ?_ ?_ (vals_one _) ?_ ?_)
              case refine_1 => simp [vals_length, hpc.len]
              case refine_3 =>
                intro j u hu
                obtain ⟨hj, rfl⟩ := vals_getElem? hu
                rw [hpc.len] at hj
                exact cell_later hB (hcell j hj)
              case refine_4 => omega
              case refine_5 =>
                intro w3 hown3 hgrow3
                have B3 : Below w.heap.size w w3 := hB.grown hgrow3 hGw (fun j hj => by cases hj; omega)
                have hmin : min (off B (k + 1)) e = off B k + (lk) := by rw [Hs.out]; omega
                have hm2 : off B k + (lk) - s = off B k - s + (lk) := by omega
                have hnext : SliceRel B n s e w (k + 1) (.slice (some ⟨w.heap.size, 0, none⟩) (off B k - s + (lk)) (e - s)) w3 := by
                  have := SliceRel.next (B := B) (n := n) (s := s) (e := e) (w := w) (w1 := w3) (k := k) (lk := lk) (m := off B k) hlt hse' Hs.out (by omega) (Nat.le_refl _) (by rw [Hs.out]; omega) (by omega) (by rw [Hs.out]; omega)
                    (by
                      rw [hmin, hm2, Nat.sub_self, List.drop_zero, Nat.add_sub_cancel_left]
                      rw [List.take_of_length_le (by rw [hpc.len]; exact Nat.le_refl _)]
                      exact hown3) B3 Hn.out
                  rw [hmin, hm2] at this
                  exact this
                clear hmin hm2 hown hown3 hgrow3 B3 hcell hpc
                go_wp2_with fail
                go_roundw
                case rel => exact ⟨k + 1, by omega, by go_num, by rw [Hs.out]; go_num, hnext⟩
                case measure => simp [intOf]; omega
            · have j1 : (e : Int) - off B k ≤ ck := by omega
              have Hn : Hid (∀ r, r < k + 1 → ¬ (off B r ≤ s ∧ e ≤ off B (r + 1))) := hno2
              clear hno2
              go_wp2_with (at_builtin; refine wpList_append_fits_any _ rfl _ _ 26 rfl w.heap.size 5 i0 1 Try.underlying26 hi0 hz1 w.heap.size (off B k - s) (e - s) _ rfl hown _ (e - off B k) _ (vals ((B k).take (e - off B k))) rfl ?_ ?_ ?_ (vals_one _) ?_ ?_)
              case refine_1 => simp [vals_length, hpc.len]; omega
              case refine_3 =>
                intro j u hu
                obtain ⟨hj, rfl⟩ := vals_getElem? hu
                rw [List.length_take, hpc.len] at hj
                rw [take_getD _ (by omega)]
                exact cell_later hB (hcell j (by omega))
              case refine_4 => omega
              case refine_5 =>
                intro w3 hown3 hgrow3
                have B3 : Below w.heap.size w w3 := hB.grown hgrow3 hGw (fun j hj => by cases hj; omega)
                have hmin : min (off B (k + 1)) e = off B k + (e - off B k) := by rw [Hs.out]; omega
                have hm2 : off B k + (e - off B k) - s = off B k - s + (e - off B k) := by omega
                have hnext : SliceRel B n s e w (k + 1) (.slice (some ⟨w.heap.size, 0, none⟩) (off B k - s + (e - off B k)) (e - s)) w3 := by
                  have := SliceRel.next (B := B) (n := n) (s := s) (e := e) (w := w) (w1 := w3) (k := k) (lk := lk) (m := off B k) hlt hse' Hs.out (by omega) (Nat.le_refl _) (by rw [Hs.out]; omega) (by omega) (by rw [Hs.out]; omega)
                    (by
                      rw [hmin, hm2, Nat.sub_self, List.drop_zero, Nat.add_sub_cancel_left]
                      exact hown3) B3 Hn.out
                  rw [hmin, hm2] at this
                  exact this
                clear hmin hm2 hown hown3 hgrow3 B3 hcell hpc
                go_wp2_with fail
                go_roundw
                case rel => exact ⟨k + 1, by omega, by go_num, by rw [Hs.out]; go_num, hnext⟩
                case measure => simp [intOf]; omega
        · -- all is joined: the rest is passed over
          have i2 : ¬ (off B k : Int) < e := by omega
          have hmin0 : min (off B k) e = e := by omega
          have hmin1 : min (off B (k + 1)) e = e := by rw [Hs.out]; omega
          have hnext : SliceRel B n s e w (k + 1) (.slice (some ⟨w.heap.size, 0, none⟩) (min (off B k) e - s) (e - s)) wr := by
            refine .inr ⟨hse', by rw [Hs.out]; omega, by rw [hmin0, hmin1], ?_, hB, fun r hr => ?_⟩
            · rw [hmin1]; rw [hmin0] at hown; exact hown
            · rcases Nat.lt_or_eq_of_le (Nat.le_of_lt_succ hr) with h | rfl
              · exact hno r h
              · omega
          clear hmin0 hmin1
          go_wp2_with fail
          go_roundw
          case rel => exact ⟨k + 1, by omega, by go_num, by rw [Hs.out]; go_num, hnext⟩
          case measure => simp [intOf]; omega
    · have hkn : n = k := by omega
      subst hkn
      rcases hrel with ⟨rfl, hwr, hr1, hr2⟩ | ⟨hse', hsk, rfl, hown, hB, hno⟩
      · obtain rfl := hwr.symm
        have h4 : s = e := by
          rcases Nat.lt_or_eq_of_le hse with h | h
          · have := hr1 h; omega
          · exact h
        have hin : interior B n s = false := interior_false fun r hr => by have := hr2 h4 r hr; omega
        have H4 : Hid (s = e ∧ interior B n s = false) := ⟨h4, hin⟩
        clear h4 hin hr1 hr2
        go_wp2_with fail
        go_ret
        exact .inl ⟨rfl, rfl, H4.out.1, H4.out.2⟩
      · have hmin : min (off B n) e = e := by omega
        rw [hmin] at hown
        have h6 := block_of_own hown
        go_wp2_with fail
        go_ret
        exact .inr (.inr (.inr ⟨_, by simp only [hmin]; rfl, hse', Nat.le_refl _, h6, hB, hno⟩))
end Go.Proofs.Qxb6628816a
