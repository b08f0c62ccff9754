/-
  The law FnPiecesSliceOwnsNoRoomAndAliasesOnlyOnePiece over qxb6628816a: its walk out of the callees' contracts.
-/
import Derived.Test.Qxb6628816aClone
import Derived.ArgAppend
import Derived.Deep.DeepCutAuto
namespace Go.Proofs.Qxb6628816a
open Go.RowKit

/-- What a store into the first byte of Slice's answer does to the cloned pieces. -/
theorem stored {w2 w3 : World} {B0 G1 : Nat} {qa ao : Option Addr} {n s e : Nat} {A : Nat → Option Addr} {L : Nat → Nat} {B : Nat → List Int} (hC : Cl w2 B0 qa n A L B) (hB0 : B0 ≤ w2.heap.size) (hG1 : G1 < w2.heap.size) (hlt : ∀ r g, r < n → A r = some ⟨g, 0, none⟩ → g < G1)
    (hse : s < e) (heT : e ≤ off B n) (hout : SliceOut B n s e A w2 (.returned (.slice ao (e - s) (e - s))) w3) :
    ∃ b o, ao = some ⟨b, o, none⟩ ∧ B0 ≤ b ∧ b ≠ G1 ∧ ∀ w5, Below w3.heap.size w3 w5 → ∀ v : Int, ∃ B', Cl (w5.setCell ⟨b, o, none⟩ (.int .u8 v)) B0 qa n A L B' ∧ off B' n = off B n ∧
      (∀ j, j < off B n → (flat B' n).getD j 0 = if within B n s e = true ∧ j = s then v else (flat B n).getD j 0) ∧
      w5.cell? ⟨b, o, none⟩ = some (.int .u8 ((flat B n).getD s 0)) ∧ w5.frozen? ⟨b, o, none⟩ = false := by
  rcases hout with ⟨h, _, rfl, _⟩ | ⟨ad, h, _, rfl, _⟩ | ⟨r, b, o, hr, hA, _, h1, h2, hq, rfl⟩ | ⟨g, hq, _, hg0, hg, hb, hno⟩
  · omega
  · omega
  · simp only [Ending.returned.injEq, Value.slice.injEq, and_self, and_true] at hq
    rcases hC.own r hr with ⟨hA0, _⟩ | ⟨g, hA', hg0, hg⟩
    · rw [hA] at hA0; cases hA0
    · rw [hA] at hA'
      cases hA'
      have hs := (hC.pieces).off_succ hr
      have hl := hC.len r hr
      rw [Nat.zero_add] at hq
      refine ⟨b, s - off B r, hq, hg0, by have := hlt r b hr hA; omega, fun w5 hb v => ⟨setB B r (s - off B r) v, (hC.later hb).put hr hA _ v, setB_off _ _ _ _ _, fun j hj => ?_, ?_, ?_⟩⟩
      · rw [setB_getD v hr (by omega) hj, within_true hr (by omega) (by omega)]
        simp only [true_and]
        rw [show off B r + (s - off B r) = s by omega]
      · rw [byte_of (block_later hg hb) (by omega), ← flat_getD B hr (by omega), show off B r + (s - off B r) = s by omega]
      · exact frozen_of (block_later hg hb) _
  · simp only [Ending.returned.injEq, Value.slice.injEq, and_self, and_true] at hq
    refine ⟨g, 0, hq, by omega, by omega, fun w5 hb' v => ?_⟩
    have hC5 := (hC.later hb).later hb'
    have hq0 : ∀ g', qa = some ⟨g', 0, none⟩ → n ≠ 0 → g' < w2.heap.size := fun g' e' hn0 => by
      rcases hC.rows with h0 | ⟨g0, e1, _, e3, _⟩
      · exact absurd h0 hn0
      · rw [e1] at e'; cases e'; exact e3.lt
    have hn0 : n ≠ 0 := fun h => by subst h; simp [off_zero] at heT; omega
    refine ⟨B, hC5.other _ (fun g' e' => by have := hq0 g' e' hn0; omega) (fun r g' hr e' => by have := hlt r g' hr e'; omega), rfl, fun j hj => ?_, ?_, frozen_of (block_later hg hb') _⟩
    · rw [within_false fun r hr => by have := hno r hr; omega]
      simp
    · rw [byte_of (block_later hg hb') (by rw [cut_length heT]; omega), cut_getD (by omega), Nat.add_zero]

set_option maxRecDepth 100000 in
set_option maxHeartbeats 1000000 in
theorem law2 (a : Option Addr) (n cap : Nat) (A : Nat → Option Addr) (L C : Nat → Nat) (B : Nat → List Int) (si ei : Int) (w : World) (hP : Pieces w a n A L C B) :
    Calls Try.prog 4 #[.slice a n cap, .int .i64 si, .int .i64 ei] w fun q w' => q = .returned (.bool true) ∧ Below w.heap.size w w' := by
  have hnil := @Lib.run_eql_slice_nil Try.prog
  go_enter Try.func4, Try.ntmps4
  go_wp2_with fail
  refine (bytesB_any a n cap A L C B _ _ w hP).mono ?_
  rintro q w' ⟨⟨b, rfl, hL⟩, rfl⟩
  cases b
  · go_wp2_with fail
    go_ret
    exact ⟨rfl, Below.refl _ _⟩
  have hL2 := hL rfl
  clear hL
  go_wp2_with fail
  refine (total_any a n cap A L C B w hP hL2).mono ?_
  rintro q w' ⟨rfl | ⟨rfl, hn, hT⟩, rfl⟩
  · go_wp2_with fail
    go_ret
    exact ⟨rfl, Below.refl _ _⟩
  by_cases c1 : si < 0
  · go_wp2_with fail
    go_ret
    exact ⟨rfl, Below.refl _ _⟩
  by_cases c2 : ei < si
  · go_wp2_with fail
    go_ret
    exact ⟨rfl, Below.refl _ _⟩
  by_cases c3 : (off B n : Int) < ei
  · go_wp2_with fail
    go_ret
    exact ⟨rfl, Below.refl _ _⟩
  obtain ⟨s, rfl⟩ := Int.eq_ofNat_of_zero_le (show 0 ≤ si by omega)
  obtain ⟨e, rfl⟩ := Int.eq_ofNat_of_zero_le (show 0 ≤ ei by omega)
  have hse : s ≤ e := by omega
  have heT : e ≤ off B n := by omega
  clear c1 c2 c3
  go_wp2_with fail
  refine (clone_any a n cap A L C B w hP hn hL2).mono ?_
  rintro q w1 ⟨qa, A', rfl, hC1, hb1⟩
  clear hL2 hP
  go_wp2_with fail
  refine (flat_any qa n n A' L L B w1 hC1.pieces hn hT).mono ?_
  rintro q w2 ⟨rfl, hG, hb2⟩
  have hC2 := hC1.later hb2
  have hlt1 : ∀ r g, r < n → A' r = some ⟨g, 0, none⟩ → g < w1.heap.size := fun r g hr hA => by
    rcases hC1.own r hr with ⟨h0, _⟩ | ⟨g', h1, _, h3⟩
    · rw [hA] at h0; cases h0
    · rw [hA] at h1; cases h1; exact (Array.getElem?_eq_some_iff.1 h3).1
  have Hlt1 : Hid (∀ r g, r < n → A' r = some ⟨g, 0, none⟩ → g < w1.heap.size) := hlt1
  have T2 := below_then hb1 hb2
  have hl2 : w1.heap.size < w2.heap.size := (Array.getElem?_eq_some_iff.1 hG).1
  have hB0 : w.heap.size ≤ w2.heap.size := T2.size
  clear hC1 hb1 hb2 hlt1
  obtain ⟨one, Hone⟩ : ∃ one : Bool, Hid (one = (decide (s < e) && within B n s e)) := ⟨_, rfl⟩
  go_upto_region 10 with fail
  go_cut [11] (fun v wc => v = .bool one ∧ w2 = wc)
  case first =>
    by_cases hlt : s < e
    · have i1 : (s : Int) < (e : Int) := by omega
      have h1 : one = within B n s e := by rw [Hone.out]; simp [hlt]
      clear Hone
      subst h1
      go_wp2_with (go_at_call 12; refine (within_any qa n n A' L L B s e w2 hC2.pieces hT).mono ?_; rintro q w' ⟨rfl, rfl⟩)
      go_meet
      case rel => exact ⟨rfl, rfl⟩
    · have i1 : decide ((s : Int) < (e : Int)) = false := decide_eq_false (by omega)
      have h1 : one = false := by rw [Hone.out]; simp [hlt]
      clear Hone
      subst h1
      go_wp2_with fail
      go_meet
      case rel => exact ⟨rfl, rfl⟩
  case rest =>
    obtain ⟨rfl, rfl⟩ := hcut
    go_wp2_with fail
    refine (slice_any qa n n A' L L B s e w2 hC2.pieces hn hT hse heT).mono ?_
    intro q w3 hout
    obtain ⟨ao, hq, hb3, hby, hnone⟩ := slice_read hC2.pieces heT hout
    subst hq
    have Hout : Hid (SliceOut B n s e A' w2 (.returned (.slice ao (e - s) (e - s))) w3) := hout
    have T3 := below_then T2 hb3
    have hb3' : w2.heap.size ≤ w3.heap.size := hb3.size
    have hG3 := block_later hG hb3
    have hC3 := hC2.later hb3
    have hnil0 : ao = none → s = e := fun h => by
      rw [h] at hnone
      by_cases h' : s = e
      · exact h'
      · simp [h'] at hnone
    have Hnil : Hid (ao = none → s = e) := hnil0
    clear hout hnone hG hb3 hnil0
    obtain ⟨T, hTT⟩ : ∃ T, T = off B n := ⟨_, rfl⟩
    have HT : Hid (T = off B n) := hTT
    rw [← hTT] at hT heT ⊢
    have hbG : ∀ j, j < T → w3.cell? ⟨w1.heap.size, j, none⟩ = some (.int .u8 ((flat B n).getD j 0)) := fun j hj => byte_of hG3 (by rw [flat_length]; omega)
    have HbG : Hid (∀ j, j < T → w3.cell? ⟨w1.heap.size, j, none⟩ = some (.int .u8 ((flat B n).getD j 0))) := hbG
    have Hby : Hid (BytesAt w3 ao (e - s) (fun i => (flat B n).getD (s + i) 0)) := hby
    clear hTT hby hbG
    have hes : ((e - s : Nat) : Int) = (e : Int) - s := by omega
    have c1 : ¬ (e : Int) < s := by omega
    have hm : e - s ≤ 1048576 := by omega
    go_wp2_with fail
    go_loopw [13] (fun i wr => ∃ k nd : Nat, k ≤ e - s ∧ i = .int .i64 k ∧ wr = w3.drewN nd) (fun i _ => (e - s) - (intOf i).toNat)
    case atStart => exact ⟨0, 0, Nat.zero_le _, rfl, rfl⟩
    case round =>
      obtain ⟨k, nd, hk, rfl, rfl⟩ := hrel
      by_cases hlt : k < e - s
      · obtain ⟨b, o, hao, hc⟩ := Hby.out.resolve_left (by omega)
        have g1 : w3.cell? ⟨b, o + k, none⟩ = some (.int .u8 ((flat B n).getD (s + k) 0)) := hc k hlt
        have g2 := HbG.out (s + k) (by omega)
        generalize (flat B n).getD (s + k) 0 = x at g1 g2
        have e1 : (k : Int) < ((e - s : Nat) : Int) := by omega
        have e2 : (0 : Int) ≤ (k : Int) := by omega
        have e3 : (0 : Int) ≤ (s : Int) + k := by omega
        have e4 : (s : Int) + k < (T : Int) := by omega
        have e5 : (s : Int) + k ≤ 9223372036854775807 := by omega
        clear hc
        subst hao
        go_wp2_with fail
        go_quiet (fail)
        go_wp2_with fail
        go_roundw
        case rel => exact ⟨k + 1, nd + nq, by omega, by go_num, by simp⟩
        case measure => simp [intOf]; omega
      · obtain ⟨i0, hi0, hz0, hz1, hz2⟩ := info_parts Try.info5
        go_wp2_with (at_builtin; refine wpList_append_grows _ rfl _ _ 26 rfl 5 i0 (.int .u8 0) 1 1 Try.underlying26 hi0 hz0 hz1 hz2 rfl (by omega) ao (e - s) (e - s) (vals (cut B n s e)) rfl ?_ ?_ ?_ ⟨w3.heap.size, 0, none⟩ 2 2 [.int .u8 165, .int .u8 90] rfl rfl ?_ ?_ ?_ ?_ ?_ ?_)
        case refine_1 => intro h; have := Hnil.out h; omega
        case refine_2 => rw [vals_length, cut_length (by rw [← HT.out]; exact heT)]; omega
        case refine_3 =>
          intro bb hbb j u hu
          obtain ⟨hj, rfl⟩ := vals_getElem? hu
          rw [cut_length (by rw [← HT.out]; exact heT)] at hj
          obtain ⟨b', o', hao, hc⟩ := Hby.out.resolve_left (by omega)
          rw [hbb] at hao
          cases hao
          rw [Addr.add_lit, cut_getD hj]
          exact cell_later ((below_drewN (Below.refl _ _) nd).alloc (Nat.le_refl _) _) (hc j hj)
        case refine_4 => exact World.news_of_block (cs := #[.int .u8 165, .int .u8 90]) (t := 5) (fr := (0, 0)) (heap_alloc_new (w3.drewN nd) _)
        case refine_5 => simp [Value.oneCell']
        case refine_6 => omega
        case refine_7 => simp only [maxLen]; omega
        case refine_8 => omega
        case refine_9 =>
          intro v' w4 hown4 hgrow4
          obtain ⟨g, cap4, rfl, hg4, _⟩ := hown4.form (by omega)
          have B4 : Below w3.heap.size w3 w4 := ((below_drewN (Below.refl _ _) nd).alloc (Nat.le_refl _) _).grown hgrow4 (by simp) (fun j hj => by cases hj)
          have c4 : w4.cell? ⟨g, e - s, none⟩ = some (.int .u8 165) := by
            have := hown4.cells (g := g) rfl (e - s) (.int .u8 165) (by
              rw [List.getElem?_append_right (by rw [vals_length, cut_length (by rw [← HT.out]; exact heT)]; exact Nat.le_refl _), vals_length, cut_length (by rw [← HT.out]; exact heT), Nat.sub_self]
              rfl)
            rw [Addr.add_lit, Nat.zero_add] at this
            exact this
          have hC4 := hC3.later B4
          clear hown4 hgrow4 hg4 hi0 hz0 hz1 hz2
          have f1 : ((e - s : Nat) : Int) < ((e - s + 2 : Nat) : Int) := by omega
          go_wp2_with fail
          have fl4 := flat_any qa n n A' L L B w4 hC4.pieces hn (by rw [← HT.out]; exact hT)
          rw [← HT.out] at fl4
          refine fl4.mono ?_
          clear fl4
          rintro q w5 ⟨rfl, hG5, hb5⟩
          have B5 := below_then B4 hb5
          clear c4 f1
          go_wp2_with fail
          have hc1 : ∀ j, j < T → w5.cell? ⟨w4.heap.size, j, none⟩ = some (.int .u8 ((flat B n).getD j 0)) := fun j hj => byte_of hG5 (by rw [flat_length, ← HT.out]; exact hj)
          have hc2 : ∀ j, j < T → w5.cell? ⟨w1.heap.size, j, none⟩ = some (.int .u8 ((flat B n).getD j 0)) := fun j hj => cell_later B5 (HbG.out j hj)
          refine (equal_any w4.heap.size w1.heap.size T T T (fun j => (flat B n).getD j 0) w5 hT hc1 hc2).mono ?_
          rintro q w6 ⟨rfl, hb6⟩
          have B6 := below_then B5 hb6
          have T6 := below_then T3 B6
          clear hc1 hc2 hG5 hb5 hb6 B5 B4 hC4
          by_cases hq : s = e
          · have i1 : ((s : Int) == (e : Int)) = true := by simp [hq]
            have Hq : Hid (s = e) := hq
            clear hq
            go_wp2_with fail
            go_ret
            exact ⟨rfl, T6⟩
          have hlt' : s < e := by omega
          have i1 : ((s : Int) == (e : Int)) = false := by simp; omega
          obtain ⟨b, o, hao, hb0, hbG1, hst⟩ := stored hC2 hB0 hl2 Hlt1.out hlt' (by rw [← HT.out]; exact heT) Hout.out
          obtain ⟨B', hC7, hoff, hF, hcell, hfr⟩ := hst w6 B6 (bits .xor .u8 ((flat B n).getD s 0) 255)
          have h1 : one = within B n s e := by rw [Hone.out]; simp [hlt']
          rw [← h1] at hF
          have HF : Hid (∀ j, j < T → (flat B' n).getD j 0 = if one = true ∧ j = s then bits .xor .u8 ((flat B n).getD s 0) 255 else (flat B n).getD j 0) := fun j hj => hF j (by rw [← HT.out]; exact hj)
          have Hoff : Hid (off B' n = T) := hoff.trans HT.out.symm
          clear hst hF hoff h1 hC2 hC3 Hout
          have hG6 : ∀ j, j < T → w6.cell? ⟨w1.heap.size, j, none⟩ = some (.int .u8 ((flat B n).getD j 0)) := fun j hj => cell_later B6 (HbG.out j hj)
          have HG6 : Hid (∀ j, j < T → w6.cell? ⟨w1.heap.size, j, none⟩ = some (.int .u8 ((flat B n).getD j 0))) := hG6
          have l1 : w1.heap.size < w6.heap.size := Nat.lt_of_lt_of_le hl2 (by have := B6.size; have := (hb3' : w2.heap.size ≤ w3.heap.size); omega)
          clear hG6 HbG Hby B6
          have Hx : Hid (∃ x, x = (flat B n).getD s 0) := ⟨_, rfl⟩
          generalize hxx : (flat B n).getD s 0 = x at hcell HF hC7
          have Hxx : Hid ((flat B n).getD s 0 = x) := hxx
          clear hxx
          subst hao
          have i2 : (0 : Int) < ((e - s : Nat) : Int) := by omega
          go_wp2_with fail
          have fl7 := flat_any qa n n A' L L B' _ hC7.pieces hn (by rw [Hoff.out]; exact hT)
          rw [Hoff.out] at fl7
          refine fl7.mono ?_
          clear fl7
          rintro q w8 ⟨rfl, hG8, hb8⟩
          have T8 : Below w.heap.size w w8 := below_then (T6.setCell (p := ⟨b, o, none⟩) hb0 _) hb8
          have HG1 : Hid (∀ j, j < T → w8.cell? ⟨w1.heap.size, j, none⟩ = some (.int .u8 ((flat B n).getD j 0))) := fun j hj => by
            refine cell_later hb8 ?_
            rw [World.cell?_of_block (w := w6) (Below.heap_setCell _ _ _ _ (fun h => hbG1 h.symm))]
            exact HG6.out j hj
          have HG2 : Hid (∀ j, j < T → w8.cell? ⟨w6.heap.size, j, none⟩ = some (.int .u8 ((flat B' n).getD j 0))) := fun j hj => by
            have := byte_of hG8 (j := j) (by rw [flat_length, Hoff.out]; exact hj)
            rwa [World.size_setCell] at this
          clear hG8 hb8 T6 HG6 hC7 hcell hfr i1 i2 l1 hb0 hbG1
          go_wp2_with fail
          go_loop [16, 17] (fun i u => ∃ k : Nat, k ≤ T ∧ i = .int .i64 k) (fun i _ => T - (intOf i).toNat)
          case atStart => exact ⟨0, Nat.zero_le _, rfl⟩
          case round =>
            obtain ⟨j, hj, rfl⟩ := hrel
            by_cases hjT : j < T
            · have e1 : (j : Int) < (T : Int) := by omega
              have g1 := HG1.out j hjT
              have g2 := HG2.out j hjT
              have hF := HF.out j hjT
              by_cases ho : one = true
              · by_cases hjs : j = s
                · rw [if_pos ⟨ho, hjs⟩] at hF
                  rw [hF] at g2
                  rw [hjs, Hxx.out] at g1
                  have i3 : ((s : Int) == (s : Int)) = true := by simp
                  rw [hjs] at g2 e1
                  subst hjs
                  subst ho
                  clear hF
                  go_wp2_with fail
                  go_round
                  case rel => exact ⟨j + 1, by omega, by go_num⟩
                  case measure => simp [intOf]; omega
                · rw [if_neg (fun h => hjs h.2)] at hF
                  rw [hF] at g2
                  have i3 : ((j : Int) == (s : Int)) = false := by simp; omega
                  clear hF
                  generalize (flat B n).getD j 0 = y at g1 g2
                  subst ho
                  go_wp2_with fail
                  go_round
                  case rel => exact ⟨j + 1, by omega, by go_num⟩
                  case measure => simp [intOf]; omega
              · rw [if_neg (fun h => ho h.1)] at hF
                rw [hF] at g2
                have ho' : one = false := by simpa using ho
                clear hF ho
                generalize (flat B n).getD j 0 = y at g1 g2
                subst ho'
                go_wp2_with fail
                go_round
                case rel => exact ⟨j + 1, by omega, by go_num⟩
                case measure => simp [intOf]; omega
            · go_wp2_with fail
              go_ret
              exact ⟨rfl, T8⟩
end Go.Proofs.Qxb6628816a
