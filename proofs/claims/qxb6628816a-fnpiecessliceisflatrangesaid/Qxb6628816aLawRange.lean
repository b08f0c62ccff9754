/-
  The law FnPiecesSliceIsFlatRange over qxb6628816a: its walk out of the callees' contracts.
-/
import Derived.Test.Qxb6628816aAids
namespace Go.Proofs.Qxb6628816a
open Go.RowKit

set_option maxRecDepth 100000 in
set_option maxHeartbeats 1000000 in
theorem law1 (a : Option Addr) (n cap : Nat) (A : Nat → Option Addr) (L C : Nat → Nat) (B : Nat → List Int) (si ei : Int) (w : World) (hP : Pieces w a n A L C B) :
    Calls Try.prog 3 #[.slice a n cap, .int .i64 si, .int .i64 ei] w fun q w' => q = .returned (.bool true) ∧ Below w.heap.size w w' := by
  have hnil := @Lib.run_eql_slice_nil Try.prog
  go_enter Try.func3, Try.ntmps3
  go_wp2_with fail
  refine (bytesA_any a n cap A L C B _ _ w hP).mono ?_
  rintro q w' ⟨⟨b, rfl, hL⟩, rfl⟩
  cases b
  · go_wp2_with fail
    go_ret
    exact ⟨rfl, Below.refl _ _⟩
  have hL2 := hL rfl
  clear hL
  go_wp2_with fail
  refine (total_any a n cap A L C B w hP hL2).mono ?_
  rintro q w' ⟨rfl | ⟨rfl, hn, hT⟩, rfl⟩
  · go_wp2_with fail
    go_ret
    exact ⟨rfl, Below.refl _ _⟩
  by_cases c1 : si < 0
  · go_wp2_with fail
    go_ret
    exact ⟨rfl, Below.refl _ _⟩
  by_cases c2 : ei < si
  · go_wp2_with fail
    go_ret
    exact ⟨rfl, Below.refl _ _⟩
  by_cases c3 : (off B n : Int) < ei
  · go_wp2_with fail
    go_ret
    exact ⟨rfl, Below.refl _ _⟩
  obtain ⟨s, rfl⟩ := Int.eq_ofNat_of_zero_le (show 0 ≤ si by omega)
  obtain ⟨e, rfl⟩ := Int.eq_ofNat_of_zero_le (show 0 ≤ ei by omega)
  have hse : s ≤ e := by omega
  have heT : e ≤ off B n := by omega
  clear c1 c2 c3
  go_wp2_with fail
  clear hL2
  refine (flat_any a n cap A L C B w hP hn hT).mono ?_
  rintro q w1 ⟨rfl, hG, hb1⟩
  have hP1 := hP.later hb1
  go_wp2_with fail
  refine (interior_any a n cap A L C B _ w1 hP1 hT).mono ?_
  rintro q w' ⟨rfl, rfl⟩
  go_wp2_with fail
  refine (slice_any a n cap A L C B s e w1 hP1 hn hT hse heT).mono ?_
  intro q w2 hout
  obtain ⟨ao, rfl, hb2, hby, hnone⟩ := slice_read hP1 heT hout
  clear hout hP hP1
  have hG2 := block_later hG hb2
  have T2 := below_then hb1 hb2
  clear hG hb1 hb2
  have hbG : ∀ i, i < e - s → w2.cell? ⟨w.heap.size, s + i, none⟩ = some (.int .u8 ((flat B n).getD (s + i) 0)) := fun i hi => byte_of hG2 (by rw [flat_length]; omega)
  clear hG2
  generalize interior B n ↑s = inn at hnone ⊢
  have Hn : Hid (ao.isNone = (decide (s = e) && !inn)) := hnone
  clear hnone
  have hes : ((e - s : Nat) : Int) = (e : Int) - s := by omega
  have c1 : ¬ (e : Int) < s := by omega
  have hm : e - s ≤ 1048576 := by omega
  generalize hF : (fun i => (flat B n).getD (s + i) 0) = F at hby
  have hF' : ∀ i, (flat B n).getD (s + i) 0 = F i := fun i => by rw [← hF]
  clear hF
  generalize off B n = T at *
  have hbG2 : ∀ i, i < e - s → w2.cell? ⟨w.heap.size, s + i, none⟩ = some (.int .u8 (F i)) := fun i hi => by rw [← hF']; exact hbG i hi
  clear hbG hF'
  go_wp2_with fail
  go_loopw [12] (fun i wr => ∃ k nd : Nat, k ≤ e - s ∧ i = .int .i64 k ∧ wr = w2.drewN nd) (fun i _ => (e - s) - (intOf i).toNat)
  case atStart => exact ⟨0, 0, Nat.zero_le _, rfl, rfl⟩
  case round =>
    obtain ⟨k, nd, hk, rfl, rfl⟩ := hrel
    by_cases hlt : k < e - s
    · obtain ⟨b, o, rfl, hc⟩ := hby.resolve_left (by omega)
      have g1 := hc k hlt
      have g2 := hbG2 k hlt
      have e1 : (k : Int) < ((e - s : Nat) : Int) := by omega
      have e2 : (0 : Int) ≤ (k : Int) := by omega
      have e3 : (0 : Int) ≤ (s : Int) + k := by omega
      have e4 : (s : Int) + k < (T : Int) := by omega
      have e5 : (s : Int) + k ≤ 9223372036854775807 := by omega
      clear hc hbG2
      go_wp2_with fail
      go_quiet (fail)
      go_wp2_with fail
      go_roundw
      case rel => exact ⟨k + 1, nd + nq, by omega, by go_num, by simp⟩
      case measure => simp [intOf]; omega
    · clear hby hbG2
      by_cases hq : s = e
      · have e1 : ((s : Int) == (e : Int)) = true := by simp [hq]
        have e2 : ao.isNone = !inn := by rw [Hn.out]; simp [hq]
        clear hq
        go_wp2_with fail
        go_ret
        exact ⟨by simp, below_drewN T2 _⟩
      · have e1 : ((s : Int) == (e : Int)) = false := by simp; omega
        have e2 : ao.isNone = false := by rw [Hn.out]; simp [hq]
        go_wp2_with fail
        go_ret
        exact ⟨by simp, below_drewN T2 _⟩
end Go.Proofs.Qxb6628816a
