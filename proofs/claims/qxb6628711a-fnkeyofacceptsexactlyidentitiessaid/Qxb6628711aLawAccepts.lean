/-
  The law FnKeyOfAcceptsExactlyIdentities over qxb6628711a: its walk out of the callees' contracts.
-/
import Derived.Test.Qxb6628711aAids
namespace Go.Proofs.Qxb6628711a
open Go.RowKit

set_option maxHeartbeats 1000000 in
theorem law2 (name addr : ByteArray) (ka : Option Addr) (kl kc : Nat) (a : Option Addr) (len cap : Nat) (A : Nat → Option Addr) (L C : Nat → Nat) (i : Int) (w : World)
    (hk : BytesAt w ka kl) (hr : RowsAt w a len A L C) (hL : ∀ r, r < len → BytesAt w (A r) (L r)) (hm : len ≤ 9223372036854775807) :
    Calls Try.prog 4 #[.string name, .string addr, .slice ka kl kc, .slice a len cap, .int .i64 i] w fun e w' => e = .returned (.bool true) ∧ Below w.heap.size w w' := by
  have hL' : ∀ r, r < len → L r ≤ 9223372036854775807 := fun r h => (hL r h).1
  go_enter Try.func4, Try.ntmps4
  go_wp2_with fail
  refine (bytes2_any name addr ka kl kc a len cap A L C i w hr hL').mono ?_
  rintro e w' ⟨⟨b, rfl, hb⟩, hw⟩
  obtain rfl := hw.symm
  cases b
  · go_wp2_with fail
    go_ret
    exact ⟨rfl, Below.refl _ _⟩
  have hm1 := hb rfl
  clear hb
  go_wp2_with fail
  refine (tooBig_any name addr ka none kl kc 0 0 a len cap A L C w (by omega) hr hL').mono ?_
  rintro e w' ⟨⟨b, rfl⟩, hw⟩
  obtain rfl := hw.symm
  cases b
  case true =>
    go_wp2_with fail
    go_ret
    exact ⟨rfl, Below.refl _ _⟩
  go_wp2_with fail
  refine (member_any name addr ka kl kc a len cap A L C w (by omega) hr).mono ?_
  rintro e w1 ⟨va, vc, rfl, hr1, hb1⟩
  go_wp2_with fail
  refine (identities_any name addr _ va len vc _ (by omega)).mono ?_
  rintro e w2 ⟨rfl, rfl⟩
  have T2 := below_then (below_then hb1 (below_alloc w1 (.cells #[.string name, .string addr, .slice ka kl kc, .slice va len vc] 29))) (below_alloc _ (.cells #[.string name, .string addr, .slice ka kl kc, .slice va len vc] 29))
  have N2 := (M4.new w1 name addr (.slice ka kl kc) (.slice va len vc)).later (below_alloc _ (.cells #[.string name, .string addr, .slice ka kl kc, .slice va len vc] 29))
  have R2 := (hr1.later (below_alloc w1 (.cells #[.string name, .string addr, .slice ka kl kc, .slice va len vc] 29))).later (below_alloc _ (.cells #[.string name, .string addr, .slice ka kl kc, .slice va len vc] 29))
  have e1 : (1 + (len : Int) - 1) = len := by omega
  have hnn := @run_neq_slice_nil_any Try.prog
  have o1 : pick ka none len A (1 + (len : Int)) = none := pick_out _ _ _ _ _ (by omega)
  have o2 : pick kl 0 len L (1 + (len : Int)) = 0 := pick_out _ _ _ _ _ (by omega)
  have o3 : pick kc 0 len C (1 + (len : Int)) = 0 := pick_out _ _ _ _ _ (by omega)
  have o4 : inB len (1 + (len : Int)) = false := inB_false _ _ (by omega)
  have o5 : inB len (len : Int) = true := inB_true _ _ (by omega) (by omega)
  by_cases h0 : len = 0
  · have p1 : pick ka none len A (len : Int) = ka := by rw [h0]; rfl
    have p2 : pick kl 0 len L (len : Int) = kl := by rw [h0]; rfl
    have p3 : pick kc 0 len C (len : Int) = kc := by rw [h0]; rfl
    have e0 : ((len : Int) == 0) = true := by simp [h0]
    have hxb := hk
    clear h0 hL hL'
    go_wp2_with fail
    refine (keyOf_any name addr ka kl kc va len vc A L C _ _ (by omega) R2).mono ?_
    rintro e w3 ⟨rfl, hb3⟩
    have T3 := below_then T2 hb3
    have N3 := N2.later hb3
    have R3 := R2.later hb3
    clear T2 N2 R2 hb3
    go_wp2_with fail
    refine (sameKey_self _ _ _ w3 (hxb.later T3)).mono ?_
    rintro e w4 ⟨rfl, nn, hw4⟩
    have hb4 : Below w3.heap.size w3 w4 := by rw [hw4]; exact below_drewN (Below.refl _ _) nn
    clear hw4
    have T4 := below_then T3 hb4
    have N4 := N3.later hb4
    have R4 := R3.later hb4
    clear T3 N3 R3 hb4
    obtain ⟨q0, q1, q2, q3⟩ := id N4
    go_wp2_with fail
    refine (keyOf_any name addr ka kl kc va len vc A L C _ _ (by omega) R4).mono ?_
    rintro e w5 ⟨rfl, hb5⟩
    have T5 := below_then T4 hb5
    have N5 := N4.later hb5
    have R5 := R4.later hb5
    clear T4 N4 R4 hb5 q0 q1 q2 q3
    obtain ⟨q0, q1, q2, q3⟩ := id N5
    go_wp2_with fail
    refine (keyOf_any name addr ka kl kc va len vc A L C _ _ (by omega) R5).mono ?_
    rintro e w6 ⟨rfl, hb6⟩
    have T6 := below_then T5 hb6
    clear T5 N5 R5 hb6 q0 q1 q2 q3
    by_cases hi : 0 ≤ i ∧ i ≤ ((len : Nat) : Int)
    · have i1 : inB len i = true := inB_true _ _ hi.1 hi.2
      have i2 : 0 ≤ i := hi.1
      have i3 : i < 1 + ((len : Nat) : Int) := by omega
      clear hi
      go_wp2_with fail
      go_ret
      exact ⟨rfl, T6⟩
    · have hi' : i < 0 ∨ ((len : Nat) : Int) < i := by omega
      have i1 : inB len i = false := inB_false _ _ hi'
      have r1 : pick ka none len A i = none := pick_out _ _ _ _ _ hi'
      clear hi
      rcases hi' with i2 | i2
      · go_wp2_with fail
        go_ret
        exact ⟨rfl, T6⟩
      · have i3 : 0 ≤ i := by omega
        have i4 : ¬ i < 1 + ((len : Nat) : Int) := by omega
        go_wp2_with fail
        go_ret
        exact ⟨rfl, T6⟩
  · have e0 : ((len : Int) == 0) = false := by simp; omega
    obtain ⟨b, off, rfl, hc⟩ : ∃ b off, a = some ⟨b, off, none⟩ ∧ ∀ r, r < len → w.cell? ⟨b, off + r, none⟩ = some (.slice (A r) (L r) (C r)) := hr.resolve_left h0
    have g := cell_later T2 (hc (len - 1) (by omega))
    have hp : (0 : Int) ≤ (len : Int) - 1 := by omega
    have p1 : pick ka none len A (len : Int) = A (len - 1) := pick_in _ _ _ _ _ (by omega) (by omega)
    have p2 : pick kl 0 len L (len : Int) = L (len - 1) := pick_in _ _ _ _ _ (by omega) (by omega)
    have p3 : pick kc 0 len C (len : Int) = C (len - 1) := pick_in _ _ _ _ _ (by omega) (by omega)
    have hxb := hL (len - 1) (by omega)
    clear hc hL hL'
    go_wp2_with fail
    clear g
    refine (keyOf_any name addr ka kl kc va len vc A L C _ _ (by omega) R2).mono ?_
    rintro e w3 ⟨rfl, hb3⟩
    have T3 := below_then T2 hb3
    have N3 := N2.later hb3
    have R3 := R2.later hb3
    clear T2 N2 R2 hb3
    go_wp2_with fail
    refine (sameKey_self _ _ _ w3 (hxb.later T3)).mono ?_
    rintro e w4 ⟨rfl, nn, hw4⟩
    have hb4 : Below w3.heap.size w3 w4 := by rw [hw4]; exact below_drewN (Below.refl _ _) nn
    clear hw4
    have T4 := below_then T3 hb4
    have N4 := N3.later hb4
    have R4 := R3.later hb4
    clear T3 N3 R3 hb4
    obtain ⟨q0, q1, q2, q3⟩ := id N4
    go_wp2_with fail
    refine (keyOf_any name addr ka kl kc va len vc A L C _ _ (by omega) R4).mono ?_
    rintro e w5 ⟨rfl, hb5⟩
    have T5 := below_then T4 hb5
    have N5 := N4.later hb5
    have R5 := R4.later hb5
    clear T4 N4 R4 hb5 q0 q1 q2 q3
    obtain ⟨q0, q1, q2, q3⟩ := id N5
    go_wp2_with fail
    refine (keyOf_any name addr ka kl kc va len vc A L C _ _ (by omega) R5).mono ?_
    rintro e w6 ⟨rfl, hb6⟩
    have T6 := below_then T5 hb6
    clear T5 N5 R5 hb6 q0 q1 q2 q3
    by_cases hi : 0 ≤ i ∧ i ≤ ((len : Nat) : Int)
    · have i1 : inB len i = true := inB_true _ _ hi.1 hi.2
      have i2 : 0 ≤ i := hi.1
      have i3 : i < 1 + ((len : Nat) : Int) := by omega
      clear hi
      go_wp2_with fail
      go_ret
      exact ⟨rfl, T6⟩
    · have hi' : i < 0 ∨ ((len : Nat) : Int) < i := by omega
      have i1 : inB len i = false := inB_false _ _ hi'
      have r1 : pick ka none len A i = none := pick_out _ _ _ _ _ hi'
      clear hi
      rcases hi' with i2 | i2
      · go_wp2_with fail
        go_ret
        exact ⟨rfl, T6⟩
      · have i3 : 0 ≤ i := by omega
        have i4 : ¬ i < 1 + ((len : Nat) : Int) := by omega
        go_wp2_with fail
        go_ret
        exact ⟨rfl, T6⟩
end Go.Proofs.Qxb6628711a
