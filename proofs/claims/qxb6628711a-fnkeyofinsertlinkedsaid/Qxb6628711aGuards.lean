/-
  THE GUARDS AND zzSameKeyB1 over qxb6628711a: each call's contract. The size guards answer some bool and leave the world as it was; zzSameKeyB1 at one and the same slice answers true.
-/
import Derived.Test.Qxb6628711aRows
import Derived.WalkKit
import Derived.WalkSpells
import Derived.WalkLawsBesides
import Derived.Deep.QuietTactic
import Derived.BigQuiet
namespace Go.Proofs.Qxb6628711a
open Go.RowKit

/-- The call ended in some bool. -/
def AnyBool (e : Ending) : Prop := ∃ b, e = .returned (.bool b)
/-- The call ended in some bool, and where that is true, p. -/
def BoolThat (p : Prop) (e : Ending) : Prop := ∃ b, e = .returned (.bool b) ∧ (b = true → p)
/-- A slice of slices: cell r holds the slice (A r, L r, C r). -/
def RowsAt (w : World) (a : Option Addr) (len : Nat) (A : Nat → Option Addr) (L C : Nat → Nat) : Prop :=
  len = 0 ∨ ∃ b off, a = some ⟨b, off, none⟩ ∧ ∀ r, r < len → w.cell? ⟨b, off + r, none⟩ = some (.slice (A r) (L r) (C r))
/-- A slice of bytes that can be read. -/
def BytesAt (w : World) (a : Option Addr) (len : Nat) : Prop :=
  len ≤ 9223372036854775807 ∧ (len = 0 ∨ ∃ b off, ∃ z : Nat → Int, a = some ⟨b, off, none⟩ ∧ ∀ i, i < len → w.cell? ⟨b, off + i, none⟩ = some (.int .u8 (z i)))

set_option maxHeartbeats 400000 in
theorem sameKey_self (a : Option Addr) (len cap : Nat) (w : World) (h : BytesAt w a len) :
    Calls Try.prog 10 #[.slice a len cap, .slice a len cap] w fun e w' => e = .returned (.bool true) ∧ ∃ n, w' = w.drewN n := by
  have hn := @Lib.run_eql_slice_nil Try.prog
  rcases h with ⟨hm, rfl | ⟨b, off, z, rfl, hc⟩⟩
  · go_enter Try.func10, Try.ntmps10
    go_wp2
    go_loop [5] (fun i => i = .int .i64 0) (fun _ => 0)
    case atStart => rfl
    case round =>
      subst hrel
      go_wp2
      go_ret
      exact ⟨rfl, 0, rfl⟩
  · go_enter Try.func10, Try.ntmps10
    go_wp2
    go_loopw [5] (fun i wr => ∃ k n : Nat, k ≤ len ∧ i = .int .i64 k ∧ wr = w.drewN n) (fun i _ => len - (intOf i).toNat)
    case atStart => exact ⟨0, 0, Nat.zero_le _, rfl, rfl⟩
    case round =>
      obtain ⟨k, n, hk, rfl, rfl⟩ := hrel
      by_cases hlt : k < len
      · have g := hc k hlt
        have e1 : (k : Int) < (len : Int) := by omega
        have e2 : (0 : Int) ≤ (k : Int) := by omega
        go_wp2
        go_quiet (fail)
        go_wp2
        go_roundw
        case rel => exact ⟨k + 1, n + nq, by omega, by go_num, by simp⟩
        case measure => simp [intOf]; omega
      · go_wp2
        go_ret
        exact ⟨rfl, n, rfl⟩

set_option maxHeartbeats 400000 in
theorem tooBig_any (name addr : ByteArray) (ka ea : Option Addr) (kl kc el ec : Nat) (a : Option Addr) (len cap : Nat) (A : Nat → Option Addr) (L C : Nat → Nat) (w : World)
    (hm : len ≤ 9223372036854775807) (hr : RowsAt w a len A L C) (hL : ∀ r, r < len → L r ≤ 9223372036854775807) :
    Calls Try.prog 6 #[.string name, .string addr, .slice ka kl kc, .slice a len cap, .slice ea el ec] w fun e w' => AnyBool e ∧ w' = w := by
  rcases hr with rfl | ⟨b, off, rfl, hc⟩
  · go_enter Try.func6, Try.ntmps6
    go_wp2
    all_goals first
      | (go_ret; exact ⟨⟨_, rfl⟩, rfl⟩)
      | skip
    go_loop [12] (fun i => i = .int .i64 0) (fun _ => 0)
    case atStart => rfl
    case round =>
      subst hrel
      go_wp2
      go_ret
      exact ⟨⟨_, rfl⟩, rfl⟩
  · go_enter Try.func6, Try.ntmps6
    go_wp2
    all_goals first
      | (go_ret; exact ⟨⟨_, rfl⟩, rfl⟩)
      | skip
    go_loop [11, 12] (fun t i => ∃ (k : Nat) (s : Int), k ≤ len ∧ 0 ≤ s ∧ s ≤ 1048576 ∧ i = .int .i64 k ∧ t = .int .i64 s) (fun _ i => len - (intOf i).toNat)
    case atStart => exact ⟨0, _, by omega, by omega, by omega, rfl, rfl⟩
    case round =>
      obtain ⟨k, s, hk, hs0, hs1, rfl, rfl⟩ := hrel
      by_cases hlt : k < len
      · have g := hc k hlt
        have hLk := hL k hlt
        go_wp2
        all_goals first
          | (go_ret; exact ⟨⟨_, rfl⟩, rfl⟩)
          | skip
        go_round
        case rel => exact ⟨k + 1, _, by omega, by omega, by omega, by go_num, rfl⟩
        case measure => simp [intOf]; omega
      · go_wp2
        go_ret
        exact ⟨⟨_, rfl⟩, rfl⟩

set_option maxHeartbeats 400000 in
theorem bytes1_any (name addr : ByteArray) (ka ea : Option Addr) (kl kc el ec : Nat) (a : Option Addr) (len cap : Nat) (A : Nat → Option Addr) (L C : Nat → Nat) (p i : Int) (w : World)
    (hr : RowsAt w a len A L C) (hL : ∀ r, r < len → L r ≤ 9223372036854775807) :
    Calls Try.prog 5 #[.string name, .string addr, .slice ka kl kc, .slice a len cap, .slice ea el ec, .int .i64 p, .int .i64 i] w fun e w' => BoolThat (len ≤ 1048576) e ∧ w' = w := by
  rcases hr with rfl | ⟨b, off, rfl, hc⟩
  · go_enter Try.func5, Try.ntmps5
    go_wp2
    all_goals first
      | (go_ret; exact ⟨⟨_, rfl, fun _ => by omega⟩, rfl⟩)
      | skip
    go_loop [15, 16] (fun t i => ∃ s : Int, 0 ≤ s ∧ s ≤ 1048576 ∧ i = .int .i64 0 ∧ t = .int .i64 s) (fun _ _ => 0)
    case atStart => exact ⟨_, by omega, by omega, rfl, rfl⟩
    case round =>
      obtain ⟨s, hs0, hs1, rfl, rfl⟩ := hrel
      go_wp2
      all_goals (go_ret; exact ⟨⟨_, rfl, fun _ => by omega⟩, rfl⟩)
  · go_enter Try.func5, Try.ntmps5
    go_wp2
    all_goals first
      | (go_ret; exact ⟨⟨_, rfl, fun h => by cases h⟩, rfl⟩)
      | skip
    go_loop [15, 16] (fun t i => ∃ (k : Nat) (s : Int), k ≤ len ∧ 0 ≤ s ∧ s ≤ 1048576 ∧ i = .int .i64 k ∧ t = .int .i64 s) (fun _ i => len - (intOf i).toNat)
    case atStart => exact ⟨0, _, by omega, by omega, by omega, rfl, rfl⟩
    case round =>
      obtain ⟨k, s, hk, hs0, hs1, rfl, rfl⟩ := hrel
      by_cases hlt : k < len
      · have g := hc k hlt
        have hLk := hL k hlt
        go_wp2
        all_goals first
          | (go_ret; exact ⟨⟨_, rfl, fun h => by cases h⟩, rfl⟩)
          | skip
        go_round
        case rel => exact ⟨k + 1, _, by omega, by omega, by omega, by go_num, rfl⟩
        case measure => simp [intOf]; omega
      · go_wp2
        all_goals (go_ret; exact ⟨⟨_, rfl, fun _ => by omega⟩, rfl⟩)

set_option maxHeartbeats 400000 in
theorem bytes2_any (name addr : ByteArray) (ka : Option Addr) (kl kc : Nat) (a : Option Addr) (len cap : Nat) (A : Nat → Option Addr) (L C : Nat → Nat) (i : Int) (w : World)
    (hr : RowsAt w a len A L C) (hL : ∀ r, r < len → L r ≤ 9223372036854775807) :
    Calls Try.prog 11 #[.string name, .string addr, .slice ka kl kc, .slice a len cap, .int .i64 i] w fun e w' => BoolThat (len ≤ 1048576) e ∧ w' = w := by
  rcases hr with rfl | ⟨b, off, rfl, hc⟩
  · go_enter Try.func11, Try.ntmps11
    go_wp2
    all_goals first
      | (go_ret; exact ⟨⟨_, rfl, fun _ => by omega⟩, rfl⟩)
      | skip
    go_loop [12] (fun i => i = .int .i64 0) (fun _ => 0)
    case atStart => rfl
    case round =>
      subst hrel
      go_wp2
      all_goals (go_ret; exact ⟨⟨_, rfl, fun _ => by omega⟩, rfl⟩)
  · go_enter Try.func11, Try.ntmps11
    go_wp2
    all_goals first
      | (go_ret; exact ⟨⟨_, rfl, fun h => by cases h⟩, rfl⟩)
      | skip
    go_loop [11, 12] (fun t i => ∃ (k : Nat) (s : Int), k ≤ len ∧ 0 ≤ s ∧ s ≤ 1048576 ∧ i = .int .i64 k ∧ t = .int .i64 s) (fun _ i => len - (intOf i).toNat)
    case atStart => exact ⟨0, _, by omega, by omega, by omega, rfl, rfl⟩
    case round =>
      obtain ⟨k, s, hk, hs0, hs1, rfl, rfl⟩ := hrel
      by_cases hlt : k < len
      · have g := hc k hlt
        have hLk := hL k hlt
        go_wp2
        all_goals first
          | (go_ret; exact ⟨⟨_, rfl, fun h => by cases h⟩, rfl⟩)
          | skip
        go_round
        case rel => exact ⟨k + 1, _, by omega, by omega, by omega, by go_num, rfl⟩
        case measure => simp [intOf]; omega
      · go_wp2
        all_goals (go_ret; exact ⟨⟨_, rfl, fun _ => by omega⟩, rfl⟩)

end Go.Proofs.Qxb6628711a
