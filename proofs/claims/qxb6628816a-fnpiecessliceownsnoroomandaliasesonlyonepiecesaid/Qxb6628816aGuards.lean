/-
  The size guards and b1Total over qxb6628816a; what the walks are told of a slice of pieces.
-/
import Derived.Test.Qxb6628816aRows
import Derived.Test.Qxb6628816aPlain
import Derived.WalkKit
import Derived.WalkSpells
import Derived.WalkLawsBesides
import Derived.Deep.QuietTactic
import Derived.BigQuiet
import Derived.Deep.AppendLies
namespace Go.Proofs.Qxb6628816a
open Go.RowKit

/-- The call ended in some bool, and where that is true, p. -/
def BoolThat (p : Prop) (e : Ending) : Prop := ∃ b, e = .returned (.bool b) ∧ (b = true → p)
/-- One piece: a slice of bytes whose first cells hold B. -/
structure PieceAt (w : World) (A : Option Addr) (L C : Nat) (B : List Int) : Prop where
  len : B.length = L
  le : L ≤ C
  max : C ≤ 9223372036854775807
  cells : L = 0 ∨ ∃ b off, A = some ⟨b, off, none⟩ ∧ ∀ i, i < L → w.cell? ⟨b, off + i, none⟩ = some (.int .u8 (B.getD i 0))
  nil : A = none → C = 0
/-- A slice of pieces. -/
structure Pieces (w : World) (a : Option Addr) (n : Nat) (A : Nat → Option Addr) (L C : Nat → Nat) (B : Nat → List Int) : Prop where
  rows : n = 0 ∨ ∃ b off, a = some ⟨b, off, none⟩ ∧ ∀ r, r < n → w.cell? ⟨b, off + r, none⟩ = some (.slice (A r) (L r) (C r))
  piece : ∀ r, r < n → PieceAt w (A r) (L r) (C r) (B r)
  max : n ≤ 9223372036854775807

theorem PieceAt.later {w w' : World} {A : Option Addr} {L C : Nat} {B : List Int} (h : PieceAt w A L C B) (hb : Below w.heap.size w w') : PieceAt w' A L C B := by
  refine ⟨h.len, h.le, h.max, ?_, h.nil⟩
  rcases h.cells with h0 | ⟨b, o, rfl, hc⟩
  · exact .inl h0
  · exact .inr ⟨b, o, rfl, fun i hi => cell_later hb (hc i hi)⟩
theorem Pieces.later {w w' : World} {a : Option Addr} {n : Nat} {A : Nat → Option Addr} {L C : Nat → Nat} {B : Nat → List Int} (h : Pieces w a n A L C B) (hb : Below w.heap.size w w') : Pieces w' a n A L C B := by
  refine ⟨?_, fun r hr => (h.piece r hr).later hb, h.max⟩
  rcases h.rows with h0 | ⟨b, o, rfl, hc⟩
  · exact .inl h0
  · exact .inr ⟨b, o, rfl, fun i hi => cell_later hb (hc i hi)⟩
theorem Pieces.off_succ {w : World} {a : Option Addr} {n : Nat} {A : Nat → Option Addr} {L C : Nat → Nat} {B : Nat → List Int} (h : Pieces w a n A L C B) {k : Nat} (hk : k < n) : off B (k + 1) = off B k + L k := by
  rw [Qxb6628816a.off_succ, (h.piece k hk).len]

set_option maxHeartbeats 400000 in
theorem bytesA_any (a : Option Addr) (n cap : Nat) (A : Nat → Option Addr) (L C : Nat → Nat) (B : Nat → List Int) (v1 v2 : Value) (w : World) (hP : Pieces w a n A L C B) :
    Calls Try.prog 5 #[.slice a n cap, v1, v2] w fun e w' => BoolThat (∀ r, r < n → L r ≤ 1048576) e ∧ w = w' := by
  go_enter Try.func5, Try.ntmps5
  go_wp2
  all_goals first
    | (go_ret; exact ⟨⟨_, rfl, fun h => by cases h⟩, rfl⟩)
    | skip
  go_loop [7, 8] (fun t i => ∃ (k : Nat) (s : Int), k ≤ n ∧ Hid (∀ r, r < k → L r ≤ 1048576) ∧ 0 ≤ s ∧ s ≤ 1048576 ∧ i = .int .i64 k ∧ t = .int .i64 s) (fun _ i => n - (intOf i).toNat)
  case atStart => exact ⟨0, _, by omega, fun r hr => by omega, by omega, by omega, rfl, rfl⟩
  case round =>
    obtain ⟨k, s, hk, hall, hs0, hs1, rfl, rfl⟩ := hrel
    by_cases hlt : k < n
    · obtain ⟨b, o, rfl, hc⟩ := hP.rows.resolve_left (by omega)
      have g := hc k hlt
      have hLk : L k ≤ 9223372036854775807 := Nat.le_trans (hP.piece k hlt).le (hP.piece k hlt).max
      go_wp2
      all_goals first
        | (go_ret; exact ⟨⟨_, rfl, fun h => by cases h⟩, rfl⟩)
        | skip
      go_round
      case rel => exact ⟨k + 1, _, by omega, fun r hr => by
          by_cases hrk : r < k
          · exact hall.out r hrk
          · obtain rfl : r = k := by omega
            omega, by omega, by omega, by go_num, rfl⟩
      case measure => simp [intOf]; omega
    · have hkn : n = k := by omega
      subst hkn
      go_wp2
      go_ret
      exact ⟨⟨_, rfl, fun _ => hall.out⟩, rfl⟩

set_option maxHeartbeats 400000 in
theorem bytesB_any (a : Option Addr) (n cap : Nat) (A : Nat → Option Addr) (L C : Nat → Nat) (B : Nat → List Int) (v1 v2 : Value) (w : World) (hP : Pieces w a n A L C B) :
    Calls Try.prog 10 #[.slice a n cap, v1, v2] w fun e w' => BoolThat (∀ r, r < n → L r ≤ 1048576) e ∧ w = w' := by
  go_enter Try.func10, Try.ntmps10
  go_wp2
  all_goals first
    | (go_ret; exact ⟨⟨_, rfl, fun h => by cases h⟩, rfl⟩)
    | skip
  go_loop [7, 8] (fun t i => ∃ (k : Nat) (s : Int), k ≤ n ∧ Hid (∀ r, r < k → L r ≤ 1048576) ∧ 0 ≤ s ∧ s ≤ 1048576 ∧ i = .int .i64 k ∧ t = .int .i64 s) (fun _ i => n - (intOf i).toNat)
  case atStart => exact ⟨0, _, by omega, fun r hr => by omega, by omega, by omega, rfl, rfl⟩
  case round =>
    obtain ⟨k, s, hk, hall, hs0, hs1, rfl, rfl⟩ := hrel
    by_cases hlt : k < n
    · obtain ⟨b, o, rfl, hc⟩ := hP.rows.resolve_left (by omega)
      have g := hc k hlt
      have hLk : L k ≤ 9223372036854775807 := Nat.le_trans (hP.piece k hlt).le (hP.piece k hlt).max
      go_wp2
      all_goals first
        | (go_ret; exact ⟨⟨_, rfl, fun h => by cases h⟩, rfl⟩)
        | skip
      go_round
      case rel => exact ⟨k + 1, _, by omega, fun r hr => by
          by_cases hrk : r < k
          · exact hall.out r hrk
          · obtain rfl : r = k := by omega
            omega, by omega, by omega, by go_num, rfl⟩
      case measure => simp [intOf]; omega
    · have hkn : n = k := by omega
      subst hkn
      go_wp2
      go_ret
      exact ⟨⟨_, rfl, fun _ => hall.out⟩, rfl⟩

/-- What b1Total answers. -/
def TotalOut (n T : Nat) (e : Ending) : Prop := e = .returned (.tuple #[.int .i64 0, .bool false]) ∨ (e = .returned (.tuple #[.int .i64 T, .bool true]) ∧ n ≤ 65536 ∧ T ≤ 1048576)

set_option maxHeartbeats 400000 in
theorem total_any (a : Option Addr) (n cap : Nat) (A : Nat → Option Addr) (L C : Nat → Nat) (B : Nat → List Int) (w : World) (hP : Pieces w a n A L C B) (hL : ∀ r, r < n → L r ≤ 1048576) :
    Calls Try.prog 6 #[.slice a n cap] w fun e w' => TotalOut n (off B n) e ∧ w = w' := by
  have hmx := hP.max
  go_enter Try.func6, Try.ntmps6
  go_wp2
  all_goals first
    | (go_ret2; exact ⟨.inl rfl, rfl⟩)
    | skip
  go_loop [5, 6] (fun t i => ∃ (k : Nat), k ≤ n ∧ (off B k : Int) ≤ 1048576 ∧ i = .int .i64 k ∧ t = .int .i64 (off B k)) (fun _ i => n - (intOf i).toNat)
  case atStart => exact ⟨0, by omega, by simp [off_zero], rfl, rfl⟩
  case round =>
    obtain ⟨k, hk, hs1, rfl, rfl⟩ := hrel
    by_cases hlt : k < n
    · obtain ⟨b, o, rfl, hc⟩ := hP.rows.resolve_left (by omega)
      have g := hc k hlt
      have hLk : L k ≤ 1048576 := hL k hlt
      have Hs : Hid (off B (k + 1) = off B k + L k) := hP.off_succ hlt
      go_wp2
      all_goals first
        | (go_ret2; exact ⟨.inl rfl, rfl⟩)
        | skip
      go_round
      case rel => exact ⟨k + 1, by omega, by rw [Hs.out]; omega, by go_num, by rw [Hs.out]; go_num⟩
      case measure => simp [intOf]; omega
    · have hkn : n = k := by omega
      subst hkn
      go_wp2
      go_ret2
      exact ⟨.inr ⟨rfl, by omega, by omega⟩, rfl⟩

end Go.Proofs.Qxb6628816a
