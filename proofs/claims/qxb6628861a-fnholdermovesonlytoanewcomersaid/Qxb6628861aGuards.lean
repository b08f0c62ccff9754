/-
  The size guards, holderFirstWithID and holderNodes over qxb6628861a.
-/
import Derived.Test.Qxb6628861aOrder
namespace Go.Proofs.Qxb6628861a
open Go.RowKit

/-- The call ended in some bool, and where that is true, p. -/
def BoolThat (p : Prop) (e : Ending) : Prop := ∃ b, e = .returned (.bool b) ∧ (b = true → p)

theorem NodesAt.later {w w' : World} {a : Option Addr} {n : Nat} {I D : Nat → ByteArray} (h : NodesAt w a n I D) (hb : Below w.heap.size w w') : NodesAt w' a n I D := by
  rcases h with h0 | ⟨b, o, rfl, hc⟩
  · exact .inl h0
  · exact .inr ⟨b, o, rfl, fun r hr => ⟨cell_later hb (hc r hr).1, cell_later hb (hc r hr).2⟩⟩

set_option maxHeartbeats 400000 in
theorem bytesA_any (name key : ByteArray) (a : Option Addr) (n cap : Nat) (I D : Nat → ByteArray) (v2 v3 v4 : Value) (w : World) (hN : NodesAt w a n I D) (hn : n ≤ 9223372036854775807) (hs : name.size ≤ 9223372036854775807) (hk : key.size ≤ 9223372036854775807) (hI : ∀ r, r < n → (I r).size ≤ 9223372036854775807) (hD : ∀ r, r < n → (D r).size ≤ 9223372036854775807) :
    Calls Try.prog 5 #[.string name, .slice a n cap, v2, v3, v4, .string key] w fun e w' => BoolThat (n ≤ 1048576) e ∧ w = w' := by
  go_enter Try.func5, Try.ntmps5
  go_wp2
  all_goals first
    | (go_ret; exact ⟨⟨_, rfl, fun h => by cases h⟩, rfl⟩)
    | skip
  go_loop [13, 14] (fun t i => ∃ (k : Nat) (s : Int), k ≤ n ∧ 0 ≤ s ∧ s ≤ 1048576 ∧ i = .int .i64 k ∧ t = .int .i64 s) (fun _ i => n - (intOf i).toNat)
  case atStart => exact ⟨0, _, by omega, by omega, by omega, rfl, rfl⟩
  case round =>
    obtain ⟨k, s, hk, hs0, hs1, rfl, rfl⟩ := hrel
    by_cases hlt : k < n
    · obtain ⟨b, o, rfl, hc⟩ := hN.resolve_left (by omega)
      obtain ⟨g0, g1⟩ := hc k hlt
      have hI' := hI k hlt
      have hD' := hD k hlt
      clear hc hI hD
      go_wp2
      all_goals first
        | (go_ret; exact ⟨⟨_, rfl, fun h => by cases h⟩, rfl⟩)
        | skip
      go_round
      case rel => exact ⟨k + 1, _, by omega, by omega, by omega, by go_num, rfl⟩
      case measure => simp [intOf]; omega
    · have hkn : n = k := by omega
      subst hkn
      go_wp2
      all_goals (go_ret; exact ⟨⟨_, rfl, fun _ => by omega⟩, rfl⟩)

set_option maxHeartbeats 400000 in
theorem bytesB_any (name key xI xD : ByteArray) (a : Option Addr) (n cap : Nat) (I D : Nat → ByteArray) (v2 v3 v4 v8 : Value) (w : World) (hN : NodesAt w a n I D) (hn : n ≤ 9223372036854775807) (hs : name.size ≤ 9223372036854775807) (hk : key.size ≤ 9223372036854775807) (hxI : xI.size ≤ 9223372036854775807) (hxD : xD.size ≤ 9223372036854775807) (hI : ∀ r, r < n → (I r).size ≤ 9223372036854775807) (hD : ∀ r, r < n → (D r).size ≤ 9223372036854775807) :
    Calls Try.prog 10 #[.string name, .slice a n cap, v2, v3, v4, .string key, .string xI, .string xD, v8] w fun e w' => BoolThat (n ≤ 1048576) e ∧ w = w' := by
  go_enter Try.func10, Try.ntmps10
  go_wp2
  all_goals first
    | (go_ret; exact ⟨⟨_, rfl, fun h => by cases h⟩, rfl⟩)
    | skip
  go_loop [19, 20] (fun t i => ∃ (k : Nat) (s : Int), k ≤ n ∧ 0 ≤ s ∧ s ≤ 1048576 ∧ i = .int .i64 k ∧ t = .int .i64 s) (fun _ i => n - (intOf i).toNat)
  case atStart => exact ⟨0, _, by omega, by omega, by omega, rfl, rfl⟩
  case round =>
    obtain ⟨k, s, hk, hs0, hs1, rfl, rfl⟩ := hrel
    by_cases hlt : k < n
    · obtain ⟨b, o, rfl, hc⟩ := hN.resolve_left (by omega)
      obtain ⟨g0, g1⟩ := hc k hlt
      have hI' := hI k hlt
      have hD' := hD k hlt
      clear hc hI hD
      go_wp2
      all_goals first
        | (go_ret; exact ⟨⟨_, rfl, fun h => by cases h⟩, rfl⟩)
        | skip
      go_round
      case rel => exact ⟨k + 1, _, by omega, by omega, by omega, by go_num, rfl⟩
      case measure => simp [intOf]; omega
    · have hkn : n = k := by omega
      subst hkn
      go_wp2
      all_goals (go_ret; exact ⟨⟨_, rfl, fun _ => by omega⟩, rfl⟩)

set_option maxHeartbeats 400000 in
theorem within_any (name key xI xD : ByteArray) (a : Option Addr) (n cap : Nat) (I D : Nat → ByteArray) (w : World) (hN : NodesAt w a n I D) (hn : n ≤ 9223372036854775807) (hs : name.size ≤ 9223372036854775807) (hk : key.size ≤ 9223372036854775807) (hxI : xI.size ≤ 9223372036854775807) (hxD : xD.size ≤ 9223372036854775807) (hI : ∀ r, r < n → (I r).size ≤ 9223372036854775807) (hD : ∀ r, r < n → (D r).size ≤ 9223372036854775807) :
    Calls Try.prog 6 #[.string name, .string key, .slice a n cap, .string xI, .string xD] w fun e w' => BoolThat True e ∧ w = w' := by
  go_enter Try.func6, Try.ntmps6
  go_wp2
  all_goals first
    | (go_ret; exact ⟨⟨_, rfl, fun _ => trivial⟩, rfl⟩)
    | skip
  go_loop [11, 12] (fun t i => ∃ (k : Nat) (s : Int), k ≤ n ∧ 0 ≤ s ∧ s ≤ 1048576 ∧ i = .int .i64 k ∧ t = .int .i64 s) (fun _ i => n - (intOf i).toNat)
  case atStart => exact ⟨0, _, by omega, by omega, by omega, rfl, rfl⟩
  case round =>
    obtain ⟨k, s, hk, hs0, hs1, rfl, rfl⟩ := hrel
    by_cases hlt : k < n
    · obtain ⟨b, o, rfl, hc⟩ := hN.resolve_left (by omega)
      obtain ⟨g0, g1⟩ := hc k hlt
      have hI' := hI k hlt
      have hD' := hD k hlt
      clear hc hI hD
      go_wp2
      all_goals first
        | (go_ret; exact ⟨⟨_, rfl, fun _ => trivial⟩, rfl⟩)
        | skip
      go_round
      case rel => exact ⟨k + 1, _, by omega, by omega, by omega, by go_num, rfl⟩
      case measure => simp [intOf]; omega
    · have hkn : n = k := by omega
      subst hkn
      go_wp2
      all_goals (go_ret; exact ⟨⟨_, rfl, fun _ => trivial⟩, rfl⟩)

set_option maxHeartbeats 400000 in
theorem firstId_any (id : ByteArray) (a : Option Addr) (n cap j : Nat) (I D : Nat → ByteArray) (w : World) (hN : NodesAt w a n I D) (hn : n ≤ 9223372036854775807) (hj : j < n) (hat : I j = id) (hno : ∀ r, r < j → I r ≠ id) :
    Calls Try.prog 9 #[.slice a n cap, .string id] w fun e w' => e = .returned (.int .i64 j) ∧ w = w' := by
  have Hat : Hid (I j = id) := hat
  have Hno : Hid (∀ r, r < j → I r ≠ id) := hno
  clear hat hno
  go_enter Try.func9, Try.ntmps9
  go_wp2
  go_loop [5] (fun i => ∃ k : Nat, k ≤ j ∧ i = .int .i64 k) (fun i => j - (intOf i).toNat)
  case atStart => exact ⟨0, by omega, rfl⟩
  case round =>
    obtain ⟨k, hk, rfl⟩ := hrel
    obtain ⟨b, o, rfl, hc⟩ := hN.resolve_left (by omega)
    obtain ⟨g0, g1⟩ := hc k (by omega)
    clear hc
    by_cases hlt : k < j
    · have q : ((I k).toList == id.toList) = false := beq_ne (Hno.out k hlt)
      go_wp2
      go_round
      case rel => exact ⟨k + 1, by omega, by go_num⟩
      case measure => simp [intOf]; omega
    · have hkn : j = k := by omega
      subst hkn
      have q : ((I j).toList == id.toList) = true := by rw [Hat.out]; simp
      go_wp2
      go_ret
      exact ⟨rfl, rfl⟩

end Go.Proofs.Qxb6628861a
