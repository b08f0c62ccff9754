/-
  hash, mix, score over qxb6628861a: what they give, as plain functions; hash/fnv through its interface.
-/
import Derived.Test.Qxb6628861aRows
import Derived.WalkKit
import Derived.WalkSpells
import Derived.WalkLawsBesides
import Derived.Deep.QuietTactic
import Derived.BigQuiet
import Derived.Lib.ConvBytes
import Derived.OpenShut
namespace Go.Proofs.Qxb6628861a
open Go.RowKit

/-- One step of mix. -/
def mstep (x c : Int) : Int := IntKind.u64.wrap (bits .xor .u64 x (x / 8589934592) * c)
/-- What mix gives. -/
def mixOf (x : Int) : Int := bits .xor .u64 (mstep (mstep x 18397679294719823053) 14181476777654086739) (mstep (mstep x 18397679294719823053) 14181476777654086739 / 8589934592)
theorem u64_bd {n : Int} (h : (Lit.int .u64 n).wf = true) : 0 ≤ n ∧ n < 18446744073709551616 := by
  simp [Lit.wf, IntKind.min, IntKind.max, IntKind.signed, IntKind.bits] at h
  omega

set_option maxHeartbeats 400000 in
theorem mix_any (x : Int) (w : World) :
    Calls Try.prog 15 #[.int .u64 x] w fun e w' => e = .returned (.int .u64 (mixOf x)) ∧ w = w' := by
  unfold mixOf mstep
  go_enter Try.func15, Try.ntmps15
  go_wp2
  go_ret
  exact ⟨rfl, rfl⟩

/-- One step of FNV-1a. -/
def fstep (h c : Int) : Int := IntKind.u64.wrap (bits .xor .u64 h c * 1099511628211)
def fnvL (h : Int) (l : List UInt8) : Int := l.foldl (fun h c => fstep h c.toNat) h
theorem fnvL_snoc (h : Int) (l : List UInt8) (c : UInt8) : fnvL h (l ++ [c]) = fstep (fnvL h l) c.toNat := by simp [fnvL]

set_option maxHeartbeats 400000 in
theorem write_any (b g m c : Nat) (h : Int) (l : List UInt8) (w : World) (hb : w.cell? ⟨b, 0, none⟩ = some (.int .u64 h)) (hf : w.frozen? ⟨b, 0, none⟩ = false) (hl : l.length = m) (hm : m ≤ 9223372036854775807) (hc : ∀ j, j < m → w.cell? ⟨g, j, none⟩ = some (.int .u8 (l.getD j 0).toNat)) :
    Calls Try.prog 40 #[.pointer (some ⟨b, 0, none⟩), .slice (some ⟨g, 0, none⟩) m c] w fun e w' => e = .returned (.tuple #[.int .i64 m, .nilIface]) ∧ w.setCell ⟨b, 0, none⟩ (.int .u64 (fnvL h l)) = w' := by
  go_enter Try.func40, Try.ntmps40
  go_wp2
  go_loop [6, 14] (fun t i => ∃ k : Nat, k ≤ m ∧ i = .int .i64 k ∧ t = .int .u64 (fnvL h (l.take k))) (fun _ i => m - (intOf i).toNat)
  case atStart => exact ⟨0, Nat.zero_le _, rfl, rfl⟩
  case round =>
    obtain ⟨k, hk, rfl, rfl⟩ := hrel
    by_cases hlt : k < m
    · have g0 := hc k hlt
      have hsn : fnvL h (l.take (k + 1)) = fstep (fnvL h (l.take k)) (l.getD k 0).toNat := by
        rw [← fnvL_snoc, List.take_succ_eq_append_getElem (by omega), List.getD_eq_getElem?_getD, List.getElem?_eq_getElem (by omega)]; rfl
      have Hsn : Hid (fnvL h (l.take (k + 1)) = fstep (fnvL h (l.take k)) (l.getD k 0).toNat) := hsn
      have hx := (l.getD k 0).toNat_lt
      generalize (l.getD k 0).toNat = x at g0 Hsn hx
      generalize fnvL h (l.take k) = y at Hsn ⊢
      clear hsn hc
      go_wp2
      go_round
      case rel => exact ⟨k + 1, by omega, by go_num, by rw [Hsn.out]; rfl⟩
      case measure => simp [intOf]; omega
    · have hkm : m = k := by omega
      subst hkm
      have hl' : l.take m = l := List.take_of_length_le (by omega)
      go_wp2
      go_ret2
      exact ⟨rfl, rfl⟩

set_option maxHeartbeats 400000 in
theorem new_any (w : World) :
    Calls Try.prog 13 #[] w fun e w' => e = .returned (.iface 51 (.pointer (some ⟨w.heap.size, 0, none⟩))) ∧ w.alloc (.cells #[.int .u64 14695981039346656037] 50) = w' := by
  go_enter Try.func13, Try.ntmps13
  go_wp2
  go_ret
  exact ⟨rfl, rfl⟩

set_option maxHeartbeats 400000 in
theorem sum_any (b : Nat) (h : Int) (w : World) (hb : w.cell? ⟨b, 0, none⟩ = some (.int .u64 h)) :
    Calls Try.prog 39 #[.pointer (some ⟨b, 0, none⟩)] w fun e w' => e = .returned (.int .u64 h) ∧ w = w' := by
  go_enter Try.func39, Try.ntmps39
  go_wp2
  go_ret
  exact ⟨rfl, rfl⟩

theorem m_write (a : Addr) (w : World) : (method 174 51 (.pointer (some a)) "Write").run Try.prog w = .ok (40, .pointer (some a)) w := by kernel_rfl
theorem m_sum (a : Addr) (w : World) : (method 174 51 (.pointer (some a)) "Sum64").run Try.prog w = .ok (39, .pointer (some a)) w := by kernel_rfl

/-- What hash gives. -/
def hashOf (s : ByteArray) : Int := fnvL 14695981039346656037 s.data.toList

theorem below_then {w a b : World} (h : Below w.heap.size w a) (k : Below a.heap.size a b) : Below w.heap.size w b := h.trans (k.mono h.size)
theorem below_alloc (w : World) (o : Obj) : Below w.heap.size w (w.alloc o) := (Below.refl _ _).alloc (Nat.le_refl _) _
theorem below_bytes (w : World) (e : TypeId) (s : ByteArray) : Below w.heap.size w (Lib.bytesWorld w e s) :=
  ⟨rfl, rfl, rfl, by rw [Lib.bytesWorld_size]; omega, fun k hk => Lib.bytesWorld_at_old w e s k hk⟩

set_option maxHeartbeats 400000 in
theorem hash_any (s : ByteArray) (w : World) (hs : s.size ≤ 9223372036854775807) :
    Calls Try.prog 11 #[.string s] w fun e w' => e = .returned (.int .u64 (hashOf s)) ∧ Below w.heap.size w w' := by
  have hconv := fun w => Lib.run_convert_string_bytes (P := Try.prog) w 9 47 5 s Try.underlying9 Try.underlying47 Try.underlying5
  have hm1 := m_write
  have hm2 := m_sum
  have c0 : (w.alloc (.cells #[.int .u64 14695981039346656037] 50)).cell? ⟨w.heap.size, 0, none⟩ = some (.int .u64 14695981039346656037) := by simp
  have f0 : (w.alloc (.cells #[.int .u64 14695981039346656037] 50)).frozen? ⟨w.heap.size, 0, none⟩ = false := by simp
  have B1 := below_bytes (w.alloc (.cells #[.int .u64 14695981039346656037] 50)) 5 s
  have c1 := cell_later B1 c0
  have f1 := (B1.frozen (p := ⟨w.heap.size, 0, none⟩) (by simp)).trans f0
  have d1 : ∀ j, j < s.size → (Lib.bytesWorld (w.alloc (.cells #[.int .u64 14695981039346656037] 50)) 5 s).cell? ⟨w.heap.size + 1, j, none⟩ = some (.int .u8 (s.data.toList.getD j 0).toNat) := fun j hj => by
    have := Lib.bytesWorld_cell (w.alloc (.cells #[.int .u64 14695981039346656037] 50)) 5 s j hj
    rwa [World.size_alloc] at this
  have T1 := below_then (below_alloc w (.cells #[.int .u64 14695981039346656037] 50)) B1
  have H1 : Hid (_ ∧ _ ∧ _ ∧ _) := ⟨c1, f1, d1, T1⟩
  clear c0 f0 B1 c1 f1 d1 T1
  go_enter Try.func11, Try.ntmps11
  go_wp2_with fail
  refine (new_any w).mono ?_
  rintro e w1 ⟨rfl, rfl⟩
  go_wp2_with fail
  obtain ⟨c1, f1, d1, T1⟩ := H1.out
  clear H1
  generalize Lib.bytesWorld (w.alloc (.cells #[.int .u64 14695981039346656037] 50)) 5 s = W at *
  refine (write_any w.heap.size (w.heap.size + 1) s.size _ 14695981039346656037 s.data.toList W c1 f1 Array.length_toList hs d1).mono ?_
  rintro e w2 ⟨rfl, hw2⟩
  replace hw2 : W.setCell ⟨w.heap.size, 0, none⟩ (.int .u64 (hashOf s)) = w2 := hw2
  subst hw2
  have T2 := T1.setCell (p := ⟨w.heap.size, 0, none⟩) (Nat.le_refl _) (.int .u64 (hashOf s))
  have c2 : (W.setCell ⟨w.heap.size, 0, none⟩ (.int .u64 (hashOf s))).cell? ⟨w.heap.size, 0, none⟩ = some (.int .u64 (hashOf s)) := World.cell?_setCell_same _ _ _ c1
  clear c1 f1 d1 T1
  go_wp2_with fail
  refine (sum_any w.heap.size (hashOf s) _ c2).mono ?_
  rintro e w3 ⟨rfl, rfl⟩
  go_wp2_with fail
  go_ret
  exact ⟨rfl, T2⟩

/-- What score gives. -/
def scoreOf (k : Int) (id : ByteArray) : Int := mixOf (bits .xor .u64 k (hashOf id))

set_option maxHeartbeats 400000 in
theorem score_any (k : Int) (id : ByteArray) (w : World) (hs : id.size ≤ 9223372036854775807) :
    Calls Try.prog 14 #[.int .u64 k, .string id] w fun e w' => e = .returned (.int .u64 (scoreOf k id)) ∧ Below w.heap.size w w' := by
  go_enter Try.func14, Try.ntmps14
  go_wp2_with fail
  refine (hash_any id w hs).mono ?_
  rintro e w1 ⟨rfl, hb1⟩
  go_wp2_with fail
  refine (mix_any _ w1).mono ?_
  rintro e w2 ⟨rfl, rfl⟩
  go_wp2_with fail
  go_ret
  exact ⟨rfl, hb1⟩

end Go.Proofs.Qxb6628861a
