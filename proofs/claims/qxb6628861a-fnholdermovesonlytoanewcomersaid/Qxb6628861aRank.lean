/-
  outranks over qxb6628861a.
-/
import Derived.Test.Qxb6628861aHash
import Derived.Deep.RegionHeld3
namespace Go.Proofs.Qxb6628861a
open Go.RowKit

theorem below_undrew {X w1 : World} (h : Below X.drew.heap.size X.drew w1) : Below X.heap.size X w1 := ⟨h.os, h.tape, h.output, h.size, h.block⟩

/-- Does a come before b at the key's hash k? -/
def outr (k : Int) (a b : ByteArray) : Bool := decide (scoreOf k b < scoreOf k a) || (decide (scoreOf k a = scoreOf k b) && Op.bytesLess a.toList b.toList)

set_option maxHeartbeats 1000000 in
theorem outranks_any (k : Int) (a1 a2 b1 b2 : ByteArray) (w : World) (ha : a1.size ≤ 9223372036854775807) (hb : b1.size ≤ 9223372036854775807) :
    Calls Try.prog 12 #[.int .u64 k, .agg #[.string a1, .string a2], .agg #[.string b1, .string b2]] w fun e w' => e = .returned (.bool (outr k a1 b1)) ∧ Below w.heap.size w w' := by
  go_enter Try.func12, Try.ntmps12
  go_wp2_with fail
  go_region_held3 (fun w' => w'.cell? ⟨w.heap.size, 0, none⟩ = some (.string a1) ∧ w'.cell? ⟨w.heap.size + 1, 0, none⟩ = some (.string b1)) (first | (simp; done) | (simp [go_sem]; done) | (refine ⟨?_, ?_⟩ <;> (refine cell_later hb2 ?_; simp [*]; done)) | (refine ⟨?_, ?_⟩ <;> (refine cell_later hb1 ?_; simp [go_sem]; done))) (first | (go_at_call_of 14 (Value.string a1); refine (score_any k a1 _ ha).mono ?_; rintro e w1 ⟨rfl, hb1⟩) | (go_at_call_of 14 (Value.string b1); refine (score_any k b1 _ hb).mono ?_; rintro e w2 ⟨rfl, hb2⟩))
  have T1 : Below w.heap.size w w1 := below_then (below_then (below_alloc w _) (below_alloc _ _)) (below_undrew hb1)
  have T2 := below_then T1 hb2
  have c1 : w2.cell? ⟨w.heap.size, 0, none⟩ = some (.string a1) := cell_later (below_then (below_undrew hb1) hb2) (by simp [go_sem])
  have c2 : w2.cell? ⟨w.heap.size + 1, 0, none⟩ = some (.string b1) := cell_later (below_then (below_undrew hb1) hb2) (by simp [go_sem])
  clear hb1 hb2 T1
  generalize hsa : scoreOf k a1 = sa
  generalize hsb : scoreOf k b1 = sb
  have Ho : Hid (outr k a1 b1 = (decide (sb < sa) || (decide (sa = sb) && Op.bytesLess a1.toList b1.toList))) := by rw [← hsa, ← hsb]; rfl
  clear hsa hsb
  by_cases h1 : sb < sa
  · have h2 : outr k a1 b1 = true := by rw [Ho.out]; simp [h1]
    clear Ho
    go_wp2_with fail
    go_ret
    exact ⟨by first | rfl | (rw [h2]; rfl), T2⟩
  by_cases h3 : sa = sb
  · subst h3
    have h2 : outr k a1 b1 = Op.bytesLess a1.toList b1.toList := by rw [Ho.out]; simp
    have h4 : decide (sa < sa) = false := by simp
    clear Ho h1
    go_wp2_with fail
    go_ret
    exact ⟨by first | rfl | (rw [h2]; rfl), T2⟩
  · have h2 : outr k a1 b1 = false := by rw [Ho.out]; simp [h1, h3]
    have h4 : decide (sb < sa) = false := decide_eq_false h1
    have h5 : (sa == sb) = false := by simp [h3]
    clear Ho h3
    go_wp2_with fail
    go_ret
    exact ⟨by first | rfl | (rw [h2]; rfl), T2⟩
end Go.Proofs.Qxb6628861a
