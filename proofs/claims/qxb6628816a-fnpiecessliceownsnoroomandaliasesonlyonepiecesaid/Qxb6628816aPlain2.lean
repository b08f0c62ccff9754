/-
  Plain facts, more: one byte of one piece is written. No Go in sight.
-/
import Derived.Test.Qxb6628816aPlain
namespace Go.Proofs.Qxb6628816a

/-- Byte i of piece p becomes v. -/
def setB (B : Nat → List Int) (p i : Nat) (v : Int) (r : Nat) : List Int := if r = p then (B p).set i v else B r

theorem setB_length (B : Nat → List Int) (p i : Nat) (v : Int) (r : Nat) : (setB B p i v r).length = (B r).length := by
  unfold setB
  split
  · next h => rw [List.length_set, h]
  · rfl
theorem setB_off (B : Nat → List Int) (p i : Nat) (v : Int) (m : Nat) : off (setB B p i v) m = off B m := by
  induction m with
  | zero => rfl
  | succ m ih => rw [off_succ, off_succ, ih, setB_length]

theorem locate {B : Nat → List Int} {n j : Nat} (h : j < off B n) : ∃ r t, r < n ∧ t < (B r).length ∧ j = off B r + t := by
  induction n with
  | zero => simp [off_zero] at h
  | succ n ih =>
    by_cases h1 : j < off B n
    · obtain ⟨r, t, hr, ht, e⟩ := ih h1
      exact ⟨r, t, by omega, ht, e⟩
    · rw [off_succ] at h
      exact ⟨n, j - off B n, by omega, by omega, by omega⟩

theorem setB_getD {B : Nat → List Int} {n p i : Nat} (v : Int) (hp : p < n) (hi : i < (B p).length) {j : Nat} (hj : j < off B n) :
    (flat (setB B p i v) n).getD j 0 = if j = off B p + i then v else (flat B n).getD j 0 := by
  obtain ⟨r, t, hr, ht, rfl⟩ := locate hj
  have h1 : (flat (setB B p i v) n).getD (off B r + t) 0 = (setB B p i v r).getD t 0 := by
    rw [← setB_off B p i v r]
    exact flat_getD _ hr (by rw [setB_length]; exact ht)
  rw [h1, flat_getD B hr ht]
  by_cases e : r = p
  · subst e
    simp only [setB, if_true]
    by_cases e2 : t = i
    · subst e2
      simp [List.getD_eq_getElem?_getD, ht]
    · rw [if_neg (by omega), List.getD_eq_getElem?_getD, List.getElem?_set_ne (fun h => e2 h.symm), ← List.getD_eq_getElem?_getD]
  · have hne : off B r + t ≠ off B p + i := by
      intro h
      rcases Nat.lt_or_gt_of_ne e with h' | h'
      · have a := off_mono B (show r + 1 ≤ p by omega)
        rw [off_succ] at a
        omega
      · have a := off_mono B (show p + 1 ≤ r by omega)
        rw [off_succ] at a
        omega
    rw [if_neg hne]
    simp only [setB, if_neg e]

end Go.Proofs.Qxb6628816a
