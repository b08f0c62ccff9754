/-
  Plain facts for the laws over qxb6628816a: pieces joined end to end. No Go in sight.
-/
namespace Go.Proofs.Qxb6628816a

/-- The first m pieces joined end to end. -/
def flat (B : Nat → List Int) : Nat → List Int
  | 0 => []
  | m + 1 => flat B m ++ B m
/-- Where piece m begins. -/
def off (B : Nat → List Int) (m : Nat) : Nat := (flat B m).length

theorem off_zero (B : Nat → List Int) : off B 0 = 0 := rfl
theorem off_succ (B : Nat → List Int) (m : Nat) : off B (m + 1) = off B m + (B m).length := by simp [off, flat]
theorem off_mono (B : Nat → List Int) {a b : Nat} (h : a ≤ b) : off B a ≤ off B b := by
  induction b with
  | zero => rw [Nat.le_zero.1 h]; exact Nat.le_refl _
  | succ b ih =>
    rcases Nat.lt_or_eq_of_le h with h | rfl
    · have := ih (by omega)
      rw [off_succ]; omega
    · exact Nat.le_refl _
theorem flat_succ (B : Nat → List Int) (m : Nat) : flat B (m + 1) = flat B m ++ B m := rfl
theorem flat_length (B : Nat → List Int) (m : Nat) : (flat B m).length = off B m := rfl

/-- The first m pieces stand at the head of the first n. -/
theorem flat_take (B : Nat → List Int) {m n : Nat} (h : m ≤ n) : (flat B n).take (off B m) = flat B m := by
  induction n with
  | zero => obtain rfl := Nat.le_zero.1 h; rfl
  | succ n ih =>
    rcases Nat.lt_or_eq_of_le h with h | rfl
    · rw [flat_succ, List.take_append_of_le_length (by rw [flat_length]; exact off_mono B (by omega))]
      exact ih (by omega)
    · exact List.take_of_length_le (Nat.le_refl _)

theorem flat_getD (B : Nat → List Int) {r n i : Nat} (hr : r < n) (hi : i < (B r).length) : (flat B n).getD (off B r + i) 0 = (B r).getD i 0 := by
  have h1 := flat_take B (m := r + 1) (n := n) (by omega)
  have h2 : off B r + i < off B (r + 1) := by rw [off_succ]; omega
  have h3 : (flat B n)[off B r + i]? = (flat B (r + 1))[off B r + i]? := by
    rw [← h1, List.getElem?_take_of_lt h2]
  rw [List.getD_eq_getElem?_getD, h3, flat_succ, List.getElem?_append_right (by rw [flat_length]; omega), flat_length, Nat.add_sub_cancel_left, ← List.getD_eq_getElem?_getD]

/-- Does x lie strictly inside one of the first n pieces? -/
def interior (B : Nat → List Int) (n : Nat) (x : Int) : Bool := decide (∃ r, r < n ∧ (off B r : Int) < x ∧ x < off B (r + 1))
theorem interior_true {B : Nat → List Int} {n : Nat} {x : Int} {r : Nat} (hr : r < n) (h1 : (off B r : Int) < x) (h2 : x < off B (r + 1)) : interior B n x = true := decide_eq_true ⟨r, hr, h1, h2⟩
theorem interior_false {B : Nat → List Int} {n : Nat} {x : Int} (h : ∀ r, r < n → ¬ ((off B r : Int) < x ∧ x < off B (r + 1))) : interior B n x = false := decide_eq_false fun ⟨r, hr, h1, h2⟩ => h r hr ⟨h1, h2⟩

/-- Does [s, e) lie whole within one of the first n pieces? -/
def within (B : Nat → List Int) (n : Nat) (s e : Int) : Bool := decide (∃ r, r < n ∧ (off B r : Int) ≤ s ∧ e ≤ off B (r + 1))
theorem within_true {B : Nat → List Int} {n : Nat} {s e : Int} {r : Nat} (hr : r < n) (h1 : (off B r : Int) ≤ s) (h2 : e ≤ off B (r + 1)) : within B n s e = true := decide_eq_true ⟨r, hr, h1, h2⟩
theorem within_false {B : Nat → List Int} {n : Nat} {s e : Int} (h : ∀ r, r < n → ¬ ((off B r : Int) ≤ s ∧ e ≤ off B (r + 1))) : within B n s e = false := decide_eq_false fun ⟨r, hr, h1, h2⟩ => h r hr ⟨h1, h2⟩

/-- Bytes s to e of the joined pieces. -/
def cut (B : Nat → List Int) (n s e : Nat) : List Int := ((flat B n).drop s).take (e - s)

theorem cut_length {B : Nat → List Int} {n s e : Nat} (h : e ≤ off B n) : (cut B n s e).length = e - s := by
  simp only [cut, List.length_take, List.length_drop, flat_length]; omega
theorem cut_getD {B : Nat → List Int} {n s e i : Nat} (hi : i < e - s) : (cut B n s e).getD i 0 = (flat B n).getD (s + i) 0 := by
  simp only [cut, List.getD_eq_getElem?_getD, List.getElem?_take_of_lt hi, List.getElem?_drop]

/-- Joining goes on: piece k's part behind what is joined so far. -/
theorem cut_step {B : Nat → List Int} {n s m k : Nat} (hk : k < n) (hs : s ≤ m) (hm : off B k ≤ m) (e : Nat) (he : e ≤ off B (k + 1)) (hme : m ≤ e) :
    cut B n s e = cut B n s m ++ ((B k).drop (m - off B k)).take (e - m) := by
  have hn : off B (k + 1) ≤ off B n := off_mono B (by omega)
  have hl : off B (k + 1) = off B k + (B k).length := off_succ B k
  apply List.ext_getElem?
  intro i
  by_cases h1 : i < m - s
  · rw [List.getElem?_append_left (by rw [cut_length (by omega)]; exact h1)]
    simp only [cut, List.getElem?_take_of_lt h1, List.getElem?_take_of_lt (show i < e - s by omega)]
  · rw [List.getElem?_append_right (by rw [cut_length (by omega)]; omega), cut_length (by omega)]
    by_cases h2 : i < e - s
    · have a1 : (cut B n s e)[i]? = some ((flat B n).getD (s + i) 0) := by
        simp only [cut, List.getElem?_take_of_lt h2, List.getElem?_drop, List.getD_eq_getElem?_getD]
        rw [List.getElem?_eq_getElem (by rw [flat_length]; omega)]; rfl
      have a2 : (((B k).drop (m - off B k)).take (e - m))[i - (m - s)]? = some ((B k).getD (s + i - off B k) 0) := by
        rw [List.getElem?_take_of_lt (by omega), List.getElem?_drop, show m - off B k + (i - (m - s)) = s + i - off B k by omega, List.getD_eq_getElem?_getD]
        rw [List.getElem?_eq_getElem (by omega)]; rfl
      rw [a1, a2, ← flat_getD B hk (show s + i - off B k < (B k).length by omega), show off B k + (s + i - off B k) = s + i by omega]
    · rw [List.getElem?_eq_none (by rw [cut_length (by omega)]; omega), List.getElem?_eq_none (by simp only [List.length_take, List.length_drop]; omega)]

theorem cut_nil (B : Nat → List Int) (n s : Nat) : cut B n s s = [] := by simp [cut]

end Go.Proofs.Qxb6628816a
