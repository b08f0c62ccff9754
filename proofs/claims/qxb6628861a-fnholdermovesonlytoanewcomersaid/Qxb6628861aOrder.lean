/-
  The plain laws: outranks is a strict order by ID; the first best is unique; what inserting one node does to it.
-/
import Derived.Test.Qxb6628861aHolder
namespace Go.Proofs.Qxb6628861a

/-! ### The order of bytes -/
theorem less_irr : ∀ x : List UInt8, Op.bytesLess x x = false
  | [] => rfl
  | a :: x => by simp [Op.bytesLess, less_irr x]
theorem less_trans : ∀ x y z : List UInt8, Op.bytesLess x y = true → Op.bytesLess y z = true → Op.bytesLess x z = true
  | _, [], _, h, _ => by simp [Op.bytesLess] at h
  | _, _ :: _, [], _, h => by simp [Op.bytesLess] at h
  | [], _ :: _, _ :: _, _, _ => rfl
  | a :: x, b :: y, c :: z, h1, h2 => by
    simp only [Op.bytesLess, Bool.or_eq_true, decide_eq_true_eq, Bool.and_eq_true, beq_iff_eq] at h1 h2 ⊢
    rcases h1 with h1 | ⟨rfl, h1⟩
    · rcases h2 with h2 | ⟨rfl, _⟩
      · exact .inl (UInt8.lt_trans h1 h2)
      · exact .inl h1
    · rcases h2 with h2 | ⟨rfl, h2⟩
      · exact .inl h2
      · exact .inr ⟨rfl, less_trans x y z h1 h2⟩
theorem less_total : ∀ x y : List UInt8, x ≠ y → Op.bytesLess x y = true ∨ Op.bytesLess y x = true
  | [], [], h => absurd rfl h
  | [], _ :: _, _ => .inl rfl
  | _ :: _, [], _ => .inr rfl
  | a :: x, b :: y, h => by
    simp only [Op.bytesLess, Bool.or_eq_true, decide_eq_true_eq, Bool.and_eq_true, beq_iff_eq]
    by_cases e : a = b
    · subst e
      have : x ≠ y := fun e => h (by rw [e])
      rcases less_total x y this with h' | h'
      · exact .inl (.inr ⟨rfl, h'⟩)
      · exact .inr (.inr ⟨rfl, h'⟩)
    · rcases Nat.lt_or_gt_of_ne (fun h' => e (UInt8.toNat_inj.1 h') : a.toNat ≠ b.toNat) with h' | h'
      · exact .inl (.inl h')
      · exact .inr (.inl h')
theorem toList_inj {a b : ByteArray} (h : a.toList = b.toList) : a = b := by
  rw [ByteArray.toList_eq, ByteArray.toList_eq] at h
  obtain ⟨⟨x⟩⟩ := a
  obtain ⟨⟨y⟩⟩ := b
  simpa using h
theorem beq_self (a : ByteArray) : (a.toList == a.toList) = true := by simp
theorem beq_ne {a b : ByteArray} (h : a ≠ b) : (a.toList == b.toList) = false := by
  rw [beq_eq_false_iff_ne]
  exact fun e => h (toList_inj e)

/-! ### The order of nodes -/
theorem outr_iff {k : Int} {a b : ByteArray} : outr k a b = true ↔ scoreOf k b < scoreOf k a ∨ (scoreOf k a = scoreOf k b ∧ Op.bytesLess a.toList b.toList = true) := by simp [outr]
theorem outr_irr (k : Int) (a : ByteArray) : outr k a a = false := by simp [outr, less_irr]
theorem outr_trans {k : Int} {a b c : ByteArray} (h1 : outr k a b = true) (h2 : outr k b c = true) : outr k a c = true := by
  rw [outr_iff] at h1 h2 ⊢
  rcases h1 with h1 | ⟨h1, h1'⟩ <;> rcases h2 with h2 | ⟨h2, h2'⟩
  · exact .inl (by omega)
  · exact .inl (by omega)
  · exact .inl (by omega)
  · exact .inr ⟨by omega, less_trans _ _ _ h1' h2'⟩
theorem outr_total {k : Int} {a b : ByteArray} (h : a ≠ b) : outr k a b = true ∨ outr k b a = true := by
  rw [outr_iff, outr_iff]
  rcases Int.lt_trichotomy (scoreOf k a) (scoreOf k b) with h' | h' | h'
  · exact .inr (.inl h')
  · rcases less_total a.toList b.toList (fun e => h (toList_inj e)) with h'' | h''
    · exact .inl (.inr ⟨h', h''⟩)
    · exact .inr (.inr ⟨h'.symm, h''⟩)
  · exact .inl (.inl h')

/-- j is the first best of nodes 0 to m. -/
structure First (k : Int) (I : Nat → ByteArray) (m j : Nat) : Prop where
  le : j ≤ m
  top : ∀ r, r ≤ m → outr k (I r) (I j) = false
  first : ∀ r, r < j → I r ≠ I j

theorem best_first (k : Int) (I : Nat → ByteArray) (m : Nat) : First k I m (best k I m) := by
  induction m with
  | zero => exact ⟨Nat.le_refl _, fun r hr => by obtain rfl := Nat.le_zero.1 hr; exact outr_irr _ _, fun r hr => by simp [best] at hr⟩
  | succ m ih =>
    cases h : outr k (I (m + 1)) (I (best k I m)) with
    | true =>
      have e : best k I (m + 1) = m + 1 := by simp [best, h]
      rw [e]
      refine ⟨Nat.le_refl _, fun r hr => ?_, fun r hr he => ?_⟩
      · cases h' : outr k (I r) (I (m + 1)) with
        | false => rfl
        | true =>
          rcases Nat.lt_or_eq_of_le hr with hr | rfl
          · have := ih.top r (by omega)
            rw [outr_trans h' h] at this
            cases this
          · rw [outr_irr] at h'; cases h'
      · have := ih.top r (by omega)
        rw [he, h] at this
        cases this
    | false =>
      have e : best k I (m + 1) = best k I m := by simp [best, h]
      rw [e]
      refine ⟨Nat.le_succ_of_le ih.le, fun r hr => ?_, ih.first⟩
      rcases Nat.lt_or_eq_of_le hr with hr | rfl
      · exact ih.top r (by omega)
      · exact h

theorem First.unique {k : Int} {I : Nat → ByteArray} {m i j : Nat} (hi : First k I m i) (hj : First k I m j) : i = j := by
  have e : I i = I j := by
    rcases Classical.em (I i = I j) with h | h
    · exact h
    · rcases outr_total (k := k) h with h' | h'
      · rw [hj.top i hi.le] at h'; cases h'
      · rw [hi.top j hj.le] at h'; cases h'
  rcases Nat.lt_trichotomy i j with h | h | h
  · exact absurd e (hj.first i h)
  · exact h
  · exact absurd e.symm (hi.first j h)

/-! ### A newcomer -/
/-- f with x put in at place p. -/
def ins {α : Type} (f : Nat → α) (x : α) (p r : Nat) : α := if r < p then f r else if r = p then x else f (r - 1)
theorem ins_lt {α : Type} (f : Nat → α) (x : α) {p r : Nat} (h : r < p) : ins f x p r = f r := by unfold ins; rw [if_pos h]
theorem ins_at {α : Type} (f : Nat → α) (x : α) (p : Nat) : ins f x p p = x := by unfold ins; rw [if_neg (by omega), if_pos rfl]
theorem ins_gt {α : Type} (f : Nat → α) (x : α) {p r : Nat} (h : p < r) : ins f x p r = f (r - 1) := by unfold ins; rw [if_neg (by omega), if_neg (by omega)]
theorem ins_cases {α : Type} (f : Nat → α) (x : α) {p r m : Nat} (hp : p ≤ m + 1) (hr : r ≤ m + 1) : ins f x p r = x ∨ ∃ t, t ≤ m ∧ ins f x p r = f t := by
  rcases Nat.lt_trichotomy r p with h | h | h
  · exact .inr ⟨r, by omega, ins_lt _ _ h⟩
  · subst h; exact .inl (ins_at _ _ _)
  · exact .inr ⟨r - 1, by omega, ins_gt _ _ h⟩

/-- The newcomer is the holder: it carries the holder's ID and stands no later, or it outranks the holder. -/
theorem ins_new {k : Int} {I : Nat → ByteArray} {m j p : Nat} {x : ByteArray} (h : First k I m j) (hp : p ≤ m + 1) (hx : (x = I j ∧ p ≤ j) ∨ outr k x (I j) = true) : best k (ins I x p) (m + 1) = p := by
  refine First.unique (best_first k (ins I x p) (m + 1)) ⟨hp, fun r hr => ?_, fun r hr => ?_⟩
  · rw [ins_at]
    rcases ins_cases I x hp hr with e | ⟨t, ht, e⟩
    · rw [e]; exact outr_irr _ _
    · rw [e]
      rcases hx with ⟨rfl, _⟩ | hx
      · exact h.top t ht
      · cases h' : outr k (I t) x with
        | false => rfl
        | true => have := h.top t ht; rw [outr_trans h' hx] at this; cases this
  · rw [ins_at, ins_lt _ _ hr]
    rcases hx with ⟨rfl, hpj⟩ | hx
    · exact h.first r (by omega)
    · intro e
      have := h.top r (by omega)
      rw [e, hx] at this
      cases this

/-- The old holder stays. -/
theorem ins_old {α : Type} {k : Int} {I : Nat → ByteArray} {m j p : Nat} {x : ByteArray} (h : First k I m j) (hp : p ≤ m + 1) (hx : outr k x (I j) = false) (hne : x = I j → j < p) (f : Nat → α) (y : α) :
    ins I x p (best k (ins I x p) (m + 1)) = I j ∧ ins f y p (best k (ins I x p) (m + 1)) = f j := by
  have key : ∀ c, c ≤ m + 1 → ins I x p c = I j → (∀ r, r < c → ins I x p r ≠ I j) → best k (ins I x p) (m + 1) = c := fun c hc e h2 => by
    refine First.unique (best_first k (ins I x p) (m + 1)) ⟨hc, fun r hr => ?_, fun r hr => by rw [e]; exact h2 r hr⟩
    rw [e]
    rcases ins_cases I x hp hr with e' | ⟨t, ht, e'⟩
    · rw [e']; exact hx
    · rw [e']; exact h.top t ht
  have hj := h.le
  by_cases hjp : j < p
  · rw [key j (by omega) (ins_lt _ _ hjp) (fun r hr => by rw [ins_lt _ _ (by omega)]; exact h.first r hr)]
    exact ⟨ins_lt _ _ hjp, ins_lt _ _ hjp⟩
  · have e : ins I x p (j + 1) = I j := by rw [ins_gt _ _ (by omega)]; rfl
    rw [key (j + 1) (by omega) e (fun r hr => by
      rcases Nat.lt_trichotomy r p with h' | h' | h'
      · rw [ins_lt _ _ h']; exact h.first r (by omega)
      · subst h'; rw [ins_at]; exact fun e' => hjp (hne e')
      · rw [ins_gt _ _ h']; exact h.first (r - 1) (by omega))]
    exact ⟨e, by rw [ins_gt _ _ (by omega)]; rfl⟩

end Go.Proofs.Qxb6628861a
