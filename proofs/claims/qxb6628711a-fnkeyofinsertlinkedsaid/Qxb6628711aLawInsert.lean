/-
  The law FnKeyOfInsertLinked over qxb6628711a: its walk out of the callees' contracts.
-/
import Derived.Test.Qxb6628711aAids
namespace Go.Proofs.Qxb6628711a
open Go.RowKit

theorem Try.info22 : (Try.prog.info? 22).map (fun i => (i.zero, i.size, i.bytes)) = some (some (.slice none 0 0), 1, 24) := by kernel_rfl

/-- f with x put in at place p. -/
def ins {α : Type} (f : Nat → α) (x : α) (p r : Nat) : α := if r < p then f r else if r = p then x else f (r - 1)
theorem ins_lt {α : Type} (f : Nat → α) (x : α) {p r : Nat} (h : r < p) : ins f x p r = f r := by unfold ins; rw [if_pos h]
theorem ins_at {α : Type} (f : Nat → α) (x : α) (p : Nat) : ins f x p p = x := by unfold ins; rw [if_neg (by omega), if_pos rfl]
theorem ins_gt {α : Type} (f : Nat → α) (x : α) {p r : Nat} (h : p < r) : ins f x p r = f (r - 1) := by unfold ins; rw [if_neg (by omega), if_neg (by omega)]

theorem pick_below {α : Type} (k d x : α) (n p : Nat) (f : Nat → α) (i : Int) (hp : p ≤ n) (h : i < p + 1) : pick k d (n + 1) (ins f x p) i = pick k d n f i := by
  by_cases h0 : i = 0
  · subst h0; rfl
  by_cases h1 : i < 0
  · rw [pick_out _ _ _ _ _ (.inl h1), pick_out _ _ _ _ _ (.inl h1)]
  · rw [pick_in _ _ _ _ _ (by omega) (by omega), pick_in _ _ _ _ _ (by omega) (by omega), ins_lt _ _ (by omega)]
theorem pick_above {α : Type} (k d x : α) (n p : Nat) (f : Nat → α) (i : Int) (h : (p : Int) + 1 < i) : pick k d (n + 1) (ins f x p) i = pick k d n f (i - 1) := by
  by_cases h1 : ((n + 1 : Nat) : Int) < i
  · rw [pick_out _ _ _ _ _ (.inr h1), pick_out _ _ _ _ _ (.inr (by omega))]
  · rw [pick_in _ _ _ _ _ (by omega) (by omega), pick_in _ _ _ _ _ (by omega) (by omega), ins_gt _ _ (by omega)]
    congr 1; omega
theorem pick_at {α : Type} (k d x : α) (n p : Nat) (f : Nat → α) (hp : p ≤ n) : pick k d (n + 1) (ins f x p) ((p : Int) + 1) = x := by
  rw [pick_in _ _ _ _ _ (by omega) (by omega), show ((p : Int) + 1).toNat - 1 = p from by omega, ins_at]
theorem inB_below (n p : Nat) (i : Int) (hp : p ≤ n) (h : i < p + 1) : inB (n + 1) i = inB n i := by
  unfold inB; exact decide_eq_decide.2 (by omega)
theorem inB_above (n p : Nat) (i : Int) (h : (p : Int) + 1 < i) : inB (n + 1) i = inB n (i - 1) := by
  unfold inB; exact decide_eq_decide.2 (by omega)

theorem bytes_pick {w : World} {ka : Option Addr} {kl n : Nat} {A : Nat → Option Addr} {L : Nat → Nat} (hk : BytesAt w ka kl) (hL : ∀ r, r < n → BytesAt w (A r) (L r)) (i : Int) : BytesAt w (pick ka none n A i) (pick kl 0 n L i) := by
  by_cases h0 : i = 0
  · subst h0; exact hk
  by_cases h1 : 1 ≤ i ∧ i ≤ n
  · rw [pick_in _ _ _ _ _ h1.1 h1.2, pick_in _ _ _ _ _ h1.1 h1.2]; exact hL _ (by omega)
  · rw [pick_out _ _ _ _ _ (by omega), pick_out _ _ _ _ _ (by omega)]; exact ⟨by omega, .inl rfl⟩

theorem rows_of_own22 {w : World} {base : Nat} {va : Option Addr} {n vc : Nat} {A : Nat → Option Addr} {L C : Nat → Nat} (h : w.ownsRow base 22 1 (.slice va n vc) n (rowVals A L C n)) : RowsAt w va n A L C := by
  by_cases hn : n = 0
  · exact .inl hn
  · obtain ⟨g, cap, hv, _, _⟩ := h.form (by omega)
    simp only [Value.slice.injEq] at hv
    obtain ⟨rfl, _, rfl⟩ := hv
    refine .inr ⟨g, 0, rfl, fun r hr => ?_⟩
    have := h.cells (g := g) rfl r (.slice (A r) (L r) (C r)) (by simp [rowVals, hr])
    rw [Addr.add_lit] at this
    exact this

/-- What the law's last part leans on, in the world as it stands: nothing old has turned; both members' variables hold what they held; both members' linked keys lie there. -/
structure St (w0 : World) (name addr : ByteArray) (kv : Value) (B1 B2 : Nat) (va ua : Option Addr) (n vc uc : Nat) (A A2 : Nat → Option Addr) (L L2 C C2 : Nat → Nat) (w : World) : Prop where
  T : Below w0.heap.size w0 w
  N : M4 w B1 name addr kv (.slice va n vc)
  M : M4 w B2 name addr kv (.slice ua (n + 1) uc)
  R : RowsAt w va n A L C
  Q : RowsAt w ua (n + 1) A2 L2 C2
theorem St.later {w0 : World} {name addr : ByteArray} {kv : Value} {B1 B2 : Nat} {va ua : Option Addr} {n vc uc : Nat} {A A2 : Nat → Option Addr} {L L2 C C2 : Nat → Nat} {w w' : World}
    (h : St w0 name addr kv B1 B2 va ua n vc uc A A2 L L2 C C2 w) (hb : Below w.heap.size w w') : St w0 name addr kv B1 B2 va ua n vc uc A A2 L L2 C C2 w' :=
  ⟨below_then h.T hb, h.N.later hb, h.M.later hb, h.R.later hb, h.Q.later hb⟩

theorem identities_bel (name addr : ByteArray) (kv : Value) (la : Option Addr) (ll lc : Nat) (w : World) (hl : ll ≤ 1048577) :
    Calls Try.prog 8 #[.agg #[.string name, .string addr, kv, .slice la ll lc]] w fun e w' => e = .returned (.int .i64 (1 + ll)) ∧ Below w.heap.size w w' := by
  refine (identities_any name addr kv la ll lc w hl).mono ?_
  rintro e w' ⟨rfl, rfl⟩
  exact ⟨rfl, below_alloc _ _⟩

theorem sameKey_bel (a : Option Addr) (len cap : Nat) (w : World) (h : BytesAt w a len) :
    Calls Try.prog 10 #[.slice a len cap, .slice a len cap] w fun e w' => e = .returned (.bool true) ∧ Below w.heap.size w w' := by
  refine (sameKey_self a len cap w h).mono ?_
  rintro e w' ⟨rfl, n, rfl⟩
  exact ⟨rfl, below_drewN (Below.refl _ _) n⟩

set_option maxRecDepth 100000 in
set_option maxHeartbeats 1000000 in
theorem law1 (name addr : ByteArray) (ka ea : Option Addr) (kl kc el ec : Nat) (a : Option Addr) (len cap : Nat) (A : Nat → Option Addr) (L C : Nat → Nat) (p i : Int) (w : World)
    (hk : BytesAt w ka kl) (he : BytesAt w ea el) (hr : RowsAt w a len A L C) (hL : ∀ r, r < len → BytesAt w (A r) (L r)) (hm : len ≤ 9223372036854775807) (hi : i ≤ 9223372036854775807) :
    Calls Try.prog 3 #[.string name, .string addr, .slice ka kl kc, .slice a len cap, .slice ea el ec, .int .i64 p, .int .i64 i] w fun e w' => e = .returned (.bool true) ∧ Below w.heap.size w w' := by
  have hL' : ∀ r, r < len → L r ≤ 9223372036854775807 := fun r h => (hL r h).1
  go_enter Try.func3, Try.ntmps3
  go_wp2_with fail
  refine (bytes1_any name addr ka ea kl kc el ec a len cap A L C p i w hr hL').mono ?_
  rintro e w' ⟨⟨b, rfl, hb⟩, hw⟩
  obtain rfl := hw.symm
  cases b
  · go_wp2_with fail
    go_ret
    exact ⟨rfl, Below.refl _ _⟩
  have hm1 := hb rfl
  clear hb
  go_wp2_with fail
  refine (tooBig_any name addr ka ea kl kc el ec a len cap A L C w (by omega) hr hL').mono ?_
  rintro e w' ⟨⟨b, rfl⟩, hw⟩
  obtain rfl := hw.symm
  cases b
  case true =>
    go_wp2_with fail
    go_ret
    exact ⟨rfl, Below.refl _ _⟩
  by_cases hp0 : p < 0
  · go_wp2_with fail
    go_ret
    exact ⟨rfl, Below.refl _ _⟩
  by_cases hp1 : (len : Int) < p
  · go_wp2_with fail
    go_ret
    exact ⟨rfl, Below.refl _ _⟩
  have hd0 : decide (p < 0) = false := decide_eq_false hp0
  obtain ⟨pn, rfl⟩ := Int.eq_ofNat_of_zero_le (Int.not_lt.1 hp0)
  have hp2 : pn ≤ len := by omega
  go_wp2_with fail
  refine (member_any name addr ka kl kc a len cap A L C w (by omega) hr).mono ?_
  rintro e w1 ⟨va, vc, rfl, hr1, hb1⟩
  have T1 := below_then hb1 (below_alloc w1 (.cells #[.string name, .string addr, .slice ka kl kc, .slice va len vc] 29))
  have N1 := M4.new w1 name addr (.slice ka kl kc) (.slice va len vc)
  have R1 := hr1.later (below_alloc w1 (.cells #[.string name, .string addr, .slice ka kl kc, .slice va len vc] 29))
  obtain ⟨i0, hi0, hz0, hz1, hz2⟩ := info_parts Try.info22
  go_wp2_with (at_make; refine wpList_make_own _ rfl _ _ 23 rfl (w1.heap.size + 1) 22 i0 (.slice none 0 0) 1 Try.underlying23 hi0 hz0 hz1 _ _ _ (len + 1) rfl rfl (by omega) (by rw [hz2]; omega) (by simp only [maxLen]; omega) (by simp) ?_; intro w2 hown2 hgrow2)
  have hw0 : w1.heap.size + 1 = (w1.alloc (.cells #[.string name, .string addr, .slice ka kl kc, .slice va len vc] 29)).heap.size := by simp
  have B2 : Below (w1.heap.size + 1) (w1.alloc (.cells #[.string name, .string addr, .slice ka kl kc, .slice va len vc] 29)) w2 := (Below.refl _ _).grown hgrow2 (by simp) (fun k hk => by cases hk)
  have S2 := hgrow2.size
  obtain ⟨W1, hW1⟩ : ∃ W1, W1 = w1.alloc (.cells #[.string name, .string addr, .slice ka kl kc, .slice va len vc] 29) := ⟨_, rfl⟩
  rw [← hW1] at T1 N1 R1 hw0 B2 S2
  obtain ⟨G, hG⟩ : ∃ G, G = w1.heap.size + 1 := ⟨_, rfl⟩
  simp only [World.size_alloc] at hown2
  rw [← hG] at hw0 B2 hown2 ⊢
  have hG1 : G ≤ W1.heap.size := by omega
  have hG2 : W1.heap.size ≤ G := by omega
  clear hgrow2 hW1 hG hw0
  go_loopw [16, 17] (fun v j wr => ∃ k : Nat, k ≤ pn ∧ j = .int .i64 k ∧ v = .slice (some ⟨G, 0, none⟩) k (len + 1) ∧ wr.ownsRow G 22 1 (.slice (some ⟨G, 0, none⟩) k (len + 1)) k (rowVals (ins A ea pn) (ins L el pn) (ins C ec pn) k) ∧ Below G W1 wr) (fun _ j _ => pn - (intOf j).toNat)
  case atStart => exact ⟨0, Nat.zero_le _, rfl, rfl, hown2, B2⟩
  case round =>
    obtain ⟨k, hkk, rfl, rfl, hown, hB⟩ := hrel
    have hsz : G ≤ wr.heap.size := by have := hB.size; omega
    by_cases hlt : k < pn
    · obtain ⟨b, off, rfl, hc⟩ : ∃ b off, a = some ⟨b, off, none⟩ ∧ ∀ r, r < len → w.cell? ⟨b, off + r, none⟩ = some (.slice (A r) (L r) (C r)) := hr.resolve_left (by omega)
      have g0 : W1.cell? ⟨b, off + k, none⟩ = some (.slice (A k) (L k) (C k)) := cell_later T1 (hc k (by omega))
      have g : wr.cell? ⟨b, off + k, none⟩ = some (.slice (A k) (L k) (C k)) := (hB.cell (p := ⟨b, off + k, none⟩) (by have := World.block_lt_of_cell? W1 _ g0; simp at this ⊢; omega)).trans g0
      have e1 : (k : Int) < (pn : Int) := by omega
      have e2 : (k : Int) < (len : Int) := by omega
      clear hc hL hL'
      go_wp2_with (at_builtin; refine wpList_append_fits _ rfl _ _ 23 rfl G 22 i0 1 Try.underlying23 hi0 hz1 G k (len + 1) _ rfl (hown.alloc _) ⟨wr.heap.size, 0, none⟩ 1 1 [.slice (A k) (L k) (C k)] rfl rfl (World.news_of_block (cs := #[.slice (A k) (L k) (C k)]) (t := 22) (fr := (0, 0)) (heap_alloc_new wr _)) (by simp [Value.oneCell']) (by omega) ?_; intro w3 hown3 hgrow3)
      go_roundw
      case rel =>
        refine ⟨k + 1, by omega, by go_num, rfl, ?_, ?_⟩
        · rw [rowVals_succ, ins_lt _ _ hlt, ins_lt _ _ hlt, ins_lt _ _ hlt]; exact hown3
        · exact (hB.alloc hsz _).grown hgrow3 (by simp; omega) (fun j hj => by cases hj; omega)
      case measure => simp [intOf]; omega
    · have hkp : pn = k := by omega
      subst hkp
      go_wp2_with (at_builtin; refine wpList_append_fits _ rfl _ _ 23 rfl G 22 i0 1 Try.underlying23 hi0 hz1 G pn (len + 1) _ rfl (hown.alloc _) ⟨wr.heap.size, 0, none⟩ 1 1 [.slice ea el ec] rfl rfl (World.news_of_block (cs := #[.slice ea el ec]) (t := 22) (fr := (0, 0)) (heap_alloc_new wr _)) (by simp [Value.oneCell']) (by omega) ?_; intro w4 hown4 hgrow4)
      have B4 : Below G W1 w4 := (hB.alloc hsz _).grown hgrow4 (by simp; omega) (fun j hj => by cases hj; omega)
      have O4 : w4.ownsRow G 22 1 (.slice (some ⟨G, 0, none⟩) (pn + 1) (len + 1)) (pn + 1) (rowVals (ins A ea pn) (ins L el pn) (ins C ec pn) (pn + 1)) := by
        rw [rowVals_succ, ins_at, ins_at, ins_at]; exact hown4
      clear hown hB hsz hgrow4 hown4 B2 hown2 S2
      go_loopw [16, 18] (fun v j wr => ∃ k : Nat, pn ≤ k ∧ k ≤ len ∧ j = .int .i64 k ∧ v = .slice (some ⟨G, 0, none⟩) (k + 1) (len + 1) ∧ wr.ownsRow G 22 1 (.slice (some ⟨G, 0, none⟩) (k + 1) (len + 1)) (k + 1) (rowVals (ins A ea pn) (ins L el pn) (ins C ec pn) (k + 1)) ∧ Below G W1 wr) (fun _ j _ => len - (intOf j).toNat)
      case atStart => exact ⟨pn, Nat.le_refl _, hp2, rfl, rfl, O4, B4⟩
      case round =>
        clear O4 B4 hkk hlt
        obtain ⟨k, hkp, hkl, rfl, rfl, hown, hB⟩ := hrel
        have hsz : G ≤ wr.heap.size := by have := hB.size; omega
        by_cases hlt : k < len
        · obtain ⟨b, off, rfl, hc⟩ : ∃ b off, a = some ⟨b, off, none⟩ ∧ ∀ r, r < len → w.cell? ⟨b, off + r, none⟩ = some (.slice (A r) (L r) (C r)) := hr.resolve_left (by omega)
          have g0 : W1.cell? ⟨b, off + k, none⟩ = some (.slice (A k) (L k) (C k)) := cell_later T1 (hc k (by omega))
          have g : wr.cell? ⟨b, off + k, none⟩ = some (.slice (A k) (L k) (C k)) := (hB.cell (p := ⟨b, off + k, none⟩) (by have := World.block_lt_of_cell? W1 _ g0; simp at this ⊢; omega)).trans g0
          have e2 : (k : Int) < (len : Int) := by omega
          clear hc hL hL'
          go_wp2_with (at_builtin; refine wpList_append_fits _ rfl _ _ 23 rfl G 22 i0 1 Try.underlying23 hi0 hz1 G (k + 1) (len + 1) _ rfl (hown.alloc _) ⟨wr.heap.size, 0, none⟩ 1 1 [.slice (A k) (L k) (C k)] rfl rfl (World.news_of_block (cs := #[.slice (A k) (L k) (C k)]) (t := 22) (fr := (0, 0)) (heap_alloc_new wr _)) (by simp [Value.oneCell']) (by omega) ?_; intro w3 hown3 hgrow3)
          go_roundw
          case rel =>
            refine ⟨k + 1, by omega, by omega, by go_num, rfl, ?_, ?_⟩
            · rw [rowVals_succ _ _ _ (k + 1), ins_gt _ _ (by omega), ins_gt _ _ (by omega), ins_gt _ _ (by omega)]; exact hown3
            · exact (hB.alloc hsz _).grown hgrow3 (by simp; omega) (fun j hj => by cases hj; omega)
          case measure => simp [intOf]; omega
        · have hkl' : len = k := by omega
          subst hkl'
          have B5 : Below W1.heap.size W1 wr := hB.mono hG2
          have T5 := below_then T1 B5
          have N5 := N1.later B5
          have R5 := R1.later B5
          have Q5 := rows_of_own22 hown
          clear hB hown hsz B5 T1 N1 R1 hkp hkl hlt
          go_wp2_with fail
          refine (member_any name addr ka kl kc (some ⟨G, 0, none⟩) (len + 1) (len + 1) (ins A ea pn) (ins L el pn) (ins C ec pn) wr (by omega) Q5).mono ?_
          rintro e w6 ⟨ua, uc, rfl, Q6, B6⟩
          have T6 := below_then T5 B6
          have N6 := N5.later B6
          have R6 := R5.later B6
          have T7 := below_then T6 (below_alloc w6 (.cells #[.string name, .string addr, .slice ka kl kc, .slice ua (len + 1) uc] 29))
          have N7 := N6.later (below_alloc w6 (.cells #[.string name, .string addr, .slice ka kl kc, .slice ua (len + 1) uc] 29))
          have R7 := R6.later (below_alloc w6 (.cells #[.string name, .string addr, .slice ka kl kc, .slice ua (len + 1) uc] 29))
          have Q7 := Q6.later (below_alloc w6 (.cells #[.string name, .string addr, .slice ka kl kc, .slice ua (len + 1) uc] 29))
          have M7 := M4.new w6 name addr (.slice ka kl kc) (.slice ua (len + 1) uc)
          have Z7 : St w name addr (.slice ka kl kc) w1.heap.size w6.heap.size va ua len vc uc A (ins A ea pn) L (ins L el pn) C (ins C ec pn) (w6.alloc (.cells #[.string name, .string addr, .slice ka kl kc, .slice ua (len + 1) uc] 29)) := ⟨T7, N7, M7, R7, Q7⟩
          clear T5 N5 R5 Q5 T6 N6 R6 Q6 B6 T7 N7 R7 Q7 M7
          obtain ⟨q0, q1, q2, q3⟩ := Z7.N
          go_wp2_with fail
          clear q0 q1 q2 q3
          refine (identities_bel name addr _ va len vc _ (by omega)).mono ?_
          rintro e w8 ⟨rfl, B8⟩
          have Z8 := Z7.later B8
          clear Z7 B8
          obtain ⟨q0, q1, q2, q3⟩ := Z8.M
          go_wp2_with fail
          clear q0 q1 q2 q3
          refine (identities_bel name addr _ ua (len + 1) uc _ (by omega)).mono ?_
          rintro e w9 ⟨rfl, B9⟩
          have Z9 := Z8.later B9
          clear Z8 B9
          obtain ⟨q0, q1, q2, q3⟩ := Z9.M
          go_wp2_with fail
          clear q0 q1 q2 q3
          refine (keyOf_any name addr ka kl kc ua (len + 1) uc (ins A ea pn) (ins L el pn) (ins C ec pn) 0 _ (by omega) Z9.Q).mono ?_
          rintro e w10 ⟨rfl, B10⟩
          have Z10 := Z9.later B10
          clear Z9 B10
          have p1 : pick ka none (len + 1) (ins A ea pn) 0 = ka := rfl
          have p2 : pick kl 0 (len + 1) (ins L el pn) 0 = kl := rfl
          have p3 : pick kc 0 (len + 1) (ins C ec pn) 0 = kc := rfl
          have p4 : inB (len + 1) 0 = true := inB_true _ _ (by omega) (by omega)
          go_wp2_with fail
          clear p1 p2 p3 p4
          refine (sameKey_bel _ _ _ w10 (hk.later Z10.T)).mono ?_
          rintro e w11 ⟨rfl, B11⟩
          have Z11 := Z10.later B11
          clear Z10 B11
          obtain ⟨q0, q1, q2, q3⟩ := Z11.M
          go_wp2_with fail
          clear q0 q1 q2 q3
          refine (keyOf_any name addr ka kl kc ua (len + 1) uc (ins A ea pn) (ins L el pn) (ins C ec pn) _ _ (by omega) Z11.Q).mono ?_
          rintro e w12 ⟨rfl, B12⟩
          have Z12 := Z11.later B12
          clear Z11 B12
          have p1 : pick ka none (len + 1) (ins A ea pn) ((pn : Int) + 1) = ea := pick_at _ _ _ _ _ _ hp2
          have p2 : pick kl 0 (len + 1) (ins L el pn) ((pn : Int) + 1) = el := pick_at _ _ _ _ _ _ hp2
          have p3 : pick kc 0 (len + 1) (ins C ec pn) ((pn : Int) + 1) = ec := pick_at _ _ _ _ _ _ hp2
          have p4 : inB (len + 1) ((pn : Int) + 1) = true := inB_true _ _ (by omega) (by omega)
          go_wp2_with fail
          refine (sameKey_bel _ _ _ w12 (he.later Z12.T)).mono ?_
          rintro e w13 ⟨rfl, B13⟩
          have Z13 := Z12.later B13
          clear Z12 B13
          obtain ⟨q0, q1, q2, q3⟩ := Z13.M
          go_wp2_with fail
          clear q0 q1 q2 q3
          refine (keyOf_any name addr ka kl kc ua (len + 1) uc (ins A ea pn) (ins L el pn) (ins C ec pn) _ _ (by omega) Z13.Q).mono ?_
          rintro e w14 ⟨rfl, B14⟩
          have Z14 := Z13.later B14
          clear Z13 B14
          obtain ⟨q0, q1, q2, q3⟩ := Z14.N
          by_cases hlt : i < (pn : Int) + 1
          · have r1 : pick ka none (len + 1) (ins A ea pn) i = pick ka none len A i := pick_below _ _ _ _ _ _ _ hp2 hlt
            have r2 : pick kl 0 (len + 1) (ins L el pn) i = pick kl 0 len L i := pick_below _ _ _ _ _ _ _ hp2 hlt
            have r3 : pick kc 0 (len + 1) (ins C ec pn) i = pick kc 0 len C i := pick_below _ _ _ _ _ _ _ hp2 hlt
            have r4 : inB (len + 1) i = inB len i := inB_below _ _ _ hp2 hlt
            go_wp2_with fail
            refine (keyOf_any name addr ka kl kc va len vc A L C _ _ (by omega) Z14.R).mono ?_
            rintro e w15 ⟨rfl, B15⟩
            have Z15 := Z14.later B15
            clear Z14 B15 q0 q1 q2 q3
            go_wp2_with fail
            refine (sameKey_bel _ _ _ w15 ((bytes_pick hk hL i).later Z15.T)).mono ?_
            rintro e w16 ⟨rfl, B16⟩
            go_wp2_with fail
            go_ret
            exact ⟨rfl, below_then Z15.T B16⟩
          by_cases heq : i = (pn : Int) + 1
          · subst heq
            have e1 : (((pn : Int) + 1) == ((pn : Int) + 1)) = true := by simp
            go_wp2_with fail
            refine (sameKey_bel _ _ _ w14 (he.later Z14.T)).mono ?_
            rintro e w16 ⟨rfl, B16⟩
            go_wp2_with fail
            go_ret
            exact ⟨rfl, below_then Z14.T B16⟩
          · have hgt : (pn : Int) + 1 < i := by omega
            have r1 : pick ka none (len + 1) (ins A ea pn) i = pick ka none len A (i - 1) := pick_above _ _ _ _ _ _ _ hgt
            have r2 : pick kl 0 (len + 1) (ins L el pn) i = pick kl 0 len L (i - 1) := pick_above _ _ _ _ _ _ _ hgt
            have r3 : pick kc 0 (len + 1) (ins C ec pn) i = pick kc 0 len C (i - 1) := pick_above _ _ _ _ _ _ _ hgt
            have r4 : inB (len + 1) i = inB len (i - 1) := inB_above _ _ _ hgt
            have e1 : (i == ((pn : Int) + 1)) = false := by simp; omega
            go_wp2_with fail
            refine (keyOf_any name addr ka kl kc va len vc A L C _ _ (by omega) Z14.R).mono ?_
            rintro e w15 ⟨rfl, B15⟩
            have Z15 := Z14.later B15
            clear Z14 B15 q0 q1 q2 q3
            go_wp2_with fail
            refine (sameKey_bel _ _ _ w15 ((bytes_pick hk hL (i - 1)).later Z15.T)).mono ?_
            rintro e w16 ⟨rfl, B16⟩
            go_wp2_with fail
            go_ret
            exact ⟨rfl, below_then Z15.T B16⟩
end Go.Proofs.Qxb6628711a
