/-
  The law FnHolderMovesOnlyToANewcomer (func 4) walked: it returns true.
-/
import Derived.Test.Qxb6628861aAids
import Derived.Laws.StructEq
import Derived.Deep.RegionLaw
namespace Go.Proofs.Qxb6628861a
open Go.RowKit

/-- The cells of the first k nodes. -/
def cellsOf (I D : Nat → ByteArray) : Nat → List Value
  | 0 => []
  | k + 1 => cellsOf I D k ++ [.string (I k), .string (D k)]
theorem cellsOf_length (I D : Nat → ByteArray) (k : Nat) : (cellsOf I D k).length = k * 2 := by
  induction k with
  | zero => rfl
  | succ k ih => simp only [cellsOf, List.length_append, List.length_cons, List.length_nil, ih]; omega
theorem cellsOf_get (I D : Nat → ByteArray) : ∀ (k r : Nat), r < k → (cellsOf I D k)[r * 2]? = some (.string (I r)) ∧ (cellsOf I D k)[r * 2 + 1]? = some (.string (D r))
  | 0, r, h => by omega
  | k + 1, r, h => by
    have hl := cellsOf_length I D k
    unfold cellsOf
    by_cases e : r = k
    · subst e
      rw [List.getElem?_append_right (by omega), List.getElem?_append_right (by omega), hl, Nat.sub_self, show r * 2 + 1 - r * 2 = 1 by omega]
      exact ⟨rfl, rfl⟩
    · rw [List.getElem?_append_left (by omega), List.getElem?_append_left (by omega)]
      exact cellsOf_get I D k r (by omega)

/-- What holds at the head of each round of the two loops that build the site with the newcomer. -/
structure AfterRel (I D : Nat → ByteArray) (G : Nat) (wG : World) (k : Nat) (v : Value) (wr : World) : Prop where
  own : wr.ownsRow G 31 2 v k (cellsOf I D k)
  bel : Below G wG wr
  size : G ≤ wr.heap.size

theorem AfterRel.next {I D : Nat → ByteArray} {G : Nat} {wG : World} {k : Nat} {v v' : Value} {wr X w1 : World} (h : AfterRel I D G wG k v wr) (hX : Below wr.heap.size wr X)
    (hown : w1.ownsRow G 31 2 v' (k + 1) (cellsOf I D k ++ [.string (I k), .string (D k)])) (hg : X.grownBy w1 v.ownBlock) : AfterRel I D G wG (k + 1) v' w1 := by
  have hs := h.size
  have hx := hX.size
  refine ⟨hown, (h.bel.trans (hX.mono hs)).grown hg (by omega) (fun j hj => (h.own.lt j hj).1), ?_⟩
  have := hg.size
  omega

theorem AfterRel.nodes {I D : Nat → ByteArray} {G : Nat} {wG : World} {k : Nat} {v : Value} {wr : World} (h : AfterRel I D G wG (k + 1) v wr) :
    ∃ g cap, v = .slice (some ⟨g, 0, none⟩) (k + 1) cap ∧ k + 1 ≤ cap ∧ cap ≤ 9223372036854775807 ∧ NodesAt wr (some ⟨g, 0, none⟩) (k + 1) I D := by
  obtain ⟨hl, h2⟩ := h.own
  rcases h2 with ⟨_, h0⟩ | ⟨g, cap, cur, rfl, _, hg, hle, hmax, _, _⟩
  · omega
  · refine ⟨g, cap, rfl, hle, by simp only [maxLen] at hmax; exact hmax, .inr ⟨g, 0, rfl, fun r hr => ?_⟩⟩
    obtain ⟨c0, c1⟩ := cellsOf_get I D (k + 1) r hr
    rw [Nat.zero_add]
    exact ⟨(h.own.cellAt _ (by omega)).trans c0, (h.own.cellAt _ (by omega)).trans c1⟩

set_option maxRecDepth 100000 in
set_option maxHeartbeats 8000000 in
theorem law2 (name key xI xD : ByteArray) (a : Option Addr) (n cap : Nat) (I D : Nat → ByteArray) (c1 c2 c3 p : Int) (w : World) (hG : Given w a n I D) (hs : name.size ≤ 9223372036854775807) (hk : key.size ≤ 9223372036854775807) (hxI : xI.size ≤ 9223372036854775807) (hxD : xD.size ≤ 9223372036854775807) :
    Calls Try.prog 4 #[.string name, .slice a n cap, .int .i64 c1, .int .i64 c2, .int .i64 c3, .string key, .string xI, .string xD, .int .i64 p] w fun e w' => e = .returned (.bool true) ∧ Below w.heap.size w w' := by
  have hmax := hG.max
  obtain ⟨i0, hi0, hz0, hz1, hz2⟩ := info_parts Try.info31
  go_enter Try.func4, Try.ntmps4
  go_wp2_with fail
  refine (bytesB_any name key xI xD a n cap I D _ _ _ _ w hG.at_ hmax hs hk hxI hxD hG.ids hG.adr).mono ?_
  rintro e w0 ⟨⟨g0, rfl, hg0⟩, hw⟩
  obtain rfl := hw
  cases g0 with
  | false =>
    go_wp2_with fail
    go_ret
    exact ⟨rfl, Below.refl _ _⟩
  | true =>
  have hn := hg0 rfl
  clear hg0
  go_wp2_with fail
  refine (within_any name key xI xD a n cap I D w hG.at_ hmax hs hk hxI hxD hG.ids hG.adr).mono ?_
  rintro e w0 ⟨⟨g0, rfl, -⟩, hw⟩
  obtain rfl := hw
  cases g0 with
  | false =>
    go_wp2_with fail
    go_ret
    exact ⟨rfl, Below.refl _ _⟩
  | true =>
  cases n with
  | zero =>
    go_wp2_with fail
    go_ret
    exact ⟨rfl, Below.refl _ _⟩
  | succ m =>
  by_cases hp0 : p < 0
  · go_wp2_with fail
    go_ret
    exact ⟨rfl, Below.refl _ _⟩
  by_cases hp1 : (m : Int) + 1 < p
  · go_wp2_with fail
    go_ret
    exact ⟨rfl, Below.refl _ _⟩
  obtain ⟨pn, rfl⟩ : ∃ pn : Nat, p = pn := ⟨p.toNat, by omega⟩
  have hpn : pn ≤ m + 1 := by omega
  go_wp2_with fail
  have hx0 := heap_alloc_new w (.cells #[.string xI, .string xD] 31)
  refine (nodes_any a (m + 1) cap I D _ (hG.at_.later (below_alloc _ _)) hn).mono ?_
  rintro e w1 ⟨rfl, hN1, B1⟩
  have hX1 := block_later hx0 B1
  have T1 : Below w.heap.size w w1 := below_then (below_alloc _ _) B1
  have hmk : ∀ w, (Instr.makeSlice 25 (.int .i64 0) (.int .i64 ((m : Int) + 1 + 1))).run Try.prog w = .ok (.slice (some ⟨w.heap.size, 0, none⟩) 0 (m + 2)) (w.alloc (.cells (madeCells #[.string { data := #[] }, .string { data := #[] }] ((m + 2) * 2)) 31)) := fun w => make_nodes 0 (m + 2) (by omega) (by omega) w
  clear hx0 B1
  have hN1' : NodesAt w1 (some ⟨w.heap.size + 1, 0, none⟩) (m + 1) I D := by simpa using hN1
  clear hN1
  go_wp2_with fail
  clear hmk
  have hstart : AfterRel (ins I xI pn) (ins D xD pn) w1.heap.size w1 0 (.slice (some ⟨w1.heap.size, 0, none⟩) 0 (m + 2)) (w1.alloc (.cells (madeCells #[.string { data := #[] }, .string { data := #[] }] ((m + 2) * 2)) 31)) :=
    ⟨World.ownsRow_made w1 _ (m + 2) (Nat.le_refl _) (by simp [maxLen]; omega) (size_madeCells _ _), below_alloc _ _, by simp⟩
  have HI : Hid (∀ r, r < pn → ins I xI pn r = I r ∧ ins D xD pn r = D r) := fun r hr => ⟨ins_lt _ _ hr, ins_lt _ _ hr⟩
  have HP : Hid (ins I xI pn pn = xI ∧ ins D xD pn pn = xD) := ⟨ins_at _ _ _, ins_at _ _ _⟩
  have HA : Hid (∀ r, pn ≤ r → ins I xI pn (r + 1) = I r ∧ ins D xD pn (r + 1) = D r) := fun r hr => ⟨by rw [ins_gt _ _ (by omega)]; rfl, by rw [ins_gt _ _ (by omega)]; rfl⟩
  obtain ⟨j, hj, hF⟩ : ∃ j, best (hashOf key) I m = j ∧ First (hashOf key) I m j := ⟨_, rfl, best_first _ _ _⟩
  have HN : Hid (((xI = I j ∧ pn ≤ j) ∨ outr (hashOf key) xI (I j) = true) → ins I xI pn (best (hashOf key) (ins I xI pn) (m + 1)) = xI ∧ ins D xD pn (best (hashOf key) (ins I xI pn) (m + 1)) = xD) := fun h => by
    rw [ins_new hF hpn h]; exact ⟨ins_at _ _ _, ins_at _ _ _⟩
  have HO : Hid (outr (hashOf key) xI (I j) = false → (xI = I j → j < pn) → ins I xI pn (best (hashOf key) (ins I xI pn) (m + 1)) = I j ∧ ins D xD pn (best (hashOf key) (ins I xI pn) (m + 1)) = D j) := fun h1 h2 => ins_old hF hpn h1 h2 D xD
  have HS : Hid (∀ r, r < m + 2 → (ins I xI pn r).size ≤ 9223372036854775807) := fun r hr => by
    rcases ins_cases I xI hpn (show r ≤ m + 1 by omega) with e | ⟨t, ht, e⟩
    · rw [e]; exact hxI
    · rw [e]; exact hG.ids t (by omega)
  generalize ins I xI pn = I' at *
  generalize ins D xD pn = D' at *
  go_loopw [21, 22] (fun v i wr => ∃ k : Nat, k ≤ pn ∧ i = .int .i64 k ∧ AfterRel I' D' w1.heap.size w1 k v wr) (fun _ i _ => pn - (intOf i).toNat)
  case atStart => exact ⟨0, Nat.zero_le _, rfl, hstart⟩
  case round =>
    clear hstart
    obtain ⟨k, hkp, rfl, hR⟩ := hrel
    by_cases hlt : k < pn
    · obtain ⟨b, o, rfl, hc⟩ := ((hG.at_.later T1).later hR.bel).resolve_left (by omega)
      obtain ⟨p0, p1⟩ := hc k (by omega)
      have hlb := World.block_lt_of_cell? wr _ p0
      simp only at hlb
      have hsz := hR.size
      have e1 : (k : Int) < (pn : Int) := by omega
      have e2 : (k : Int) < (m : Int) + 1 := by omega
      clear hc
      go_wp2_with fail
      go_region_law ((refine step_append_lies _ (by rfl) _ _ _ (by rfl) w1.heap.size 31 i0 _ 2 32 Try.underlying25 hi0 hz0 hz1 hz2 rfl (by omega) u21 k _ (by rfl) ((hR.own.alloc _).drew) ⟨wr.heap.size, 0, none⟩ 1 1 [.string (I k), .string (D k)] (by rfl) (by rfl) (World.news_of_block (cs := #[.string (I k), .string (D k)]) (t := 31) (fr := (0, 0)) (heap_alloc_new wr _)) (by simp [Value.oneCell']) (by omega) (by simp [maxLen]; omega) (by omega) (by simp; omega) (wr.heap.size + 1) (by simp) ?_; intro gg cap1 w2 hown1 hgrow hat hlt1))
      all_goals
        go_wp2_with fail
        go_roundw
        case rel => exact ⟨k + 1, by omega, by go_num, hR.next (below_alloc _ _).drew (by rw [(HI.out k hlt).1, (HI.out k hlt).2]; exact hown1) hgrow⟩
        case measure => simp [intOf]; omega
    · have hkn : pn = k := by omega
      subst hkn
      have cX := cell_of (block_later hX1 hR.bel)
      have zX := lt_of_block (block_later hX1 hR.bel)
      have hsz := hR.size
      go_wp2_with (at_builtin; refine wpList_append_lies _ rfl _ _ 25 rfl w1.heap.size 31 i0 _ 2 32 Try.underlying25 hi0 hz0 hz1 hz2 rfl (by omega) u21 pn _ rfl (hR.own.alloc _) ⟨wr.heap.size, 0, none⟩ 1 1 [.string xI, .string xD] rfl rfl (World.news_of_block (cs := #[.string xI, .string xD]) (t := 31) (fr := (0, 0)) (heap_alloc_new wr _)) (by simp [Value.oneCell']) (by omega) (by simp [maxLen]; omega) (by omega) (by simp; omega) (wr.heap.size + 1) (by simp) ?_; intro gg cap1 w2 hown1 hgrow hat hlt1)
      have hM : AfterRel I' D' w1.heap.size w1 (pn + 1) (.slice (some ⟨gg, 0, none⟩) (pn + 1) cap1) w2 := hR.next (below_alloc _ _) (by rw [HP.out.1, HP.out.2]; exact hown1) hgrow
      clear cX zX hsz hR hown1 hgrow hat hlt1 HP HI
      go_loopw [21, 23] (fun v i wr => ∃ k : Nat, pn ≤ k ∧ k ≤ m + 1 ∧ i = .int .i64 k ∧ AfterRel I' D' w1.heap.size w1 (k + 1) v wr) (fun _ i _ => m + 1 - (intOf i).toNat)
      case atStart => exact ⟨pn, Nat.le_refl _, hpn, rfl, hM⟩
      case round =>
        clear hM
        obtain ⟨k, hkp, hkm, rfl, hR⟩ := hrel
        by_cases hlt : k < m + 1
        · obtain ⟨b, o, rfl, hc⟩ := ((hG.at_.later T1).later hR.bel).resolve_left (by omega)
          obtain ⟨p0, p1⟩ := hc k (by omega)
          have hlb := World.block_lt_of_cell? _ _ p0
          simp only at hlb
          have hsz := hR.size
          have e2 : (k : Int) < (m : Int) + 1 := by omega
          clear hc
          go_wp2_with fail
          go_region_law ((refine step_append_lies _ (by rfl) _ _ _ (by rfl) w1.heap.size 31 i0 _ 2 32 Try.underlying25 hi0 hz0 hz1 hz2 rfl (by omega) u21 (k + 1) _ (by rfl) ((hR.own.alloc _).drew) ⟨wr.heap.size, 0, none⟩ 1 1 [.string (I k), .string (D k)] (by rfl) (by rfl) (World.news_of_block (cs := #[.string (I k), .string (D k)]) (t := 31) (fr := (0, 0)) (heap_alloc_new wr _)) (by simp [Value.oneCell']) (by omega) (by simp [maxLen]; omega) (by omega) (by simp; omega) (wr.heap.size + 1) (by simp) ?_; intro gg2 cap2 w3 hown1 hgrow hat hlt1))
          all_goals
            go_wp2_with fail
            go_roundw
            case rel => exact ⟨k + 1, by omega, by omega, by go_num, hR.next (below_alloc _ _).drew (by rw [(HA.out k hkp).1, (HA.out k hkp).2]; exact hown1) hgrow⟩
            case measure => simp [intOf]; omega
        · have hkn : k = m + 1 := by omega
          subst hkn
          obtain ⟨g, cap2, rfl, hcap1, hcap2, hN2⟩ := hR.nodes
          have T2 : Below w.heap.size w wr := below_then T1 hR.bel
          have hB2 := hN1'.later hR.bel
          have hX2 := block_later hX1 hR.bel
          clear hR hN1' hX1 T1 HA hkp hkm hlt hi0 hz0 hz1 hz2
          go_wp2_with fail
          refine (holder_any name key _ m (m + 1) c1 c2 c3 I D _ hB2 (Nat.le_refl _) (by omega) hk hG.ids).mono ?_
          rintro e w3 ⟨rfl, B3⟩
          rw [hj]
          go_wp2_with fail
          have T3 : Below w.heap.size w (w3.alloc (.cells #[.string (I j), .string (D j)] 31)) := below_then (below_then T2 B3) (below_alloc _ _)
          have hX3 : (w3.alloc (.cells #[.string (I j), .string (D j)] 31)).heap[w.heap.size]? = _ := old_at (block_later hX2 B3)
          have hH3 : (w3.alloc (.cells #[.string (I j), .string (D j)] 31)).heap[w3.heap.size]? = _ := heap_alloc_new w3 _
          have hN3 := (hN2.later B3).later (below_alloc _ (.cells #[.string (I j), .string (D j)] 31))
          clear hX2 T2 B3 hN2 hB2
          refine (holder_any name key _ (m + 1) cap2 c1 c2 c3 I' D' _ hN3 hcap1 hcap2 hk HS.out).mono ?_
          rintro e w4 ⟨rfl, B4⟩
          generalize I' (best (hashOf key) I' (m + 1)) = i2 at *
          generalize D' (best (hashOf key) I' (m + 1)) = d2 at *
          have T4 : Below w.heap.size w (w4.alloc (.cells #[.string i2, .string d2] 31)) := below_then (below_then T3 B4) (below_alloc _ _)
          have hX4 : (w4.alloc (.cells #[.string i2, .string d2] 31)).heap[w.heap.size]? = _ := old_at (block_later hX3 B4)
          have hH4 : (w4.alloc (.cells #[.string i2, .string d2] 31)).heap[w3.heap.size]? = _ := old_at (block_later hH3 B4)
          have hZ4 : (w4.alloc (.cells #[.string i2, .string d2] 31)).heap[w4.heap.size]? = _ := heap_alloc_new w4 _
          have k1 := block_later hH3 B4
          have z1 := lt_of_block k1
          have c1' := cell_of k1
          clear hX3 hH3 T3 B4 hN3 hcap1 hcap2 HS k1
          have hjle := hF.le
          go_wp2_with fail
          refine (firstId_any (I j) a (m + 1) cap j I D _ (hG.at_.later T4) hmax (by omega) rfl (fun r hr => hF.first r hr)).mono ?_
          rintro e w5 ⟨rfl, hw⟩
          obtain rfl := hw
          have zX := lt_of_block hX4
          have zH := lt_of_block hH4
          have zZ := lt_of_block hZ4
          clear z1 c1'
          generalize w4.alloc (.cells #[.string i2, .string d2] 31) = w5 at *
          generalize w4.heap.size = Z at *
          generalize w3.heap.size = H at *
          obtain ⟨b, o, rfl, hc⟩ := (hG.at_.later T4).resolve_left (by omega)
          obtain ⟨p0, p1⟩ := hc j (by omega)
          have cX := cell_of hX4
          have cH := cell_of hH4
          have cZ := cell_of hZ4
          have hjn : (j : Int) < (m : Int) + 1 := by omega
          clear hc
          go_wp2_with fail
          go_quiet (fail)
          have T6 : Below w.heap.size w (w5.drewN nq) := ⟨T4.os, T4.tape, T4.output, T4.size, T4.block⟩
          have hX6 : (w5.drewN nq).heap[w.heap.size]? = _ := hX4
          have hH6 : (w5.drewN nq).heap[H]? = _ := hH4
          have hZ6 : (w5.drewN nq).heap[Z]? = _ := hZ4
          clear cX cH cZ zX zH zZ hX4 hH4 hZ4 T4 p0 p1
          generalize w5.drewN nq = w6 at *
          have cX := cell_of hX6
          have cH := cell_of hH6
          have cZ := cell_of hZ6
          have zX := lt_of_block hX6
          have zH := lt_of_block hH6
          have zZ := lt_of_block hZ6
          have hIj := hG.ids j (by omega)
          by_cases hx : xI = I j
          · have q : (xI.toList == (I j).toList) = true := by rw [hx]; exact beq_self _
            by_cases hpj : pn ≤ j
            · obtain ⟨h1, h2⟩ := HN.out (.inl ⟨hx, hpj⟩)
              subst h1 h2
              clear HN HO hx
              as_aux_lemma =>
                go_wp2_with fail
                go_ret
                exact ⟨rfl, below_then T6 (below_alloc _ _)⟩
            · obtain ⟨h1, h2⟩ := HO.out (by rw [hx]; exact outr_irr _ _) (fun _ => by omega)
              subst h1 h2
              clear HN HO hx
              have e3 : ¬ (pn : Int) ≤ (j : Int) := by omega
              as_aux_lemma =>
                go_wp2_with fail
                go_ret
                exact ⟨rfl, below_then T6 (below_alloc _ _)⟩
          · have q : (xI.toList == (I j).toList) = false := beq_ne hx
            cases ho : outr (hashOf key) xI (I j) with
            | true =>
              obtain ⟨h1, h2⟩ := HN.out (.inr ho)
              subst h1 h2
              have Ho : Hid (outr (hashOf key) i2 (I j) = true) := ho
              clear HN HO hx ho
              as_aux_lemma =>
                go_wp2_with fail
                refine (two_second name key _ c1 c2 c3 (I j) (D j) i2 d2 _ (new_at (by simp)) hk hIj hxI Ho.out).mono ?_
                rintro e w7 ⟨rfl, B7⟩
                have kY := block_later (old_at (o := .cells #[.string (I j), .string (D j), .string i2, .string d2] 31) (heap_alloc_new w6 (.cells #[.string { data := #[] }, .string { data := #[] }] 31))) B7
                have kZ := block_later (old_at (o := .cells #[.string (I j), .string (D j), .string i2, .string d2] 31) (old_at (o := .cells #[.string { data := #[] }, .string { data := #[] }] 31) hZ6)) B7
                have kH := block_later (old_at (o := .cells #[.string (I j), .string (D j), .string i2, .string d2] 31) (old_at (o := .cells #[.string { data := #[] }, .string { data := #[] }] 31) hH6)) B7
                have kX := block_later (old_at (o := .cells #[.string (I j), .string (D j), .string i2, .string d2] 31) (old_at (o := .cells #[.string { data := #[] }, .string { data := #[] }] 31) hX6)) B7
                have T7 : Below w.heap.size w w7 := below_then (below_then (below_then T6 (below_alloc _ _)) (below_alloc _ _)) B7
                have hle := T6.size
                clear cX cH cZ zX zH Ho B7 hX6 hH6 hZ6
                have cY := cell_of kY
                have cZ := cell_of kZ
                have cH := cell_of kH
                have cX := cell_of kX
                have fY := frozen_of kY
                have zY := lt_of_block kY
                have zZ7 := lt_of_block kZ
                have zH7 := lt_of_block kH
                have zX7 := lt_of_block kX
                have n1 : Z ≠ w6.heap.size := by omega
                have n2 : w7.heap.size ≠ w6.heap.size := by omega
                go_wp2_with fail
                go_ret
                exact ⟨rfl, below_then ((T7.setCell (p := ⟨w6.heap.size, 0, none⟩) hle _).setCell (p := ⟨w6.heap.size, 1, none⟩) hle _) (below_alloc _ _)⟩
            | false =>
              obtain ⟨h1, h2⟩ := HO.out ho (fun h => absurd h hx)
              subst h1 h2
              have Ho : Hid (outr (hashOf key) xI (I j) = false) := ho
              clear HN HO hx ho
              as_aux_lemma =>
                go_wp2_with fail
                refine (two_first name key _ c1 c2 c3 (I j) (D j) xI xD _ (new_at (by simp)) hk hIj hxI Ho.out).mono ?_
                rintro e w7 ⟨rfl, B7⟩
                have kY := block_later (old_at (o := .cells #[.string (I j), .string (D j), .string xI, .string xD] 31) (heap_alloc_new w6 (.cells #[.string { data := #[] }, .string { data := #[] }] 31))) B7
                have kZ := block_later (old_at (o := .cells #[.string (I j), .string (D j), .string xI, .string xD] 31) (old_at (o := .cells #[.string { data := #[] }, .string { data := #[] }] 31) hZ6)) B7
                have kH := block_later (old_at (o := .cells #[.string (I j), .string (D j), .string xI, .string xD] 31) (old_at (o := .cells #[.string { data := #[] }, .string { data := #[] }] 31) hH6)) B7
                have kX := block_later (old_at (o := .cells #[.string (I j), .string (D j), .string xI, .string xD] 31) (old_at (o := .cells #[.string { data := #[] }, .string { data := #[] }] 31) hX6)) B7
                have T7 : Below w.heap.size w w7 := below_then (below_then (below_then T6 (below_alloc _ _)) (below_alloc _ _)) B7
                have hle := T6.size
                clear cX cH cZ zX zH Ho B7 hX6 hH6 hZ6
                have cY := cell_of kY
                have cZ := cell_of kZ
                have cH := cell_of kH
                have cX := cell_of kX
                have fY := frozen_of kY
                have zY := lt_of_block kY
                have zZ7 := lt_of_block kZ
                have zH7 := lt_of_block kH
                have zX7 := lt_of_block kX
                have n1 : Z ≠ w6.heap.size := by omega
                have n2 : w7.heap.size ≠ w6.heap.size := by omega
                go_wp2_with fail
                go_ret
                exact ⟨rfl, below_then ((T7.setCell (p := ⟨w6.heap.size, 0, none⟩) hle _).setCell (p := ⟨w6.heap.size, 1, none⟩) hle _) (below_alloc _ _)⟩

end Go.Proofs.Qxb6628861a
