/-
  The walk of FnGainIsSumOfOtherScoresLessOwn.
-/
import Derived.Test.Qxb6609555aGain
namespace Go.Proofs.Qxb6609555a
open Go.RowKit

/-! ### The plain arithmetic -/
theorem wrap_add (a b : Int) : wrap64 (wrap64 a + b) = wrap64 (a + b) := by unfold wrap64; omega
theorem wrap_sub (a b : Int) : wrap64 (wrap64 a - b) = wrap64 (a - b) := by unfold wrap64; omega
theorem wrap_zero : wrap64 0 = 0 := by unfold wrap64; omega
/-- The sum of the first j. -/
def sumTo (zs : List Int) (j : Nat) : Int := (zs.take j).sum
theorem sumTo_zero (zs : List Int) : sumTo zs 0 = 0 := by simp [sumTo]
theorem sumTo_succ (zs : List Int) (j : Nat) : sumTo zs (j + 1) = sumTo zs j + zs.getD j 0 := by
  unfold sumTo
  rw [List.take_add_one, List.sum_append]
  cases h : zs[j]? with
  | none => simp [List.getD, h]
  | some x => simp [List.getD, h]
/-- The sum of the first j but the k-th. -/
def othTo (zs : List Int) (k j : Nat) : Int := sumTo zs j - if k < j then zs.getD k 0 else 0
theorem othTo_zero (zs : List Int) (k : Nat) : othTo zs k 0 = 0 := by simp [othTo, sumTo_zero]
theorem othTo_skip (zs : List Int) (k : Nat) : othTo zs k (k + 1) = othTo zs k k := by simp [othTo, sumTo_succ]
theorem othTo_take (zs : List Int) (k j : Nat) (h : j ≠ k) : othTo zs k (j + 1) = othTo zs k j + zs.getD j 0 := by
  unfold othTo
  rw [sumTo_succ]
  by_cases hk : k < j
  · rw [if_pos hk, if_pos (by omega)]; omega
  · rw [if_neg hk, if_neg (by omega)]; omega
theorem othTo_end (zs : List Int) (k n : Nat) (h : k < n) : othTo zs k n = sumTo zs n - zs.getD k 0 := by simp [othTo, h]
theorem law (S z o : Int) : wrap64 (wrap64 (wrap64 S - z) - o) = wrap64 (wrap64 (S - z) - o) := by rw [wrap_sub S z]

theorem eq_law (z1 z2 : List Int) (k n : Nat) (h : k < n) :
    Ending.returned (.bool (wrap64 (wrap64 (wrap64 (sumTo z1 n) - z1.getD k 0) - z2.getD k 0) == wrap64 (wrap64 (othTo z1 k n) - z2.getD k 0))) = .returned (.bool true) := by
  rw [law, othTo_end z1 k n h]; simp

theorem Try.info2 : (Try.prog.info? 2).map (fun i => (i.zero, i.size, i.bytes)) = some (some (.int .i64 0), 1, 8) := by kernel_rfl

/-- A row that was made and filled: what is behind 'make' and 'copy'. -/
theorem made_cur {w1 : World} {B n : Nat} {xs : List Value} (h : w1.ownsRow B 2 1 (.slice (some ⟨B, 0, none⟩) n n) n xs) : ∃ cur : List Value, w1.heap[B]? = some (.cells cur.toArray 2 (0, 0)) ∧ cur.length = n := by
  rcases h.2 with ⟨h', _⟩ | ⟨g, cap, cur, h', _, hg, _, _, hs, _⟩
  · simp at h'
  · simp only [Value.slice.injEq, Option.some.injEq, Addr.mk.injEq, and_true, true_and] at h'
    obtain ⟨rfl, rfl⟩ := h'
    exact ⟨cur.toList, by simpa using hg, by simpa using hs⟩
theorem filled {w2 : World} {B n : Nat} {cur : List Value} (zs : List Int) (_hlen : cur.length = n) (hz : n ≤ zs.length)
    (h : w2.heap[B]? = some (.cells (splice cur 0 ((zs.take n).map (Value.int .i64))).toArray 2 (0, 0))) : ∀ j, j < n → w2.cell? ⟨B, j, none⟩ = some (.int .i64 (zs.getD j 0)) := by
  intro j hj
  rw [cell_of_row w2 B j _ 2 (0, 0) h]
  simp [splice, List.getElem?_append, hj, List.getD]
  rw [List.getElem?_eq_getElem (by omega)]
  simp
  omega

theorem bound_yes (k : Int) (a1 a2 : Option Addr) (n1 c1 n2 c2 : Nat) (h1 : n1 ≤ 65536) (h2 : n2 ≤ 65536) (w : World) :
    Calls Try.prog 11 #[.int .i64 k, .slice a1 n1 c1, .slice a2 n2 c2] w fun e w' => e = .returned (.bool true) ∧ w = w' := by
  have := bound_any k a1 a2 n1 c1 n2 c2 (by unfold maxLen; omega) (by unfold maxLen; omega) w
  rw [decide_eq_true (by omega)] at this
  exact this.mono fun e w' ⟨h, h'⟩ => ⟨h, h'.symm⟩

theorem src1 {w w1 : World} {x : Addr} {n : Nat} {zs : List Int} (hc : ∀ i, i < n → w.cell? (x.add i) = some (.int .i64 (zs.getD i 0))) (hb : Below w.heap.size w w1) :
    ∀ (j : Nat) v, ((zs.take n).map (Value.int .i64))[j]? = some v → w1.cell? (x.add j) = some v := by
  intro j v h
  simp only [List.getElem?_map, List.getElem?_take] at h
  by_cases hj : j < n
  · rw [if_pos hj] at h
    have hx := hc j hj
    have hlt := World.block_lt_of_cell? w _ hx
    rw [hb.cell hlt, hx]
    cases hq : zs[j]? with
    | none => rw [hq] at h; cases h
    | some y => rw [hq] at h; simpa [List.getD, hq] using h
  · rw [if_neg hj] at h; cases h
theorem src2 {w w2 w3 : World} {x : Addr} {n : Nat} {zs : List Int} (hc : ∀ i, i < n → w.cell? (x.add i) = some (.int .i64 (zs.getD i 0))) (hb : Below w.heap.size w w2) (hb3 : Below w2.heap.size w2 w3) :
    ∀ (j : Nat) v, ((zs.take n).map (Value.int .i64))[j]? = some v → w3.cell? (x.add j) = some v :=
  src1 hc (hb.trans (hb3.mono hb.size))
theorem belowDrewN {B : Nat} {a w : World} (h : Below B a w) (n : Nat) : Below B a (w.drewN n) := h.trans ⟨rfl, rfl, rfl, Nat.le_refl _, fun _ _ => rfl⟩
theorem size_of_row {w : World} {g : Nat} {o : Obj} (h : w.heap[g]? = some o) : g < w.heap.size := (Array.getElem?_eq_some_iff.1 h).1

set_option maxHeartbeats 1000000 in
set_option maxRecDepth 100000 in
theorem gain_main (x1 x2 : Addr) (n1 c1 n2 c2 k : Nat) (z1 z2 : List Int) (w : World) (hn1 : n1 ≤ 65536) (hn2 : n2 ≤ 65536) (hk1 : k < n1) (hk2 : k < n2)
    (hz1 : n1 ≤ z1.length) (hz2 : n2 ≤ z2.length)
    (hc1 : ∀ i, i < n1 → w.cell? (x1.add i) = some (.int .i64 (z1.getD i 0))) (hc2 : ∀ i, i < n2 → w.cell? (x2.add i) = some (.int .i64 (z2.getD i 0))) :
    Calls Try.prog 4 #[.int .i64 k, .slice (some x1) n1 c1, .slice (some x2) n2 c2] w fun e w' => e = .returned (.bool true) ∧ Below w.heap.size w w' := by
  obtain ⟨i0, hi, hz0, hs0, hy0⟩ := info_parts Try.info2
  have hb1 : i0.bytes * n1 ≤ 281474976710656 := by rw [hy0]; omega
  have hb2 : i0.bytes * n2 ≤ 281474976710656 := by rw [hy0]; omega
  have hm1 : n1 ≤ maxLen := by unfold maxLen; omega
  have hm2 : n2 ≤ maxLen := by unfold maxLen; omega
  have e1 := fun (W : World) (a : Option Addr) (n c n' c' : Nat) => run_neq_slice_nil_any (P := Try.prog) W 29 2 a n c n' c' Try.underlying29
  have l1 : ((z1.take n1).map (Value.int .i64)).length = n1 := by simp; omega
  have l2 : ((z2.take n2).map (Value.int .i64)).length = n2 := by simp; omega
  have o1 : ∀ v ∈ (z1.take n1).map (Value.int .i64), v.oneCell' = true := ints_oneCell _ _
  have o2 : ∀ v ∈ (z2.take n2).map (Value.int .i64), v.oneCell' = true := ints_oneCell _ _
  have hsz1 : (Try.prog.info? 2).map (·.size) = some 1 := by rw [hi]; simp [hs0]
  have H1 := hid hc1
  have H2 := hid hc2
  have L1 := hid l1
  have L2 := hid l2
  clear hc1 hc2 l1 l2
  go_enter Try.func4, Try.ntmps4
  go_wp2_with (first
    | (go_at_call 11; refine (bound_yes _ _ _ _ _ _ _ hn1 hn2 _).mono ?_; rintro e w' ⟨rfl, rfl⟩)
    | (at_make; refine wpList_make_full _ rfl (.tmp 45) (.tmp 45) 29 rfl w.heap.size 2 i0 (.int .i64 0) 1 Try.underlying29 hi hz0 hs0 .i64 .i64 _ _ n1 rfl rfl rfl rfl hb1 hm1 (Nat.le_refl _) ?_; intro w1 hown1 hgrow1; obtain ⟨cur1, G1, T1⟩ := made_cur hown1; have B1 : Below w.heap.size w w1 := (Below.refl _ _).grown hgrow1 (Nat.le_refl _) (fun k h => by cases h); clear hown1 hgrow1)
    | (refine wpList_copy_splice rfl (.tmp 47) (.tmp 48) 29 29 rfl 2 Try.underlying29 hsz1 _ _ n1 n1 n1 c1 rfl rfl w.heap.size 0 cur1 2 G1 ((z1.take n1).map (Value.int .i64)) (by rw [L1.out]; exact (Nat.min_self _).symm) (fun _ => ⟨rfl, x1, rfl, src1 H1.out B1⟩) (by rw [L1.out]; omega) o1 w.heap.size w B1 (Nat.le_refl _) ?_; intro w2 hw2 B2; have C1 := hid (filled z1 T1 hz1 hw2.out); have S1 := size_of_row hw2.out; clear hw2 G1 B1)
    | (at_make; refine wpList_make_full _ rfl (.tmp 54) (.tmp 54) 29 rfl w2.heap.size 2 i0 (.int .i64 0) 1 Try.underlying29 hi hz0 hs0 .i64 .i64 _ _ n2 rfl rfl rfl rfl hb2 hm2 (Nat.le_refl _) ?_; intro w3 hown3 hgrow3; obtain ⟨cur3, G3, T3⟩ := made_cur hown3; have B3 : Below w2.heap.size w2 w3 := (Below.refl _ _).grown hgrow3 (Nat.le_refl _) (fun k h => by cases h); clear hown3 hgrow3)
    | (refine wpList_copy_splice rfl (.tmp 56) (.tmp 57) 29 29 rfl 2 Try.underlying29 hsz1 _ _ n2 n2 n2 c2 rfl rfl w2.heap.size 0 cur3 2 G3 ((z2.take n2).map (Value.int .i64)) (by rw [L2.out]; exact (Nat.min_self _).symm) (fun _ => ⟨rfl, x2, rfl, src2 H2.out B2 B3⟩) (by rw [L2.out]; omega) o2 w2.heap.size w2 B3 (Nat.le_refl _) ?_; intro w4 hw4 B4; have C2 := hid (filled z2 T3 hz2 hw4.out); have S2 := size_of_row hw4.out; clear hw4 G3 B3))
  have F1 : Hid (∀ j, j < n1 → w4.cell? ⟨w.heap.size, j, none⟩ = some (.int .i64 (z1.getD j 0))) := fun j hj => (B4.cell (p := ⟨w.heap.size, j, none⟩) S1).trans (C1.out j hj)
  have BB : Below w.heap.size w w4 := B2.trans (B4.mono B2.size)
  have S3 : w.heap.size < w4.heap.size := Nat.lt_of_lt_of_le S1 B4.size
  clear H1 H2 L1 L2 o1 o2 hi hz0 hs0 hy0 hb1 hb2 hm1 hm2 e1 hsz1 T1 T3 C1 B2 B4 hz1 hz2
  go_loop [9, 10] (fun d i => ∃ j : Nat, j ≤ n1 ∧ i = .int .i64 j ∧ d = .int .i64 (wrap64 (sumTo z1 j))) (fun _ i => n1 - (intOf i).toNat)
  case atStart => exact ⟨0, Nat.zero_le _, rfl, by rw [sumTo_zero, wrap_zero]⟩
  case round =>
    obtain ⟨j, hj, rfl, rfl⟩ := hrel
    by_cases hlt : j < n1
    · have hcj := F1.out j hlt
      have HS := hid (sumTo_succ z1 j)
      have HW := hid (wrap_add (sumTo z1 j) (z1.getD j 0))
      go_wp2
      go_round
      case rel => exact ⟨j + 1, by omega, by go_num, by rw [HS.out, ← HW.out]; rfl⟩
      case measure => simp [intOf]; omega
    · have hje : n1 = j := by omega
      subst hje
      go_wp2
      go_loop [11, 12] (fun d i => ∃ m : Nat, m ≤ n1 ∧ i = .int .i64 m ∧ d = .int .i64 (wrap64 (othTo z1 k m))) (fun _ i => n1 - (intOf i).toNat)
      case atStart => exact ⟨0, Nat.zero_le _, rfl, by rw [othTo_zero, wrap_zero]⟩
      case round =>
        obtain ⟨m, hm, rfl, rfl⟩ := hrel
        by_cases hlt2 : m < n1
        · by_cases hmk : m = k
          · have HS : Hid (othTo z1 k (m + 1) = othTo z1 k m) := by rw [hmk]; exact othTo_skip z1 k
            have hne : ((m : Int) != (k : Int)) = false := by simp [hmk]
            clear hmk
            go_wp2
            go_round
            case rel => exact ⟨m + 1, by omega, by go_num, by rw [HS.out]⟩
            case measure => simp [intOf]; omega
          · have hcj := F1.out m hlt2
            have HS := hid (othTo_take z1 k m hmk)
            have HW := hid (wrap_add (othTo z1 k m) (z1.getD m 0))
            have hne : ((m : Int) != (k : Int)) = true := by simp; omega
            go_wp2
            go_round
            case rel => exact ⟨m + 1, by omega, by go_num, by rw [HS.out, ← HW.out]; rfl⟩
            case measure => simp [intOf]; omega
        · have hme : n1 = m := by omega
          subst hme
          go_wp2_with (first
            | (go_at_call 12; refine (worth_any w2.heap.size n2 n2 z2 _ hn2 S2 C2.out).mono ?_; rintro e w5 ⟨g, W, rfl, c24, hg, B5⟩)
            | (go_at_call 13; refine (class_any _ _ _ _ _).mono ?_; rintro e w6 ⟨rfl, rfl⟩))
          have W5 : W < w5.heap.size := World.block_lt_of_cell? w5 _ c24
          have hgk := hg k hk2
          have g5 : g < w5.heap.size := World.block_lt_of_cell? w5 _ hgk
          have hs1 : w5.cell? ⟨w.heap.size, k, none⟩ = some (.int .i64 (z1.getD k 0)) := (B5.cell (p := ⟨w.heap.size, k, none⟩) S3).trans (F1.out k hk1)
          have hs2 : w5.cell? ⟨w2.heap.size, k, none⟩ = some (.int .i64 (z2.getD k 0)) := (B5.cell (p := ⟨w2.heap.size, k, none⟩) S2).trans (C2.out k hk2)
          have S5 : w.heap.size < w5.heap.size := Nat.lt_of_lt_of_le S3 B5.size
          have S6 : w2.heap.size < w5.heap.size := Nat.lt_of_lt_of_le S2 B5.size
          have hbelow : Below w.heap.size w (w5.alloc (.cells #[.int .i64 0, .int .i64 0, .slice none 0 0, .int .i64 (wrap64 (sumTo z1 n1)), .slice (some ⟨w.heap.size, 0, none⟩) n1 n1] 86)) :=
            (BB.trans (B5.mono BB.size)).alloc (by omega) _
          have hi1 : (k : Int) < (n1 : Int) := by omega
          have hi2 : (k : Int) < (n2 : Int) := by omega
          have f1 : (w5.alloc (.cells #[.int .i64 0, .int .i64 0, .slice none 0 0, .int .i64 (wrap64 (sumTo z1 n1)), .slice (some ⟨w.heap.size, 0, none⟩) n1 n1] 86)).cell? ⟨W, 24, none⟩ = some (.slice (some ⟨g, 0, none⟩) n2 n2) := by simp [go_sem, c24, W5]
          have f2 : (w5.alloc (.cells #[.int .i64 0, .int .i64 0, .slice none 0 0, .int .i64 (wrap64 (sumTo z1 n1)), .slice (some ⟨w.heap.size, 0, none⟩) n1 n1] 86)).cell? ⟨w5.heap.size, 3, none⟩ = some (.int .i64 (wrap64 (sumTo z1 n1))) := by simp [go_sem]
          have f3 : (w5.alloc (.cells #[.int .i64 0, .int .i64 0, .slice none 0 0, .int .i64 (wrap64 (sumTo z1 n1)), .slice (some ⟨w.heap.size, 0, none⟩) n1 n1] 86)).cell? ⟨w5.heap.size, 4, none⟩ = some (.slice (some ⟨w.heap.size, 0, none⟩) n1 n1) := by simp [go_sem]
          have f4 : (w5.alloc (.cells #[.int .i64 0, .int .i64 0, .slice none 0 0, .int .i64 (wrap64 (sumTo z1 n1)), .slice (some ⟨w.heap.size, 0, none⟩) n1 n1] 86)).cell? ⟨w.heap.size, k, none⟩ = some (.int .i64 (z1.getD k 0)) := by rw [World.cell?_alloc_past _ _ _ S5]; exact hs1
          have f5 : (w5.alloc (.cells #[.int .i64 0, .int .i64 0, .slice none 0 0, .int .i64 (wrap64 (sumTo z1 n1)), .slice (some ⟨w.heap.size, 0, none⟩) n1 n1] 86)).cell? ⟨g, k * 20, none⟩ = some (.int .i64 (z2.getD k 0)) := by rw [World.cell?_alloc_past _ _ _ g5]; exact hgk
          have f6 : (w5.alloc (.cells #[.int .i64 0, .int .i64 0, .slice none 0 0, .int .i64 (wrap64 (sumTo z1 n1)), .slice (some ⟨w.heap.size, 0, none⟩) n1 n1] 86)).cell? ⟨w2.heap.size, k, none⟩ = some (.int .i64 (z2.getD k 0)) := by rw [World.cell?_alloc_past _ _ _ S6]; exact hs2
          generalize hw6 : w5.alloc (.cells #[.int .i64 0, .int .i64 0, .slice none 0 0, .int .i64 (wrap64 (sumTo z1 n1)), .slice (some ⟨w.heap.size, 0, none⟩) n1 n1] 86) = w6 at f1 f2 f3 f4 f5 f6 hbelow ⊢
          generalize hC : w5.heap.size = C at f2 f3 ⊢
          clear hw6 hC hs1 hs2 hgk c24 hg B5 W5 g5 S5 S6 F1 C2 BB S1 S2 S3
          have HE := hid (eq_law z1 z2 k n1 hk1)
          go_quiet ((go_at_call 14; exact Calls.quiet_of (zgain_any W C w.heap.size g n1 n1 n2 n2 k (wrap64 (sumTo z1 n1)) (z1.getD k 0) (z2.getD k 0) _ hi1 hi2 f1 f2 f3 f4 f5)))
          go_wp2
          go_ret
          exact ⟨HE.out, belowDrewN hbelow _⟩

theorem bound_no (k : Int) (a1 a2 : Option Addr) (n1 c1 n2 c2 : Nat) (h1 : n1 ≤ maxLen) (h2 : n2 ≤ maxLen) (h : ¬ n1 + n2 ≤ 1048576) (w : World) :
    Calls Try.prog 11 #[.int .i64 k, .slice a1 n1 c1, .slice a2 n2 c2] w fun e w' => e = .returned (.bool false) ∧ w = w' := by
  have := bound_any k a1 a2 n1 c1 n2 c2 h1 h2 w
  rw [decide_eq_false h] at this
  exact this.mono fun e w' ⟨h, h'⟩ => ⟨h, h'.symm⟩
theorem bound_yes' (k : Int) (a1 a2 : Option Addr) (n1 c1 n2 c2 : Nat) (h1 : n1 ≤ maxLen) (h2 : n2 ≤ maxLen) (h : n1 + n2 ≤ 1048576) (w : World) :
    Calls Try.prog 11 #[.int .i64 k, .slice a1 n1 c1, .slice a2 n2 c2] w fun e w' => e = .returned (.bool true) ∧ w = w' := by
  have := bound_any k a1 a2 n1 c1 n2 c2 h1 h2 w
  rw [decide_eq_true h] at this
  exact this.mono fun e w' ⟨h, h'⟩ => ⟨h, h'.symm⟩

set_option maxRecDepth 100000 in
theorem gain_long (k : Int) (a1 a2 : Option Addr) (n1 c1 n2 c2 : Nat) (h1 : n1 ≤ maxLen) (h2 : n2 ≤ maxLen) (h : ¬ n1 + n2 ≤ 1048576) (w : World) :
    Calls Try.prog 4 #[.int .i64 k, .slice a1 n1 c1, .slice a2 n2 c2] w fun e w' => e = .returned (.bool true) ∧ Below w.heap.size w w' := by
  have H := hid h
  clear h
  go_enter Try.func4, Try.ntmps4
  go_wp2_with (go_at_call 11; refine (bound_no _ _ _ _ _ _ _ h1 h2 H.out _).mono ?_; rintro e w' ⟨rfl, rfl⟩)
  go_ret
  exact ⟨rfl, Below.refl _ _⟩
set_option maxRecDepth 100000 in
theorem gain_long1 (k : Int) (a1 a2 : Option Addr) (n1 c1 n2 c2 : Nat) (h1 : n1 ≤ maxLen) (h2 : n2 ≤ maxLen) (h : n1 + n2 ≤ 1048576) (hl : 65536 < n1 ∨ 65536 < n2) (w : World) :
    Calls Try.prog 4 #[.int .i64 k, .slice a1 n1 c1, .slice a2 n2 c2] w fun e w' => e = .returned (.bool true) ∧ Below w.heap.size w w' := by
  have H := hid h
  clear h
  by_cases g1 : 65536 < n1
  · have g1' : (65536 : Int) < (n1 : Int) := by omega
    go_enter Try.func4, Try.ntmps4
    go_wp2_with (go_at_call 11; refine (bound_yes' _ _ _ _ _ _ _ h1 h2 H.out _).mono ?_; rintro e w' ⟨rfl, rfl⟩)
    go_ret
    exact ⟨rfl, Below.refl _ _⟩
  · have g1' : ¬ (65536 : Int) < (n1 : Int) := by omega
    have g2' : (65536 : Int) < (n2 : Int) := by omega
    go_enter Try.func4, Try.ntmps4
    go_wp2_with (go_at_call 11; refine (bound_yes' _ _ _ _ _ _ _ h1 h2 H.out _).mono ?_; rintro e w' ⟨rfl, rfl⟩)
    go_ret
    exact ⟨rfl, Below.refl _ _⟩
set_option maxRecDepth 100000 in
theorem gain_out (k : Int) (a1 a2 : Option Addr) (n1 c1 n2 c2 : Nat) (h1 : n1 ≤ 65536) (h2 : n2 ≤ 65536) (hl : k < 0 ∨ (n1 : Int) ≤ k ∨ (n2 : Int) ≤ k) (w : World) :
    Calls Try.prog 4 #[.int .i64 k, .slice a1 n1 c1, .slice a2 n2 c2] w fun e w' => e = .returned (.bool true) ∧ Below w.heap.size w w' := by
  by_cases g1 : k < 0
  · go_enter Try.func4, Try.ntmps4
    go_wp2_with (go_at_call 11; refine (bound_yes _ _ _ _ _ _ _ h1 h2 _).mono ?_; rintro e w' ⟨rfl, rfl⟩)
    go_ret
    exact ⟨rfl, Below.refl _ _⟩
  · by_cases g2 : (n1 : Int) ≤ k
    · go_enter Try.func4, Try.ntmps4
      go_wp2_with (go_at_call 11; refine (bound_yes _ _ _ _ _ _ _ h1 h2 _).mono ?_; rintro e w' ⟨rfl, rfl⟩)
      go_ret
      exact ⟨rfl, Below.refl _ _⟩
    · have g3 : (n2 : Int) ≤ k := by omega
      go_enter Try.func4, Try.ntmps4
      go_wp2_with (go_at_call 11; refine (bound_yes _ _ _ _ _ _ _ h1 h2 _).mono ?_; rintro e w' ⟨rfl, rfl⟩)
      go_ret
      exact ⟨rfl, Below.refl _ _⟩
end Go.Proofs.Qxb6609555a
