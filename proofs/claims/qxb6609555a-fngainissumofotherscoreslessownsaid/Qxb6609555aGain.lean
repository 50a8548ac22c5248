/-
  The contracts on the road of FnGainIsSumOfOtherScoresLessOwn: (*worth).gain, ZZgain, ZZnewClass, ZZnewWorthOwns, the bound on lengths.
-/
import Derived.Test.Qxb6609555aRows
import Derived.WalkKit
import Derived.WalkSpells
import Derived.ProofKit
import Derived.Deep.QuietTactic
import Derived.BigQuiet
import Derived.Laws.CopyOwn
namespace Go.Proofs.Qxb6609555a
open Go.RowKit

theorem hid {p : Prop} (h : p) : Hid p := h

theorem gain_any (W C s g n1 c1 n2 c2 : Nat) (k : Nat) (div sk ok : Int) (w : World) (hk1 : (k : Int) < n1) (hk2 : (k : Int) < n2)
    (c24 : w.cell? ⟨W, 24, none⟩ = some (.slice (some ⟨g, 0, none⟩) n2 c2))
    (c3 : w.cell? ⟨C, 3, none⟩ = some (.int .i64 div)) (c4 : w.cell? ⟨C, 4, none⟩ = some (.slice (some ⟨s, 0, none⟩) n1 c1))
    (hs : w.cell? ⟨s, k, none⟩ = some (.int .i64 sk)) (ho : w.cell? ⟨g, k * 20, none⟩ = some (.int .i64 ok)) :
    Calls Try.prog 19 #[.pointer (some ⟨W, 0, none⟩), .int .i64 k, .pointer (some ⟨C, 0, none⟩)] w fun e w' =>
      e = .returned (.int .i64 (wrap64 (wrap64 (div - sk) - ok))) ∧ ∃ n, w' = w.drewN n := by
  go_enter Try.func19, Try.ntmps19
  go_wp2
  go_quiet (fail)
  go_wp2
  go_ret
  exact ⟨rfl, _, rfl⟩

theorem zgain_any (W C s g n1 c1 n2 c2 : Nat) (k : Nat) (div sk ok : Int) (w : World) (hk1 : (k : Int) < n1) (hk2 : (k : Int) < n2)
    (c24 : w.cell? ⟨W, 24, none⟩ = some (.slice (some ⟨g, 0, none⟩) n2 c2))
    (c3 : w.cell? ⟨C, 3, none⟩ = some (.int .i64 div)) (c4 : w.cell? ⟨C, 4, none⟩ = some (.slice (some ⟨s, 0, none⟩) n1 c1))
    (hs : w.cell? ⟨s, k, none⟩ = some (.int .i64 sk)) (ho : w.cell? ⟨g, k * 20, none⟩ = some (.int .i64 ok)) :
    Calls Try.prog 14 #[.pointer (some ⟨W, 0, none⟩), .int .i64 k, .pointer (some ⟨C, 0, none⟩)] w fun e w' =>
      e = .returned (.int .i64 (wrap64 (wrap64 (div - sk) - ok))) ∧ ∃ n, w' = w.drewN n := by
  go_enter Try.func14, Try.ntmps14
  go_wp2_with (go_at_call 19; refine (gain_any W C s g n1 c1 n2 c2 k div sk ok _ hk1 hk2 c24 c3 c4 hs ho).mono ?_; rintro e w' ⟨rfl, n, rfl⟩)
  go_ret
  exact ⟨rfl, _, rfl⟩

theorem class_any (div : Int) (a : Option Addr) (n c : Nat) (w : World) :
    Calls Try.prog 13 #[.int .i64 div, .slice a n c] w fun e w' => e = .returned (.pointer (some ⟨w.heap.size, 0, none⟩)) ∧
      w' = w.alloc (.cells #[.int .i64 0, .int .i64 0, .slice none 0 0, .int .i64 div, .slice a n c] 86) := by
  go_enter Try.func13, Try.ntmps13
  go_wp2
  go_ret
  exact ⟨rfl, rfl⟩

theorem Try.info63 : (Try.prog.info? 63).map (fun i => (i.zero.map (fun z => z.cells.size), i.size, i.bytes)) = some (some 20, 20, 128) := by kernel_rfl

set_option maxHeartbeats 400000 in
theorem worth_any (b n c : Nat) (zs : List Int) (w : World) (hn : n ≤ 65536) (hb : b < w.heap.size)
    (hc : ∀ j, j < n → w.cell? ⟨b, j, none⟩ = some (.int .i64 (zs.getD j 0))) :
    Calls Try.prog 12 #[.slice (some ⟨b, 0, none⟩) n c] w fun e w' => ∃ g W : Nat, e = .returned (.pointer (some ⟨W, 0, none⟩)) ∧ w'.cell? ⟨W, 24, none⟩ = some (.slice (some ⟨g, 0, none⟩) n n) ∧
      (∀ j, j < n → w'.cell? ⟨g, j * 20, none⟩ = some (.int .i64 (zs.getD j 0))) ∧ Below w.heap.size w w' := by
  obtain ⟨i0, hi, hi'⟩ : ∃ i0, Try.prog.info? 63 = some i0 ∧ (i0.zero.map (fun z => z.cells.size), i0.size, i0.bytes) = (some 20, 20, 128) := by
    have h := Try.info63
    cases hq : Try.prog.info? 63 with
    | none => rw [hq] at h; cases h
    | some i => exact ⟨i, rfl, by rw [hq] at h; simpa using h⟩
  simp only [Prod.mk.injEq] at hi'
  obtain ⟨hz', hsz, hby⟩ := hi'
  obtain ⟨z0, hz, hz20⟩ : ∃ z, i0.zero = some z ∧ z.cells.size = 20 := by
    cases hq : i0.zero with
    | none => rw [hq] at hz'; cases hz'
    | some z => exact ⟨z, rfl, by rw [hq] at hz'; simpa using hz'⟩
  clear hz'
  have hb1 : i0.bytes * n ≤ 281474976710656 := by rw [hby]; omega
  have hb2 : n ≤ maxLen := by unfold maxLen; omega
  go_enter Try.func12, Try.ntmps12
  go_wp2_with (at_make; refine wpList_make_full _ rfl _ _ 54 rfl w.heap.size 63 i0 z0 20 Try.underlying54 hi hz hsz .i64 .i64 _ _ n rfl rfl rfl rfl hb1 hb2 (Nat.le_refl _) ?_; intro w1 hown hgrow)
  have hbel : Below w.heap.size w w1 := (Below.refl _ _).grown hgrow (Nat.le_refl _) (fun k h => by cases h)
  go_loopw [4] (fun i wr => ∃ k : Nat, k ≤ n ∧ i = .int .i64 k ∧ (∃ xs, wr.ownsRow w.heap.size 63 20 (.slice (some ⟨w.heap.size, 0, none⟩) n n) n xs ∧ ∀ j, j < k → xs[j * 20]? = some (.int .i64 (zs.getD j 0))) ∧ Below w.heap.size w wr)
    (fun i _ => n - (intOf i).toNat)
  case atStart => exact ⟨0, Nat.zero_le _, rfl, ⟨_, hown, fun j hj => by omega⟩, hbel⟩
  case round =>
    obtain ⟨k, hk, rfl, ⟨xs, hownr, hxs⟩, hbr⟩ := hrel
    by_cases hlt : k < n
    · have hcx : wr.cell? ⟨b, k, none⟩ = some (.int .i64 (zs.getD k 0)) := (hbr.cell (by exact hb)).trans (hc k hlt)
      have hfz := hownr.frozenAt (k * 20)
      obtain ⟨u, hu⟩ : ∃ u, wr.cell? ⟨w.heap.size, k * 20, none⟩ = some u := by
        have := hownr.cellAt (k * 20) (by omega)
        rw [this, List.getElem?_eq_getElem (by rw [hownr.1]; omega)]
        exact ⟨_, rfl⟩
      have H := hid hownr
      have HX := hid hxs
      clear hownr hxs hc hown hgrow hbel hb1 hb2 hi hz hz20 hsz hby
      go_wp2
      go_roundw
      case rel =>
        have hst := H.out.stored (k * 20) (.int .i64 (zs.getD k 0))
        refine ⟨k + 1, by omega, by go_num, ⟨_, hst.1, fun j hj => ?_⟩, hbr.setCell (by simp) _⟩
        rw [List.getElem?_set]
        by_cases hjk : j = k
        · subst hjk
          rw [if_pos rfl, if_pos (by rw [H.out.1]; omega)]
        · rw [if_neg (by omega)]
          exact HX.out j (by omega)
      case measure => simp [intOf]; omega
    · obtain rfl : k = n := by omega
      have hcl : ∀ j, j < k → wr.cell? ⟨w.heap.size, j * 20, none⟩ = some (.int .i64 (zs.getD j 0)) := fun j hj => by
        rw [hownr.cellAt (j * 20) (by omega)]; exact hxs j hj
      have hsize : w.heap.size < wr.heap.size := (hownr.lt w.heap.size rfl).2
      have H := hid hcl
      clear hownr hxs hc hown hgrow hbel hb1 hb2 hi hz hz20 hsz hby hcl
      go_wp2
      go_ret
      refine ⟨w.heap.size, wr.heap.size, rfl, by simp [go_sem], fun j hj => ?_, hbr.alloc (by omega) _⟩
      rw [World.cell?_alloc_past _ _ _ (by simpa using hsize)]
      exact H.out j hj

/-- The bound on the lengths. -/
theorem bound_any (k : Int) (a1 a2 : Option Addr) (n1 c1 n2 c2 : Nat) (h1 : n1 ≤ maxLen) (h2 : n2 ≤ maxLen) (w : World) :
    Calls Try.prog 11 #[.int .i64 k, .slice a1 n1 c1, .slice a2 n2 c2] w fun e w' => e = .returned (.bool (decide (n1 + n2 ≤ 1048576))) ∧ w' = w := by
  unfold maxLen at h1 h2
  by_cases b1 : n1 ≤ 1048576
  · by_cases b2 : n2 ≤ 1048576
    · by_cases b3 : n1 + n2 ≤ 1048576
      · go_enter Try.func11, Try.ntmps11
        go_wp2
        go_ret
        exact ⟨by simp [b3], rfl⟩
      · go_enter Try.func11, Try.ntmps11
        go_wp2
        go_ret
        exact ⟨by simp [b3], rfl⟩
    · go_enter Try.func11, Try.ntmps11
      go_wp2
      go_ret
      exact ⟨by simp; omega, rfl⟩
  · go_enter Try.func11, Try.ntmps11
    go_wp2
    go_ret
    exact ⟨by simp; omega, rfl⟩
end Go.Proofs.Qxb6609555a
