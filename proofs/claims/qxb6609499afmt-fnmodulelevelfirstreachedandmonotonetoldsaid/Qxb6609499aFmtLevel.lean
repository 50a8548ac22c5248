/-
  (isvSVNLevels).level and maskedEqual.
-/
import Derived.Test.Qxb6609499aFmtIndex
import Derived.Deep.QuietTactic
import Derived.BigQuiet
import Derived.Laws.BitsAllLaws
namespace Go.Proofs.Qxb6609499aFmt
open Go.RowKit
/-- What (isvSVNLevels).level hands back: the first level that y reaches, or nil. -/
def LvlRes (g n : Nat) (svn : Nat → Int) (y : Int) (e : Ending) : Prop :=
  (∃ j : Nat, e = .returned (.pointer (some ⟨g, j * 3, none⟩)) ∧ j < n ∧ svn j ≤ y ∧ ∀ k, k < j → y < svn k) ∨ (e = .returned (.pointer none) ∧ ∀ k, k < n → y < svn k)
set_option maxRecDepth 100000 in
set_option maxHeartbeats 1000000 in
theorem level_any (g n c : Nat) (svn : Nat → Int) (y : Int) (w : World) (hn : n ≤ 9223372036854775806) (hM : NewLv w g n svn) (hg : g < w.heap.size) :
    Calls Tryf.prog 28 #[.slice (some ⟨g, 0, none⟩) n c, .int .u16 y] w fun e w' => LvlRes g n svn y e ∧ Below w.heap.size w w' := by
  have hb : Below w.heap.size w (w.alloc (.cells #[.int .u16 y] 56)) := (Below.refl _ _).alloc (Nat.le_refl _) _
  have HM := hid (hM.below hb hg)
  have hN : (w.alloc (.cells #[.int .u16 y] 56)).cell? ⟨w.heap.size, 0, none⟩ = some (.int .u16 y) := by rw [World.cell?_alloc_at _ _ _ _ rfl]; rfl
  have HN := hid hN
  clear hM hN
  go_enter Tryf.func28, Tryf.ntmps28
  go_wp2_with fail
  refine (indexLv_any g n c w.heap.size svn y _ hn HM.out (by simp; omega) HN.out).mono ?_
  rintro e w1 ⟨r, rfl, hr, hb1⟩
  have hB : Below w.heap.size w w1 := hb.trans (hb1.mono (by simp))
  rcases hr with ⟨i, rfl, hi1, hi2, hi3⟩ | ⟨rfl, hi⟩
  · have H3 : Hid (∀ k, k < i → y < svn k) := fun k hk => Int.not_le.1 (hi3 k hk)
    have j0 : ¬ ((i : Int) < 0) := by omega
    have j1 : (i : Int) < (n : Int) := by omega
    clear hi3
    go_wp2
    go_ret
    exact ⟨.inl ⟨i, rfl, hi1, hi2, H3.out⟩, hB⟩
  · have H3 : Hid (∀ k, k < n → y < svn k) := fun k hk => Int.not_le.1 (hi k hk)
    clear hi
    go_wp2
    go_ret
    exact ⟨.inr ⟨rfl, H3.out⟩, hB⟩
/-- The masked comparison, as a Bool. -/
def meq (za zb zm : List Int) : Nat → Bool
  | 0 => true
  | k + 1 => meq za zb zm k && (bits .and .u8 (za.getD k 0) (zm.getD k 0) == bits .and .u8 (zb.getD k 0) (zm.getD k 0))
theorem meq_false {za zb zm : List Int} {k n : Nat} (h : meq za zb zm k = false) (hk : k ≤ n) : meq za zb zm n = false := by
  induction n with
  | zero => have : k = 0 := by omega
            subst this; exact h
  | succ n ih =>
    by_cases hkn : k = n + 1
    · subst hkn; exact h
    · simp [meq, ih (by omega)]
set_option maxRecDepth 100000 in
set_option maxHeartbeats 1000000 in
theorem masked_any (A B C oa ob oc ca cb cc : Nat) (za zb zm : List Int) (w : World) (ha : Byt za 8) (hb : Byt zb 8) (hm : Byt zm 8) (ra : w.rangeAt A oa (B8 za)) (rb : w.rangeAt B ob (B8 zb)) (rc : w.rangeAt C oc (B8 zm)) :
    Calls Tryf.prog 27 #[.slice (some ⟨A, oa, none⟩) 8 ca, .slice (some ⟨B, ob, none⟩) 8 cb, .slice (some ⟨C, oc, none⟩) 8 cc] w fun e w' => e = .returned (.bool (meq za zb zm 8)) ∧ ∃ n, w' = w.drewN n := by
  have RA := hid ra
  have RB := hid rb
  have RC := hid rc
  clear ra rb rc
  go_enter Tryf.func27, Tryf.ntmps27
  go_wp2
  go_loopw [10] (fun i wr => ∃ k : Nat, k ≤ 8 ∧ i = .int .i64 k ∧ meq za zb zm k = true ∧ ∃ n, wr = w.drewN n) (fun i _ => 8 - (intOf i).toNat)
  case atStart => exact ⟨0, Nat.zero_le _, rfl, rfl, 0, rfl⟩
  case round =>
    obtain ⟨k, hk, rfl, hq, nn, rfl⟩ := hrel
    have HQ := hid hq
    clear hq
    by_cases hlt : k < 8
    · have a1 : w.cell? ⟨A, oa + k, none⟩ = some (.int .u8 (za.getD k 0)) := RA.out k _ (B8_get za k (by rw [ha.1]; exact hlt))
      have a2 : w.cell? ⟨B, ob + k, none⟩ = some (.int .u8 (zb.getD k 0)) := RB.out k _ (B8_get zb k (by rw [hb.1]; exact hlt))
      have a3 : w.cell? ⟨C, oc + k, none⟩ = some (.int .u8 (zm.getD k 0)) := RC.out k _ (B8_get zm k (by rw [hm.1]; exact hlt))
      have j1 : (k : Int) < 8 := by omega
      have HM : Hid (meq za zb zm (k + 1) = (meq za zb zm k && (bits .and .u8 (za.getD k 0) (zm.getD k 0) == bits .and .u8 (zb.getD k 0) (zm.getD k 0)))) := rfl
      generalize za.getD k 0 = x at a1 HM
      generalize zb.getD k 0 = y at a2 HM
      generalize zm.getD k 0 = z at a3 HM
      by_cases heq : bits .and .u8 x z = bits .and .u8 y z
      · have hne : (bits .and .u8 x z != bits .and .u8 y z) = false := by simp [heq]
        have HE := hid heq
        clear heq
        go_wp2
        go_quiet (fail)
        go_wp2
        go_roundw
        case rel => exact ⟨k + 1, by omega, by go_num, by rw [HM.out, HQ.out, HE.out]; simp, nn + nq, by first | rfl | rw [World.drewN_drewN]⟩
        case measure => simp [intOf]; omega
      · have hne : (bits .and .u8 x z != bits .and .u8 y z) = true := by simp [heq]
        have HE := hid heq
        clear heq
        have HF : Hid (meq za zb zm 8 = false) := meq_false (by rw [HM.out]; simp [HE.out]) (by omega)
        go_wp2
        go_quiet (fail)
        go_wp2
        go_ret
        exact ⟨by rw [HF.out]; rfl, nn + nq, by first | rfl | rw [World.drewN_drewN]⟩
    · have hke : k = 8 := by omega
      subst hke
      go_wp2
      go_ret
      exact ⟨by rw [HQ.out]; rfl, _, rfl⟩
end Go.Proofs.Qxb6609499aFmt
