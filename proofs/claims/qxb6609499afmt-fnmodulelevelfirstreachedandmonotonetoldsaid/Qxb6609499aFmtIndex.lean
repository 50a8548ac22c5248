/-
  slices.IndexFunc at the two closures of the package.
-/
import Derived.Test.Qxb6609499aFmtMods
import Derived.Test.Qxb6609499aFmtReport
namespace Go.Proofs.Qxb6609499aFmt
open Go.RowKit
/-- r is the first place below n at which p holds; -1 where there is none. -/
def FirstIx (p : Nat → Prop) (n : Nat) (r : Int) : Prop := (∃ i : Nat, r = i ∧ i < n ∧ p i ∧ ∀ k, k < i → ¬ p k) ∨ (r = -1 ∧ ∀ k, k < n → ¬ p k)

set_option maxRecDepth 100000 in
theorem clo_any (m : ModV) (name : ByteArray) (N : Nat) (w : World) (hN : w.cell? ⟨N, 0, none⟩ = some (.string name)) :
    Calls Tryf.prog 25 #[.agg m.cells.toArray, .pointer (some ⟨N, 0, none⟩)] w fun e w' => e = .returned (.bool (m.id.toList == name.toList)) ∧ Below w.heap.size w w' := by
  have e0 : m.cells.toArray[0]? = some (.string m.id) := by simpa using ModV.at0 (m := m)
  have hlt := World.block_lt_of_cell? w _ hN
  go_enter Tryf.func25, Tryf.ntmps25
  go_wp2
  go_ret
  exact ⟨rfl, (Below.refl _ _).alloc (Nat.le_refl _) _⟩

set_option maxRecDepth 100000 in
set_option maxHeartbeats 1000000 in
theorem indexMods_any (M n c N : Nat) (ms : Nat → ModV) (name : ByteArray) (w : World) (hn : n ≤ 9223372036854775806) (hok : ∀ i, i < n → (ms i).ok) (hM : ∀ i, i < n → w.rangeAt M (i * 66) (ms i).cells) (hMl : M < w.heap.size) (hN : w.cell? ⟨N, 0, none⟩ = some (.string name)) :
    Calls Tryf.prog 24 #[.slice (some ⟨M, 0, none⟩) n c, .func (.func 25) #[] #[.pointer (some ⟨N, 0, none⟩)]] w fun e w' =>
      ∃ r : Int, e = .returned (.int .i64 r) ∧ FirstIx (fun i => ((ms i).id.toList == name.toList) = true) n r ∧ Below w.heap.size w w' := by
  have hlt := World.block_lt_of_cell? w _ hN
  have HM := hid hM
  have HK := hid hok
  clear hM hok
  go_enter Tryf.func24, Tryf.ntmps24
  go_wp2
  go_loopw [8] (fun i wr => ∃ k : Nat, k ≤ n ∧ i = .int .i64 k ∧ (∀ q, q < k → ¬ ((ms q).id.toList == name.toList) = true) ∧ Below w.heap.size w wr) (fun i _ => n - (intOf i).toNat)
  case atStart => exact ⟨0, Nat.zero_le _, rfl, fun q hq => by omega, Below.refl _ _⟩
  case round =>
    obtain ⟨k, hk, rfl, hno, hBr⟩ := hrel
    have HN := hid hno
    clear hno
    by_cases hkn : k < n
    · have HR : Hid (wr.rangeAt M (0 + k * 66) (ms k).cells) := by
        rw [Nat.zero_add]; exact rangeAt_below (HM.out k hkn) hBr hMl
      have Z1 : (Tryf.prog.info? 42).map (·.size) = some (ms k).cells.length := size42_of (HK.out k hkn)
      have hNr : wr.cell? ⟨N, 0, none⟩ = some (.string name) := (hBr.cell (p := ⟨N, 0, none⟩) hlt).trans hN
      go_wp2_with (first
        | (refine wpList_load_mid rfl 42 (.tmp 14) rfl M (k * 66) rfl (ms k).cells _ (by have t := HR.out; rwa [Nat.zero_add] at t) Tryf.underlying42 rfl Z1 ?_)
        | (go_at_call 25; refine (clo_any (ms k) name N _ hNr).mono ?_; rintro e w2 ⟨rfl, hb2⟩))
      · go_ret
        exact ⟨_, rfl, .inl ⟨k, rfl, hkn, by assumption, HN.out⟩, hBr.trans (hb2.mono hBr.size)⟩
      · have hf : ((ms k).id.toList == name.toList) = false := by assumption
        go_roundw
        case rel =>
          refine ⟨k + 1, by omega, by go_num, fun q hq => ?_, hBr.trans (hb2.mono hBr.size)⟩
          by_cases hqk : q = k
          · subst hqk; rw [hf]; simp
          · exact HN.out q (by omega)
        case measure => simp [intOf]; omega
    · go_wp2
      go_ret
      exact ⟨_, rfl, .inr ⟨rfl, fun q hq => HN.out q (by omega)⟩, hBr⟩

set_option maxRecDepth 100000 in
theorem clo2_any (x y : Int) (s : ByteArray) (a : Option Addr) (l c : Nat) (N : Nat) (w : World) (hN : w.cell? ⟨N, 0, none⟩ = some (.int .u16 y)) :
    Calls Tryf.prog 32 #[.agg #[.int .u16 x, .string s, .slice a l c], .pointer (some ⟨N, 0, none⟩)] w fun e w' => e = .returned (.bool (decide (x ≤ y))) ∧ Below w.heap.size w w' := by
  have hlt := World.block_lt_of_cell? w _ hN
  go_enter Tryf.func32, Tryf.ntmps32
  go_wp2
  go_ret
  exact ⟨by simp, (Below.refl _ _).alloc (Nat.le_refl _) _⟩

set_option maxRecDepth 100000 in
set_option maxHeartbeats 1000000 in
theorem indexLv_any (g n c N : Nat) (svn : Nat → Int) (y : Int) (w : World) (hn : n ≤ 9223372036854775806) (hM : NewLv w g n svn) (hg : g < w.heap.size) (hN : w.cell? ⟨N, 0, none⟩ = some (.int .u16 y)) :
    Calls Tryf.prog 31 #[.slice (some ⟨g, 0, none⟩) n c, .func (.func 32) #[] #[.pointer (some ⟨N, 0, none⟩)]] w fun e w' =>
      ∃ r : Int, e = .returned (.int .i64 r) ∧ FirstIx (fun i => svn i ≤ y) n r ∧ Below w.heap.size w w' := by
  have hlt := World.block_lt_of_cell? w _ hN
  have HM := hid hM
  clear hM
  go_enter Tryf.func31, Tryf.ntmps31
  go_wp2
  go_loopw [8] (fun i wr => ∃ k : Nat, k ≤ n ∧ i = .int .i64 k ∧ (∀ q, q < k → y < svn q) ∧ Below w.heap.size w wr) (fun i _ => n - (intOf i).toNat)
  case atStart => exact ⟨0, Nat.zero_le _, rfl, fun q hq => by omega, Below.refl _ _⟩
  case round =>
    obtain ⟨k, hk, rfl, hno, hBr⟩ := hrel
    have HN := hid hno
    clear hno
    by_cases hkn : k < n
    · obtain ⟨h1, ⟨s, h2⟩, a, q, cc, h3⟩ := (HM.out.below hBr hg) k hkn
      have HR : Hid (wr.rangeAt g (k * 3) [.int .u16 (svn k), .string s, .slice a q cc]) := fun j v hv => by
        match j, hv with
        | 0, hv => simp at hv; subst hv; exact h1
        | 1, hv => simp at hv; subst hv; exact h2
        | 2, hv => simp at hv; subst hv; exact h3
      have Z1 : (Tryf.prog.info? 76).map (·.size) = some [Value.int .u16 (svn k), .string s, .slice a q cc].length := Tryf.size76
      have hNr : wr.cell? ⟨N, 0, none⟩ = some (.int .u16 y) := (hBr.cell (p := ⟨N, 0, none⟩) hlt).trans hN
      clear h1 h2 h3
      by_cases hle : svn k ≤ y
      · have hd : decide (svn k ≤ y) = true := decide_eq_true hle
        go_wp2_with (first
          | (refine wpList_load_mid rfl 76 (.tmp 14) rfl g (k * 3) rfl [.int .u16 (svn k), .string s, .slice a q cc] _ (by exact HR.out) Tryf.underlying76 rfl Z1 ?_)
          | (go_at_call 32; refine (clo2_any (svn k) y s a q cc N _ hNr).mono ?_; rw [hd]; rintro e w2 ⟨rfl, hb2⟩))
        go_ret
        exact ⟨_, rfl, .inl ⟨k, rfl, hkn, hle, fun q hq => Int.not_le.2 (HN.out q hq)⟩, hBr.trans (hb2.mono hBr.size)⟩
      · have hd : decide (svn k ≤ y) = false := decide_eq_false hle
        go_wp2_with (first
          | (refine wpList_load_mid rfl 76 (.tmp 14) rfl g (k * 3) rfl [.int .u16 (svn k), .string s, .slice a q cc] _ (by exact HR.out) Tryf.underlying76 rfl Z1 ?_)
          | (go_at_call 32; refine (clo2_any (svn k) y s a q cc N _ hNr).mono ?_; rw [hd]; rintro e w2 ⟨rfl, hb2⟩))
        go_roundw
        case rel =>
          refine ⟨k + 1, by omega, by go_num, fun q hq => ?_, hBr.trans (hb2.mono hBr.size)⟩
          by_cases hqk : q = k
          · subst hqk; omega
          · exact HN.out q (by omega)
        case measure => simp [intOf]; omega
    · go_wp2
      go_ret
      exact ⟨_, rfl, .inr ⟨rfl, fun q hq => Int.not_le.2 (HN.out q (by omega))⟩, hBr⟩
end Go.Proofs.Qxb6609499aFmt
