/-
  The size guards: they return, whatever they find: zzAdd, zzModuleBytes, zzInfoBytes, zzBytes_...
-/
import Derived.Test.Qxb6609499aFmtShapes
namespace Go.Proofs.Qxb6609499aFmt
open Go.RowKit
theorem add_any (n k : Int) (h0 : 0 ≤ n) (h1 : 0 ≤ k) (h2 : n ≤ 9223372036854775807) (h3 : k ≤ 9223372036854775807) (w : World) :
    Calls Tryf.prog 22 #[.int .i64 n, .int .i64 k] w fun e w' => ∃ r : Int, e = .returned (.int .i64 r) ∧ 0 ≤ r ∧ r ≤ 2097152 ∧ w = w' := by
  by_cases g1 : 1048576 < n
  · go_enter Tryf.func22, Tryf.ntmps22
    go_wp2
    go_ret
    exact ⟨_, rfl, by decide, by decide, rfl⟩
  · by_cases g2 : 1048576 < k
    · go_enter Tryf.func22, Tryf.ntmps22
      go_wp2
      go_ret
      exact ⟨_, rfl, by decide, by decide, rfl⟩
    · go_enter Tryf.func22, Tryf.ntmps22
      go_wp2
      go_ret
      exact ⟨_, rfl, by omega, by omega, rfl⟩
set_option maxRecDepth 100000 in
set_option maxHeartbeats 1000000 in
theorem modBytes_any (m : ModV) (svn : Nat → Int) (n : Int) (h0 : 0 ≤ n) (h1 : n ≤ 2097152) (w : World) (hm : m.ok) (hl : LvAt w m.la m.ln svn) :
    Calls Tryf.prog 15 #[.agg m.cells.toArray, .int .i64 n] w fun e w' => ∃ r : Int, e = .returned (.int .i64 r) ∧ 0 ≤ r ∧ r ≤ 2097152 ∧ Below w.heap.size w w' := by
  have hb : Below w.heap.size w (w.alloc (.cells m.cells.toArray 31)) := (Below.refl _ _).alloc (Nat.le_refl _) _
  have e0 : m.cells.toArray[0]? = some (.string m.id) := by simpa using ModV.at0 (m := m)
  have e65 : m.cells.toArray[65]? = some (.slice m.la m.ln m.lc) := by simpa [ModV.lv] using ModV.at65 hm
  have hid1 := hm.1
  have hL := hid hl
  have hl1 := hl.1
  clear hm hl
  go_enter Tryf.func15, Tryf.ntmps15
  go_wp2_with (go_at_call 22; refine (add_any _ _ (by omega) (by omega) (by omega) (by omega) _).mono ?_; rintro e w' ⟨r, rfl, hr0, hr1, rfl⟩)
  clear hid1
  go_loop [1, 5] (fun t i => ∃ (r : Int) (j : Nat), j ≤ m.ln ∧ i = .int .i64 j ∧ t = .int .i64 r ∧ 0 ≤ r ∧ r ≤ 2097152) (fun _ i => m.ln - (intOf i).toNat)
  case atStart => exact ⟨_, 0, Nat.zero_le _, rfl, rfl, by assumption, by assumption⟩
  case round =>
    obtain ⟨r2, j, hj, rfl, rfl, hr2, hr3⟩ := hrel
    by_cases hlt : j < m.ln
    · obtain ⟨b, off, st, adv, na, ca, ea, hbw, c0, _, _, c1, hst, c2, hS⟩ := hL.out.2 j hlt
      by_cases hle : r2 ≤ 1048576
      · go_wp2_with (go_at_call 22; refine (add_any _ _ (by omega) (by omega) (by omega) (by omega) _).mono ?_; rintro e w' ⟨r, rfl, hr0, hr1, rfl⟩)
        go_loop [1, 6] (fun t i => ∃ (r : Int) (k : Nat), k ≤ na ∧ i = .int .i64 k ∧ t = .int .i64 r ∧ 0 ≤ r ∧ r ≤ 2097152) (fun _ i => na - (intOf i).toNat)
        case atStart => exact ⟨_, 0, Nat.zero_le _, rfl, rfl, by assumption, by assumption⟩
        case round =>
          obtain ⟨r4, k, hk, rfl, rfl, hr4, hr5⟩ := hrel
          have hna := hS.1
          by_cases hlt2 : k < na
          · obtain ⟨b2, off2, s2, ea2, hbw2, c3, hs2⟩ := hS.2 k hlt2
            have HS := hid hS
            clear hS
            by_cases hle2 : r4 ≤ 1048576
            · go_wp2_with (go_at_call 22; refine (add_any _ _ (by omega) (by omega) (by omega) (by omega) _).mono ?_; rintro e w' ⟨r, rfl, hr0, hr1, rfl⟩)
              go_round
              case rel => exact ⟨_, k + 1, by omega, by go_num, rfl, by assumption, by assumption⟩
              case measure => simp [intOf]; omega
            · go_wp2
              go_round
              case rel => exact ⟨_, j + 1, by omega, by go_num, rfl, by assumption, by assumption⟩
              case measure => simp [intOf]; omega
          · have HS := hid hS
            clear hS
            by_cases hle2 : r4 ≤ 1048576
            · go_wp2
              go_round
              case rel => exact ⟨_, j + 1, by omega, by go_num, rfl, by assumption, by assumption⟩
              case measure => simp [intOf]; omega
            · go_wp2
              go_round
              case rel => exact ⟨_, j + 1, by omega, by go_num, rfl, by assumption, by assumption⟩
              case measure => simp [intOf]; omega
      · clear hS
        go_wp2
        go_ret
        exact ⟨_, rfl, by assumption, by assumption, hb⟩
    · by_cases hle : r2 ≤ 1048576
      · go_wp2
        go_ret
        exact ⟨_, rfl, by assumption, by assumption, hb⟩
      · go_wp2
        go_ret
        exact ⟨_, rfl, by assumption, by assumption, hb⟩
set_option maxRecDepth 100000 in
set_option maxHeartbeats 1000000 in
theorem infoBytes_any (m : ModV) (svn : Nat → Int) (a : Option Addr) (n c : Nat) (ms : Nat → ModV) (svns : Nat → Nat → Int) (w : World) (hm : m.ok) (hl : LvAt w m.la m.ln svn) (hi : IdsAt w a n ms svns) :
    Calls Tryf.prog 5 #[.agg m.cells.toArray, .slice a n c] w fun e w' => ∃ r : Int, e = .returned (.int .i64 r) ∧ Below w.heap.size w w' := by
  have hb : Below w.heap.size w (w.alloc (.cells m.cells.toArray 31)) := (Below.refl _ _).alloc (Nat.le_refl _) _
  have hn := hi.1
  have HI := hid hi
  have HL := hid hl
  have HM := hid hm
  have Z0 : (w.alloc (.cells m.cells.toArray 31)).heap[w.heap.size]? = some (.cells m.cells.toArray 31 (0, 0)) := heap_alloc_new w _
  have Z1 : (Tryf.prog.info? 31).map (·.size) = some m.cells.toArray.size := by rw [List.size_toArray]; exact size31_of hm
  clear hi hl hm
  go_enter Tryf.func5, Tryf.ntmps5
  go_wp2_with (first
    | (refine wpList_load_row rfl 31 (.tmp 2) rfl w.heap.size rfl 31 m.cells.toArray (0, 0) _ Z0 Tryf.underlying31 rfl Z1 ?_)
    | (go_at_call 15; refine (modBytes_any m svn 0 (by omega) (by omega) _ HM.out (HL.out.below hb)).mono ?_; rintro e w1 ⟨r, rfl, hr0, hr1, hb1⟩))
  have hB : Below w.heap.size w w1 := hb.trans (hb1.mono (by simp))
  clear Z0 Z1 hb hb1
  go_loopw [5, 6] (fun t i wr => ∃ (r : Int) (k : Nat), k ≤ n ∧ i = .int .i64 k ∧ t = .int .i64 r ∧ 0 ≤ r ∧ r ≤ 2097152 ∧ Below w.heap.size w wr) (fun _ i _ => n - (intOf i).toNat)
  case atStart => exact ⟨_, 0, Nat.zero_le _, rfl, rfl, hr0, hr1, hB⟩
  case round =>
    obtain ⟨r2, k, hk, rfl, rfl, hr2, hr3, hBr⟩ := hrel
    by_cases hlt : k < n
    · by_cases hle : r2 ≤ 1048576
      · obtain ⟨b, off, rfl, hbw, hok, hrg, hlv⟩ := (HI.out.below hBr).2 k hlt
        have HR := hid hrg
        have HO := hid hok
        have HV := hid hlv
        have Z1 : (Tryf.prog.info? 31).map (·.size) = some (ms k).cells.length := size31_of hok
        clear hrg hok hlv
        go_wp2_with (first
          | (refine wpList_load_mid rfl 31 (.tmp 21) rfl b (off + k * 66) rfl (ms k).cells _ HR.out Tryf.underlying31 rfl Z1 ?_)
          | (go_at_call 15; refine (modBytes_any (ms k) (svns k) r2 (by omega) (by omega) _ HO.out HV.out).mono ?_; rintro e w2 ⟨r3, rfl, hr4, hr5, hb2⟩))
        go_roundw
        case rel =>
          exact ⟨_, k + 1, by omega, by go_num, rfl, hr4, hr5, hBr.trans (hb2.mono hBr.size)⟩
        case measure => simp [intOf]; omega
      · go_wp2
        go_ret
        first | exact ⟨_, rfl, hBr⟩ | exact ⟨⟨_, rfl⟩, hBr⟩
    · by_cases hle : r2 ≤ 1048576
      · go_wp2
        go_ret
        first | exact ⟨_, rfl, hBr⟩ | exact ⟨⟨_, rfl⟩, hBr⟩
      · go_wp2
        go_ret
        first | exact ⟨_, rfl, hBr⟩ | exact ⟨⟨_, rfl⟩, hBr⟩
end Go.Proofs.Qxb6609499aFmt
