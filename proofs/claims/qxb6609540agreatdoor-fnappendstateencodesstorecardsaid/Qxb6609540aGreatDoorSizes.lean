/-
  The size guard: zzAdd, zzAddN, zzSegsBytes.
-/
import Derived.Test.Qxb6609540aGreatDoorShapes
namespace Go.Proofs.Qxb6609540aGreatDoor
open Go.RowKit

/-- What the weights come to. -/
def strsW (L : List ByteArray) : Nat := (L.map ByteArray.size).sum
def segW (s : SegV) : Nat := 16 * s.ms.length + strsW s.ms
def segsW (L : List SegV) : Nat := 32 * L.length + (L.map segW).sum
def grpW (g : GrpV) : Nat := segsW g.segs + segsW g.plan
def polW (p : PolV) : Nat := p.name.size + 80 * p.grps.length + (p.grps.map grpW).sum
def dbW (d : DbV) : Nat := d.name.size + d.dp.size + 64 * d.pols.length + (d.pols.map polW).sum
theorem sum_next {α : Type} (f : α → Nat) {L : List α} {k : Nat} {x : α} (h : L[k]? = some x) : ((L.take (k + 1)).map f).sum = ((L.take k).map f).sum + f x := by
  rw [take_next h]; simp
/-- A sum that gives up once it is above the bound. -/
def Sat (r : Int) (s : Int) : Prop := 0 ≤ r ∧ r ≤ 2097152 ∧ (r ≤ 1048576 → r = s)

theorem add_any (n k : Int) (h0 : 0 ≤ n) (h1 : 0 ≤ k) (h2 : n ≤ 9223372036854775807) (h3 : k ≤ 9223372036854775807) (w : World) :
    Calls Tryz.prog 14 #[.int .i64 n, .int .i64 k] w fun e w' => ∃ r : Int, e = .returned (.int .i64 r) ∧ 0 ≤ r ∧ r ≤ 2097152 ∧ (r ≤ 1048576 → n ≤ 1048576 ∧ r = n + k) ∧ w = w' := by
  by_cases g1 : 1048576 < n
  · go_enter Tryz.func14, Tryz.ntmps14
    go_wp2
    go_ret
    exact ⟨_, rfl, by decide, by decide, fun h => by omega, rfl⟩
  · by_cases g2 : 1048576 < k
    · go_enter Tryz.func14, Tryz.ntmps14
      go_wp2
      go_ret
      exact ⟨_, rfl, by decide, by decide, fun h => by omega, rfl⟩
    · go_enter Tryz.func14, Tryz.ntmps14
      go_wp2
      go_ret
      exact ⟨_, rfl, by omega, by omega, fun h => by first | rfl | exact ⟨by omega, rfl⟩, rfl⟩
theorem addN_any (n : Int) (k u : Nat) (h0 : 0 ≤ n) (h2 : n ≤ 9223372036854775807) (h3 : k ≤ 9223372036854775807) (h4 : u ≤ 80) (w : World) :
    Calls Tryz.prog 15 #[.int .i64 n, .int .i64 k, .int .i64 u] w fun e w' => ∃ r : Int, e = .returned (.int .i64 r) ∧ 0 ≤ r ∧ r ≤ 2097152 ∧ (r ≤ 1048576 → n ≤ 1048576 ∧ r = n + (u : Int) * k) ∧ w = w' := by
  by_cases g1 : 1048576 < (k : Int)
  · go_enter Tryz.func15, Tryz.ntmps15
    go_wp2
    go_ret
    exact ⟨_, rfl, by decide, by decide, fun h => by omega, rfl⟩
  · have m0 : 0 ≤ (k : Int) * (u : Int) := Int.mul_nonneg (by omega) (by omega)
    have m1 : (k : Int) * (u : Int) ≤ 83886080 := by
      have : (k : Int) * (u : Int) ≤ 1048576 * 80 := Int.mul_le_mul (by omega) (by omega) (by omega) (by omega)
      omega
    have m2 : (u : Int) * (k : Int) = (k : Int) * (u : Int) := Int.mul_comm _ _
    go_enter Tryz.func15, Tryz.ntmps15
    go_wp2_with (go_at_call 14; refine (add_any _ _ (by omega) (by omega) (by omega) (by omega) _).mono ?_; rintro e w' ⟨r, rfl, hr0, hr1, hr2, rfl⟩)
    go_ret
    exact ⟨_, rfl, hr0, hr1, fun h => by rw [m2]; exact hr2 h, rfl⟩

set_option maxRecDepth 100000 in
set_option maxHeartbeats 1000000 in
theorem segsBytes_any (n : Int) (h0 : 0 ≤ n) (h1 : n ≤ 2097152) (a : Option Addr) (c : Nat) (L : List SegV) (w : World) (hs : SegsAt w a L) :
    Calls Tryz.prog 16 #[.int .i64 n, .slice a L.length c] w fun e w' => ∃ r : Int, e = .returned (.int .i64 r) ∧ 0 ≤ r ∧ r ≤ 2097152 ∧ (r ≤ 1048576 → n ≤ 1048576 ∧ r = n + segsW L) ∧ w = w' := by
  have HS := hid hs
  have hl := hs.1
  clear hs
  go_enter Tryz.func16, Tryz.ntmps16
  go_wp2_with (go_at_call 15; refine (addN_any _ _ 32 (by omega) (by omega) (by omega) (by omega) _).mono ?_; rintro e w' ⟨r, rfl, hr0, hr1, hr2, rfl⟩)
  have HR := hid hr2
  clear hr2
  go_loop [0, 5] (fun t i => ∃ (q : Int) (j : Nat), j ≤ L.length ∧ i = .int .i64 j ∧ t = .int .i64 q ∧ 0 ≤ q ∧ q ≤ 2097152 ∧ Hid (q ≤ 1048576 → r ≤ 1048576 ∧ q = r + ((L.take j).map segW).sum)) (fun _ i => L.length - (intOf i).toNat)
  case atStart => exact ⟨_, 0, Nat.zero_le _, rfl, rfl, hr0, hr1, fun h => ⟨h, by simp⟩⟩
  case round =>
    obtain ⟨q, j, hj, rfl, rfl, hq0, hq1, HQ⟩ := hrel
    by_cases hle : q ≤ 1048576
    · by_cases hlt : j < L.length
      · obtain ⟨s, hsj⟩ := get_of hlt
        obtain ⟨b, off, am, cm, rfl, hbw, c0, c1, c2, hS, _, _⟩ := HS.out.2 j s hsj
        have HJ := hid hsj
        have hna := hS.1
        have HT := hid hS
        clear hS hsj
        go_wp2_with (go_at_call 15; refine (addN_any _ _ 16 (by omega) (by omega) (by omega) (by omega) _).mono ?_; rintro e w' ⟨r2, rfl, hr20, hr21, hr22, rfl⟩)
        have HR2 := hid hr22
        clear hr22
        go_loop [0, 7] (fun t i => ∃ (q2 : Int) (k : Nat), k ≤ s.ms.length ∧ i = .int .i64 k ∧ t = .int .i64 q2 ∧ 0 ≤ q2 ∧ q2 ≤ 2097152 ∧ Hid (q2 ≤ 1048576 → r2 ≤ 1048576 ∧ q2 = r2 + ((s.ms.take k).map ByteArray.size).sum)) (fun _ i => s.ms.length - (intOf i).toNat)
        case atStart => exact ⟨_, 0, Nat.zero_le _, rfl, rfl, hr20, hr21, fun h => ⟨h, by simp⟩⟩
        case round =>
          obtain ⟨q2, k, hk, rfl, rfl, hq20, hq21, HQ2⟩ := hrel
          by_cases hle2 : q2 ≤ 1048576
          · by_cases hlt2 : k < s.ms.length
            · obtain ⟨t, htk⟩ := get_of hlt2
              obtain ⟨b2, off2, rfl, hbw2, d0, hd⟩ := HT.out.2 k t htk
              have HK := hid htk
              clear htk
              go_wp2_with (go_at_call 14; refine (add_any _ _ (by omega) (by omega) (by omega) (by omega) _).mono ?_; rintro e w' ⟨r3, rfl, hr30, hr31, hr32, rfl⟩)
              have HR3 := hid hr32
              clear hr32
              go_round
              case rel =>
                refine ⟨_, k + 1, by omega, by go_num, rfl, by assumption, by assumption, fun h => ?_⟩
                have h3 := HR3.out h
                have h2 := HQ2.out h3.1
                have := sum_next ByteArray.size HK.out
                refine ⟨h2.1, ?_⟩
                omega
              case measure => simp [intOf]; omega
            · go_wp2
              go_round
              case rel =>
                refine ⟨_, j + 1, by omega, by go_num, rfl, by assumption, by assumption, fun h => ?_⟩
                have h2 := HQ2.out h
                have h3 := HR2.out h2.1
                have h4 := HQ.out h3.1
                have h5 := sum_next segW HJ.out
                rw [List.take_of_length_le (by omega)] at h2
                refine ⟨h4.1, ?_⟩
                rw [h5]
                simp only [segW, strsW]
                omega
              case measure => simp [intOf]; omega
          · by_cases hlt2 : k < s.ms.length
            · go_wp2
              go_round
              case rel => exact ⟨_, j + 1, by omega, by go_num, rfl, by assumption, by assumption, fun h => absurd h (by omega)⟩
              case measure => simp [intOf]; omega
            · go_wp2
              go_round
              case rel => exact ⟨_, j + 1, by omega, by go_num, rfl, by assumption, by assumption, fun h => absurd h (by omega)⟩
              case measure => simp [intOf]; omega
      · go_wp2
        go_ret
        refine ⟨_, rfl, by assumption, by assumption, fun h => ?_, rfl⟩
        have h4 := HQ.out h
        have h5 := HR.out h4.1
        rw [List.take_of_length_le (by omega)] at h4
        refine ⟨h5.1, ?_⟩
        simp only [segsW]
        omega
    · go_wp2
      all_goals (go_ret; exact ⟨_, rfl, by assumption, by assumption, fun h => absurd h (by omega), rfl⟩)
end Go.Proofs.Qxb6609540aGreatDoor
