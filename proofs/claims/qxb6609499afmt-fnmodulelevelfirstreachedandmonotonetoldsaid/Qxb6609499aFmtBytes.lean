/-
  The bound on lengths that the law bears: it returns, whatever it finds.
-/
import Derived.Test.Qxb6609499aFmtSizes
namespace Go.Proofs.Qxb6609499aFmt
open Go.RowKit
/-- It returns a bool. -/
def RetBool (e : Ending) : Prop := ∃ r : Bool, e = .returned (.bool r)
set_option maxRecDepth 100000 in
set_option maxHeartbeats 4000000 in
theorem bytes_core (tds mc : Array Value) (ms0 : ByteArray) (la : Option Addr) (ln lc : Nat) (svn : Nat → Int) (a : Option Addr) (n c : Nat) (ms : Nat → ModV) (svns : Nat → Nat → Int) (u : Int) (w : World)
    (e0 : mc[0]? = some (.string ms0)) (e65 : mc[65]? = some (.slice la ln lc)) (hid1 : ms0.size ≤ 9223372036854775807) (hl : LvAt w la ln svn) (hi : IdsAt w a n ms svns) :
    Calls Tryf.prog 4 #[.agg tds, .agg mc, .slice a n c, .int .u8 u] w fun e w' => RetBool e ∧ Below w.heap.size w w' := by
  have hb : Below w.heap.size w ((w.alloc (.cells tds 28)).alloc (.cells mc 31)) := ((Below.refl _ _).alloc (Nat.le_refl _) _).alloc (by simp) _
  have hn := hi.1
  have hl1 := hl.1
  have HI := hid (hi.below hb)
  have HL := hid (hl.below hb)
  clear hi hl
  go_enter Tryf.func4, Tryf.ntmps4
  go_wp2
  all_goals try (go_ret; exact ⟨⟨_, rfl⟩, hb⟩)
  clear hid1
  go_loop [9, 10] (fun t i => ∃ (r : Int) (j : Nat), j ≤ ln ∧ i = .int .i64 j ∧ t = .int .i64 r ∧ 0 ≤ r ∧ r ≤ 1048576) (fun _ i => ln - (intOf i).toNat)
  case atStart => exact ⟨_, 0, Nat.zero_le _, rfl, rfl, by omega, by omega⟩
  case round =>
    obtain ⟨r2, j, hj, rfl, rfl, hr2, hr3⟩ := hrel
    by_cases hlt : j < ln
    · obtain ⟨b, off, st, adv, na, ca, rfl, hbw, c0, _, _, c1, hst, c2, hS⟩ := HL.out.2 j hlt
      have hna := hS.1
      have HS := hid hS
      clear hS
      go_wp2
      all_goals try (go_ret; exact ⟨⟨_, rfl⟩, hb⟩)
      go_loop [9, 11] (fun t i => ∃ (r : Int) (k : Nat), k ≤ na ∧ i = .int .i64 k ∧ t = .int .i64 r ∧ 0 ≤ r ∧ r ≤ 1048576) (fun _ i => na - (intOf i).toNat)
      case atStart => exact ⟨_, 0, Nat.zero_le _, rfl, rfl, by omega, by omega⟩
      case round =>
        obtain ⟨r4, k, hk, rfl, rfl, hr4, hr5⟩ := hrel
        by_cases hlt2 : k < na
        · obtain ⟨b2, off2, s2, rfl, hbw2, c3, hs2⟩ := HS.out.2 k hlt2
          go_wp2
          all_goals try (go_ret; exact ⟨⟨_, rfl⟩, hb⟩)
          go_round
          case rel => exact ⟨_, k + 1, by omega, by go_num, rfl, by omega, by omega⟩
          case measure => simp [intOf]; omega
        · go_wp2
          go_round
          case rel => exact ⟨_, j + 1, by omega, by go_num, rfl, by omega, by omega⟩
          case measure => simp [intOf]; omega
    · go_wp2
      all_goals try (go_ret; exact ⟨⟨_, rfl⟩, hb⟩)
      go_loop [9, 12] (fun t i => ∃ (r : Int) (k : Nat), k ≤ n ∧ i = .int .i64 k ∧ t = .int .i64 r ∧ 0 ≤ r ∧ r ≤ 1048576) (fun _ i => n - (intOf i).toNat)
      case atStart => exact ⟨_, 0, Nat.zero_le _, rfl, rfl, by omega, by omega⟩
      case round =>
        obtain ⟨r4, k, hk, rfl, rfl, hr4, hr5⟩ := hrel
        by_cases hlt2 : k < n
        · obtain ⟨b, off, rfl, hbw, hok, hrg, hlv⟩ := HI.out.2 k hlt2
          have i0 := ModV.id_at hrg
          have i65 := ModV.lv_at hok hrg
          unfold ModV.lv at i65
          have his := hok.1
          have hlv1 := hlv.1
          have HV := hid hlv
          clear hlv hok hrg
          generalize (ms k).la = la2 at i65 HV
          generalize (ms k).ln = ln2 at i65 HV hlv1
          generalize (ms k).lc = lc2 at i65
          generalize (ms k).id = id2 at i0 his
          go_wp2
          all_goals try (go_ret; exact ⟨⟨_, rfl⟩, hb⟩)
          go_loop [9, 13] (fun t i => ∃ (r : Int) (q : Nat), q ≤ ln2 ∧ i = .int .i64 q ∧ t = .int .i64 r ∧ 0 ≤ r ∧ r ≤ 1048576) (fun _ i => ln2 - (intOf i).toNat)
          case atStart => exact ⟨_, 0, Nat.zero_le _, rfl, rfl, by omega, by omega⟩
          case round =>
            obtain ⟨r6, q, hq, rfl, rfl, hr6, hr7⟩ := hrel
            by_cases hlt3 : q < ln2
            · obtain ⟨b3, off3, st3, adv3, na3, ca3, rfl, hbw3, c03, _, _, c13, hst3, c23, hS3⟩ := HV.out.2 q hlt3
              have hna3 := hS3.1
              have HS3 := hid hS3
              clear hS3
              go_wp2
              all_goals try (go_ret; exact ⟨⟨_, rfl⟩, hb⟩)
              go_loop [9, 14] (fun t i => ∃ (r : Int) (p : Nat), p ≤ na3 ∧ i = .int .i64 p ∧ t = .int .i64 r ∧ 0 ≤ r ∧ r ≤ 1048576) (fun _ i => na3 - (intOf i).toNat)
              case atStart => exact ⟨_, 0, Nat.zero_le _, rfl, rfl, by omega, by omega⟩
              case round =>
                obtain ⟨r8, p, hp, rfl, rfl, hr8, hr9⟩ := hrel
                by_cases hlt4 : p < na3
                · obtain ⟨b4, off4, s4, rfl, hbw4, c34, hs4⟩ := HS3.out.2 p hlt4
                  go_wp2
                  all_goals try (go_ret; exact ⟨⟨_, rfl⟩, hb⟩)
                  go_round
                  case rel => exact ⟨_, p + 1, by omega, by go_num, rfl, by omega, by omega⟩
                  case measure => simp [intOf]; omega
                · go_wp2
                  go_round
                  case rel => exact ⟨_, q + 1, by omega, by go_num, rfl, by omega, by omega⟩
                  case measure => simp [intOf]; omega
            · go_wp2
              go_round
              case rel => exact ⟨_, k + 1, by omega, by go_num, rfl, by omega, by omega⟩
              case measure => simp [intOf]; omega
        · go_wp2
          all_goals try (go_ret; exact ⟨⟨_, rfl⟩, hb⟩)

theorem bytes_any (tds : Array Value) (m : ModV) (svn : Nat → Int) (a : Option Addr) (n c : Nat) (ms : Nat → ModV) (svns : Nat → Nat → Int) (u : Int) (w : World) (hm : m.ok) (hl : LvAt w m.la m.ln svn) (hi : IdsAt w a n ms svns) :
    Calls Tryf.prog 4 #[.agg tds, .agg m.cells.toArray, .slice a n c, .int .u8 u] w fun e w' => RetBool e ∧ Below w.heap.size w w' :=
  bytes_core tds m.cells.toArray m.id m.la m.ln m.lc svn a n c ms svns u w (by simpa using ModV.at0 (m := m)) (by simpa [ModV.lv] using ModV.at65 hm) hm.1 hl hi
end Go.Proofs.Qxb6609499aFmt
