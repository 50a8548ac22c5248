/-
  The size guard zzBytes: what it gives.
-/
import Derived.Test.Qxb6609540aGreatDoorSizes
import Derived.Deep.DeepCutAuto
import Derived.Deep.Cut
namespace Go.Proofs.Qxb6609540aGreatDoor
open Go.RowKit
set_option maxRecDepth 100000 in
set_option maxHeartbeats 8000000 in
theorem bytes6_any (ba : Option Addr) (bn bc : Nat) (hbn : bn ≤ 140737488351232) (a : Option Addr) (c : Nat) (D : List DbV) (sa : Option Addr) (sc : Nat) (S : List SegV) (w : World) (hd : DbsAt w a D) (hs : SegsAt w sa S) :
    Calls Tryz.prog 6 #[.slice ba bn bc, .slice a D.length c, .slice sa S.length sc] w fun e w' => ∃ r : Int, e = .returned (.int .i64 r) ∧ 0 ≤ r ∧ r ≤ 2097152 ∧ (r ≤ 1048576 → r = bn + 64 * D.length + segsW S + (D.map dbW).sum) ∧ Below w.heap.size w w' := by
  have HS := hid hs
  have HD := hid hd
  have hl := hd.1
  clear hs hd
  go_enter Tryz.func6, Tryz.ntmps6
  go_wp2_with (first
    | (go_at_call 14; refine (add_any _ _ (by omega) (by omega) (by omega) (by omega) _).mono ?_; rintro e w' ⟨r, rfl, hr0, hr1, hr2, rfl⟩)
    | (go_at_call 15; refine (addN_any _ _ 64 (by omega) (by omega) (by omega) (by omega) _).mono ?_; rintro e w' ⟨r3, rfl, hr30, hr31, hr32, rfl⟩)
    | (go_at_call 16; refine (segsBytes_any _ (by omega) (by omega) _ _ S _ HS.out).mono ?_; rintro e w' ⟨r4, rfl, hr40, hr41, hr42, rfl⟩))
  have HR : Hid (r4 ≤ 1048576 → r4 = bn + 64 * D.length + segsW S) := fun h => by
    have h4 := hr42 h
    have h3 := hr32 h4.1
    have h2 := hr2 h3.1
    omega
  clear hr2 hr32 hr42
  go_loopw [7, 8] (fun t i wr => ∃ (q : Int) (j : Nat), j ≤ D.length ∧ i = .int .i64 j ∧ t = .int .i64 q ∧ 0 ≤ q ∧ q ≤ 2097152 ∧ Hid (q ≤ 1048576 → r4 ≤ 1048576 ∧ q = r4 + ((D.take j).map dbW).sum) ∧ Below w.heap.size w wr) (fun _ i _ => D.length - (intOf i).toNat)
  case atStart => exact ⟨_, 0, Nat.zero_le _, rfl, rfl, by assumption, by assumption, fun h => ⟨h, by simp⟩, Below.refl _ _⟩
  case round =>
    obtain ⟨q, j, hj, rfl, rfl, hq0, hq1, HQ, HB⟩ := hrel
    by_cases hle : q ≤ 1048576
    · by_cases hlt : j < D.length
      · obtain ⟨d, hdj⟩ := get_of hlt
        obtain ⟨b, off, pa, pc, rfl, hbw, c0, c1, c2, c3, hP, hn1, hn2, _⟩ := (HD.out.kept (Kept.of HB)).2 j d hdj
        have HJ := hid hdj
        have hna := hP.1
        have HT := hid hP
        clear hP hdj
        go_upto_region 8 with fail
        have HB1 : Below w.heap.size w (wr.alloc (.cells #[.string d.name, .int .i64 d.ord, .string d.dp, .slice pa d.pols.length pc] 39)) := HB.alloc HB.size _
        have HP1 := hid (HT.out.kept (Kept.of ((Below.refl _ wr).alloc (Nat.le_refl _) (.cells #[.string d.name, .int .i64 d.ord, .string d.dp, .slice pa d.pols.length pc] 39))))
        have e0 : (wr.alloc (.cells #[.string d.name, .int .i64 d.ord, .string d.dp, .slice pa d.pols.length pc] 39)).cell? ⟨wr.heap.size, 0, none⟩ = some (.string d.name) := by rw [World.cell?_alloc_at _ _ _ _ rfl]; rfl
        have e2 : (wr.alloc (.cells #[.string d.name, .int .i64 d.ord, .string d.dp, .slice pa d.pols.length pc] 39)).cell? ⟨wr.heap.size, 2, none⟩ = some (.string d.dp) := by rw [World.cell?_alloc_at _ _ _ _ rfl]; rfl
        have e3 : (wr.alloc (.cells #[.string d.name, .int .i64 d.ord, .string d.dp, .slice pa d.pols.length pc] 39)).cell? ⟨wr.heap.size, 3, none⟩ = some (.slice pa d.pols.length pc) := by rw [World.cell?_alloc_at _ _ _ _ rfl]; rfl
        have hg : wr.heap.size < (wr.alloc (.cells #[.string d.name, .int .i64 d.ord, .string d.dp, .slice pa d.pols.length pc] 39)).heap.size := by simp
        generalize wr.alloc (.cells #[.string d.name, .int .i64 d.ord, .string d.dp, .slice pa d.pols.length pc] 39) = w1 at HB1 HP1 e0 e2 e3 hg ⊢
        generalize wr.heap.size = g at e0 e2 e3 hg ⊢
        clear HT c0 c1 c2 c3
        go_upto_region 9 with (go_at_call 14; refine (add_any _ _ (by omega) (by omega) (by omega) (by omega) _).mono ?_; rintro e w' ⟨a1, rfl, ha10, ha11, ha12, rfl⟩; have HA1 := hid ha12; clear ha12)
        go_upto_region 10 with (go_at_call 14; refine (add_any _ _ (by omega) (by omega) (by omega) (by omega) _).mono ?_; rintro e w' ⟨a2, rfl, ha20, ha21, ha22, rfl⟩; have HA2 := hid ha22; clear ha22)
        go_upto_region 11 with (go_at_call 15; refine (addN_any _ _ 64 (by omega) (by omega) (by omega) (by omega) _).mono ?_; rintro e w' ⟨a3, rfl, ha30, ha31, ha32, rfl⟩; have HA3 := hid ha32; clear ha32)
        go_wp2
        have HA : Hid (a3 ≤ 1048576 → q ≤ 1048576 ∧ a3 = q + d.name.size + d.dp.size + 64 * d.pols.length) := fun h => by have h3 := HA3.out h; have h2 := HA2.out h3.1; have h1 := HA1.out h2.1; omega
        clear HA1 HA2 HA3
        go_loopw [7, 10] (fun t i wr2 => ∃ (q2 : Int) (k : Nat), k ≤ d.pols.length ∧ i = .int .i64 k ∧ t = .int .i64 q2 ∧ 0 ≤ q2 ∧ q2 ≤ 2097152 ∧ Hid (q2 ≤ 1048576 → a3 ≤ 1048576 ∧ q2 = a3 + ((d.pols.take k).map polW).sum) ∧ Below w1.heap.size w1 wr2) (fun _ i _ => d.pols.length - (intOf i).toNat)
        case atStart => exact ⟨_, 0, Nat.zero_le _, rfl, rfl, by assumption, by assumption, fun h => ⟨h, by simp⟩, Below.refl _ _⟩
        case round =>
          obtain ⟨q2, k, hk, rfl, rfl, hq20, hq21, HQ2, HB2⟩ := hrel
          have f3 := (HB2.cell (p := ⟨g, 3, none⟩) hg).trans e3
          by_cases hle2 : q2 ≤ 1048576
          · by_cases hlt2 : k < d.pols.length
            · obtain ⟨p, hpk⟩ := get_of hlt2
              obtain ⟨b2, off2, ga, gc, rfl, hbw2, d0, d1, d2, d3, d4, hG, hm1, _, _, _⟩ := (HP1.out.kept (Kept.of HB2)).2 k p hpk
              have HK := hid hpk
              have hga := hG.1
              have HG := hid hG
              clear hG hpk
              go_upto_region 15 with fail
              have HB3 := HB2.alloc HB2.size (.cells #[.string p.name, .int .i64 p.dur, .int .i64 p.sgd, .int .i64 p.rep, .slice ga p.grps.length gc] 42)
              have HG3 := hid (HG.out.kept (Kept.of ((Below.refl _ wr).alloc (Nat.le_refl _) (.cells #[.string p.name, .int .i64 p.dur, .int .i64 p.sgd, .int .i64 p.rep, .slice ga p.grps.length gc] 42))))
              have k0 : (wr.alloc (.cells #[.string p.name, .int .i64 p.dur, .int .i64 p.sgd, .int .i64 p.rep, .slice ga p.grps.length gc] 42)).cell? ⟨wr.heap.size, 0, none⟩ = some (.string p.name) := by rw [World.cell?_alloc_at _ _ _ _ rfl]; rfl
              have k4 : (wr.alloc (.cells #[.string p.name, .int .i64 p.dur, .int .i64 p.sgd, .int .i64 p.rep, .slice ga p.grps.length gc] 42)).cell? ⟨wr.heap.size, 4, none⟩ = some (.slice ga p.grps.length gc) := by rw [World.cell?_alloc_at _ _ _ _ rfl]; rfl
              generalize wr.alloc (.cells #[.string p.name, .int .i64 p.dur, .int .i64 p.sgd, .int .i64 p.rep, .slice ga p.grps.length gc] 42) = w3 at HB3 HG3 k0 k4 ⊢
              generalize wr.heap.size = g3 at k0 k4 ⊢
              clear HG d0 d1 d2 d3 d4 f3
              go_upto_region 16 with (go_at_call 14; refine (add_any _ _ (by omega) (by omega) (by omega) (by omega) _).mono ?_; rintro e w' ⟨x1, rfl, hx10, hx11, hx12, rfl⟩; have HX1 := hid hx12; clear hx12)
              go_upto_region 17 with (go_at_call 15; refine (addN_any _ _ 80 (by omega) (by omega) (by omega) (by omega) _).mono ?_; rintro e w' ⟨x2, rfl, hx20, hx21, hx22, rfl⟩; have HX2 := hid hx22; clear hx22)
              go_wp2
              have HX : Hid (x2 ≤ 1048576 → q2 ≤ 1048576 ∧ x2 = q2 + p.name.size + 80 * p.grps.length) := fun h => by have h2 := HX2.out h; have h1 := HX1.out h2.1; omega
              clear HX1 HX2
              go_loopw [7, 12] (fun t i wr4 => ∃ (q4 : Int) (l : Nat), l ≤ p.grps.length ∧ i = .int .i64 l ∧ t = .int .i64 q4 ∧ 0 ≤ q4 ∧ q4 ≤ 2097152 ∧ Hid (q4 ≤ 1048576 → x2 ≤ 1048576 ∧ q4 = x2 + ((p.grps.take l).map grpW).sum) ∧ wr4 = w3) (fun _ i _ => p.grps.length - (intOf i).toNat)
              case atStart => exact ⟨_, 0, Nat.zero_le _, rfl, rfl, by assumption, by assumption, fun h => ⟨h, by simp⟩, rfl⟩
              case round =>
                obtain ⟨q4, l, hl4, rfl, rfl, hq40, hq41, HQ4, rfl⟩ := hrel
                by_cases hle4 : q4 ≤ 1048576
                · by_cases hlt4 : l < p.grps.length
                  · obtain ⟨gr, hgl⟩ := get_of hlt4
                    obtain ⟨b4, off4, sa4, sc4, pa4, pc4, rfl, hbw4, m0, m1, m2, m3, m4, hS4, hP4, _, _⟩ := HG3.out.2 l gr hgl
                    have HL := hid hgl
                    have HS4 := hid hS4
                    have HP4 := hid hP4
                    clear hS4 hP4 hgl
                    go_upto_region 21 with (go_at_call 16; refine (segsBytes_any _ (by omega) (by omega) _ _ gr.segs _ (by exact HS4.out)).mono ?_; rintro e w' ⟨y1, rfl, hy10, hy11, hy12, rfl⟩; have HY1 := hid hy12; clear hy12)
                    go_wp2_with (go_at_call 16; refine (segsBytes_any _ (by omega) (by omega) _ _ gr.plan _ (by exact HP4.out)).mono ?_; rintro e w' ⟨y2, rfl, hy20, hy21, hy22, rfl⟩; have HY2 := hid hy22; clear hy22)
                    have HY : Hid (y2 ≤ 1048576 → q4 ≤ 1048576 ∧ y2 = q4 + grpW gr) := fun h => by unfold grpW; have h2 := HY2.out h; have h1 := HY1.out h2.1; omega
                    clear HY1 HY2
                    go_roundw
                    case rel =>
                      refine ⟨_, l + 1, by omega, by go_num, rfl, by assumption, by assumption, fun h => ?_, trivial⟩
                      have h1 := HY.out h
                      have h2 := HQ4.out h1.1
                      have h3 := sum_next grpW HL.out
                      exact ⟨h2.1, by omega⟩
                    case measure => simp [intOf]; omega
                  · go_wp2
                    go_roundw
                    case rel =>
                      refine ⟨_, k + 1, by omega, by go_num, rfl, by assumption, by assumption, fun h => ?_, HB3⟩
                      have h1 := HQ4.out h
                      have h2 := HX.out h1.1
                      have h3 := HQ2.out h2.1
                      have h4 := sum_next polW HK.out
                      rw [List.take_of_length_le (by omega)] at h1
                      refine ⟨h3.1, ?_⟩
                      rw [h4]
                      simp only [polW]
                      omega
                    case measure => simp [intOf]; omega
                · by_cases hlt4 : l < p.grps.length
                  · go_wp2
                    go_roundw
                    case rel => exact ⟨_, k + 1, by omega, by go_num, rfl, by assumption, by assumption, fun h => absurd h (by omega), HB3⟩
                    case measure => simp [intOf]; omega
                  · go_wp2
                    go_roundw
                    case rel => exact ⟨_, k + 1, by omega, by go_num, rfl, by assumption, by assumption, fun h => absurd h (by omega), HB3⟩
                    case measure => simp [intOf]; omega
            · go_wp2
              go_roundw
              case rel =>
                refine ⟨_, j + 1, by omega, by go_num, rfl, by assumption, by assumption, fun h => ?_, HB1.trans (HB2.mono HB1.size)⟩
                have h1 := HQ2.out h
                have h2 := HA.out h1.1
                have h3 := HQ.out h2.1
                have h4 := sum_next dbW HJ.out
                rw [List.take_of_length_le (by omega)] at h1
                refine ⟨h3.1, ?_⟩
                rw [h4]
                simp only [dbW]
                omega
              case measure => simp [intOf]; omega
          · by_cases hlt2 : k < d.pols.length
            · go_wp2
              go_roundw
              case rel => exact ⟨_, j + 1, by omega, by go_num, rfl, by assumption, by assumption, fun h => absurd h (by omega), HB1.trans (HB2.mono HB1.size)⟩
              case measure => simp [intOf]; omega
            · go_wp2
              go_roundw
              case rel => exact ⟨_, j + 1, by omega, by go_num, rfl, by assumption, by assumption, fun h => absurd h (by omega), HB1.trans (HB2.mono HB1.size)⟩
              case measure => simp [intOf]; omega
      · go_wp2
        go_ret
        refine ⟨_, rfl, by assumption, by assumption, fun h => ?_, HB⟩
        have h1 := HQ.out h
        have h2 := HR.out h1.1
        rw [List.take_of_length_le (by omega)] at h1
        omega
    · by_cases hlt : j < D.length
      · go_wp2
        go_ret
        exact ⟨_, rfl, by assumption, by assumption, fun h => absurd h (by omega), HB⟩
      · go_wp2
        go_ret
        exact ⟨_, rfl, by assumption, by assumption, fun h => absurd h (by omega), HB⟩
end Go.Proofs.Qxb6609540aGreatDoor
