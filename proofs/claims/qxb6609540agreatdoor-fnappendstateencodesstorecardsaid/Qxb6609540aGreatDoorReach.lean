/-
  The premise: zzReachable, and what it gives.
-/
import Derived.Test.Qxb6609540aGreatDoorOks
namespace Go.Proofs.Qxb6609540aGreatDoor
open Go.RowKit
/-- No two databases of one name or of one creation number, the second of them ahead of place n. -/
def Apart (D : List DbV) (n : Nat) : Prop := ∀ i j x y, i < j → j < n → D[i]? = some x → D[j]? = some y → (x.name.toList == y.name.toList) = false ∧ (x.ord == y.ord) = false
/-- It returns a bool; where it is true the databases are apart. -/
def RetApart (D : List DbV) (e : Ending) : Prop := ∃ r : Bool, e = .returned (.bool r) ∧ (r = true → Apart D D.length)
set_option maxRecDepth 100000 in
set_option maxHeartbeats 8000000 in
theorem reachable_any (cr : Int) (a : Option Addr) (c : Nat) (D : List DbV) (sa : Option Addr) (sc : Nat) (S : List SegV) (w : World) (hd : DbsAt w a D) (hs : SegsAt w sa S) :
    Calls Tryz.prog 7 #[.int .i64 cr, .slice a D.length c, .slice sa S.length sc] w fun e w' => RetApart D e ∧ Below w.heap.size w w' := by
  have HS := hid hs
  have HD := hid hd
  have hl := hd.1
  clear hs hd
  by_cases hcr : cr < 0
  · go_enter Tryz.func7, Tryz.ntmps7
    go_wp2
    go_ret
    exact ⟨⟨false, rfl, nofun⟩, Below.refl _ _⟩
  go_enter Tryz.func7, Tryz.ntmps7
  go_wp2
  go_loopw [7] (fun i wr => ∃ j : Nat, j ≤ D.length ∧ i = .int .i64 j ∧ Hid (Apart D j) ∧ Below w.heap.size w wr) (fun i _ => D.length - (intOf i).toNat)
  case atStart => exact ⟨0, Nat.zero_le _, rfl, fun _ _ _ _ _ h => absurd h (Nat.not_lt_zero _), Below.refl _ _⟩
  case round =>
    obtain ⟨j, hj, rfl, HA, HB⟩ := hrel
    by_cases hlt : j < D.length
    · obtain ⟨d, hdj⟩ := get_of hlt
      obtain ⟨b, off, pa, pc, rfl, hbw, c0, c1, c2, c3, hP, _, _, _⟩ := (HD.out.kept (Kept.of HB)).2 j d hdj
      have HJ := hid hdj
      have HP := hid hP
      clear hdj hP
      go_upto_region 7 with fail
      have HB2 := HB.alloc HB.size (.cells #[.string d.name, .int .i64 d.ord, .string d.dp, .slice pa d.pols.length pc] 39)
      have HP2 := hid (HP.out.kept (Kept.of ((Below.refl _ wr).alloc (Nat.le_refl _) (.cells #[.string d.name, .int .i64 d.ord, .string d.dp, .slice pa d.pols.length pc] 39))))
      have k0 : (wr.alloc (.cells #[.string d.name, .int .i64 d.ord, .string d.dp, .slice pa d.pols.length pc] 39)).cell? ⟨wr.heap.size, 0, none⟩ = some (.string d.name) := by rw [World.cell?_alloc_at _ _ _ _ rfl]; rfl
      have k1 : (wr.alloc (.cells #[.string d.name, .int .i64 d.ord, .string d.dp, .slice pa d.pols.length pc] 39)).cell? ⟨wr.heap.size, 1, none⟩ = some (.int .i64 d.ord) := by rw [World.cell?_alloc_at _ _ _ _ rfl]; rfl
      have k2 : (wr.alloc (.cells #[.string d.name, .int .i64 d.ord, .string d.dp, .slice pa d.pols.length pc] 39)).cell? ⟨wr.heap.size, 2, none⟩ = some (.string d.dp) := by rw [World.cell?_alloc_at _ _ _ _ rfl]; rfl
      have k3 : (wr.alloc (.cells #[.string d.name, .int .i64 d.ord, .string d.dp, .slice pa d.pols.length pc] 39)).cell? ⟨wr.heap.size, 3, none⟩ = some (.slice pa d.pols.length pc) := by rw [World.cell?_alloc_at _ _ _ _ rfl]; rfl
      have hg2 : wr.heap.size < (wr.alloc (.cells #[.string d.name, .int .i64 d.ord, .string d.dp, .slice pa d.pols.length pc] 39)).heap.size := by simp
      generalize wr.alloc (.cells #[.string d.name, .int .i64 d.ord, .string d.dp, .slice pa d.pols.length pc] 39) = w2 at HB2 HP2 k0 k1 k2 k3 hg2 ⊢
      generalize wr.heap.size = g2 at k0 k1 k2 k3 hg2 ⊢
      clear c0 c1 c2 c3 HP
      by_cases o1 : d.ord < 0
      · go_wp2
        go_ret
        exact ⟨⟨false, rfl, nofun⟩, HB2⟩
      by_cases o2 : cr ≤ d.ord
      · go_wp2
        go_ret
        exact ⟨⟨false, rfl, nofun⟩, HB2⟩
      go_wp2
      go_loopw [9] (fun i wr3 => ∃ k : Nat, k ≤ j ∧ i = .int .i64 k ∧ Hid (∀ i x, i < k → D[i]? = some x → (x.name.toList == d.name.toList) = false ∧ (x.ord == d.ord) = false) ∧ Below w2.heap.size w2 wr3) (fun i _ => j - (intOf i).toNat)
      case atStart => exact ⟨0, Nat.zero_le _, rfl, fun _ _ h => absurd h (Nat.not_lt_zero _), Below.refl _ _⟩
      case round =>
        obtain ⟨k, hk, rfl, HK, HB3⟩ := hrel
        have HB4 := hid (HB2.trans (HB3.mono HB2.size))
        by_cases hlt3 : k < j
        · obtain ⟨x, hxk⟩ := get_of (show k < D.length by omega)
          obtain ⟨b', off', _, _, e', hbw', c0, c1, _⟩ := (HD.out.kept (Kept.of HB4.out)).2 k x hxk
          simp only [Option.some.injEq, Addr.mk.injEq, and_true] at e'
          obtain ⟨rfl, rfl⟩ := e'
          have k0' := (HB3.cell (p := ⟨g2, 0, none⟩) hg2).trans k0
          have k1' := (HB3.cell (p := ⟨g2, 1, none⟩) hg2).trans k1
          have HX := hid hxk
          clear hxk
          cases hq : (x.name.toList == d.name.toList)
          · cases hq2 : (x.ord == d.ord)
            · have hq3 : ¬ (x.ord = d.ord) := by simpa using hq2
              go_upto_region 12 with fail
              go_quiet (fail)
              go_wp2
              go_roundw
              case rel =>
                refine ⟨k + 1, by omega, by go_num, fun i y hi hy => ?_, below_drewN HB3 _⟩
                by_cases hik : i < k
                · exact HK.out i y hik hy
                · have : i = k := by omega
                  subst this
                  rw [HX.out] at hy
                  cases hy
                  exact ⟨hq, hq2⟩
              case measure => simp [intOf]; omega
            · have hq3 : x.ord = d.ord := by simpa using hq2
              go_upto_region 12 with fail
              go_quiet (fail)
              go_wp2
              go_ret
              exact ⟨⟨false, rfl, nofun⟩, below_drewN HB4.out _⟩
          · go_upto_region 12 with fail
            go_quiet (fail)
            go_wp2
            go_ret
            exact ⟨⟨false, rfl, nofun⟩, below_drewN HB4.out _⟩
        · have k0' := (HB3.cell (p := ⟨g2, 0, none⟩) hg2).trans k0
          have k1' := (HB3.cell (p := ⟨g2, 1, none⟩) hg2).trans k1
          have k2' := (HB3.cell (p := ⟨g2, 2, none⟩) hg2).trans k2
          have k3' := (HB3.cell (p := ⟨g2, 3, none⟩) hg2).trans k3
          have HP3 := hid (HP2.out.kept (Kept.of HB3))
          go_wp2_with (go_at_call 17; refine (dbOK_any d _ _ _ HP3.out).mono ?_; rintro e wC ⟨⟨r1, rfl⟩, bC⟩; cases r1)
          · go_ret
            exact ⟨⟨false, rfl, nofun⟩, HB4.out.trans (bC.mono HB4.out.size)⟩
          · go_roundw
            case rel =>
              refine ⟨j + 1, by omega, by go_num, fun i j' x y hij hj' hx hy => ?_, HB4.out.trans (bC.mono HB4.out.size)⟩
              by_cases hjj : j' < j
              · exact HA.out i j' x y hij hjj hx hy
              · have : j' = j := by omega
                subst this
                rw [HJ.out] at hy
                cases hy
                exact HK.out i x (by omega) hx
            case measure => simp [intOf]; omega
    · have HS2 := hid (HS.out.kept (Kept.of HB))
      go_wp2_with (go_at_call 18; refine (segsOK_any _ _ _ _ HS2.out).mono ?_; rintro e wC ⟨⟨r1, rfl⟩, bC⟩)
      go_ret
      have : j = D.length := by omega
      subst this
      exact ⟨⟨_, rfl, fun _ => HA.out⟩, HB.trans (bC.mono HB.size)⟩
end Go.Proofs.Qxb6609540aGreatDoor
