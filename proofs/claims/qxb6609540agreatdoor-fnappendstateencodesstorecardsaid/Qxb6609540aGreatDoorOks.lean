/-
  The premise's parts that only must return: zzSegsOK, zzPolicyOK, zzDBOK.
-/
import Derived.Test.Qxb6609540aGreatDoorSizes
import Derived.BigQuiet
import Derived.Deep.DeepCutAuto
import Derived.Deep.Cut
namespace Go.Proofs.Qxb6609540aGreatDoor
open Go.RowKit
theorem below_drewN {B : Nat} {a w : World} (h : Below B a w) (n : Nat) : Below B a (w.drewN n) := ⟨h.os, h.tape, h.output, h.size, h.block⟩
set_option maxRecDepth 100000 in
set_option maxHeartbeats 4000000 in
theorem segsOK_any (a : Option Addr) (c : Nat) (L : List SegV) (w : World) (hs : SegsAt w a L) :
    Calls Tryz.prog 18 #[.slice a L.length c] w fun e w' => RetBool e ∧ Below w.heap.size w w' := by
  have HS := hid hs
  have hl := hs.1
  clear hs
  go_enter Tryz.func18, Tryz.ntmps18
  go_wp2
  go_loopw [3] (fun i wr => ∃ j : Nat, j ≤ L.length ∧ i = .int .i64 j ∧ Below w.heap.size w wr) (fun i _ => L.length - (intOf i).toNat)
  case atStart => exact ⟨0, Nat.zero_le _, rfl, Below.refl _ _⟩
  case round =>
    obtain ⟨j, hj, rfl, HB⟩ := hrel
    by_cases hlt : j < L.length
    · obtain ⟨s, hsj⟩ := get_of hlt
      obtain ⟨b, off, am, cm, rfl, hbw, c0, c1, c2, hS, _, _⟩ := (HS.out.kept (Kept.of HB)).2 j s hsj
      have hna := hS.1
      have HT := hid hS
      clear hS hsj
      by_cases h0 : s.size < 0
      · go_wp2
        go_ret
        exact ⟨⟨_, rfl⟩, HB⟩
      · go_wp2
        go_loopw [5] (fun i wr2 => ∃ k : Nat, 1 ≤ k ∧ (k ≤ s.ms.length ∨ k = 1) ∧ i = .int .i64 k ∧ Below wr.heap.size wr wr2) (fun i _ => s.ms.length - (intOf i).toNat)
        case atStart => exact ⟨1, Nat.le_refl _, .inr rfl, rfl, Below.refl _ _⟩
        case round =>
          obtain ⟨k, hk1, hk2, rfl, HB2⟩ := hrel
          by_cases hlt2 : k < s.ms.length
          · obtain ⟨x, hx⟩ := get_of hlt2
            obtain ⟨y, hy⟩ := get_of (show k - 1 < s.ms.length by omega)
            obtain ⟨b2, off2, rfl, hb2, d0, hd⟩ := (HT.out.kept (Kept.of HB2)).2 k x hx
            obtain ⟨b3, off3, e3, hb3, d1, hd1⟩ := (HT.out.kept (Kept.of HB2)).2 (k - 1) y hy
            simp only [Option.some.injEq, Addr.mk.injEq, and_true] at e3
            obtain ⟨rfl, rfl⟩ := e3
            have q1 : ¬ ((k : Int) - 1 < 0) := by omega
            have q2 : (k : Int) - 1 < (s.ms.length : Int) := by omega
            have q3 : (k : Int) - 1 = ((k - 1 : Nat) : Int) := by omega
            clear hx hy
            cases hbl : Op.bytesLess y.toList x.toList
            · go_upto_region 10 with fail
              go_quiet (fail)
              go_wp2
              go_ret
              exact ⟨⟨_, rfl⟩, below_drewN (HB.trans (HB2.mono HB.size)) _⟩
            · go_upto_region 10 with fail
              go_quiet (fail)
              go_wp2
              go_roundw
              case rel => exact ⟨k + 1, by omega, .inl (by omega), by go_num, below_drewN HB2 _⟩
              case measure => simp [intOf]; omega
          · go_wp2
            go_roundw
            case rel => exact ⟨j + 1, by omega, by go_num, HB.trans (HB2.mono HB.size)⟩
            case measure => simp [intOf]; omega
    · go_wp2
      go_ret
      exact ⟨⟨_, rfl⟩, HB⟩

set_option maxRecDepth 100000 in
set_option maxHeartbeats 4000000 in
theorem policyOK_any (p : PolV) (ga : Option Addr) (gc : Nat) (w : World) (hg : GrpsAt w ga p.grps) :
    Calls Tryz.prog 34 #[.agg #[.string p.name, .int .i64 p.dur, .int .i64 p.sgd, .int .i64 p.rep, .slice ga p.grps.length gc]] w fun e w' => RetBool e ∧ Below w.heap.size w w' := by
  have hb : Below w.heap.size w (w.alloc (.cells #[.string p.name, .int .i64 p.dur, .int .i64 p.sgd, .int .i64 p.rep, .slice ga p.grps.length gc] 42)) := (Below.refl _ _).alloc (Nat.le_refl _) _
  have HG := hid (hg.kept (Kept.of hb))
  have hl := hg.1
  clear hg
  go_enter Tryz.func34, Tryz.ntmps34
  go_wp2
  generalize w.alloc (.cells #[.string p.name, .int .i64 p.dur, .int .i64 p.sgd, .int .i64 p.rep, .slice ga p.grps.length gc] 42) = w1 at hb HG ⊢
  go_loopw [4] (fun i wr => ∃ j : Nat, j ≤ p.grps.length ∧ i = .int .i64 j ∧ Below w1.heap.size w1 wr) (fun i _ => p.grps.length - (intOf i).toNat)
  case atStart => exact ⟨0, Nat.zero_le _, rfl, Below.refl _ _⟩
  case round =>
    obtain ⟨j, hj, rfl, HB⟩ := hrel
    have fin := fun (x : World) (hx : Below wr.heap.size wr x) => hb.trans ((HB.trans (hx.mono HB.size)).mono hb.size)
    have FIN := hid fin
    clear fin
    by_cases hlt : j < p.grps.length
    · obtain ⟨g, hgj⟩ := get_of hlt
      obtain ⟨b, off, sa, sc, pa, pc, rfl, hbw, m0, m1, m2, m3, m4, hS, hP, _, _⟩ := (HG.out.kept (Kept.of HB)).2 j g hgj
      have HS := hid hS
      have HP := hid hP
      clear hS hP hgj
      by_cases h1 : g.en ≤ g.st
      · go_upto_region 5 with fail
        go_quiet (fail)
        go_wp2
        go_ret
        exact ⟨⟨_, rfl⟩, FIN.out _ (below_drewN (Below.refl _ _) _)⟩
      · go_upto_region 7 with (go_quiet (fail))
        have HB7 := below_drewN (Below.refl wr.heap.size wr) nq
        have m0' := (HB7.cell (p := ⟨b, off + j * 5, none⟩) hbw).trans m0
        by_cases h0 : 0 < j
        · obtain ⟨g', hgj'⟩ := get_of (show j - 1 < p.grps.length by omega)
          obtain ⟨b', off', _, _, _, _, e', _, _, n1, _, _, _, _, _, _, _⟩ := (HG.out.kept (Kept.of HB)).2 (j - 1) g' hgj'
          simp only [Option.some.injEq, Addr.mk.injEq, and_true] at e'
          obtain ⟨rfl, rfl⟩ := e'
          have q0 : (0 : Int) < (j : Int) := by omega
          have q1 : ¬ ((j : Int) - 1 < 0) := by omega
          have q2 : (j : Int) - 1 < (p.grps.length : Int) := by omega
          have q3 : (j : Int) - 1 = ((j - 1 : Nat) : Int) := by omega
          have n1' := (HB7.cell (p := ⟨b, off + (j - 1) * 5 + 1, none⟩) hbw).trans n1
          generalize wr.drewN nq = wA at HB7 m0' n1' ⊢
          clear hgj'
          by_cases h2 : g.st < g'.en
          · go_quiet (fail)
            go_wp2
            go_ret
            exact ⟨⟨_, rfl⟩, FIN.out _ (below_drewN HB7 _)⟩
          · go_quiet (fail)
            have HB9 := below_drewN HB7 nq
            generalize wA.drewN nq = wB at HB9 ⊢
            have HS9 := hid (HS.out.kept (Kept.of HB9))
            have HP9 := hid (HP.out.kept (Kept.of HB9))
            have m2' := (HB9.cell (p := ⟨b, off + j * 5 + 2, none⟩) hbw).trans m2
            have m4' := (HB9.cell (p := ⟨b, off + j * 5 + 4, none⟩) hbw).trans m4
            go_wp2_with (go_at_call 18; refine (segsOK_any _ _ _ _ (by first | exact HS9.out | exact HP9.out.kept (Kept.of (by assumption)))).mono ?_; rintro e wC ⟨⟨r1, rfl⟩, bC⟩; first | have b2 := b1.trans (bC.mono b1.size) | have b1 := HB9.trans (bC.mono HB9.size); try have m4c := (bC.cell (p := ⟨b, off + j * 5 + 4, none⟩) (Nat.lt_of_lt_of_le hbw HB9.size)).trans m4'; cases r1)
            · go_ret
              exact ⟨⟨_, rfl⟩, FIN.out _ b1⟩
            · go_ret
              exact ⟨⟨_, rfl⟩, FIN.out _ b2⟩
            · go_roundw
              case rel => exact ⟨j + 1, by omega, by go_num, HB.trans (b2.mono HB.size)⟩
              case measure => simp [intOf]; omega
        · have q0 : ¬ (0 : Int) < (j : Int) := by omega
          have q0' : decide ((0 : Int) < (j : Int)) = false := decide_eq_false q0
          generalize wr.drewN nq = wA at HB7 m0' ⊢
          go_quiet (fail)
          have HB9 := below_drewN HB7 nq
          generalize wA.drewN nq = wB at HB9 ⊢
          have HS9 := hid (HS.out.kept (Kept.of HB9))
          have HP9 := hid (HP.out.kept (Kept.of HB9))
          have m2' := (HB9.cell (p := ⟨b, off + j * 5 + 2, none⟩) hbw).trans m2
          have m4' := (HB9.cell (p := ⟨b, off + j * 5 + 4, none⟩) hbw).trans m4
          go_wp2_with (go_at_call 18; refine (segsOK_any _ _ _ _ (by first | exact HS9.out | exact HP9.out.kept (Kept.of (by assumption)))).mono ?_; rintro e wC ⟨⟨r1, rfl⟩, bC⟩; first | have b2 := b1.trans (bC.mono b1.size) | have b1 := HB9.trans (bC.mono HB9.size); try have m4c := (bC.cell (p := ⟨b, off + j * 5 + 4, none⟩) (Nat.lt_of_lt_of_le hbw HB9.size)).trans m4'; cases r1)
          · go_ret
            exact ⟨⟨_, rfl⟩, FIN.out _ b1⟩
          · go_ret
            exact ⟨⟨_, rfl⟩, FIN.out _ b2⟩
          · go_roundw
            case rel => exact ⟨j + 1, by omega, by go_num, HB.trans (b2.mono HB.size)⟩
            case measure => simp [intOf]; omega
    · go_wp2
      go_ret
      exact ⟨⟨_, rfl⟩, FIN.out _ (Below.refl _ _)⟩

set_option maxRecDepth 100000 in
set_option maxHeartbeats 4000000 in
theorem dbOK_any (d : DbV) (pa : Option Addr) (pc : Nat) (w : World) (hp : PolsAt w pa d.pols) :
    Calls Tryz.prog 17 #[.agg #[.string d.name, .int .i64 d.ord, .string d.dp, .slice pa d.pols.length pc]] w fun e w' => RetBool e ∧ Below w.heap.size w w' := by
  have hb : Below w.heap.size w (w.alloc (.cells #[.string d.name, .int .i64 d.ord, .string d.dp, .slice pa d.pols.length pc] 39)) := (Below.refl _ _).alloc (Nat.le_refl _) _
  have HP := hid (hp.kept (Kept.of hb))
  have hl := hp.1
  clear hp
  have e2 : (w.alloc (.cells #[.string d.name, .int .i64 d.ord, .string d.dp, .slice pa d.pols.length pc] 39)).cell? ⟨w.heap.size, 2, none⟩ = some (.string d.dp) := by rw [World.cell?_alloc_at _ _ _ _ rfl]; rfl
  have e3 : (w.alloc (.cells #[.string d.name, .int .i64 d.ord, .string d.dp, .slice pa d.pols.length pc] 39)).cell? ⟨w.heap.size, 3, none⟩ = some (.slice pa d.pols.length pc) := by rw [World.cell?_alloc_at _ _ _ _ rfl]; rfl
  have hg : w.heap.size < (w.alloc (.cells #[.string d.name, .int .i64 d.ord, .string d.dp, .slice pa d.pols.length pc] 39)).heap.size := by simp
  go_enter Tryz.func17, Tryz.ntmps17
  go_upto_region 1 with fail
  generalize w.alloc (.cells #[.string d.name, .int .i64 d.ord, .string d.dp, .slice pa d.pols.length pc] 39) = w1 at hb HP e2 e3 hg ⊢
  have hb' := hid hb
  clear hb
  generalize hge : w.heap.size = g at e2 e3 hg ⊢
  go_wp2
  go_loopw [3, 4] (fun f i wr => ∃ (fb : Bool) (j : Nat), j ≤ d.pols.length ∧ f = .bool fb ∧ i = .int .i64 j ∧ Below w1.heap.size w1 wr) (fun _ i _ => d.pols.length - (intOf i).toNat)
  case atStart => exact ⟨_, 0, Nat.zero_le _, rfl, rfl, Below.refl _ _⟩
  case round =>
    obtain ⟨fb, j, hj, rfl, rfl, HB⟩ := hrel
    have f2 := (HB.cell (p := ⟨g, 2, none⟩) hg).trans e2
    have f3 := (HB.cell (p := ⟨g, 3, none⟩) hg).trans e3
    by_cases hlt : j < d.pols.length
    · obtain ⟨p, hpj⟩ := get_of hlt
      obtain ⟨b, off, ga, gc, rfl, hbw, c0, c1, c2, c3, c4, hG, _, _, _, _⟩ := (HP.out.kept (Kept.of HB)).2 j p hpj
      have HG := hid hG
      clear hG hpj
      go_upto_region 6 with fail
      have HB2 := HB.alloc HB.size (.cells #[.string p.name, .int .i64 p.dur, .int .i64 p.sgd, .int .i64 p.rep, .slice ga p.grps.length gc] 42)
      have HG2 := hid (HG.out.kept (Kept.of ((Below.refl _ wr).alloc (Nat.le_refl _) (.cells #[.string p.name, .int .i64 p.dur, .int .i64 p.sgd, .int .i64 p.rep, .slice ga p.grps.length gc] 42))))
      have k0 : (wr.alloc (.cells #[.string p.name, .int .i64 p.dur, .int .i64 p.sgd, .int .i64 p.rep, .slice ga p.grps.length gc] 42)).cell? ⟨wr.heap.size, 0, none⟩ = some (.string p.name) := by rw [World.cell?_alloc_at _ _ _ _ rfl]; rfl
      have k1 : (wr.alloc (.cells #[.string p.name, .int .i64 p.dur, .int .i64 p.sgd, .int .i64 p.rep, .slice ga p.grps.length gc] 42)).cell? ⟨wr.heap.size, 1, none⟩ = some (.int .i64 p.dur) := by rw [World.cell?_alloc_at _ _ _ _ rfl]; rfl
      have k2 : (wr.alloc (.cells #[.string p.name, .int .i64 p.dur, .int .i64 p.sgd, .int .i64 p.rep, .slice ga p.grps.length gc] 42)).cell? ⟨wr.heap.size, 2, none⟩ = some (.int .i64 p.sgd) := by rw [World.cell?_alloc_at _ _ _ _ rfl]; rfl
      have k3 : (wr.alloc (.cells #[.string p.name, .int .i64 p.dur, .int .i64 p.sgd, .int .i64 p.rep, .slice ga p.grps.length gc] 42)).cell? ⟨wr.heap.size, 3, none⟩ = some (.int .i64 p.rep) := by rw [World.cell?_alloc_at _ _ _ _ rfl]; rfl
      have k4 : (wr.alloc (.cells #[.string p.name, .int .i64 p.dur, .int .i64 p.sgd, .int .i64 p.rep, .slice ga p.grps.length gc] 42)).cell? ⟨wr.heap.size, 4, none⟩ = some (.slice ga p.grps.length gc) := by rw [World.cell?_alloc_at _ _ _ _ rfl]; rfl
      have hg2 : wr.heap.size < (wr.alloc (.cells #[.string p.name, .int .i64 p.dur, .int .i64 p.sgd, .int .i64 p.rep, .slice ga p.grps.length gc] 42)).heap.size := by simp
      generalize wr.alloc (.cells #[.string p.name, .int .i64 p.dur, .int .i64 p.sgd, .int .i64 p.rep, .slice ga p.grps.length gc] 42) = w2 at HB2 HG2 k0 k1 k2 k3 k4 hg2 ⊢
      generalize wr.heap.size = g2 at k0 k1 k2 k3 k4 hg2 ⊢
      clear c0 c1 c2 c3 c4 f2 f3 HG
      have f2 := (HB2.cell (p := ⟨g, 2, none⟩) hg).trans e2
      cases hq : (p.name.toList == d.dp.toList)
      all_goals
        go_wp2
        go_loopw [6] (fun i wr3 => ∃ k : Nat, k ≤ j ∧ i = .int .i64 k ∧ Below w2.heap.size w2 wr3) (fun i _ => j - (intOf i).toNat)
        case atStart => exact ⟨0, Nat.zero_le _, rfl, Below.refl _ _⟩
        case round =>
          obtain ⟨k, hk, rfl, HB3⟩ := hrel
          have HB4 := hid (hb'.out.trans ((HB2.trans (HB3.mono HB2.size)).mono hb'.out.size))
          by_cases hlt3 : k < j
          · obtain ⟨p', hpk⟩ := get_of (show k < d.pols.length by omega)
            obtain ⟨b', off', ga', gc', e', hbw', c0, _⟩ := (HP.out.kept (Kept.of (HB2.trans (HB3.mono HB2.size)))).2 k p' hpk
            simp only [Option.some.injEq, Addr.mk.injEq, and_true] at e'
            obtain ⟨rfl, rfl⟩ := e'
            have f3 := ((HB2.trans (HB3.mono HB2.size)).cell (p := ⟨g, 3, none⟩) hg).trans e3
            have k0' := (HB3.cell (p := ⟨g2, 0, none⟩) hg2).trans k0
            clear hpk
            cases hq : (p'.name.toList == p.name.toList)
            · go_upto_region 11 with fail
              go_quiet (fail)
              go_wp2
              go_roundw
              case rel => exact ⟨k + 1, by omega, by go_num, below_drewN HB3 _⟩
              case measure => simp [intOf]; omega
            · go_upto_region 11 with fail
              go_quiet (fail)
              go_wp2
              go_ret
              exact ⟨⟨_, rfl⟩, below_drewN HB4.out _⟩
          · have k0' := (HB3.cell (p := ⟨g2, 0, none⟩) hg2).trans k0
            have k1' := (HB3.cell (p := ⟨g2, 1, none⟩) hg2).trans k1
            have k2' := (HB3.cell (p := ⟨g2, 2, none⟩) hg2).trans k2
            have k3' := (HB3.cell (p := ⟨g2, 3, none⟩) hg2).trans k3
            have k4' := (HB3.cell (p := ⟨g2, 4, none⟩) hg2).trans k4
            have HG3 := hid (HG2.out.kept (Kept.of HB3))
            go_wp2_with (go_at_call 34; refine (policyOK_any p _ _ _ HG3.out).mono ?_; rintro e wC ⟨⟨r1, rfl⟩, bC⟩; cases r1)
            · go_ret
              exact ⟨⟨_, rfl⟩, HB4.out.trans (bC.mono HB4.out.size)⟩
            · go_roundw
              case rel => exact ⟨_, j + 1, by omega, rfl, by go_num, (HB2.trans (HB3.mono HB2.size)).trans (bC.mono (HB2.trans (HB3.mono HB2.size)).size)⟩
              case measure => simp [intOf]; omega
    · go_wp2
      go_ret
      exact ⟨⟨_, rfl⟩, hb'.out.trans (HB.mono hb'.out.size)⟩
end Go.Proofs.Qxb6609540aGreatDoor
