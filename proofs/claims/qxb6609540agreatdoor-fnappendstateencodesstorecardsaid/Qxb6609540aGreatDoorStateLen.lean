/-
  zzStateLen.
-/
import Derived.Test.Qxb6609540aGreatDoorEnc
namespace Go.Proofs.Qxb6609540aGreatDoor
open Go.RowKit
set_option linter.unusedSimpArgs false
theorem wrap_u64 (n : Nat) (h : n < 18446744073709551616) : IntKind.u64.wrap (n : Int) = (n : Int) := by simp [IntKind.wrap, IntKind.signed, IntKind.bits]; omega
theorem uLenN_any (n : Nat) (hn : n < 18446744073709551616) (w : World) : Calls Tryz.prog 30 #[.int .u64 (n : Int)] w fun e w' => e = .returned (.int .i64 ((eU n).length : Nat)) ∧ w' = w :=
  (uLen_any n hn w).mono fun _ _ ⟨h1, h2⟩ => ⟨h1, h2.symm⟩
set_option maxRecDepth 100000 in
set_option maxHeartbeats 8000000 in
theorem stateLen_any (nx cr : Int) (hnx : U64 nx) (a : Option Addr) (c : Nat) (D : List DbV) (w : World) (hd : DbsAt w a D) (hlim : (eState nx cr D).length ≤ 140737488355328) :
    Calls Tryz.prog 13 #[.int .u64 nx, .int .i64 cr, .slice a D.length c] w fun e w' => e = .returned (.int .i64 ((eState nx cr D).length : Nat)) ∧ Below w.heap.size w w' := by
  have HD := hid hd
  have hl := hd.1
  have HNX := hid hnx
  have hn0 : nx.toNat = uN nx := by have := uN_of hnx; omega
  have hw1 := uN_wrap cr
  have hw2 := uN_lt cr
  have hcu : U64 ((uN cr : Nat) : Int) := ⟨by omega, by omega⟩
  have HCU := hid hcu
  have hsz := wrap_u64 D.length (by omega)
  have hDu : U64 (D.length : Int) := ⟨by omega, by omega⟩
  have HDU := hid hDu
  have b1 := eU_le (uN nx) (uN_lt nx)
  have b2 := eU_le (uN cr) hw2
  have b3 := eU_le D.length (by omega)
  have HL := hid (eState_length nx cr D)
  obtain ⟨N, hN⟩ : ∃ N, N = (eState nx cr D).length := ⟨_, rfl⟩
  rw [← hN] at hlim HL ⊢
  clear hd hnx hcu hDu hN
  go_enter Tryz.func13, Tryz.ntmps13
  go_wp2_with (go_at_call 30; refine (uLenZ_any _ (by first | exact HNX.out | exact HCU.out | exact HDU.out) _).mono ?_; rintro e w1 ⟨rfl, hx1⟩; subst w1)
  have HM : Hid (N = (eU (uN nx)).length + (eU (uN cr)).length + (eU D.length).length + (D.flatMap eDb).length) := HL
  clear hw1 hsz HL
  go_loopw [7, 8] (fun v7 v8 wr => ∃ (m k : Nat), k ≤ D.length ∧ v8 = .int .i64 k ∧ v7 = .int .i64 m ∧ Hid (m = (eU (uN nx)).length + (eU (uN cr)).length + (eU D.length).length + ((D.take k).flatMap eDb).length) ∧ Hid (Below w.heap.size w wr)) (fun _ v8 _ => D.length - (intOf v8).toNat)
  case atStart => exact ⟨(eU (uN nx)).length + (eU (uN cr)).length + (eU D.length).length, 0, Nat.zero_le _, rfl, by go_num, by rw [Hid]; simp, Below.refl _ _⟩
  case round =>
    obtain ⟨m, k, hk, rfl, rfl, HK, HB⟩ := hrel
    by_cases hlt : k < D.length
    · obtain ⟨d, hdk⟩ := get_of hlt
      obtain ⟨b, off, pa, pc, rfl, hbw, c0, c1, c2, c3, hP, hn1, hn2, _⟩ := (HD.out.kept (Kept.of HB.out)).2 k d hdk
      have hat := flat_at_le eDb hdk
      have hes := eDb_length d
      have hmN : m + (eDb d).length ≤ N := by have := HK.out; have := HM.out; omega
      rw [hes] at hmN
      have HJ := hid hdk
      have HES := hid hes
      have hna := hP.1
      have HT := hid hP
      clear hP hdk hat hes
      go_upto_region 6 with fail
      have HB1 : Hid (Below w.heap.size w (wr.alloc (.cells #[.string d.name, .int .i64 d.ord, .string d.dp, .slice pa d.pols.length pc] 39))) := HB.out.alloc HB.out.size _
      have HP1 := hid (HT.out.kept (Kept.of ((Below.refl _ wr).alloc (Nat.le_refl _) (.cells #[.string d.name, .int .i64 d.ord, .string d.dp, .slice pa d.pols.length pc] 39))))
      have e0 : (wr.alloc (.cells #[.string d.name, .int .i64 d.ord, .string d.dp, .slice pa d.pols.length pc] 39)).cell? ⟨wr.heap.size, 0, none⟩ = some (.string d.name) := by rw [World.cell?_alloc_at _ _ _ _ rfl]; rfl
      have e1 : (wr.alloc (.cells #[.string d.name, .int .i64 d.ord, .string d.dp, .slice pa d.pols.length pc] 39)).cell? ⟨wr.heap.size, 1, none⟩ = some (.int .i64 d.ord) := by rw [World.cell?_alloc_at _ _ _ _ rfl]; rfl
      have e2 : (wr.alloc (.cells #[.string d.name, .int .i64 d.ord, .string d.dp, .slice pa d.pols.length pc] 39)).cell? ⟨wr.heap.size, 2, none⟩ = some (.string d.dp) := by rw [World.cell?_alloc_at _ _ _ _ rfl]; rfl
      have e3 : (wr.alloc (.cells #[.string d.name, .int .i64 d.ord, .string d.dp, .slice pa d.pols.length pc] 39)).cell? ⟨wr.heap.size, 3, none⟩ = some (.slice pa d.pols.length pc) := by rw [World.cell?_alloc_at _ _ _ _ rfl]; rfl
      have hg : wr.heap.size < (wr.alloc (.cells #[.string d.name, .int .i64 d.ord, .string d.dp, .slice pa d.pols.length pc] 39)).heap.size := by simp
      generalize wr.alloc (.cells #[.string d.name, .int .i64 d.ord, .string d.dp, .slice pa d.pols.length pc] 39) = w1 at HB1 HP1 e0 e1 e2 e3 hg ⊢
      generalize wr.heap.size = g at e0 e1 e2 e3 hg ⊢
      have o1 := uN_wrap d.ord
      have o2 := uN_lt d.ord
      have HU1 : Hid (uN d.ord < 18446744073709551616) := o2
      have HU2 : Hid (d.pols.length < 18446744073709551616) := by rw [Hid]; omega
      have hsz2 := wrap_u64 d.pols.length (by omega)
      have HN1 : Hid (d.name.size ≤ 9223372036854770000) := by have := eS_length d.name; rw [Hid]; omega
      have HN2 : Hid (d.dp.size ≤ 9223372036854770000) := by have := eS_length d.dp; rw [Hid]; omega
      have q1 := eU_le (uN d.ord) o2
      have q2 := eU_le d.pols.length (by omega)
      clear HT c0 c1 c2 c3
      go_quiet (first | (go_at_call 30; refine Calls.quiet_of_same (uLenN_any _ (by first | exact HU1.out | exact HU2.out) _)) | (go_at_call 31; refine Calls.quiet_of_same (sLenQ_any _ (by first | exact HN1.out | exact HN2.out) _)))
      obtain ⟨w2, hw2'⟩ : ∃ w2, w2 = w1.drewN nq := ⟨_, rfl⟩
      have B2 : Hid (Below w1.heap.size w1 w2) := by rw [hw2']; exact below_drewN (Below.refl _ _) _
      rw [← hw2']
      clear hw2'
      have f3 := (B2.out.cell (p := ⟨g, 3, none⟩) hg).trans e3
      have hg2 : g < w2.heap.size := Nat.lt_of_lt_of_le hg B2.out.size
      have HP2 := hid (HP1.out.kept (Kept.of B2.out))
      have HB2 : Hid (Below w.heap.size w w2) := HB1.out.trans (B2.out.mono HB1.out.size)
      obtain ⟨m1, hm1⟩ : ∃ m1 : Nat, m1 = m + ((eS d.name).length + (eU (uN d.ord)).length + (eS d.dp).length + (eU d.pols.length).length) := ⟨_, rfl⟩
      have HM1 := hid hm1
      have hm1N : m1 + (d.pols.flatMap ePolF).length ≤ N := by omega
      clear e0 e1 e2 e3 hm1 hmN HB1 HP1 B2
      go_wp2_with fail
      go_loopw [7, 10] (fun v7 v10 wp => ∃ (m2 j : Nat), j ≤ d.pols.length ∧ v10 = .int .i64 j ∧ v7 = .int .i64 m2 ∧ Hid (m2 = m1 + ((d.pols.take j).flatMap ePolF).length) ∧ Hid (Below w2.heap.size w2 wp)) (fun _ v10 _ => d.pols.length - (intOf v10).toNat)
      case atStart => exact ⟨m1, 0, Nat.zero_le _, rfl, by have := HM1.out; go_num, by rw [Hid]; simp, Below.refl _ _⟩
      case round =>
        obtain ⟨m2, j, hj, rfl, rfl, HK2, HBp⟩ := hrel
        have g3 := (HBp.out.cell (p := ⟨g, 3, none⟩) hg2).trans f3
        by_cases hlt2 : j < d.pols.length
        · obtain ⟨p, hpj⟩ := get_of hlt2
          obtain ⟨b2, off2, ga, gc, rfl, hbw2, d0, d1, d2, d3, d4, hG, hm1', hi1, hi2, hi3⟩ := (HP2.out.kept (Kept.of HBp.out)).2 j p hpj
          have hat := flat_at_le ePolF hpj
          have hes := ePolF_length p
          have hmN : m2 + (ePolF p).length ≤ N := by have := HK2.out; omega
          have hel := ePol_length p
          rw [hes, hel] at hmN
          have HJ2 := hid hpj
          have HES2 := hid hes
          have HEL := hid hel
          have hga := hG.1
          have HG := hid hG
          clear hG hpj hat hes hel
          go_upto_region 11 with fail
          have HB3 : Hid (Below w2.heap.size w2 (wr.alloc (.cells #[.string p.name, .int .i64 p.dur, .int .i64 p.sgd, .int .i64 p.rep, .slice ga p.grps.length gc] 42))) := HBp.out.alloc HBp.out.size (.cells #[.string p.name, .int .i64 p.dur, .int .i64 p.sgd, .int .i64 p.rep, .slice ga p.grps.length gc] 42)
          have HG3 := hid (HG.out.kept (Kept.of ((Below.refl _ wr).alloc (Nat.le_refl _) (.cells #[.string p.name, .int .i64 p.dur, .int .i64 p.sgd, .int .i64 p.rep, .slice ga p.grps.length gc] 42))))
          have k0 : (wr.alloc (.cells #[.string p.name, .int .i64 p.dur, .int .i64 p.sgd, .int .i64 p.rep, .slice ga p.grps.length gc] 42)).cell? ⟨wr.heap.size, 0, none⟩ = some (.string p.name) := by rw [World.cell?_alloc_at _ _ _ _ rfl]; rfl
          have k1 : (wr.alloc (.cells #[.string p.name, .int .i64 p.dur, .int .i64 p.sgd, .int .i64 p.rep, .slice ga p.grps.length gc] 42)).cell? ⟨wr.heap.size, 1, none⟩ = some (.int .i64 p.dur) := by rw [World.cell?_alloc_at _ _ _ _ rfl]; rfl
          have k2 : (wr.alloc (.cells #[.string p.name, .int .i64 p.dur, .int .i64 p.sgd, .int .i64 p.rep, .slice ga p.grps.length gc] 42)).cell? ⟨wr.heap.size, 2, none⟩ = some (.int .i64 p.sgd) := by rw [World.cell?_alloc_at _ _ _ _ rfl]; rfl
          have k3 : (wr.alloc (.cells #[.string p.name, .int .i64 p.dur, .int .i64 p.sgd, .int .i64 p.rep, .slice ga p.grps.length gc] 42)).cell? ⟨wr.heap.size, 3, none⟩ = some (.int .i64 p.rep) := by rw [World.cell?_alloc_at _ _ _ _ rfl]; rfl
          have k4 : (wr.alloc (.cells #[.string p.name, .int .i64 p.dur, .int .i64 p.sgd, .int .i64 p.rep, .slice ga p.grps.length gc] 42)).cell? ⟨wr.heap.size, 4, none⟩ = some (.slice ga p.grps.length gc) := by rw [World.cell?_alloc_at _ _ _ _ rfl]; rfl
          have hg3 : wr.heap.size < (wr.alloc (.cells #[.string p.name, .int .i64 p.dur, .int .i64 p.sgd, .int .i64 p.rep, .slice ga p.grps.length gc] 42)).heap.size := by simp
          generalize wr.alloc (.cells #[.string p.name, .int .i64 p.dur, .int .i64 p.sgd, .int .i64 p.rep, .slice ga p.grps.length gc] 42) = w3 at HB3 HG3 k0 k1 k2 k3 k4 hg3 ⊢
          generalize wr.heap.size = gp at k0 k1 k2 k3 k4 hg3 ⊢
          have o3 := uN_wrap p.rep
          have o4 := uN_lt p.rep
          have HU3 : Hid (uN p.rep < 18446744073709551616) := o4
          have HU4 : Hid (p.grps.length < 18446744073709551616) := by rw [Hid]; omega
          have hsz3 := wrap_u64 p.grps.length (by omega)
          have HN3 : Hid (p.name.size ≤ 9223372036854770000) := by have := eS_length p.name; rw [Hid]; omega
          have HI1 := hid hi1
          have HI2 := hid hi2
          have q3 := eU_le (uN p.rep) o4
          have q4 := eU_le p.grps.length (by omega)
          have q5 := eV_le p.dur
          have q6 := eV_le p.sgd
          clear HG d0 d1 d2 d3 d4 hi1 hi2 hi3 g3
          go_quiet (first | (go_at_call 30; refine Calls.quiet_of_same (uLenN_any _ (by first | exact HU3.out | exact HU4.out) _)) | (go_at_call 31; refine Calls.quiet_of_same (sLenQ_any _ HN3.out _)) | (go_at_call 32; refine Calls.quiet_of_same (vLenQ_any _ (by first | exact HI1.out | exact HI2.out) _)))
          obtain ⟨w4, hw4'⟩ : ∃ w4, w4 = w3.drewN nq := ⟨_, rfl⟩
          have B4 : Hid (Below w3.heap.size w3 w4) := by rw [hw4']; exact below_drewN (Below.refl _ _) _
          rw [← hw4']
          clear hw4'
          have l4 := (B4.out.cell (p := ⟨gp, 4, none⟩) hg3).trans k4
          have hg4 : gp < w4.heap.size := Nat.lt_of_lt_of_le hg3 B4.out.size
          have HG4 := hid (HG3.out.kept (Kept.of B4.out))
          have HB4 : Hid (Below w2.heap.size w2 w4) := HB3.out.trans (B4.out.mono HB3.out.size)
          obtain ⟨m3, hm3⟩ : ∃ m3 : Nat, m3 = m2 + ((eS p.name).length + (eV p.dur).length + (eV p.sgd).length + (eU (uN p.rep)).length + (eU p.grps.length).length) := ⟨_, rfl⟩
          have HM3 := hid hm3
          have hm3N : m3 + (p.grps.flatMap eGrp).length + 1 ≤ N := by omega
          clear k0 k1 k2 k3 k4 hm3 hmN HB3 HG3 B4
          go_wp2_with fail
          go_loopw [7, 12] (fun v7 v12 wq => ∃ (m4 l : Nat), l ≤ p.grps.length ∧ v12 = .int .i64 l ∧ v7 = .int .i64 m4 ∧ Hid (m4 = m3 + ((p.grps.take l).flatMap eGrp).length) ∧ Hid (Below w4.heap.size w4 wq)) (fun _ v12 _ => p.grps.length - (intOf v12).toNat)
          case atStart => exact ⟨m3, 0, Nat.zero_le _, rfl, by have := HM3.out; go_num, by rw [Hid]; simp, Below.refl _ _⟩
          case round =>
            obtain ⟨m4, l, hl4, rfl, rfl, HK4, HBq⟩ := hrel
            have n4 := (HBq.out.cell (p := ⟨gp, 4, none⟩) hg4).trans l4
            by_cases hlt4 : l < p.grps.length
            · obtain ⟨gr, hgl⟩ := get_of hlt4
              obtain ⟨b4, off4, sa4, sc4, pa4, pc4, rfl, hbw4, r0, r1, r2, r3, r4, hS4, hP4, hj1, hj2⟩ := (HG4.out.kept (Kept.of HBq.out)).2 l gr hgl
              have hat := flat_at_le eGrp hgl
              have hes := eGrp_length gr
              have hmN : m4 + (eGrp gr).length ≤ N := by have := HK4.out; omega
              rw [hes] at hmN
              have HL4 := hid hgl
              have HES4 := hid hes
              have HS4 := hid hS4
              have HP4 := hid hP4
              have HI3 := hid hj1
              have HI4 := hid hj2
              have q7 := eV_le gr.st
              have q8 := eV_le gr.en
              clear hS4 hP4 hgl hat hes hj1 hj2
              obtain ⟨GC, hGC⟩ : ∃ GC : Array Value, GC = #[.int .i64 gr.st, .int .i64 gr.en, .slice sa4 gr.segs.length sc4, .bool gr.planned, .slice pa4 gr.plan.length pc4] := ⟨_, rfl⟩
              go_upto_region 16 with fail
              rw [← hGC]
              have HB5 : Hid (Below w4.heap.size w4 (wr.alloc (.cells GC 44))) := HBq.out.alloc HBq.out.size (.cells GC 44)
              have HS5 := hid (HS4.out.kept (Kept.of ((Below.refl _ wr).alloc (Nat.le_refl _) (.cells GC 44))))
              have HP5 := hid (HP4.out.kept (Kept.of ((Below.refl _ wr).alloc (Nat.le_refl _) (.cells GC 44))))
              have s0 : (wr.alloc (.cells GC 44)).cell? ⟨wr.heap.size, 0, none⟩ = some (.int .i64 gr.st) := by rw [World.cell?_alloc_at _ _ _ _ rfl, hGC]; rfl
              have s1 : (wr.alloc (.cells GC 44)).cell? ⟨wr.heap.size, 1, none⟩ = some (.int .i64 gr.en) := by rw [World.cell?_alloc_at _ _ _ _ rfl, hGC]; rfl
              have s2 : (wr.alloc (.cells GC 44)).cell? ⟨wr.heap.size, 2, none⟩ = some (.slice sa4 gr.segs.length sc4) := by rw [World.cell?_alloc_at _ _ _ _ rfl, hGC]; rfl
              have s3 : (wr.alloc (.cells GC 44)).cell? ⟨wr.heap.size, 3, none⟩ = some (.bool gr.planned) := by rw [World.cell?_alloc_at _ _ _ _ rfl, hGC]; rfl
              have s4 : (wr.alloc (.cells GC 44)).cell? ⟨wr.heap.size, 4, none⟩ = some (.slice pa4 gr.plan.length pc4) := by rw [World.cell?_alloc_at _ _ _ _ rfl, hGC]; rfl
              have hg5 : wr.heap.size < (wr.alloc (.cells GC 44)).heap.size := by simp
              generalize wr.alloc (.cells GC 44) = w5 at HB5 HS5 HP5 s0 s1 s2 s3 s4 hg5 ⊢
              generalize wr.heap.size = gg at s0 s1 s2 s3 s4 hg5 ⊢
              clear hGC r0 r1 r2 r3 r4 n4 HS4 HP4
              go_quiet (first | (go_at_call 32; refine Calls.quiet_of_same (vLenQ_any _ (by first | exact HI3.out | exact HI4.out) _)))
              obtain ⟨w6, hw6'⟩ : ∃ w6, w6 = w5.drewN nq := ⟨_, rfl⟩
              have B6 : Hid (Below w5.heap.size w5 w6) := by rw [hw6']; exact below_drewN (Below.refl _ _) _
              rw [← hw6']
              clear hw6'
              have t2 := (B6.out.cell (p := ⟨gg, 2, none⟩) hg5).trans s2
              have t3 := (B6.out.cell (p := ⟨gg, 3, none⟩) hg5).trans s3
              have t4 := (B6.out.cell (p := ⟨gg, 4, none⟩) hg5).trans s4
              have HS6 := hid (HS5.out.kept (Kept.of B6.out))
              have HP6 := hid (HP5.out.kept (Kept.of B6.out))
              have HB6 : Hid (Below w4.heap.size w4 w6) := HB5.out.trans (B6.out.mono HB5.out.size)
              clear s0 s1 s2 s3 s4 HB5 HS5 HP5 B6
              cases hpl : gr.planned
              · rw [hpl] at t3 hmN
                have hlimS : (eSegs gr.segs).length ≤ 140737488355328 := by simp only [cond_false] at hmN; omega
                have hmN2 : m4 + ((eV gr.st).length + (eV gr.en).length + (eSegs gr.segs).length) ≤ N := by simpa only [cond_false] using hmN
                clear hmN
                go_wp2_with (go_at_call 33; refine (segsLen_any _ _ gr.segs _ (by exact HS6.out) hlimS).mono ?_; rintro e w7 ⟨rfl, HB7⟩; have HC7 := hid HB7; clear HB7)
                go_roundw
                case rel => exact ⟨m4 + ((eV gr.st).length + (eV gr.en).length) + (eSegs gr.segs).length, l + 1, by omega, by go_num, by go_num, by have h1 := HK4.out; have h2 := HES4.out; rw [hpl, cond_false] at h2; rw [Hid, flat_next eGrp HL4.out, List.length_append]; omega, HB6.out.trans (HC7.out.mono HB6.out.size)⟩
                case measure => simp [intOf]; omega
              · rw [hpl] at t3 hmN
                have hlimS : (eSegs gr.plan).length ≤ 140737488355328 := by simp only [cond_true] at hmN; omega
                have hmN2 : m4 + ((eV gr.st).length + (eV gr.en).length + (eSegs gr.plan).length) ≤ N := by simpa only [cond_true] using hmN
                clear hmN
                go_wp2_with (go_at_call 33; refine (segsLen_any _ _ gr.plan _ (by exact HP6.out) hlimS).mono ?_; rintro e w7 ⟨rfl, HB7⟩; have HC7 := hid HB7; clear HB7)
                go_roundw
                case rel => exact ⟨m4 + ((eV gr.st).length + (eV gr.en).length) + (eSegs gr.plan).length, l + 1, by omega, by go_num, by go_num, by have h1 := HK4.out; have h2 := HES4.out; rw [hpl, cond_true] at h2; rw [Hid, flat_next eGrp HL4.out, List.length_append]; omega, HB6.out.trans (HC7.out.mono HB6.out.size)⟩
                case measure => simp [intOf]; omega
            · have hle : l = p.grps.length := by omega
              subst hle
              have hm4N : m4 + 1 ≤ N := by have h1 := HK4.out; rw [List.take_length] at h1; omega
              go_wp2_with fail
              go_roundw
              case rel => exact ⟨m4 + 1, j + 1, by omega, by go_num, by go_num, by have h1 := HK4.out; have h2 := HES2.out; have h3 := HEL.out; have h4 := HM3.out; have h5 := HK2.out; rw [List.take_length] at h1; rw [Hid, flat_next ePolF HJ2.out, List.length_append]; omega, HB4.out.trans (HBq.out.mono HB4.out.size)⟩
              case measure => simp [intOf]; omega
        · have hje : j = d.pols.length := by omega
          subst hje
          go_wp2_with fail
          go_roundw
          case rel => exact ⟨m2, k + 1, by omega, by go_num, rfl, by have h1 := HK2.out; have h2 := HES.out; have h4 := HM1.out; have h5 := HK.out; rw [List.take_length] at h1; rw [Hid, flat_next eDb HJ.out, List.length_append]; omega, HB2.out.trans (HBp.out.mono HB2.out.size)⟩
          case measure => simp [intOf]; omega
    · have hke : k = D.length := by omega
      subst hke
      go_wp2_with fail
      go_ret
      have h1 := HK.out
      rw [List.take_length] at h1
      have h3 := HM.out
      have h4 : m = N := by omega
      subst h4
      exact ⟨rfl, HB.out⟩
end Go.Proofs.Qxb6609540aGreatDoor
