/-
  zzExpState: the canonical reader reads the state.
-/
import Derived.Test.Qxb6609540aGreatDoorExp
import Derived.Test.Qxb6609540aGreatDoorOrder
namespace Go.Proofs.Qxb6609540aGreatDoor
open Go.RowKit
set_option linter.unusedSimpArgs false
/-- The places by number are the places of the one list in that order. -/
theorem order_list {D L : List DbV} {J : List Nat} (hJ : J.Perm (List.range D.length)) (hS : Srt D J D.length (D.length + 1)) (hap : Apart D D.length) (hL : L.Perm D) (hLo : L.Pairwise (fun x y => x.ord < y.ord)) :
    J.length = D.length ∧ ∀ (k : Nat) t, J[k]? = some t → ∃ d, D[t]? = some d ∧ L[k]? = some d := by
  have hJl : J.length = D.length := by rw [hJ.length_eq, List.length_range]
  refine ⟨hJl, ?_⟩
  have hmem : ∀ t ∈ J, t < D.length := fun t ht => by simpa using hJ.mem_iff.1 ht
  cases D with
  | nil =>
    intro k t hk
    have h1 := (List.getElem?_eq_some_iff.1 hk).1
    have h0 : J.length = 0 := hJl
    omega
  | cons d0 D0 =>
    generalize hD : d0 :: D0 = D at *
    have hrange : (List.range D.length).map (fun t => (D[t]?).getD d0) = D := by
      apply List.ext_getElem?
      intro k
      rw [List.getElem?_map]
      by_cases hk : k < D.length
      · rw [List.getElem?_range hk, List.getElem?_eq_getElem hk]; simp [hk]
      · rw [List.getElem?_eq_none (by simp; omega), List.getElem?_eq_none (by omega)]; rfl
    have hM : (J.map fun t => (D[t]?).getD d0).Perm D := by
      have := hJ.map (fun t => (D[t]?).getD d0)
      rwa [hrange] at this
    have hMo : (J.map fun t => (D[t]?).getD d0).Pairwise (fun x y => x.ord < y.ord) := by
      have h5 : (J.map fun t => (D[t]?).getD d0).Pairwise (fun x y => x.ord ≠ y.ord) := (hM.pairwise_iff (fun h => h.symm)).2 (apart_pairwise hap)
      rw [List.pairwise_iff_getElem]
      intro i j hi hj hij
      have t1 := (List.pairwise_iff_getElem.1 h5) i j hi hj hij
      simp only [List.length_map] at hi hj
      have t2 := hS i j J[i] J[j] hij (by omega) (by omega) (List.getElem?_eq_getElem hi) (List.getElem?_eq_getElem hj)
      have l1 := hmem J[i] (List.getElem_mem hi)
      have l2 := hmem J[j] (List.getElem_mem hj)
      rw [ordAt_of (List.getElem?_eq_getElem l1), ordAt_of (List.getElem?_eq_getElem l2)] at t2
      simp only [List.getElem_map, List.getElem?_eq_getElem l1, List.getElem?_eq_getElem l2, Option.getD_some] at t1 ⊢
      omega
    have e := order_unique hM hL hMo hLo
    intro k t hk
    have lt := hmem t (List.mem_of_getElem? hk)
    refine ⟨D[t], List.getElem?_eq_getElem lt, ?_⟩
    rw [← e, List.getElem?_map, hk]
    simp [List.getElem?_eq_getElem lt]
theorem expU0_any (g cap : Nat) (T : List Value) (w : World) (hT : RowAt w g T) (i : Nat) (hO : On T i (eU 0)) :
    Calls Tryz.prog 25 #[.slice (some ⟨g, 0, none⟩) T.length cap, .int .i64 i, .int .u64 0] w fun e w' => e = .returned (.tuple #[.int .i64 ((i + 1 : Nat) : Int), .bool true]) ∧ w' = w := by
  have h := expU_any g cap T w hT i 0 (by omega) hO
  unfold Past at h; rw [eU_zero] at h
  exact h
set_option maxRecDepth 100000 in
set_option maxHeartbeats 16000000 in
theorem expState_any (g cap : Nat) (T : List Value) (w : World) (hT : RowAt w g T) (i0 : Nat) (nx cr : Int) (hnx : U64 nx) (a : Option Addr) (c : Nat) (D L : List DbV) (hap : Apart D D.length) (hL : L.Perm D) (hLo : L.Pairwise (fun x y => x.ord < y.ord)) (hd : DbsAt w a D)
    (hO : On T i0 (eState nx cr L)) (hend : i0 + (eState nx cr L).length = T.length) :
    Calls Tryz.prog 11 #[.slice (some ⟨g, 0, none⟩) T.length cap, .int .i64 i0, .int .u64 nx, .int .i64 cr, .slice a D.length c] w fun e w' => e = .returned (.bool true) ∧ Below w.heap.size w w' := by
  have HD := hid hd
  have HT := hid hT
  have hl := hd.1
  have hTl := hT.2.1
  have hn0 : nx = ((uN nx : Nat) : Int) := (uN_of hnx).symm
  have hw1 := uN_wrap cr
  have hw2 := uN_lt cr
  have hw3 := uN_lt nx
  have hsz := wrap_u64 D.length (by omega)
  have hLD : L.length = D.length := hL.length_eq
  have hD64 : D.length < 18446744073709551616 := by omega
  have HO1 := hid hO.left
  have HO2 := hid hO.right.left
  have HO3 := hid hO.right.right.left
  have HO4 := hid hO.right.right.right
  have hEl := eState_length nx cr L
  rw [hLD] at HO3 HO4 hEl
  obtain ⟨i1, hi1⟩ : ∃ i1, i1 = i0 + (eU (uN nx)).length := ⟨_, rfl⟩
  rw [← hi1] at HO2 HO3 HO4
  obtain ⟨i2, hi2⟩ : ∃ i2, i2 = i1 + (eU (uN cr)).length := ⟨_, rfl⟩
  rw [← hi2] at HO3 HO4
  obtain ⟨i3, hi3⟩ : ∃ i3, i3 = i2 + (eU D.length).length := ⟨_, rfl⟩
  rw [← hi3] at HO4
  have HEND : Hid (i3 + (L.flatMap eDb).length = T.length) := by rw [Hid]; omega
  have HAP := hid hap
  have HLP := hid hL
  have HLO := hid hLo
  have HC1 := hid (expU_any g cap T w hT i0 (uN nx) hw3 HO1.out)
  have HC2 := hid (expU_any g cap T w hT i1 (uN cr) hw2 HO2.out)
  have HC3 := hid (expU_any g cap T w hT i2 D.length hD64 HO3.out)
  unfold Past at HC1; rw [← hi1] at HC1
  unfold Past at HC2; rw [← hi2] at HC2
  unfold Past at HC3; rw [← hi3] at HC3
  have HOR := hid (order_any a c D w hd)
  have hb3 : i3 ≤ T.length := by have := HEND.out; omega
  have hLl := hLD
  rw [hn0]
  clear hT hap hL hLo hd hO hend hEl hi1 hi2 hi3 hn0 HO1 HO2 HO3
  go_enter Tryz.func11, Tryz.ntmps11
  go_upto_region 3 with (go_at_call 25; refine HC1.out.mono ?_; rintro e w1 ⟨rfl, hw⟩; subst w1)
  go_upto_region 5 with (go_at_call 25; refine HC2.out.mono ?_; rintro e w1 ⟨rfl, hw⟩; subst w1)
  go_upto_region 7 with (go_at_call 25; refine HC3.out.mono ?_; rintro e w1 ⟨rfl, hw⟩; subst w1)
  go_wp2_with (go_at_call 26; refine HOR.out.mono ?_; rintro e w2 ⟨gI, J, rfl, hJ1, hJ2, hJ3, hJ4, hJ5⟩; have HJL := hid (order_list hJ1 hJ2 HAP.out HLP.out HLO.out); have HJ3 := hid hJ3; have HB2 := hid hJ5; clear hJ1 hJ2 hJ3 hJ5)
  have HD2 := hid (HD.out.kept (Kept.of HB2.out))
  have HT2 := hid (HT.out.below HB2.out)
  clear HC1 HC2 HC3 HOR hw1 hsz
  go_loopw [1, 11, 13] (fun v1 v11 v13 wr => ∃ (m k : Nat), k ≤ D.length ∧ v13 = .int .i64 k ∧ v11 = .bool true ∧ v1 = .int .i64 m ∧ Hid (m = i3 + ((L.take k).flatMap eDb).length) ∧ Hid (Below w2.heap.size w2 wr)) (fun _ _ v13 _ => D.length - (intOf v13).toNat)
  case atStart => exact ⟨i3, 0, Nat.zero_le _, rfl, rfl, rfl, by rw [Hid]; simp, Below.refl _ _⟩
  case round =>
    obtain ⟨m, k, hk, rfl, rfl, rfl, HK, HB⟩ := hrel
    by_cases hlt : k < D.length
    · obtain ⟨t, htk⟩ := get_of (L := J) (k := k) (by rw [HJL.out.1]; exact hlt)
      obtain ⟨d, hdt, hdk⟩ := HJL.out.2 k t htk
      have htl : t < D.length := (List.getElem?_eq_some_iff.1 hdt).1
      have cI := (HB.out.cell (p := ⟨gI, k, none⟩) hJ4).trans (HJ3.out k t htk)
      obtain ⟨b, off, pa, pc, rfl, hbw, c0, c1, c2, c3, hP, hn1, hn2, _⟩ := (HD2.out.kept (Kept.of HB.out)).2 t d hdt
      have hon := HO4.out.at hdk
      rw [← HK.out] at hon
      have hmE : m + (eDb d).length ≤ T.length := by
        have h1 := HK.out
        have h2 := flat_at_le eDb hdk
        have h3 := HEND.out
        omega
      have hes := eDb_length d
      have HES := hid hes
      rw [hes] at hmE
      have HJ := hid hdk
      have hna := hP.1
      have HP := hid hP
      have HOa := hid hon.left
      have HOb := hid hon.right.left
      have HOc := hid hon.right.right.left
      have HOd := hid hon.right.right.right.left
      have HOe := hid hon.right.right.right.right
      obtain ⟨m1, hm1⟩ : ∃ m1, m1 = m + (eS d.name).length := ⟨_, rfl⟩
      rw [← hm1] at HOb HOc HOd HOe
      obtain ⟨m2, hm2⟩ : ∃ m2, m2 = m1 + (eU (uN d.ord)).length := ⟨_, rfl⟩
      rw [← hm2] at HOc HOd HOe
      obtain ⟨m3, hm3⟩ : ∃ m3, m3 = m2 + (eS d.dp).length := ⟨_, rfl⟩
      rw [← hm3] at HOd HOe
      obtain ⟨m4, hm4⟩ : ∃ m4, m4 = m3 + (eU d.pols.length).length := ⟨_, rfl⟩
      rw [← hm4] at HOe
      have HM1 := hid hm1
      have HM2 := hid hm2
      have HM3 := hid hm3
      have HM4 := hid hm4
      have hm4T : m4 + (d.pols.flatMap ePolF).length ≤ T.length := by omega
      have hm1T : m1 ≤ T.length := by omega
      have hm2T : m2 ≤ T.length := by omega
      have hm3T : m3 ≤ T.length := by omega
      clear hP hdk hdt htk hon hes hm1 hm2 hm3 hm4 hmE
      go_upto_region 12 with fail
      have HB1 : Hid (Below w2.heap.size w2 (wr.alloc (.cells #[.string d.name, .int .i64 d.ord, .string d.dp, .slice pa d.pols.length pc] 39))) := HB.out.alloc HB.out.size _
      have HP1 := hid (HP.out.kept (Kept.of ((Below.refl _ wr).alloc (Nat.le_refl _) (.cells #[.string d.name, .int .i64 d.ord, .string d.dp, .slice pa d.pols.length pc] 39))))
      have e0 : (wr.alloc (.cells #[.string d.name, .int .i64 d.ord, .string d.dp, .slice pa d.pols.length pc] 39)).cell? ⟨wr.heap.size, 0, none⟩ = some (.string d.name) := by rw [World.cell?_alloc_at _ _ _ _ rfl]; rfl
      have e1 : (wr.alloc (.cells #[.string d.name, .int .i64 d.ord, .string d.dp, .slice pa d.pols.length pc] 39)).cell? ⟨wr.heap.size, 1, none⟩ = some (.int .i64 d.ord) := by rw [World.cell?_alloc_at _ _ _ _ rfl]; rfl
      have e2 : (wr.alloc (.cells #[.string d.name, .int .i64 d.ord, .string d.dp, .slice pa d.pols.length pc] 39)).cell? ⟨wr.heap.size, 2, none⟩ = some (.string d.dp) := by rw [World.cell?_alloc_at _ _ _ _ rfl]; rfl
      have e3 : (wr.alloc (.cells #[.string d.name, .int .i64 d.ord, .string d.dp, .slice pa d.pols.length pc] 39)).cell? ⟨wr.heap.size, 3, none⟩ = some (.slice pa d.pols.length pc) := by rw [World.cell?_alloc_at _ _ _ _ rfl]; rfl
      have hg : wr.heap.size < (wr.alloc (.cells #[.string d.name, .int .i64 d.ord, .string d.dp, .slice pa d.pols.length pc] 39)).heap.size := by simp
      generalize wr.alloc (.cells #[.string d.name, .int .i64 d.ord, .string d.dp, .slice pa d.pols.length pc] 39) = w1 at HB1 HP1 e0 e1 e2 e3 hg ⊢
      generalize wr.heap.size = gd at e0 e1 e2 e3 hg ⊢
      have HT1 := hid (HT2.out.below HB1.out)
      have o1 := uN_wrap d.ord
      have o2 := uN_lt d.ord
      have hsz2 := wrap_u64 d.pols.length (by omega)
      have hsu : d.pols.length < 18446744073709551616 := by omega
      clear HP c0 c1 c2 c3 cI
      go_upto_region 13 with (go_at_call 27; refine (expS_any g cap T _ HT1.out m d.name hn1 HOa.out).mono ?_; unfold Past; rw [← HM1.out]; rintro e w3 ⟨rfl, hb3'⟩; have HB3 := hid hb3'; clear hb3')
      have f1 := (HB3.out.cell (p := ⟨gd, 1, none⟩) hg).trans e1
      have f2 := (HB3.out.cell (p := ⟨gd, 2, none⟩) hg).trans e2
      have f3 := (HB3.out.cell (p := ⟨gd, 3, none⟩) hg).trans e3
      have hg3 : gd < w3.heap.size := Nat.lt_of_lt_of_le hg HB3.out.size
      have HT3 := hid (HT1.out.below HB3.out)
      clear e0 e1 e2 e3
      go_upto_region 15 with (go_at_call 25; refine (expU_any g cap T _ HT3.out m1 (uN d.ord) o2 HOb.out).mono ?_; unfold Past; rw [← HM2.out]; rintro e w4 ⟨rfl, hw⟩; subst w4)
      go_upto_region 17 with (go_at_call 27; refine (expS_any g cap T _ HT3.out m2 d.dp hn2 HOc.out).mono ?_; unfold Past; rw [← HM3.out]; rintro e w5 ⟨rfl, hb5'⟩; have HB5 := hid hb5'; clear hb5')
      have g3 := (HB5.out.cell (p := ⟨gd, 3, none⟩) hg3).trans f3
      have hg5 : gd < w5.heap.size := Nat.lt_of_lt_of_le hg3 HB5.out.size
      have HT5 := hid (HT3.out.below HB5.out)
      have HP5 := hid ((HP1.out.kept (Kept.of HB3.out)).kept (Kept.of HB5.out))
      have HB25 : Hid (Below w2.heap.size w2 w5) := (HB1.out.trans (HB3.out.mono HB1.out.size)).trans (HB5.out.mono (Nat.le_trans HB1.out.size HB3.out.size))
      clear f1 f2 f3 o1 HP1 HT1 HT3
      go_wp2_with (go_at_call 25; refine (expU_any g cap T _ HT5.out m3 d.pols.length hsu HOd.out).mono ?_; unfold Past; rw [← HM4.out]; rintro e w6 ⟨rfl, hw⟩; subst w6)
      go_loopw [1, 11, 15] (fun v1 v11 v15 wr => ∃ (q j : Nat), j ≤ d.pols.length ∧ v15 = .int .i64 j ∧ v11 = .bool true ∧ v1 = .int .i64 q ∧ Hid (q = m4 + ((d.pols.take j).flatMap ePolF).length) ∧ Hid (Below w5.heap.size w5 wr)) (fun _ _ v15 _ => d.pols.length - (intOf v15).toNat)
      case atStart => exact ⟨m4, 0, Nat.zero_le _, rfl, rfl, rfl, by rw [Hid]; simp, Below.refl _ _⟩
      case round =>
        obtain ⟨q, j, hj, rfl, rfl, rfl, HKq, HBj⟩ := hrel
        have g3' := (HBj.out.cell (p := ⟨gd, 3, none⟩) hg5).trans g3
        by_cases hltj : j < d.pols.length
        · obtain ⟨p, hpj⟩ := get_of hltj
          obtain ⟨b2, off2, ga, gc, rfl, hbw2, d0, d1, d2, d3, d4, hG, hpn, hi1, hi2, hi3⟩ := (HP5.out.kept (Kept.of HBj.out)).2 j p hpj
          have hon := HOe.out.at hpj
          rw [← HKq.out] at hon
          have hqE : q + (ePolF p).length ≤ T.length := by
            have h1 := HKq.out
            have h2 := flat_at_le ePolF hpj
            omega
          have hes := ePolF_length p
          have hel := ePol_length p
          rw [hes, hel] at hqE
          have HESp := hid hes
          have HELp := hid hel
          have HPJ := hid hpj
          have hga := hG.1
          have HG := hid hG
          have HQa := hid hon.left.left
          have HQb := hid hon.left.right.left
          have HQc := hid hon.left.right.right.left
          have HQd := hid hon.left.right.right.right
          have HQe := hid hon.right.left
          have HQf := hid hon.right.right.left
          have HQg := hid hon.right.right.right
          obtain ⟨q1, hq1⟩ : ∃ q1, q1 = q + (eS p.name).length := ⟨_, rfl⟩
          rw [← hq1] at HQb HQc HQd
          obtain ⟨q2, hq2⟩ : ∃ q2, q2 = q1 + (eV p.dur).length := ⟨_, rfl⟩
          rw [← hq2] at HQc HQd
          obtain ⟨q3, hq3⟩ : ∃ q3, q3 = q2 + (eV p.sgd).length := ⟨_, rfl⟩
          rw [← hq3] at HQd
          obtain ⟨q4, hq4⟩ : ∃ q4, q4 = q3 + (eU (uN p.rep)).length := ⟨_, rfl⟩
          have hq4' : q + (ePol p).length = q4 := by rw [hel]; omega
          rw [hq4'] at HQe HQf HQg
          obtain ⟨q5, hq5⟩ : ∃ q5, q5 = q4 + (eU p.grps.length).length := ⟨_, rfl⟩
          rw [← hq5] at HQf HQg
          have HM5 := hid hq1
          have HM6 := hid hq2
          have HM7 := hid hq3
          have HM8 := hid hq4
          have HM9 := hid hq5
          have hq5T : q5 + (p.grps.flatMap eGrp).length + 1 ≤ T.length := by omega
          have hq1T : q1 ≤ T.length := by omega
          have hq2T : q2 ≤ T.length := by omega
          have hq3T : q3 ≤ T.length := by omega
          have hq4T : q4 ≤ T.length := by omega
          have HI1 := hid hi1
          have HI2 := hid hi2
          clear hG hpj hon hes hel hq1 hq2 hq3 hq4 hq5 hq4' hqE hi1 hi2 hi3
          go_upto_region 23 with fail
          have HB7 : Hid (Below w5.heap.size w5 (wr.alloc (.cells #[.string p.name, .int .i64 p.dur, .int .i64 p.sgd, .int .i64 p.rep, .slice ga p.grps.length gc] 42))) := HBj.out.alloc HBj.out.size _
          have HG7 := hid (HG.out.kept (Kept.of ((Below.refl _ wr).alloc (Nat.le_refl _) (.cells #[.string p.name, .int .i64 p.dur, .int .i64 p.sgd, .int .i64 p.rep, .slice ga p.grps.length gc] 42))))
          have k0 : (wr.alloc (.cells #[.string p.name, .int .i64 p.dur, .int .i64 p.sgd, .int .i64 p.rep, .slice ga p.grps.length gc] 42)).cell? ⟨wr.heap.size, 0, none⟩ = some (.string p.name) := by rw [World.cell?_alloc_at _ _ _ _ rfl]; rfl
          have k1 : (wr.alloc (.cells #[.string p.name, .int .i64 p.dur, .int .i64 p.sgd, .int .i64 p.rep, .slice ga p.grps.length gc] 42)).cell? ⟨wr.heap.size, 1, none⟩ = some (.int .i64 p.dur) := by rw [World.cell?_alloc_at _ _ _ _ rfl]; rfl
          have k2 : (wr.alloc (.cells #[.string p.name, .int .i64 p.dur, .int .i64 p.sgd, .int .i64 p.rep, .slice ga p.grps.length gc] 42)).cell? ⟨wr.heap.size, 2, none⟩ = some (.int .i64 p.sgd) := by rw [World.cell?_alloc_at _ _ _ _ rfl]; rfl
          have k3 : (wr.alloc (.cells #[.string p.name, .int .i64 p.dur, .int .i64 p.sgd, .int .i64 p.rep, .slice ga p.grps.length gc] 42)).cell? ⟨wr.heap.size, 3, none⟩ = some (.int .i64 p.rep) := by rw [World.cell?_alloc_at _ _ _ _ rfl]; rfl
          have k4 : (wr.alloc (.cells #[.string p.name, .int .i64 p.dur, .int .i64 p.sgd, .int .i64 p.rep, .slice ga p.grps.length gc] 42)).cell? ⟨wr.heap.size, 4, none⟩ = some (.slice ga p.grps.length gc) := by rw [World.cell?_alloc_at _ _ _ _ rfl]; rfl
          have hgp : wr.heap.size < (wr.alloc (.cells #[.string p.name, .int .i64 p.dur, .int .i64 p.sgd, .int .i64 p.rep, .slice ga p.grps.length gc] 42)).heap.size := by simp
          generalize wr.alloc (.cells #[.string p.name, .int .i64 p.dur, .int .i64 p.sgd, .int .i64 p.rep, .slice ga p.grps.length gc] 42) = w7 at HB7 HG7 k0 k1 k2 k3 k4 hgp ⊢
          generalize wr.heap.size = gp at k0 k1 k2 k3 k4 hgp ⊢
          have HT7 := hid (HT5.out.below HB7.out)
          have o3 := uN_wrap p.rep
          have o4 := uN_lt p.rep
          have hsz3 := wrap_u64 p.grps.length (by omega)
          have hsu3 : p.grps.length < 18446744073709551616 := by omega
          clear HG d0 d1 d2 d3 d4 g3'
          go_upto_region 24 with (go_at_call 27; refine (expS_any g cap T _ HT7.out q p.name hpn HQa.out).mono ?_; unfold Past; rw [← HM5.out]; rintro e w8 ⟨rfl, hb8'⟩; have HB8 := hid hb8'; clear hb8')
          have l1 := (HB8.out.cell (p := ⟨gp, 1, none⟩) hgp).trans k1
          have l2 := (HB8.out.cell (p := ⟨gp, 2, none⟩) hgp).trans k2
          have l3 := (HB8.out.cell (p := ⟨gp, 3, none⟩) hgp).trans k3
          have l4 := (HB8.out.cell (p := ⟨gp, 4, none⟩) hgp).trans k4
          have hgp8 : gp < w8.heap.size := Nat.lt_of_lt_of_le hgp HB8.out.size
          have HT8 := hid (HT7.out.below HB8.out)
          have HG8 := hid (HG7.out.kept (Kept.of HB8.out))
          have HB58 : Hid (Below w5.heap.size w5 w8) := HB7.out.trans (HB8.out.mono HB7.out.size)
          clear k0 k1 k2 k3 k4 HT7 HG7
          go_upto_region 26 with (go_at_call 28; refine (expV_any g cap T _ HT8.out q1 p.dur HI1.out HQb.out).mono ?_; unfold Past; rw [← HM6.out]; rintro e w9 ⟨rfl, hw⟩; subst w9)
          go_upto_region 28 with (go_at_call 28; refine (expV_any g cap T _ HT8.out q2 p.sgd HI2.out HQc.out).mono ?_; unfold Past; rw [← HM7.out]; rintro e w9 ⟨rfl, hw⟩; subst w9)
          go_upto_region 30 with (go_at_call 25; refine (expU_any g cap T _ HT8.out q3 (uN p.rep) o4 HQd.out).mono ?_; unfold Past; rw [← HM8.out]; rintro e w9 ⟨rfl, hw⟩; subst w9)
          go_wp2_with (go_at_call 25; refine (expU_any g cap T _ HT8.out q4 p.grps.length hsu3 HQe.out).mono ?_; unfold Past; rw [← HM9.out]; rintro e w9 ⟨rfl, hw⟩; subst w9)
          clear l1 l2 l3 o3
          go_loopw [1, 11, 17] (fun v1 v11 v17 wr => ∃ (r l : Nat), l ≤ p.grps.length ∧ v17 = .int .i64 l ∧ v11 = .bool true ∧ v1 = .int .i64 r ∧ Hid (r = q5 + ((p.grps.take l).flatMap eGrp).length) ∧ Hid (Below w8.heap.size w8 wr)) (fun _ _ v17 _ => p.grps.length - (intOf v17).toNat)
          case atStart => exact ⟨q5, 0, Nat.zero_le _, rfl, rfl, rfl, by rw [Hid]; simp, Below.refl _ _⟩
          case round =>
            obtain ⟨r, l, hl4, rfl, rfl, rfl, HKr, HBl⟩ := hrel
            have l4' := (HBl.out.cell (p := ⟨gp, 4, none⟩) hgp8).trans l4
            by_cases hltl : l < p.grps.length
            · obtain ⟨G, hGl⟩ := get_of hltl
              obtain ⟨b4, off4, sa4, sc4, pa4, pc4, rfl, hbw4, r0, r1, r2, r3, r4, hS4, hP4, hj1, hj2⟩ := (HG8.out.kept (Kept.of HBl.out)).2 l G hGl
              have hon := HQf.out.at hGl
              rw [← HKr.out] at hon
              have hrE : r + (eGrp G).length ≤ T.length := by
                have h1 := HKr.out
                have h2 := flat_at_le eGrp hGl
                omega
              have hes := eGrp_length G
              rw [hes] at hrE
              have HESg := hid hes
              have HGL := hid hGl
              have HRa := hid hon.left
              have HRb := hid hon.right.left
              have HRc := hid hon.right.right
              obtain ⟨r1', hr1⟩ : ∃ r1', r1' = r + (eV G.st).length := ⟨_, rfl⟩
              rw [← hr1] at HRb HRc
              obtain ⟨r2', hr2⟩ : ∃ r2', r2' = r1' + (eV G.en).length := ⟨_, rfl⟩
              rw [← hr2] at HRc
              have HMa := hid hr1
              have HMb := hid hr2
              have hr1T : r1' ≤ T.length := by omega
              have hr2T : r2' ≤ T.length := by omega
              have HS4 := hid hS4
              have HP4 := hid hP4
              have HI3 := hid hj1
              have HI4 := hid hj2
              clear hS4 hP4 hGl hon hes hj1 hj2 hr1 hr2
              obtain ⟨GC, hGC⟩ : ∃ GC : Array Value, GC = #[.int .i64 G.st, .int .i64 G.en, .slice sa4 G.segs.length sc4, .bool G.planned, .slice pa4 G.plan.length pc4] := ⟨_, rfl⟩
              go_upto_region 36 with fail
              rw [← hGC]
              have HBa : Hid (Below w8.heap.size w8 (wr.alloc (.cells GC 44))) := HBl.out.alloc HBl.out.size (.cells GC 44)
              have HS5 := hid (HS4.out.kept (Kept.of ((Below.refl _ wr).alloc (Nat.le_refl _) (.cells GC 44))))
              have HP6 := hid (HP4.out.kept (Kept.of ((Below.refl _ wr).alloc (Nat.le_refl _) (.cells GC 44))))
              have s0 : (wr.alloc (.cells GC 44)).cell? ⟨wr.heap.size, 0, none⟩ = some (.int .i64 G.st) := by rw [World.cell?_alloc_at _ _ _ _ rfl, hGC]; rfl
              have s1 : (wr.alloc (.cells GC 44)).cell? ⟨wr.heap.size, 1, none⟩ = some (.int .i64 G.en) := by rw [World.cell?_alloc_at _ _ _ _ rfl, hGC]; rfl
              have s2 : (wr.alloc (.cells GC 44)).cell? ⟨wr.heap.size, 2, none⟩ = some (.slice sa4 G.segs.length sc4) := by rw [World.cell?_alloc_at _ _ _ _ rfl, hGC]; rfl
              have s3 : (wr.alloc (.cells GC 44)).cell? ⟨wr.heap.size, 3, none⟩ = some (.bool G.planned) := by rw [World.cell?_alloc_at _ _ _ _ rfl, hGC]; rfl
              have s4 : (wr.alloc (.cells GC 44)).cell? ⟨wr.heap.size, 4, none⟩ = some (.slice pa4 G.plan.length pc4) := by rw [World.cell?_alloc_at _ _ _ _ rfl, hGC]; rfl
              generalize wr.alloc (.cells GC 44) = wa at HBa HS5 HP6 s0 s1 s2 s3 s4 ⊢
              generalize wr.heap.size = gg at s0 s1 s2 s3 s4 ⊢
              have HTa := hid (HT8.out.below HBa.out)
              clear hGC r0 r1 r2 r3 r4 l4' HS4 HP4
              go_upto_region 37 with (go_at_call 28; refine (expV_any g cap T _ HTa.out r G.st HI3.out HRa.out).mono ?_; unfold Past; rw [← HMa.out]; rintro e w9 ⟨rfl, hw⟩; subst w9)
              go_upto_region 39 with (go_at_call 28; refine (expV_any g cap T _ HTa.out r1' G.en HI4.out HRb.out).mono ?_; unfold Past; rw [← HMb.out]; rintro e w9 ⟨rfl, hw⟩; subst w9)
              cases hpl : G.planned
              · rw [hpl] at s3 hrE
                have HRd : Hid (On T r2' (eSegs G.segs)) := by have h := HRc.out; rw [hpl, cond_false] at h; exact h
                rw [cond_false] at hrE
                go_wp2_with (go_at_call 29; refine (expSegs_any g cap T _ HTa.out r2' _ _ G.segs (by exact HS5.out) HRd.out).mono ?_; rintro e wb ⟨rfl, hbb⟩; have HBb := hid hbb; clear hbb)
                go_roundw
                case rel => exact ⟨r2' + (eSegs G.segs).length, l + 1, by omega, by go_num, rfl, by go_num, by have h1 := HKr.out; have h2 := HESg.out; have h3 := HMa.out; have h4 := HMb.out; rw [hpl, cond_false] at h2; rw [Hid, flat_next eGrp HGL.out, List.length_append]; omega, HBa.out.trans (HBb.out.mono HBa.out.size)⟩
                case measure => simp [intOf]; omega
              · rw [hpl] at s3 hrE
                have HRd : Hid (On T r2' (eSegs G.plan)) := by have h := HRc.out; rw [hpl, cond_true] at h; exact h
                rw [cond_true] at hrE
                go_wp2_with (go_at_call 29; refine (expSegs_any g cap T _ HTa.out r2' _ _ G.plan (by exact HP6.out) HRd.out).mono ?_; rintro e wb ⟨rfl, hbb⟩; have HBb := hid hbb; clear hbb)
                go_roundw
                case rel => exact ⟨r2' + (eSegs G.plan).length, l + 1, by omega, by go_num, rfl, by go_num, by have h1 := HKr.out; have h2 := HESg.out; have h3 := HMa.out; have h4 := HMb.out; rw [hpl, cond_true] at h2; rw [Hid, flat_next eGrp HGL.out, List.length_append]; omega, HBa.out.trans (HBb.out.mono HBa.out.size)⟩
                case measure => simp [intOf]; omega
            · have hle : l = p.grps.length := by omega
              subst hle
              have hrq : Hid (r = q5 + (p.grps.flatMap eGrp).length) := by have h1 := HKr.out; rw [List.take_length] at h1; exact h1
              have HRz : Hid (On T r (eU 0)) := by have h := HQg.out; rw [← hrq.out] at h; exact h
              have HTz := hid (HT8.out.below HBl.out)
              have hrT : r + 1 ≤ T.length := by have := hrq.out; omega
              go_wp2_with (go_at_call 25; refine (expU0_any g cap T _ HTz.out r HRz.out).mono ?_; rintro e w9 ⟨rfl, hw⟩; subst w9)
              go_roundw
              case rel => exact ⟨r + 1, j + 1, by omega, by go_num, rfl, by go_num, by have h1 := hrq.out; have h2 := HESp.out; have h3 := HELp.out; have h4 := HM5.out; have h5 := HM6.out; have h6 := HM7.out; have h7 := HM8.out; have h8 := HM9.out; have h9 := HKq.out; rw [Hid, flat_next ePolF HPJ.out, List.length_append]; omega, HB58.out.trans (HBl.out.mono HB58.out.size)⟩
              case measure => simp [intOf]; omega
        · have hje : j = d.pols.length := by omega
          subst hje
          go_wp2_with fail
          go_roundw
          case rel => exact ⟨q, k + 1, by omega, by go_num, rfl, rfl, by have h1 := HKq.out; rw [List.take_length] at h1; have h2 := HES.out; have h3 := HM1.out; have h4 := HM2.out; have h5 := HM3.out; have h6 := HM4.out; have h7 := HK.out; rw [Hid, flat_next eDb HJ.out, List.length_append]; omega, HB25.out.trans (HBj.out.mono HB25.out.size)⟩
          case measure => simp [intOf]; omega
    · have hke : k = D.length := by omega
      subst hke
      have hmT : m = T.length := by have h1 := HK.out; have h2 := HEND.out; rw [List.take_of_length_le (by omega)] at h1; omega
      go_wp2_with fail
      go_ret
      refine ⟨?_, HB2.out.trans (HB.out.mono HB2.out.size)⟩
      rw [hmT]
      simp
end Go.Proofs.Qxb6609540aGreatDoor
