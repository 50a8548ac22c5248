/-
  zzOrder: the places by creation number.
-/
import Derived.Test.Qxb6609540aGreatDoorFacts
import Derived.BigQuiet
import Derived.Deep.DeepCutAuto
import Derived.Deep.Cut
namespace Go.Proofs.Qxb6609540aGreatDoor
open Go.RowKit
set_option linter.unusedSimpArgs false
def ordAt (D : List DbV) (t : Nat) : Int := ((D[t]?).map (·.ord)).getD 0
theorem ordAt_of {D : List DbV} {t : Nat} {d : DbV} (h : D[t]? = some d) : ordAt D t = d.ord := by simp [ordAt, h]
/-- The places up to i are in order, but for what stands before place j. -/
def Srt (D : List DbV) (J : List Nat) (i j : Nat) : Prop := ∀ a b s t, a < b → b ≤ i → b ≠ j → J[a]? = some s → J[b]? = some t → ordAt D s ≤ ordAt D t
def intRow (J : List Nat) : List Value := J.map fun t => Value.int .i64 (t : Nat)
theorem intRow_get {J : List Nat} {k t : Nat} (h : J[k]? = some t) : (intRow J)[k]? = some (.int .i64 (t : Nat)) := by simp [intRow, h]
theorem intRow_set (J : List Nat) (k t : Nat) : (intRow J).set k (.int .i64 (t : Nat)) = intRow (J.set k t) := by simp [intRow, List.map_set]
theorem Srt.swap {D : List DbV} {J : List Nat} {i m p q : Nat} (h : Srt D J i (m + 1)) (hp : J[m]? = some p) (hq : J[m + 1]? = some q) (hlt : ordAt D q < ordAt D p) : Srt D ((J.set m q).set (m + 1) p) i m := by
  have lm := (List.getElem?_eq_some_iff.1 hp).1
  have lm1 := (List.getElem?_eq_some_iff.1 hq).1
  have get : ∀ k, ((J.set m q).set (m + 1) p)[k]? = if k = m then some q else if k = m + 1 then some p else J[k]? := fun k => by
    by_cases h1 : k = m + 1
    · subst h1
      rw [List.getElem?_set_self (by simpa using lm1)]
      simp
    · rw [List.getElem?_set_ne (by omega)]
      by_cases h2 : k = m
      · subst h2
        rw [List.getElem?_set_self lm]
        simp
      · rw [List.getElem?_set_ne (by omega)]
        simp [h1, h2]
  intro a b s t hab hbi hbm hs ht
  rw [get] at hs ht
  by_cases b1 : b = m + 1
  · subst b1
    rw [if_neg (by omega), if_pos rfl] at ht
    cases ht
    by_cases a1 : a = m
    · subst a1
      rw [if_pos rfl] at hs
      cases hs
      omega
    · rw [if_neg a1, if_neg (by omega)] at hs
      exact h a m s p (by omega) (by omega) (by omega) hs hp
  · rw [if_neg hbm, if_neg b1] at ht
    by_cases a1 : a = m
    · subst a1
      rw [if_pos rfl] at hs
      cases hs
      have := h a b p t hab hbi b1 hp ht
      omega
    · by_cases a2 : a = m + 1
      · subst a2
        rw [if_neg (by omega), if_pos rfl] at hs
        cases hs
        exact h m b p t (by omega) hbi b1 hp ht
      · rw [if_neg a1, if_neg a2] at hs
        exact h a b s t hab hbi b1 hs ht
theorem Srt.stop {D : List DbV} {J : List Nat} {i m p q : Nat} (h : Srt D J i (m + 1)) (hp : J[m]? = some p) (hq : J[m + 1]? = some q) (hle : ordAt D p ≤ ordAt D q) : Srt D J i (i + 1) := by
  intro a b s t hab hbi hb hs ht
  by_cases b1 : b = m + 1
  · subst b1
    rw [hq] at ht
    cases ht
    by_cases a1 : a = m
    · subst a1
      rw [hp] at hs
      cases hs
      exact hle
    · have := h a m s p (by omega) (by omega) (by omega) hs hp
      omega
  · exact h a b s t hab hbi b1 hs ht
theorem swap_perm {J : List Nat} {m p q : Nat} (hp : J[m]? = some p) (hq : J[m + 1]? = some q) : ((J.set m q).set (m + 1) p).Perm J := by
  obtain ⟨l1, e1⟩ := List.getElem?_eq_some_iff.1 hp
  obtain ⟨l2, e2⟩ := List.getElem?_eq_some_iff.1 hq
  have := List.set_set_perm l1 l2
  rw [e1, e2] at this
  exact this
def OrderRet (D : List DbV) (w : World) (e : Ending) (w' : World) : Prop :=
  ∃ (g : Nat) (J : List Nat), e = .returned (.slice (some ⟨g, 0, none⟩) D.length D.length) ∧ J.Perm (List.range D.length) ∧ Srt D J D.length (D.length + 1) ∧ (∀ (k : Nat) t, J[k]? = some t → w'.cell? ⟨g, k, none⟩ = some (.int .i64 (t : Nat))) ∧ g < w'.heap.size ∧ Below w.heap.size w w'
theorem Tryz.info3 : (Tryz.prog.info? 3).map (fun i => (i.zero, i.size, i.bytes)) = some (some (.int .i64 0), 1, 8) := by kernel_rfl
set_option maxRecDepth 100000 in
set_option maxHeartbeats 4000000 in
theorem order_any (a : Option Addr) (c : Nat) (D : List DbV) (w : World) (hd : DbsAt w a D) : Calls Tryz.prog 26 #[.slice a D.length c] w fun e w' => OrderRet D w e w' := by
  obtain ⟨i0, hi, hz0, hs0, hy0⟩ := info_parts Tryz.info3
  have h1 := hd.1
  have hb1 : i0.bytes * D.length ≤ 281474976710656 := by rw [hy0]; omega
  have hm1 : D.length ≤ maxLen := by unfold maxLen; omega
  have HD := hid hd
  clear hd
  go_enter Tryz.func26, Tryz.ntmps26
  go_wp2_with (at_make; refine wpList_make_full _ rfl (.tmp 9) (.tmp 9) 68 rfl w.heap.size 3 i0 (.int .i64 0) 1 Tryz.underlying68 hi hz0 hs0 .i64 .i64 _ _ D.length rfl rfl rfl rfl hb1 hm1 (Nat.le_refl _) ?_; intro w1 hown hgrow)
  have hB : Below w.heap.size w w1 := (Below.refl _ _).grown hgrow (Nat.le_refl _) (fun k h => by cases h)
  have HO := hid hown
  have HB := hid hB
  clear hown hgrow hb1 hm1 hi hz0 hs0 hy0 hB
  go_loopw [4] (fun v4 wr => ∃ (j : Nat) (xs : List Value), j ≤ D.length ∧ v4 = .int .i64 j ∧ Hid (wr.ownsRow w.heap.size 3 1 (.slice (some ⟨w.heap.size, 0, none⟩) D.length D.length) D.length xs) ∧ Hid (∀ k, k < j → xs[k]? = some (.int .i64 (k : Nat))) ∧ Hid (Below w.heap.size w wr)) (fun v4 _ => D.length - (intOf v4).toNat)
  case atStart => exact ⟨0, _, Nat.zero_le _, rfl, HO.out, fun k h => absurd h (Nat.not_lt_zero _), HB.out⟩
  case round =>
    obtain ⟨j, xs, hj, rfl, HR, HX, HBr⟩ := hrel
    by_cases hlt : j < D.length
    · have hfz := HR.out.frozenAt j
      obtain ⟨u, hu⟩ : ∃ u, wr.cell? ⟨w.heap.size, j, none⟩ = some u := by
        have := HR.out.cellAt j (by omega)
        rw [this, List.getElem?_eq_getElem (by rw [HR.out.1]; omega)]
        exact ⟨_, rfl⟩
      go_wp2_with fail
      go_roundw
      case rel =>
        have hlx : xs.length = D.length := by have := HR.out.1; omega
        refine ⟨j + 1, _, by omega, by go_num, (HR.out.stored j _).1, fun k hk => ?_, HBr.out.setCell (by simp) _⟩
        by_cases hkj : k < j
        · rw [List.getElem?_set_ne (by omega)]; exact HX.out k hkj
        · have : k = j := by omega
          subst this
          rw [List.getElem?_set_self (by omega)]
      case measure => simp [intOf]; omega
    · have hje : j = D.length := by omega
      subst hje
      have HR2 : Hid (wr.ownsRow w.heap.size 3 1 (.slice (some ⟨w.heap.size, 0, none⟩) D.length D.length) D.length (intRow (List.range D.length))) := by
        have hlx : xs.length = D.length := by have := HR.out.1; omega
        have : xs = intRow (List.range D.length) := by
          apply List.ext_getElem?
          intro k
          by_cases hk : k < D.length
          · rw [HX.out k hk, intRow_get (t := k) (by simp [hk])]
          · rw [List.getElem?_eq_none (by omega), List.getElem?_eq_none (by simp [intRow]; omega)]
        rw [← this]; exact HR.out
      go_wp2_with fail
      generalize hwr : wr = w2 at *
      clear hwr
      go_loopw [5] (fun v5 wr => ∃ (i : Nat) (J : List Nat), 1 ≤ i ∧ i ≤ D.length + 1 ∧ v5 = .int .i64 i ∧ Hid (wr.ownsRow w.heap.size 3 1 (.slice (some ⟨w.heap.size, 0, none⟩) D.length D.length) D.length (intRow J)) ∧ Hid (J.Perm (List.range D.length)) ∧ Hid (Srt D J (i - 1) i) ∧ Hid (Below w.heap.size w wr)) (fun v5 _ => D.length + 1 - (intOf v5).toNat)
      case atStart => exact ⟨1, List.range D.length, by omega, by omega, rfl, HR2.out, List.Perm.refl _, fun a b s t hab hbi => by omega, HBr.out⟩
      case round =>
        obtain ⟨i, J, hi1, hi2, rfl, HRJ, HP, HSr, HBi⟩ := hrel
        by_cases hlti : i < D.length
        · go_wp2_with fail
          go_loopw [6] (fun v6 wr => ∃ (j : Nat) (J : List Nat), j ≤ i ∧ v6 = .int .i64 j ∧ Hid (wr.ownsRow w.heap.size 3 1 (.slice (some ⟨w.heap.size, 0, none⟩) D.length D.length) D.length (intRow J)) ∧ Hid (J.Perm (List.range D.length)) ∧ Hid (Srt D J i j) ∧ Hid (Below w.heap.size w wr)) (fun v6 _ => (intOf v6).toNat)
          case atStart => exact ⟨i, J, Nat.le_refl _, rfl, HRJ.out, HP.out, fun a b s t hab hbi hb hs ht => HSr.out a b s t hab (by omega) hb hs ht, HBi.out⟩
          case round =>
            obtain ⟨j, J', hj', rfl, HR', HP', HS', HB'⟩ := hrel
            have hJl : J'.length = D.length := by rw [HP'.out.length_eq, List.length_range]
            cases j with
            | zero =>
              go_upto_region 10 with fail
              go_quiet (fail)
              go_wp2_with fail
              go_roundw
              case rel => exact ⟨i + 1, J', by omega, by omega, by go_num, HR'.out, HP'.out, fun a b s t hab hbi hb hs ht => HS'.out a b s t hab (by omega) (by omega) hs ht, below_drewN HB'.out _⟩
              case measure => simp [intOf]; omega
            | succ m =>
              obtain ⟨p, hp⟩ := get_of (L := J') (k := m) (by omega)
              obtain ⟨q, hq⟩ := get_of (L := J') (k := m + 1) (by omega)
              have hpD : p < D.length := by simpa using HP'.out.mem_iff.1 (List.mem_of_getElem? hp)
              have hqD : q < D.length := by simpa using HP'.out.mem_iff.1 (List.mem_of_getElem? hq)
              obtain ⟨dp, hdp⟩ := get_of hpD
              obtain ⟨dq, hdq⟩ := get_of hqD
              obtain ⟨b, off, _, _, rfl, _, _, x1, _⟩ := (HD.out.kept (Kept.of HB'.out)).2 p dp hdp
              obtain ⟨b', off', _, _, eb, _, _, y1, _⟩ := (HD.out.kept (Kept.of HB'.out)).2 q dq hdq
              simp only [Option.some.injEq, Addr.mk.injEq, and_true] at eb
              obtain ⟨rfl, rfl⟩ := eb
              have z1 : wr.cell? ⟨w.heap.size, m, none⟩ = some (.int .i64 (p : Nat)) := (HR'.out.cellAt m (by omega)).trans (intRow_get hp)
              have z2 : wr.cell? ⟨w.heap.size, m + 1, none⟩ = some (.int .i64 (q : Nat)) := (HR'.out.cellAt (m + 1) (by omega)).trans (intRow_get hq)
              have f1 := HR'.out.frozenAt m
              have f2 := HR'.out.frozenAt (m + 1)
              have op := ordAt_of hdp
              have oq := ordAt_of hdq
              have HPp := hid hp
              have HQq := hid hq
              have HOP := hid op
              have HOQ := hid oq
              clear hp hq hdp hdq op oq
              by_cases hcmp : dq.ord < dp.ord
              · go_upto_region 10 with fail
                go_quiet (fail)
                go_wp2_with fail
                go_roundw
                case rel =>
                  have o1 : (wr.drewN nq).ownsRow w.heap.size 3 1 (.slice (some ⟨w.heap.size, 0, none⟩) D.length D.length) D.length (intRow J') := HR'.out
                  have o2 := (o1.stored m (.int .i64 (q : Nat))).1
                  rw [intRow_set] at o2
                  have o3 := (o2.stored (m + 1) (.int .i64 (p : Nat))).1
                  rw [intRow_set] at o3
                  refine ⟨m, (J'.set m q).set (m + 1) p, by omega, rfl, o3, (swap_perm HPp.out HQq.out).trans HP'.out, HS'.out.swap HPp.out HQq.out (by rw [HOP.out, HOQ.out]; exact hcmp), ?_⟩
                  exact ((below_drewN HB'.out nq).setCell (by simp) _).setCell (by simp) _
                case measure => simp [intOf]
              · have hcb : decide (dq.ord < dp.ord) = false := decide_eq_false hcmp
                go_upto_region 10 with fail
                go_quiet (fail)
                go_wp2_with fail
                go_roundw
                case rel => exact ⟨i + 1, J', by omega, by omega, by go_num, HR'.out, HP'.out, HS'.out.stop HPp.out HQq.out (by rw [HOP.out, HOQ.out]; omega), below_drewN HB'.out _⟩
                case measure => simp [intOf]; omega
        · go_wp2_with fail
          go_ret
          have hJl : J.length = D.length := by rw [HP.out.length_eq, List.length_range]
          refine ⟨w.heap.size, J, rfl, HP.out, fun a b s t hab hbi hb hs ht => ?_, fun k t hk => ?_, (HRJ.out.lt _ rfl).2, HBi.out⟩
          · have lb := (List.getElem?_eq_some_iff.1 ht).1
            exact HSr.out a b s t hab (by omega) (by omega) hs ht
          · have lk := (List.getElem?_eq_some_iff.1 hk).1
            exact (HRJ.out.cellAt k (by omega)).trans (intRow_get hk)
end Go.Proofs.Qxb6609540aGreatDoor
