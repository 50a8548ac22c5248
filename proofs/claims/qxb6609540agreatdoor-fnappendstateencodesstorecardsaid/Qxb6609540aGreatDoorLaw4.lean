/-
  The law FnAppendStateSizeAndPrefixFree.
-/
import Derived.Test.Qxb6609540aGreatDoorFacts
import Derived.Test.Qxb6609540aGreatDoorBytes12
import Derived.Test.Qxb6609540aGreatDoorBytesA
namespace Go.Proofs.Qxb6609540aGreatDoor
open Go.RowKit Go.ChangeMaps
set_option linter.unusedSimpArgs false
/-- The row's cells. -/
theorem row_cells {w : World} {B : Nat} {v : Value} {X : List Value} (h : w.ownsRow B 5 1 v X.length X) : (v = .slice none 0 0 ∧ X = []) ∨ ∃ g cap, v = .slice (some ⟨g, 0, none⟩) X.length cap ∧ g < w.heap.size ∧ ∀ j x, X[j]? = some x → w.cell? ⟨g, j, none⟩ = some x := by
  rcases h.2 with ⟨h1, h2⟩ | ⟨g, cap, cur, h1, h2, h3, h4, h5, h6, h7⟩
  · exact .inl ⟨h1, List.eq_nil_of_length_eq_zero h2⟩
  · refine .inr ⟨g, cap, h1, block_lt h3, fun j x hj => ?_⟩
    unfold World.cell?
    rw [h3]
    rw [Nat.mul_one] at h7
    have hj' : j < X.length := (List.getElem?_eq_some_iff.1 hj).1
    have : cur.toList[j]? = some x := by
      rw [← h7, List.getElem?_take, if_pos hj'] at hj
      exact hj
    simpa using this
/-- The clone, in one form. -/
theorem clone_row (a : Option Addr) (c : Nat) (X : List Value) (w : World) (hs : BytesAt w a X) :
    Calls Tryz.prog 8 #[.slice a X.length c] w fun e w' => ∃ ao cap, e = .returned (.slice ao X.length cap) ∧ w'.ownsRow w.heap.size 5 1 (.slice ao X.length cap) X.length X ∧ (Value.slice ao X.length cap = .slice none 0 0 ∨ ∃ g, Value.slice ao X.length cap = .slice (some ⟨g, 0, none⟩) X.length X.length) ∧ Below w.heap.size w w' := by
  have hm : (maxLen : Nat) = 9223372036854775807 := rfl
  have hX := hs.1
  refine (cloneBytes_any a c X w hs).mono ?_
  rintro e w' ⟨hb, ⟨rfl, rfl⟩ | ⟨g, rfl, hg, hc⟩⟩
  · exact ⟨none, 0, rfl, ⟨rfl, .inl ⟨rfl, rfl⟩⟩, .inl rfl, hb⟩
  · exact ⟨some ⟨g, 0, none⟩, X.length, rfl, ⟨by simp, .inr ⟨g, X.length, X.toArray, rfl, hg, hc, Nat.le_refl _, by omega, by simp, by simp⟩⟩, .inr ⟨g, rfl⟩, hb⟩
theorem state_row {nx cr : Int} {D : List DbV} {xs : List Value} {w w' : World} {e : Ending} {N : Nat} (hN : N = (eState nx cr D).length) (h : StateRet nx cr D xs w e w') : ∃ (L : List DbV) (ao : Option Addr) (cap : Nat), e = .returned (.slice ao (xs.length + N) cap) ∧ L.Perm D ∧ L.Pairwise (fun x y => x.ord < y.ord) ∧ w'.ownsRow w.heap.size 5 1 (.slice ao (xs.length + N) cap) (xs ++ eState nx cr L).length (xs ++ eState nx cr L) ∧ Kept w.heap.size w w' := by
  obtain ⟨L, v, rfl, h1, h2, h3, h4⟩ := h
  have hl : (xs ++ eState nx cr L).length = xs.length + N := by
    rw [hN, List.length_append, eState_length, eState_length, flat_perm_length eDb h1, h1.length_eq]
  obtain ⟨ao, cap, hv⟩ : ∃ ao cap, v = .slice ao (xs.length + N) cap := by
    rcases h3.2 with ⟨hv, h0⟩ | ⟨g, cap, cur, hv, _⟩
    · exact ⟨none, 0, by rw [hv, ← hl, h0]⟩
    · exact ⟨_, cap, by rw [hv, hl]⟩
  exact ⟨L, ao, cap, by rw [hv], h1, h2, by rw [← hv]; exact h3, h4⟩
theorem state_row0 {nx cr : Int} {D : List DbV} {w w' : World} {e : Ending} {N : Nat} (hN : N = (eState nx cr D).length) (h : StateRet nx cr D [] w e w') : ∃ (L : List DbV) (ao : Option Addr) (cap : Nat), e = .returned (.slice ao N cap) ∧ L.Perm D ∧ L.Pairwise (fun x y => x.ord < y.ord) ∧ w'.ownsRow w.heap.size 5 1 (.slice ao N cap) (eState nx cr L).length (eState nx cr L) ∧ Kept w.heap.size w w' := by
  have := state_row hN h
  simpa only [List.length_nil, Nat.zero_add, List.nil_append] using this
theorem own_kept {w w' : World} {B n : Nat} {v : Value} {X : List Value} (h : w.ownsRow B 5 1 v n X) (hb : Kept w.heap.size w w') : w'.ownsRow B 5 1 v n X := by
  obtain ⟨h0, h1⟩ := h
  refine ⟨h0, ?_⟩
  rcases h1 with h1 | ⟨g, cap, cur, e1, e2, e3, e4⟩
  · exact .inl h1
  · exact .inr ⟨g, cap, cur, e1, e2, (hb.block g (block_lt e3)).trans e3, e4⟩
set_option maxRecDepth 100000 in
set_option maxHeartbeats 8000000 in
theorem law4_any (ba : Option Addr) (bc : Nat) (X : List Value) (nx cr : Int) (a : Option Addr) (c : Nat) (D : List DbV) (sa : Option Addr) (sc : Nat) (S : List SegV) (w : World) (hnx : U64 nx) (hx : BytesAt w ba X) (hxb : Bytes X) (hd : DbsAt w a D) (hs : SegsAt w sa S) :
    Calls Tryz.prog 4 #[.slice ba X.length bc, .int .u64 nx, .int .i64 cr, .slice a D.length c, .slice sa S.length sc] w fun e w' => e = .returned (.bool true) ∧ Kept w.heap.size w w' := by
  have HX := hid hx
  have HD := hid hd
  have HS := hid hs
  have HN := hid hnx
  have HXB := hid hxb
  have hbn := hx.1
  clear hx hd hs hnx hxb
  go_enter Tryz.func4, Tryz.ntmps4
  go_upto_region 1 with fail
  have H12 := hid (zzBytes12_any ba X.length bc hbn nx cr a c D sa sc S w HD.out HS.out)
  obtain ⟨N, hN⟩ : ∃ N, N = (eState nx cr D).length := ⟨_, rfl⟩
  have HNN := hid hN
  have hNl := eState_le nx cr HD.out
  rw [← hN] at hNl
  have HNL := hid hNl
  clear hN hNl
  go_wp2_with (first
    | (go_at_call 12; refine H12.out.mono ?_; rintro e w1 ⟨⟨r1, rfl⟩, hw1⟩; subst w1)
    | (go_at_call 6; refine (bytes6_any ba X.length bc hbn a c D sa sc S _ HD.out HS.out).mono ?_; rintro e w2 ⟨r2, rfl, h20, h21, h22, hb2⟩; have HR2 := hid h22; have HB2 := hid hb2; clear h22 hb2)
    | (go_at_call 7; refine (reachable_any cr a c D sa sc S _ (HD.out.kept (Kept.of HB2.out)) (HS.out.kept (Kept.of HB2.out))).mono ?_; rintro e w3 ⟨⟨r3, rfl, h3⟩, hb3⟩; have HR3 := hid h3; have HB3 := hid (HB2.out.trans (hb3.mono HB2.out.size)); clear h3 hb3)
    | (go_at_call 8; refine (clone_row ba bc X _ (HX.out.kept (Kept.of HB3.out))).mono ?_; rintro e w4 ⟨ao, cap, rfl, ho4, hf4, hb4⟩; have HO4 := hid ho4; have HF4 := hid hf4; have HC4 := hid hb4; have HB4 := hid (HB3.out.trans (hb4.mono HB3.out.size)); clear ho4 hf4 hb4))
  all_goals try (go_ret; first | exact ⟨rfl, Kept.refl _ _⟩ | exact ⟨rfl, Kept.of HB2.out⟩ | exact ⟨rfl, Kept.of HB3.out⟩)
  have hr3 : (!r3) = false := by assumption
  have hap : Apart D D.length := HR3.out (by simpa using hr3)
  have hNN : N ≤ 1048606 := by have h1 := HR2.out (by assumption); have h2 := HNL.out; omega
  have hXX : X.length ≤ 1048576 := by have h1 := HR2.out (by assumption); omega
  have HAP := hid hap
  have HD4 := hid (HD.out.kept (Kept.of HB4.out))
  have HS4 := hid (HS.out.kept (Kept.of HB4.out))
  have hdl := HD.out.1
  clear hap hr3
  go_at_call 9
  refine (build_any nx cr a c D sa sc S _ HD4.out HS4.out HAP.out).mono ?_
  rintro e w5 ⟨hbt, hb5⟩
  obtain ⟨st, pv, rm, ML, PE, rfl, hst⟩ := built_store hbt
  have HST := hid hst
  have HC5 := hid hb5
  have HB5 := hid (HB4.out.trans (hb5.mono HB4.out.size))
  have HO5 := hid (own_kept HO4.out (Kept.of hb5))
  have HFI : Hid (Fits nx D) := ⟨HN.out, HAP.out, fun d hd => by
    obtain ⟨k, hk⟩ := List.mem_iff_getElem?.1 hd
    obtain ⟨_, _, _, _, _, _, _, _, _, _, _, hn, _⟩ := HD.out.2 k d hk
    exact hn, by omega⟩
  have HA1 := hid (zzAppend_any w4.heap.size w3.heap.size nx cr D w5 st rm pv ML PE (.slice ao X.length cap) X HST.out HFI.out HO5.out HF4.out (by rw [← HNN.out]; omega))
  clear hbt hst hb5
  go_upto_region 11 with (first
    | (go_at_call 10; refine HA2.out.mono ?_; rintro e w7 hsr; obtain ⟨L2, ao2, cap2, rfl, hp2, hq2, hr2, hk2⟩ := state_row0 HNN.out hsr; have HP2 := hid (And.intro hp2 hq2); have HR7 := hid hr2; have HK7 := hid hk2; clear hsr hp2 hq2 hr2 hk2)
    | (go_at_call 10; refine HA1.out.mono ?_; rintro e w6 hsr; obtain ⟨L1, ao1, cap1, rfl, hp1, hq1, hr1, hk1⟩ := state_row HNN.out hsr; have HP1 := hid (And.intro hp1 hq1); have HR6 := hid hr1; have HK6 := hid hk1; clear hsr hp1 hq1 hr1 hk1
       have HA2 := hid (zzAppend_any w4.heap.size 0 nx cr D w6 st rm pv ML PE (.slice none 0 0) [] (HST.out.kept HK6.out) HFI.out ⟨rfl, .inl ⟨rfl, rfl⟩⟩ (.inl rfl) (by rw [← HNN.out]; simp; omega))))
  have HL : Hid (L2 = L1) := order_unique HP2.out.1 HP1.out.1 HP2.out.2 HP1.out.2
  have HR7' : Hid (w7.ownsRow w6.heap.size 5 1 (.slice ao2 N cap2) (eState nx cr L1).length (eState nx cr L1)) := by have h := HR7.out; rw [HL.out] at h; exact h
  have HR6' : Hid (w7.ownsRow w5.heap.size 5 1 (.slice ao1 (X.length + N) cap1) (X ++ eState nx cr L1).length (X ++ eState nx cr L1)) := own_kept HR6.out HK7.out
  have HO7 : Hid (w7.ownsRow w3.heap.size 5 1 (.slice ao X.length cap) X.length X) := own_kept (own_kept HO5.out HK6.out) HK7.out
  have hEl : (eState nx cr L1).length = N := by rw [HNN.out, eState_length, eState_length, flat_perm_length eDb HP1.out.1, HP1.out.1.length_eq]
  have HEB := hid (Bytes.state nx cr L1)
  obtain ⟨E, hE⟩ : ∃ E, E = eState nx cr L1 := ⟨_, rfl⟩
  rw [← hE] at HR7' HR6' hEl HEB
  have HK : Hid (Kept w.heap.size w w7) := (Kept.of HB5.out).trans ((HK6.out.mono HB5.out.size).trans (HK7.out.mono (Nat.le_trans HB5.out.size HK6.out.size)))
  have HEL := hid hEl
  clear HR7 HR6 HA1 HA2 hE hEl
  go_wp2_with fail
  go_loopw [15] (fun v15 wr => ∃ i : Nat, i ≤ X.length ∧ v15 = .int .i64 i ∧ Hid (Below w7.heap.size w7 wr)) (fun v15 _ => X.length - (intOf v15).toNat)
  case atStart => exact ⟨0, Nat.zero_le _, rfl, Below.refl _ _⟩
  case round =>
    obtain ⟨i, hi, rfl, HBi⟩ := hrel
    by_cases hlt : i < X.length
    · obtain ⟨x, hxi⟩ := get_of hlt
      obtain ⟨k, rfl⟩ := HXB.out x (List.mem_of_getElem? hxi)
      rcases row_cells HO7.out with ⟨_, h0⟩ | ⟨g0, cp0, hv0, hg0, hc0⟩
      · rw [h0] at hlt; simp at hlt
      rcases row_cells HR6'.out with ⟨_, h0⟩ | ⟨g1, cp1, hv1, hg1, hc1⟩
      · rw [(List.append_eq_nil_iff.1 h0).1] at hlt; simp at hlt
      have f0 := (HBi.out.cell (p := ⟨g0, i, none⟩) hg0).trans (hc0 i _ hxi)
      have f1 := (HBi.out.cell (p := ⟨g1, i, none⟩) hg1).trans (hc1 i _ (by rw [List.getElem?_append_left hlt]; exact hxi))
      simp only [Value.slice.injEq] at hv0 hv1
      obtain ⟨rfl, _, _⟩ := hv0
      obtain ⟨rfl, _, _⟩ := hv1
      clear hc0 hc1 hxi
      go_upto_region 16 with fail
      go_quiet (fail)
      go_wp2_with fail
      go_roundw
      case rel => exact ⟨i + 1, by omega, by go_num, below_drewN HBi.out _⟩
      case measure => simp [intOf]; omega
    · have hie : i = X.length := by omega
      subst hie
      go_wp2_with fail
      generalize hwr : wr = w8 at *
      clear hwr
      go_loopw [16] (fun v16 wr => ∃ j : Nat, j ≤ N ∧ v16 = .int .i64 j ∧ Hid (Below w7.heap.size w7 wr)) (fun v16 _ => N - (intOf v16).toNat)
      case atStart => exact ⟨0, Nat.zero_le _, rfl, HBi.out⟩
      case round =>
        obtain ⟨j, hj, rfl, HBj⟩ := hrel
        by_cases hltj : j < N
        · have hjE : j < E.length := by rw [HEL.out]; exact hltj
          obtain ⟨x, hxj⟩ := get_of hjE
          obtain ⟨k, rfl⟩ := HEB.out x (List.mem_of_getElem? hxj)
          rcases row_cells HR7'.out with ⟨_, h0⟩ | ⟨g0, cp0, hv0, hg0, hc0⟩
          · rw [h0] at hjE; simp at hjE
          rcases row_cells HR6'.out with ⟨_, h0⟩ | ⟨g1, cp1, hv1, hg1, hc1⟩
          · rw [(List.append_eq_nil_iff.1 h0).2] at hjE; simp at hjE
          have f0 := (HBj.out.cell (p := ⟨g0, j, none⟩) hg0).trans (hc0 j _ hxj)
          have f1 := (HBj.out.cell (p := ⟨g1, X.length + j, none⟩) hg1).trans (hc1 (X.length + j) _ (by rw [List.getElem?_append_right (by omega), Nat.add_sub_cancel_left]; exact hxj))
          simp only [Value.slice.injEq] at hv0 hv1
          obtain ⟨rfl, _, _⟩ := hv0
          obtain ⟨rfl, _, _⟩ := hv1
          clear hc0 hc1 hxj hjE
          go_upto_region 21 with fail
          go_quiet (fail)
          go_wp2_with fail
          go_roundw
          case rel => exact ⟨j + 1, by omega, by go_num, below_drewN HBj.out _⟩
          case measure => simp [intOf]; omega
        · have hje : j = N := by omega
          subst hje
          have HL14 : Hid (∀ W, Kept w7.heap.size w7 W → Calls Tryz.prog 13 #[.int .u64 nx, .int .i64 cr, .slice a D.length c] W fun e w' => e = .returned (.int .i64 (j : Nat)) ∧ Below W.heap.size W w') := fun W hW => by
            have h := stateLen_any nx cr HN.out a c D W ((HD.out.kept HK.out).kept hW) (by rw [← HNN.out]; omega)
            rw [← HNN.out] at h
            exact h
          go_wp2_with (go_at_call 13; refine (HL14.out _ (Kept.of HBj.out)).mono ?_; rintro e w9 ⟨rfl, hb9⟩; have HB9 := hid hb9; clear hb9)
          go_ret
          exact ⟨rfl, HK.out.trans (((Kept.of HBj.out).mono HK.out.size).trans ((Kept.of HB9.out).mono (Nat.le_trans HK.out.size HBj.out.size)))⟩
end Go.Proofs.Qxb6609540aGreatDoor
