/-
  The law FnAppendStateEncodesStore.
-/
import Derived.Test.Qxb6609540aGreatDoorLaw4
import Derived.Test.Qxb6609540aGreatDoorBytes5
import Derived.Test.Qxb6609540aGreatDoorExpState
namespace Go.Proofs.Qxb6609540aGreatDoor
open Go.RowKit Go.ChangeMaps
set_option linter.unusedSimpArgs false
set_option maxRecDepth 100000 in
set_option maxHeartbeats 8000000 in
theorem law3_any (ba : Option Addr) (bc : Nat) (X : List Value) (nx cr : Int) (a : Option Addr) (c : Nat) (D : List DbV) (sa : Option Addr) (sc : Nat) (S : List SegV) (w : World) (hnx : U64 nx) (hx : BytesAt w ba X) (hxb : Bytes X) (hd : DbsAt w a D) (hs : SegsAt w sa S) :
    Calls Tryz.prog 3 #[.slice ba X.length bc, .int .u64 nx, .int .i64 cr, .slice a D.length c, .slice sa S.length sc] w fun e w' => e = .returned (.bool true) ∧ Kept w.heap.size w w' := by
  have HX := hid hx
  have HD := hid hd
  have HS := hid hs
  have HN := hid hnx
  have HXB := hid hxb
  have hbn := hx.1
  clear hx hd hs hnx hxb
  go_enter Tryz.func3, Tryz.ntmps3
  go_upto_region 1 with fail
  have H12 := hid (zzBytes5_any ba X.length bc hbn nx cr a c D sa sc S w HD.out HS.out)
  obtain ⟨N, hN⟩ : ∃ N, N = (eState nx cr D).length := ⟨_, rfl⟩
  have HNN := hid hN
  have hNl := eState_le nx cr HD.out
  rw [← hN] at hNl
  have HNL := hid hNl
  clear hN hNl
  go_wp2_with (first
    | (go_at_call 5; refine H12.out.mono ?_; rintro e w1 ⟨⟨r1, rfl⟩, hw1⟩; subst w1)
    | (go_at_call 6; refine (bytes6_any ba X.length bc hbn a c D sa sc S _ HD.out HS.out).mono ?_; rintro e w2 ⟨r2, rfl, h20, h21, h22, hb2⟩; have HR2 := hid h22; have HB2 := hid hb2; clear h22 hb2)
    | (go_at_call 7; refine (reachable_any cr a c D sa sc S _ (HD.out.kept (Kept.of HB2.out)) (HS.out.kept (Kept.of HB2.out))).mono ?_; rintro e w3 ⟨⟨r3, rfl, h3⟩, hb3⟩; have HR3 := hid h3; have HB3 := hid (HB2.out.trans (hb3.mono HB2.out.size)); clear h3 hb3)
    | (go_at_call 8; refine (clone_row ba bc X _ (HX.out.kept (Kept.of HB3.out))).mono ?_; rintro e w4 ⟨ao, cap, rfl, ho4, hf4, hb4⟩; have HO4 := hid ho4; have HF4 := hid hf4; have HC4 := hid hb4; have HB4 := hid (HB3.out.trans (hb4.mono HB3.out.size)); clear ho4 hf4 hb4))
  all_goals try (go_ret; first | exact ⟨rfl, Kept.refl _ _⟩ | exact ⟨rfl, Kept.of HB2.out⟩ | exact ⟨rfl, Kept.of HB3.out⟩)
  have hr3 : (!r3) = false := by assumption
  have hap : Apart D D.length := HR3.out (by simpa using hr3)
  have hNN : N ≤ 1048606 := by have h1 := HR2.out (by assumption); have h2 := HNL.out; omega
  have hXX : X.length ≤ 1048576 := by have h1 := HR2.out (by assumption); omega
  have HAP := hid hap
  have HD4 := hid (HD.out.kept (Kept.of HB4.out))
  have HS4 := hid (HS.out.kept (Kept.of HB4.out))
  have hdl := HD.out.1
  clear hap hr3
  go_at_call 9
  refine (build_any nx cr a c D sa sc S _ HD4.out HS4.out HAP.out).mono ?_
  rintro e w5 ⟨hbt, hb5⟩
  obtain ⟨st, pv, rm, ML, PE, rfl, hst⟩ := built_store hbt
  have HST := hid hst
  have HC5 := hid hb5
  have HB5 := hid (HB4.out.trans (hb5.mono HB4.out.size))
  have HO5 := hid (own_kept HO4.out (Kept.of hb5))
  have HFI : Hid (Fits nx D) := ⟨HN.out, HAP.out, fun d hd => by
    obtain ⟨k, hk⟩ := List.mem_iff_getElem?.1 hd
    obtain ⟨_, _, _, _, _, _, _, _, _, _, _, hn, _⟩ := HD.out.2 k d hk
    exact hn, by omega⟩
  have HA1 := hid (zzAppend_any w4.heap.size w3.heap.size nx cr D w5 st rm pv ML PE (.slice ao X.length cap) X HST.out HFI.out HO5.out HF4.out (by rw [← HNN.out]; omega))
  clear hbt hst hb5
  go_upto_region 10 with (go_at_call 10; refine HA1.out.mono ?_; rintro e w6 hsr; obtain ⟨L1, ao1, cap1, rfl, hp1, hq1, hr1, hk1⟩ := state_row HNN.out hsr; have HP1 := hid (And.intro hp1 hq1); have HR6 := hid hr1; have HK6 := hid hk1; clear hsr hp1 hq1 hr1 hk1)
  have HO7 : Hid (w6.ownsRow w3.heap.size 5 1 (.slice ao X.length cap) X.length X) := own_kept HO5.out HK6.out
  have hEl : (eState nx cr L1).length = N := by rw [HNN.out, eState_length, eState_length, flat_perm_length eDb HP1.out.1, HP1.out.1.length_eq]
  have hE1 : 0 < N := by rw [← hEl, eState_length, eU_length]; have := Lib.uvarint_pos (uN nx); omega
  obtain ⟨E, hE⟩ : ∃ E, E = eState nx cr L1 := ⟨_, rfl⟩
  rw [← hE] at HR6 hEl
  have HE := hid hE
  have HK : Hid (Kept w.heap.size w w6) := (Kept.of HB5.out).trans (HK6.out.mono HB5.out.size)
  have HEL := hid hEl
  clear HA1 hE hEl
  obtain ⟨g1, hv1, hg1, hc1⟩ : ∃ g1, ao1 = some ⟨g1, 0, none⟩ ∧ g1 < w6.heap.size ∧ ∀ (j : Nat) x, (X ++ E)[j]? = some x → w6.cell? ⟨g1, j, none⟩ = some x := by
    rcases row_cells HR6.out with ⟨_, h0⟩ | ⟨g1, cp1, hv1, hg1, hc1⟩
    · have h2 := (List.append_eq_nil_iff.1 h0).2
      have h3 := HEL.out
      rw [h2] at h3
      simp at h3
      omega
    · simp only [Value.slice.injEq] at hv1
      exact ⟨g1, hv1.1, hg1, hc1⟩
  subst hv1
  have hTl : (X ++ E).length = X.length + N := by rw [List.length_append, HEL.out]
  have HTL := hid hTl
  have HCC := hid hc1
  clear hc1 hTl
  go_wp2_with fail
  go_loopw [14] (fun v14 wr => ∃ i : Nat, i ≤ X.length ∧ v14 = .int .i64 i ∧ Hid (Below w6.heap.size w6 wr)) (fun v14 _ => X.length - (intOf v14).toNat)
  case atStart => exact ⟨0, Nat.zero_le _, rfl, Below.refl _ _⟩
  case round =>
    obtain ⟨i, hi, rfl, HBi⟩ := hrel
    by_cases hlt : i < X.length
    · obtain ⟨x, hxi⟩ := get_of hlt
      obtain ⟨k, rfl⟩ := HXB.out x (List.mem_of_getElem? hxi)
      rcases row_cells HO7.out with ⟨_, h0⟩ | ⟨g0, cp0, hv0, hg0, hc0⟩
      · rw [h0] at hlt; simp at hlt
      have f0 := (HBi.out.cell (p := ⟨g0, i, none⟩) hg0).trans (hc0 i _ hxi)
      have f1 := (HBi.out.cell (p := ⟨g1, i, none⟩) hg1).trans (HCC.out i _ (by rw [List.getElem?_append_left hlt]; exact hxi))
      simp only [Value.slice.injEq] at hv0
      obtain ⟨rfl, _, _⟩ := hv0
      clear hc0 hxi
      go_upto_region 15 with fail
      go_quiet (fail)
      go_wp2_with fail
      go_roundw
      case rel => exact ⟨i + 1, by omega, by go_num, below_drewN HBi.out _⟩
      case measure => simp [intOf]; omega
    · have hie : i = X.length := by omega
      subst hie
      have HL14 : Hid (∀ W, Below w6.heap.size w6 W → Calls Tryz.prog 11 #[.slice (some ⟨g1, 0, none⟩) (X.length + N) cap1, .int .i64 (X.length : Nat), .int .u64 nx, .int .i64 cr, .slice a D.length c] W fun e w' => e = .returned (.bool true) ∧ Below W.heap.size W w') := fun W hW => by
        have hrow : RowAt W g1 (X ++ E) := RowAt.below (w := w6) ⟨hg1, by rw [HTL.out]; omega, HCC.out⟩ hW
        have h := expState_any g1 cap1 (X ++ E) W hrow X.length nx cr HN.out a c D L1 HAP.out HP1.out.1 HP1.out.2 ((HD.out.kept HK.out).kept (Kept.of hW)) (by
          rw [← HE.out]
          intro j v hj
          rw [List.getElem?_append_right (by omega), Nat.add_sub_cancel_left]; exact hj) (by rw [← HE.out, HTL.out, HEL.out])
        rw [HTL.out] at h
        exact h
      go_wp2_with (go_at_call 11; refine (HL14.out _ HBi.out).mono ?_; rintro e w9 ⟨rfl, hb9⟩; have HB9 := hid hb9; clear hb9)
      go_ret
      exact ⟨rfl, HK.out.trans (((Kept.of HBi.out).mono HK.out.size).trans ((Kept.of HB9.out).mono (Nat.le_trans HK.out.size HBi.out.size)))⟩
end Go.Proofs.Qxb6609540aGreatDoor
