/-
  zzSegs: a slice of segments built anew.
-/
import Derived.Test.Qxb6609540aGreatDoorHeap
import Derived.Deep.RegionHeld3
import Derived.Deep.DrawnRows
namespace Go.Proofs.Qxb6609540aGreatDoor
open Go.RowKit
theorem ownsRow_below {w w' : World} {base : Nat} {e : TypeId} {size : Nat} {v : Value} {n : Nat} {xs : List Value} (h : w.ownsRow base e size v n xs) (hb : Below w.heap.size w w') : w'.ownsRow base e size v n xs := by
  refine ⟨h.1, ?_⟩
  rcases h.2 with hn | ⟨g, cap, cur, rfl, hbg, hgg, rest⟩
  · exact .inl hn
  · exact .inr ⟨g, cap, cur, rfl, hbg, by rw [hb.block g (Array.getElem?_eq_some_iff.1 hgg).1]; exact hgg, rest⟩

theorem Tryz.size82 : (Tryz.prog.info? 82).map (·.size) = some 1 := by kernel_rfl
theorem Tryz.info82 : (Tryz.prog.info? 82).map (fun i => (i.zero, i.size, i.bytes)) = some (some (.pointer none), 1, 8) := by kernel_rfl
set_option maxRecDepth 100000 in
set_option maxHeartbeats 4000000 in
theorem segs_any (a : Option Addr) (c : Nat) (L : List SegV) (w : World) (hs : SegsAt w a L) :
    Calls Tryz.prog 20 #[.slice a L.length c] w fun e w' => ∃ a' c', e = .returned (.slice a' L.length c') ∧ SegPs w.heap.size w' a' L ∧ Below w.heap.size w w' := by
  have e1 := fun (W : World) (a : Option Addr) (n c n' c' : Nat) => Lib.run_eql_slice_nil (P := Tryz.prog) W 25 47 a n c n' c' Tryz.underlying25
  by_cases ha : a = none
  · subst ha
    have hL : L = [] := by
      cases L with
      | nil => rfl
      | cons x L => obtain ⟨_, _, _, _, h, _⟩ := hs.2 0 x rfl; cases h
    subst hL
    go_enter Tryz.func20, Tryz.ntmps20
    go_wp2
    go_ret
    exact ⟨none, 0, rfl, ⟨by simp, fun k s h => by simp at h⟩, Below.refl _ _⟩
  · have ha' : a.isNone = false := by cases a with
      | none => exact absurd rfl ha
      | some x => rfl
    obtain ⟨i0, hi, hz0, hs0, hy0⟩ := info_parts Tryz.info82
    have h1 := hs.1
    have hb1 : i0.bytes * L.length ≤ 281474976710656 := by rw [hy0]; omega
    have hm1 : L.length ≤ maxLen := by unfold maxLen; omega
    have HS := hid hs
    clear hs ha
    go_enter Tryz.func20, Tryz.ntmps20
    go_wp2_with (at_make; refine wpList_make_full _ rfl (.tmp 8) (.tmp 8) 58 rfl w.heap.size 82 i0 (.pointer none) 1 Tryz.underlying58 hi hz0 hs0 .i64 .i64 _ _ L.length rfl rfl rfl rfl hb1 hm1 (Nat.le_refl _) ?_; intro w1 hown hgrow)
    have hB : Below w.heap.size w w1 := (Below.refl _ _).grown hgrow (Nat.le_refl _) (fun k h => by cases h)
    have HO := hid hown
    clear hown hgrow
    go_loopw [4] (fun i wr => ∃ (j : Nat) (xs : List Value), j ≤ L.length ∧ i = .int .i64 j ∧ wr.ownsRow w.heap.size 82 1 (.slice (some ⟨w.heap.size, 0, none⟩) L.length L.length) L.length xs ∧
        Hid (∀ k s, k < j → L[k]? = some s → ∃ g, xs[k]? = some (.pointer (some ⟨g, 0, none⟩)) ∧ SegP (w.heap.size + 1) wr g s) ∧ Below w.heap.size w wr) (fun i _ => L.length - (intOf i).toNat)
    case atStart => exact ⟨0, _, Nat.zero_le _, rfl, HO.out, fun k s h => absurd h (Nat.not_lt_zero _), hB⟩
    case round =>
      clear hB HO hb1 hm1 hi hz0 hs0 hy0
      obtain ⟨j, xs, hj, rfl, hownr, HX, hBr⟩ := hrel
      by_cases hlt : j < L.length
      · obtain ⟨s, hsj⟩ := get_of hlt
        obtain ⟨b, off, am, cm, rfl, hbw, c0, c1, c2, hS, hu, hz⟩ := HS.out.2 j s hsj
        have k0 := (hBr.cell (p := ⟨b, off + j * 3, none⟩) hbw).trans c0
        have k1 := (hBr.cell (p := ⟨b, off + j * 3 + 1, none⟩) hbw).trans c1
        have k2 := (hBr.cell (p := ⟨b, off + j * 3 + 2, none⟩) hbw).trans c2
        have HJ := hid hsj
        have HT := hid (hS.kept (Kept.of hBr))
        have HU := hid hu
        have HZ := hid hz
        have hfz := hownr.frozenAt j
        obtain ⟨u, hu⟩ : ∃ u, wr.cell? ⟨w.heap.size, j, none⟩ = some u := by
          have := hownr.cellAt j (by omega)
          rw [this, List.getElem?_eq_getElem (by rw [hownr.1]; omega)]
          exact ⟨_, rfl⟩
        have hsz : w.heap.size < wr.heap.size := (hownr.lt _ rfl).2
        have HO := hid hownr
        have HB := hid hBr
        clear c0 c1 c2 hS hz hsj hownr hBr
        go_wp2_with fail
        go_region_held3 (fun w' => w'.cell? ⟨b, off + j * 3, none⟩ = some (.int .u64 s.id) ∧ w'.cell? ⟨b, off + j * 3 + 1, none⟩ = some (.int .i64 s.size) ∧ w'.cell? ⟨b, off + j * 3 + 2, none⟩ = some (.slice am s.ms.length cm))
          (first
            | go_keep
            | (go_split_ands; refine ⟨?_, ?_, ?_⟩ <;> (rw [World.cell?_setCell_far _ _ _ _ (by simp; omega)]; assumption))
            | (go_split_ands; refine ⟨?_, ?_, ?_⟩ <;> (rw [hb2'.cell (by simp; omega)]; assumption))
            | (go_split_ands; refine ⟨?_, ?_, ?_⟩ <;> (rw [hb1'.cell (by simp; omega)]; assumption)))
          (first
            | (go_at_call 36; refine (cloneStrings_any am cm s.ms _ (by exact HT.out.kept (Kept.of ((Below.refl _ _).drew)))).mono ?_; rintro e w2 ⟨a', c', rfl, hst', hlo', hb1'⟩; have HST := hid hst'; have HLO := hid hlo'; clear hst' hlo'; have s2 : wr.heap.size ≤ w2.heap.size := by (have t := hb1'.size; simp at t; omega))
            | (go_at_call 35; refine (newSegment_any _ _ _ _ _ _).mono ?_; rintro e w3 ⟨rfl, hw3⟩; have hb2' : Below w2.heap.size w2 w3 := (by rw [hw3]; exact (Below.refl _ _).alloc (Nat.le_refl _) _); have HW3 := hid hw3; clear hw3
               have hu3 : w3.cell? ⟨w.heap.size, j, none⟩ = some u := (hb2'.cell (p := ⟨w.heap.size, j, none⟩) (by simp; omega)).trans ((hb1'.cell (p := ⟨w.heap.size, j, none⟩) (by simp; omega)).trans hu)
               have hf3 : w3.frozen? ⟨w.heap.size, j, none⟩ = false := (hb2'.frozen (p := ⟨w.heap.size, j, none⟩) (by simp; omega)).trans ((hb1'.frozen (p := ⟨w.heap.size, j, none⟩) (by simp; omega)).trans hfz)))
        go_wp2
        go_roundw
        case rel =>
          have b3 : Below wr.heap.size wr w3 := ((Below.refl _ _).drew.trans hb1').trans (hb2'.mono hb1'.size)
          have o3 := ownsRow_below HO.out b3
          have ck : CK (w.heap.size + 1) wr (w3.setCell ⟨w.heap.size, j, none⟩ (.pointer (some ⟨w2.heap.size, 0, none⟩))) := (CK.of_below b3).trans (CK.setCell (by simp) _)
          have hlx : xs.length = L.length := by have := HO.out.1; omega
          refine ⟨j + 1, _, by omega, by go_num, (o3.stored j _).1, fun k t hk ht => ?_, ((HB.out.trans (b3.mono HB.out.size)).setCell (by simp) _)⟩
          by_cases hkj : k < j
          · obtain ⟨g, hg1, hg2⟩ := HX.out k t hkj ht
            exact ⟨g, by rw [List.getElem?_set_ne (by omega)]; exact hg1, hg2.ck ck⟩
          · have : k = j := by omega
            subst this
            rw [HJ.out] at ht
            cases ht
            refine ⟨w2.heap.size, by rw [List.getElem?_set_self (by omega)], ?_⟩
            have hst := StrsL.of (lo := w.heap.size + 1) HST.out (fun bb oo hh => by have := HLO.out bb oo hh; simp at this; omega)
            have hn := SegP.new (s := s) (cm := c') (show w.heap.size + 1 ≤ w2.heap.size by omega) hst HU.out HZ.out
            rw [← HW3.out] at hn
            exact hn.ck (CK.setCell (by simp) _)
        case measure => simp [intOf]; omega
      · have hje : j = L.length := by omega
        subst hje
        have HO := hid hownr
        clear hownr
        go_wp2
        go_ret
        refine ⟨_, _, rfl, ⟨by omega, fun k s hk => ?_⟩, hBr⟩
        have hkl := (List.getElem?_eq_some_iff.1 hk).1
        obtain ⟨g, hg1, hg2⟩ := HX.out k s hkl hk
        exact ⟨_, _, g, rfl, Nat.le_refl _, by rw [Nat.zero_add, HO.out.cellAt k (by omega)]; exact hg1, hg2.mono (by omega)⟩
end Go.Proofs.Qxb6609540aGreatDoor
