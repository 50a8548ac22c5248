/-
  The canonical reader: numbers, strings, segments.
-/
import Derived.Test.Qxb6609540aGreatDoorReadU
import Derived.Lib.Varint
namespace Go.Proofs.Qxb6609540aGreatDoor
open Go.RowKit
set_option linter.unusedSimpArgs false
/-- The reader has passed E. -/
abbrev Past (i : Nat) (E : List Value) (e : Ending) : Prop := e = .returned (.tuple #[.int .i64 ((i + E.length : Nat) : Int), .bool true])
theorem expU_any (g cap : Nat) (T : List Value) (w : World) (hT : RowAt w g T) (i x : Nat) (hx : x < 18446744073709551616) (hO : On T i (eU x)) :
    Calls Tryz.prog 25 #[.slice (some ⟨g, 0, none⟩) T.length cap, .int .i64 i, .int .u64 x] w fun e w' => Past i (eU x) e ∧ w' = w := by
  have H := hid (readU_any g cap T w hT i x hx hO)
  unfold Past
  generalize i + (eU x).length = N at H ⊢
  clear hT hO
  go_enter Tryz.func25, Tryz.ntmps25
  go_wp2_with (go_at_call 46; refine H.out.mono ?_; rintro e w1 ⟨rfl, hw⟩; subst w1)
  go_ret2
  exact ⟨rfl, rfl⟩
theorem zig_lt {x : Int} (h : I64 x) : Lib.zigzag x < 18446744073709551616 := by
  obtain ⟨h1, h2⟩ := h
  unfold Lib.zigzag
  split <;> omega
theorem expV_any (g cap : Nat) (T : List Value) (w : World) (hT : RowAt w g T) (i : Nat) (x : Int) (hx : I64 x) (hO : On T i (eV x)) :
    Calls Tryz.prog 28 #[.slice (some ⟨g, 0, none⟩) T.length cap, .int .i64 i, .int .i64 x] w fun e w' => Past i (eV x) e ∧ w' = w := by
  obtain ⟨u, hu⟩ : ∃ u, u = Lib.zigzag x := ⟨_, rfl⟩
  have hu64 := zig_lt hx
  rw [← hu] at hu64
  have eV' : eV x = eU u := by rw [hu]; rfl
  rw [eV'] at hO ⊢
  have H := hid (readU_any g cap T w hT i u hu64 hO)
  unfold Past
  generalize i + (eU u).length = N at H ⊢
  have hand := Lib.u64_and1 (u : Int) (by omega) (by omega)
  obtain ⟨x1, x2⟩ := hx
  by_cases h0 : 0 ≤ x
  · have hux : (u : Int) = 2 * x := by rw [hu]; unfold Lib.zigzag; rw [if_pos h0]; omega
    have hand0 : bits .and .u64 (u : Int) 1 = 0 := by rw [hand]; omega
    have hd : (u : Int) / 2 = x := by omega
    have HU := hid hux
    clear hT hO hand hu eV' hux
    go_enter Tryz.func28, Tryz.ntmps28
    go_wp2_with (go_at_call 46; refine H.out.mono ?_; rintro e w1 ⟨rfl, hw⟩; subst w1)
    go_ret2
    exact ⟨rfl, rfl⟩
  · have hux : (u : Int) = -2 * x - 1 := by rw [hu]; unfold Lib.zigzag; rw [if_neg h0]; omega
    have hand1 : bits .and .u64 (u : Int) 1 = 1 := by rw [hand]; omega
    have hnot : bits .xor .i64 (-1) ((u : Int) / 2) = x := by
      have h3 := Lib.i64_not (u / 2) (by omega)
      rw [show (((u / 2 : Nat) : Int)) = (u : Int) / 2 by omega] at h3
      rw [h3]; omega
    have HU := hid hux
    clear hT hO hand hu eV' hux
    go_enter Tryz.func28, Tryz.ntmps28
    go_wp2_with (go_at_call 46; refine H.out.mono ?_; rintro e w1 ⟨rfl, hw⟩; subst w1)
    go_ret2
    exact ⟨rfl, rfl⟩
set_option maxRecDepth 100000 in
set_option maxHeartbeats 2000000 in
theorem expS_any (g cap : Nat) (T : List Value) (w : World) (hT : RowAt w g T) (i : Nat) (s : ByteArray) (hs : s.size ≤ 9223372036854775807) (hO : On T i (eS s)) :
    Calls Tryz.prog 27 #[.slice (some ⟨g, 0, none⟩) T.length cap, .int .i64 i, .string s] w fun e w' => Past i (eS s) e ∧ Below w.heap.size w w' := by
  have H := hid (readU_any g cap T w hT i s.size (by omega) hO.left)
  have hR := hO.right
  have hl1 := hO.left.len (by rw [eU_length]; exact Lib.uvarint_pos _)
  have hl := hT.2.1
  have hN : i + (eS s).length = i + (eU s.size).length + s.size := by rw [eS, List.length_append, strCells_length]; omega
  unfold Past
  rw [hN]
  obtain ⟨j, hj⟩ : ∃ j, j = i + (eU s.size).length := ⟨_, rfl⟩
  rw [← hj] at H hR hl1 ⊢
  have hl2 : j + s.size ≤ T.length := by
    by_cases h0 : s.size = 0
    · omega
    · have := hR.len (by rw [strCells_length]; omega)
      rw [strCells_length] at this
      omega
  have HR := hid hR
  have HT := hid hT
  have hsz := wrap_u64 s.size (by omega)
  clear hT hO hR hN hj
  go_enter Tryz.func27, Tryz.ntmps27
  go_wp2_with (go_at_call 46; refine H.out.mono ?_; rintro e w1 ⟨rfl, hw⟩; subst w1)
  go_loopw [11] (fun v11 wr => ∃ k : Nat, k ≤ s.size ∧ v11 = .int .i64 k ∧ Hid (Below w.heap.size w wr)) (fun v11 _ => s.size - (intOf v11).toNat)
  case atStart => exact ⟨0, Nat.zero_le _, rfl, Below.refl _ _⟩
  case round =>
    obtain ⟨k, hk, rfl, HB⟩ := hrel
    by_cases hlt : k < s.size
    · have hd : k < s.data.size := hlt
      have hT1 : T[j + k]? = some (.int .u8 (s[k]'hlt).toNat) := HR.out k _ (by rw [Lib.strCells, List.getElem?_map, Array.getElem?_toList, Array.getElem?_eq_getElem hd]; rfl)
      have f1 := (HT.out.below HB.out).2.2 _ _ hT1
      clear hT1
      go_upto_region 7 with fail
      go_quiet (fail)
      go_wp2_with fail
      go_roundw
      case rel => exact ⟨k + 1, by omega, by go_num, below_drewN HB.out _⟩
      case measure => simp [intOf]; omega
    · have hke : k = s.size := by omega
      subst hke
      go_wp2_with fail
      go_ret2
      exact ⟨by first | rfl | (simp; omega), HB.out⟩
set_option maxRecDepth 100000 in
set_option maxHeartbeats 2000000 in
theorem expStrings_any (g cap : Nat) (T : List Value) (w : World) (hT : RowAt w g T) (i : Nat) (a : Option Addr) (c : Nat) (L : List ByteArray) (hs : StrsAt w a L) (hO : On T i (eStrs L)) :
    Calls Tryz.prog 47 #[.slice (some ⟨g, 0, none⟩) T.length cap, .int .i64 i, .slice a L.length c] w fun e w' => Past i (eStrs L) e ∧ Below w.heap.size w w' := by
  have hl := hs.1
  have hTl := hT.2.1
  have hlu : L.length < 18446744073709551616 := by omega
  have HC := hid (expU_any g cap T w hT i L.length hlu hO.left)
  have HO := hid hO.right
  have hN : i + (eStrs L).length = i + (eU L.length).length + (L.flatMap eS).length := by rw [eStrs, List.length_append]; omega
  have hend := hO.len (by rw [eStrs, List.length_append, eU_length]; have := Lib.uvarint_pos L.length; omega)
  unfold Past
  rw [hN] at hend ⊢
  obtain ⟨j, hj⟩ : ∃ j, j = i + (eU L.length).length := ⟨_, rfl⟩
  unfold Past at HC; rw [← hj] at HC
  rw [← hj] at HO hend ⊢
  obtain ⟨N, hN'⟩ : ∃ N, N = j + (L.flatMap eS).length := ⟨_, rfl⟩
  rw [← hN'] at hend ⊢
  have HN := hid hN'
  have HT := hid hT
  have HS := hid hs
  have hsz := wrap_u64 L.length hlu
  have hjN : j ≤ N := by omega
  clear hT hs hO hN hj hN'
  go_enter Tryz.func47, Tryz.ntmps47
  go_wp2_with (go_at_call 25; refine HC.out.mono ?_; rintro e w1 ⟨rfl, hw⟩; subst w1)
  go_loopw [1, 8, 9] (fun v1 v8 v9 wr => ∃ (m k : Nat), k ≤ L.length ∧ v9 = .int .i64 k ∧ v8 = .bool true ∧ v1 = .int .i64 m ∧ Hid (m = j + ((L.take k).flatMap eS).length) ∧ Hid (Below w.heap.size w wr)) (fun _ _ v9 _ => L.length - (intOf v9).toNat)
  case atStart => exact ⟨j, 0, Nat.zero_le _, rfl, rfl, rfl, by rw [Hid]; simp, Below.refl _ _⟩
  case round =>
    obtain ⟨m, k, hk, rfl, rfl, rfl, HK, HB⟩ := hrel
    by_cases hlt : k < L.length
    · obtain ⟨s, hsk⟩ := get_of hlt
      obtain ⟨b, off, rfl, hbw, c0, hss⟩ := (HS.out.kept (Kept.of HB.out)).2 k s hsk
      have hon := HO.out.at hsk
      rw [← HK.out] at hon
      have HON := hid hon
      have hmN : m + (eS s).length ≤ N := by have h1 := HK.out; have h2 := flat_at_le eS hsk; have h3 := HN.out; omega
      have HTr := hid (HT.out.below HB.out)
      have HJ := hid hsk
      obtain ⟨m1, hm1⟩ : ∃ m1, m1 = m + (eS s).length := ⟨_, rfl⟩
      rw [← hm1] at hmN
      have HM1 := hid hm1
      clear hsk hon hm1
      go_wp2_with (go_at_call 27; refine (expS_any g cap T _ HTr.out m s hss HON.out).mono ?_; unfold Past; rw [← HM1.out]; rintro e w3 ⟨rfl, hb3⟩; have HB3 := hid hb3; clear hb3)
      go_roundw
      case rel => exact ⟨m1, k + 1, by omega, by go_num, rfl, rfl, by have h1 := HK.out; have h2 := HM1.out; rw [Hid, flat_next eS HJ.out, List.length_append]; omega, HB.out.trans (HB3.out.mono HB.out.size)⟩
      case measure => simp [intOf]; omega
    · have hke : k = L.length := by omega
      subst hke
      have hmN : m = N := by have h1 := HK.out; have h2 := HN.out; rw [List.take_length] at h1; omega
      subst hmN
      go_wp2_with fail
      go_ret2
      exact ⟨rfl, HB.out⟩
set_option maxRecDepth 100000 in
set_option maxHeartbeats 2000000 in
theorem expSegs_any (g cap : Nat) (T : List Value) (w : World) (hT : RowAt w g T) (i : Nat) (a : Option Addr) (c : Nat) (L : List SegV) (hs : SegsAt w a L) (hO : On T i (eSegs L)) :
    Calls Tryz.prog 29 #[.slice (some ⟨g, 0, none⟩) T.length cap, .int .i64 i, .slice a L.length c] w fun e w' => Past i (eSegs L) e ∧ Below w.heap.size w w' := by
  have hl := hs.1
  have hTl := hT.2.1
  have hlu : L.length < 18446744073709551616 := by omega
  have HC := hid (expU_any g cap T w hT i L.length hlu hO.left)
  have HO := hid hO.right
  have hN : i + (eSegs L).length = i + (eU L.length).length + (L.flatMap eSeg).length := by rw [eSegs, List.length_append]; omega
  have hend := hO.len (by rw [eSegs, List.length_append, eU_length]; have := Lib.uvarint_pos L.length; omega)
  unfold Past
  rw [hN] at hend ⊢
  obtain ⟨j, hj⟩ : ∃ j, j = i + (eU L.length).length := ⟨_, rfl⟩
  unfold Past at HC; rw [← hj] at HC
  rw [← hj] at HO hend ⊢
  obtain ⟨N, hN'⟩ : ∃ N, N = j + (L.flatMap eSeg).length := ⟨_, rfl⟩
  rw [← hN'] at hend ⊢
  have HN := hid hN'
  have HT := hid hT
  have HS := hid hs
  have hsz := wrap_u64 L.length hlu
  have hjN : j ≤ N := by omega
  clear hT hs hO hN hj hN'
  go_enter Tryz.func29, Tryz.ntmps29
  go_wp2_with (go_at_call 25; refine HC.out.mono ?_; rintro e w1 ⟨rfl, hw⟩; subst w1)
  go_loopw [1, 8, 9] (fun v1 v8 v9 wr => ∃ (m k : Nat), k ≤ L.length ∧ v9 = .int .i64 k ∧ v8 = .bool true ∧ v1 = .int .i64 m ∧ Hid (m = j + ((L.take k).flatMap eSeg).length) ∧ Hid (Below w.heap.size w wr)) (fun _ _ v9 _ => L.length - (intOf v9).toNat)
  case atStart => exact ⟨j, 0, Nat.zero_le _, rfl, rfl, rfl, by rw [Hid]; simp, Below.refl _ _⟩
  case round =>
    obtain ⟨m, k, hk, rfl, rfl, rfl, HK, HB⟩ := hrel
    by_cases hlt : k < L.length
    · obtain ⟨s, hsk⟩ := get_of hlt
      obtain ⟨b, off, am, cm, rfl, hbw, c0, c1, c2, hS, hu, hz⟩ := (HS.out.kept (Kept.of HB.out)).2 k s hsk
      have hon := HO.out.at hsk
      rw [← HK.out] at hon
      have hmN : m + (eSeg s).length ≤ N := by have h1 := HK.out; have h2 := flat_at_le eSeg hsk; have h3 := HN.out; omega
      have hes : (eSeg s).length = (eU (uN s.id)).length + ((eU (uN s.size)).length + (eStrs s.ms).length) := by simp only [eSeg, List.length_append]
      rw [hes] at hmN
      have HES := hid hes
      have HA := hid hon.left
      have HBo := hid hon.right.left
      have HCo := hid hon.right.right
      have HTr := hid (HT.out.below HB.out)
      have HJ := hid hsk
      have HSt := hid hS
      have hsid : s.id = ((uN s.id : Nat) : Int) := (uN_of hu).symm
      rw [hsid] at c0
      have y1 := uN_lt s.id
      have y2 := uN_wrap s.size
      have y3 := uN_lt s.size
      obtain ⟨m1, hm1⟩ : ∃ m1, m1 = m + (eU (uN s.id)).length := ⟨_, rfl⟩
      rw [← hm1] at HBo HCo
      obtain ⟨m2, hm2⟩ : ∃ m2, m2 = m1 + (eU (uN s.size)).length := ⟨_, rfl⟩
      rw [← hm2] at HCo
      obtain ⟨m3, hm3⟩ : ∃ m3, m3 = m2 + (eStrs s.ms).length := ⟨_, rfl⟩
      have hm3N : m3 ≤ N := by omega
      have hm2N : m2 ≤ N := by omega
      have hm1N : m1 ≤ N := by omega
      have HM1 := hid hm1
      have HM2 := hid hm2
      have HM3 := hid hm3
      clear hsk hon hm1 hm2 hm3 hS hu hz hsid hes hmN
      go_upto_region 7 with (go_at_call 25; refine (expU_any g cap T _ HTr.out m (uN s.id) y1 HA.out).mono ?_; unfold Past; rw [← HM1.out]; rintro e w3 ⟨rfl, hw⟩; subst w3)
      go_upto_region 9 with (go_at_call 25; refine (expU_any g cap T _ HTr.out m1 (uN s.size) y3 HBo.out).mono ?_; unfold Past; rw [← HM2.out]; rintro e w3 ⟨rfl, hw⟩; subst w3)
      go_wp2_with (go_at_call 47; refine (expStrings_any g cap T _ HTr.out m2 _ _ s.ms (by exact HSt.out) HCo.out).mono ?_; unfold Past; rw [← HM3.out]; rintro e w3 ⟨rfl, hb3⟩; have HB3 := hid hb3; clear hb3)
      go_roundw
      case rel => exact ⟨m3, k + 1, by omega, by go_num, rfl, rfl, by have h1 := HK.out; have h2 := HM1.out; have h3 := HM2.out; have h4 := HM3.out; have h5 := HES.out; rw [Hid, flat_next eSeg HJ.out, List.length_append]; omega, HB.out.trans (HB3.out.mono HB.out.size)⟩
      case measure => simp [intOf]; omega
    · have hke : k = L.length := by omega
      subst hke
      have hmN : m = N := by have h1 := HK.out; have h2 := HN.out; rw [List.take_length] at h1; omega
      subst hmN
      go_wp2_with fail
      go_ret2
      exact ⟨rfl, HB.out⟩
end Go.Proofs.Qxb6609540aGreatDoor
