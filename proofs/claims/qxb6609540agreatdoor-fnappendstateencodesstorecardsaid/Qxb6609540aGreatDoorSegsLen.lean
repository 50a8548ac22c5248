/-
  zzSegsLen.
-/
import Derived.Test.Qxb6609540aGreatDoorLens
import Derived.Deep.DeepCutAuto
import Derived.Deep.Cut
import Derived.BigQuiet
namespace Go.Proofs.Qxb6609540aGreatDoor
open Go.RowKit
set_option linter.unusedSimpArgs false
def eSeg (s : SegV) : List Value := eU (uN s.id) ++ (eU (uN s.size) ++ eStrs s.ms)
def eSegs (L : List SegV) : List Value := eU L.length ++ L.flatMap eSeg
theorem uN_of {z : Int} (h : U64 z) : ((uN z : Nat) : Int) = z := by
  obtain ⟨h1, h2⟩ := h
  rw [← uN_wrap]
  simp [IntKind.wrap, IntKind.signed, IntKind.bits]; omega
theorem eSeg_length (s : SegV) : (eSeg s).length = (eU (uN s.id)).length + (eU (uN s.size)).length + ((eU s.ms.length).length + (s.ms.flatMap eS).length) := by
  simp only [eSeg, eStrs, List.length_append]; omega
theorem uLenZ_any (z : Int) (hz : U64 z) (w : World) : Calls Tryz.prog 30 #[.int .u64 z] w fun e w' => e = .returned (.int .i64 ((eU z.toNat).length : Nat)) ∧ w' = w := by
  have h := uLen_any z.toNat (by obtain ⟨h1, h2⟩ := hz; omega) w
  rw [Int.toNat_of_nonneg hz.1] at h
  exact h.mono fun _ _ ⟨h1, h2⟩ => ⟨h1, h2.symm⟩
set_option maxRecDepth 100000 in
set_option maxHeartbeats 4000000 in
theorem segsLen_any (a : Option Addr) (c : Nat) (L : List SegV) (w : World) (hs : SegsAt w a L) (hlim : (eSegs L).length ≤ 140737488355328) :
    Calls Tryz.prog 33 #[.slice a L.length c] w fun e w' => e = .returned (.int .i64 ((eSegs L).length : Nat)) ∧ Below w.heap.size w w' := by
  have HS := hid hs
  have hl := hs.1
  clear hs
  have hsz : IntKind.u64.wrap (L.length : Int) = (L.length : Int) := by simp [IntKind.wrap, IntKind.signed, IntKind.bits]; omega
  have hlen : (eSegs L).length = (eU L.length).length + (L.flatMap eSeg).length := by rw [eSegs, List.length_append]
  obtain ⟨N, hN⟩ : ∃ N, N = (eSegs L).length := ⟨_, rfl⟩
  rw [← hN] at hlim hlen ⊢
  have HN := hid hN
  have HL := hid hlen
  obtain ⟨M, hM⟩ : ∃ M, M = (eU L.length).length := ⟨_, rfl⟩
  have HM := hid hM
  have hM1 := eU_le L.length (by omega)
  rw [← hM] at hM1
  clear hN hM hlen
  go_enter Tryz.func33, Tryz.ntmps33
  go_wp2_with (go_at_call 30; refine (uLen_any L.length (by omega) _).mono ?_; rw [← HM.out]; rintro e w1 ⟨rfl, rfl⟩)
  go_loopw [3, 4] (fun v3 v4 wr => ∃ (m k : Nat), k ≤ L.length ∧ v4 = .int .i64 k ∧ v3 = .int .i64 m ∧ Hid (m = M + ((L.take k).flatMap eSeg).length) ∧ Hid (Below w.heap.size w wr)) (fun _ v4 _ => L.length - (intOf v4).toNat)
  case atStart => exact ⟨M, 0, Nat.zero_le _, rfl, rfl, by rw [Hid]; simp, Below.refl _ _⟩
  case round =>
    obtain ⟨m, k, hk, rfl, rfl, HK, HB⟩ := hrel
    by_cases hlt : k < L.length
    · obtain ⟨s, hsk⟩ := get_of hlt
      obtain ⟨b, off, am, cm, rfl, hbw, c0, c1, c2, hS, hu, hz⟩ := (HS.out.kept (Kept.of HB.out)).2 k s hsk
      have hat := flat_at_le eSeg hsk
      have hes := eSeg_length s
      have hmN : m + (eSeg s).length ≤ N := by have := HK.out; have := HL.out; have := HM.out; omega
      have HJ := hid hsk
      have HT := hid hS
      have hna := hS.1
      have hw1 := uN_wrap s.size
      have hw2 := uN_lt s.size
      have hw3 := uN_lt s.id
      have hid1 : s.id.toNat = uN s.id := by have := uN_of hu; omega
      have hu2 : U64 ((uN s.size : Nat) : Int) := ⟨by omega, by omega⟩
      have HU := hid hu
      have HU2 := hid hu2
      have b1 := eU_le (uN s.id) hw3
      have b2 := eU_le (uN s.size) hw2
      have b3 := eU_le s.ms.length (by omega)
      clear hsk hS hat hu hu2 hz
      go_upto_region 5 with fail
      go_quiet (refine Calls.quiet_of_same (uLenZ_any _ (by first | exact HU.out | exact HU2.out) _))
      obtain ⟨w2, hw2'⟩ : ∃ w2, w2 = wr.drewN nq := ⟨_, rfl⟩
      have B2 : Below wr.heap.size wr w2 := by rw [hw2']; exact below_drewN (Below.refl _ _) _
      rw [← hw2']
      clear hw2'
      have d2 := (B2.cell (p := ⟨b, off + k * 3 + 2, none⟩) hbw).trans c2
      have HT2 := hid (HT.out.kept (Kept.of B2))
      have hms : IntKind.u64.wrap (s.ms.length : Int) = (s.ms.length : Int) := by simp [IntKind.wrap, IntKind.signed, IntKind.bits]; omega
      obtain ⟨m1, hm1⟩ : ∃ m1 : Nat, (m1 : Int) = (m : Int) + (((eU (uN s.id)).length : Nat) + ((eU (uN s.size)).length : Nat) : Int) := ⟨m + ((eU (uN s.id)).length + (eU (uN s.size)).length), by push_cast; rfl⟩
      rw [← hm1]
      have hm1N : m1 + ((eU s.ms.length).length + (s.ms.flatMap eS).length) ≤ N := by omega
      obtain ⟨M3, hM3⟩ : ∃ M3, M3 = (eU s.ms.length).length := ⟨_, rfl⟩
      have HM3 := hid hM3
      have HE1 := hid hm1
      have HES := hid hes
      rw [← hM3] at hm1N b3
      clear hm1 hes c0 c1 c2 hM3
      go_wp2_with (go_at_call 30; refine (uLen_any s.ms.length (by omega) _).mono ?_; rw [← HM3.out]; rintro e w3 ⟨rfl, rfl⟩)
      go_loopw [3, 6] (fun v3 v6 wq => ∃ (m2 q : Nat), q ≤ s.ms.length ∧ v6 = .int .i64 q ∧ v3 = .int .i64 m2 ∧ Hid (m2 = m1 + M3 + ((s.ms.take q).flatMap eS).length) ∧ w2 = wq) (fun _ v6 _ => s.ms.length - (intOf v6).toNat)
      case atStart => exact ⟨m1 + M3, 0, Nat.zero_le _, rfl, by go_num, by rw [Hid]; simp, rfl⟩
      case round =>
        obtain ⟨m2, q, hq, rfl, rfl, HQ, rfl⟩ := hrel
        by_cases hltq : q < s.ms.length
        · obtain ⟨t, ht⟩ := get_of hltq
          obtain ⟨b4, off4, rfl, hbw4, f0, hf⟩ := HT2.out.2 q t ht
          have hat2 := flat_at_le eS ht
          have hel := eS_length t
          have hm2N : m2 + (eS t).length ≤ N := by have := HQ.out; omega
          have hts : t.size ≤ 9223372036854770000 := by omega
          have HJ2 := hid ht
          obtain ⟨E4, hE4⟩ : ∃ E4, E4 = (eS t).length := ⟨_, rfl⟩
          have HE4 := hid hE4
          rw [← hE4] at hm2N
          clear ht hat2 hel hE4
          go_wp2_with (go_at_call 31; refine (sLen_any t hts _).mono ?_; rw [← HE4.out]; rintro e w5 ⟨rfl, rfl⟩)
          go_roundw
          case rel => exact ⟨m2 + E4, q + 1, by omega, by go_num, by go_num, by have := HQ.out; rw [Hid, flat_next eS HJ2.out, List.length_append, HE4.out]; omega, trivial⟩
          case measure => simp [intOf]; omega
        · have hqe : q = s.ms.length := by omega
          subst hqe
          go_wp2_with fail
          go_roundw
          case rel =>
            refine ⟨m2, k + 1, by omega, by go_num, rfl, ?_, HB.out.trans (B2.mono HB.out.size)⟩
            have h1 := HQ.out
            rw [List.take_length] at h1
            have h2 := HK.out
            have h3 := HES.out
            have h4 := HE1.out
            have h5 := HM3.out
            rw [Hid, flat_next eSeg HJ.out, List.length_append]
            omega
          case measure => simp [intOf]; omega
    · have hke : k = L.length := by omega
      subst hke
      go_wp2_with fail
      go_ret
      have h1 := HK.out
      rw [List.take_length] at h1
      have h2 := HL.out
      have h3 := HM.out
      have h4 : m = N := by omega
      subst h4
      exact ⟨rfl, HB.out⟩
end Go.Proofs.Qxb6609540aGreatDoor
