/-
  The closed lengths: zzULen, zzSLen, zzVLen.
-/
import Derived.Test.Qxb6609540aGreatDoorApp
import Derived.BigQuiet
namespace Go.Proofs.Qxb6609540aGreatDoor
open Go.RowKit
set_option linter.unusedSimpArgs false
set_option maxRecDepth 100000 in
theorem uLen_any (x : Nat) (hx : x < 18446744073709551616) (w : World) :
    Calls Tryz.prog 30 #[.int .u64 x] w fun e w' => e = .returned (.int .i64 ((eU x).length : Nat)) ∧ w = w' := by
  have hl := eU_le x hx
  rw [eU_length] at hl ⊢
  obtain ⟨N, hN⟩ : ∃ N, N = (Lib.uvarint x).length := ⟨_, rfl⟩
  rw [← hN] at hl ⊢
  have HN := hid hN
  clear hN
  go_enter Tryz.func30, Tryz.ntmps30
  go_wp2
  go_loop [0, 3] (fun v0 v3 => ∃ y m : Nat, v0 = .int .u64 y ∧ v3 = .int .i64 m ∧ y ≤ x ∧ Hid (m + (Lib.uvarint y).length = N + 1) ∧ m ≤ N) (fun v0 _ => (intOf v0).toNat)
  case atStart => exact ⟨x, 1, rfl, rfl, Nat.le_refl _, by rw [Hid, HN.out]; omega, by rw [HN.out]; exact Lib.uvarint_pos x⟩
  case round =>
    obtain ⟨y, m, rfl, rfl, hyx, HM, hm⟩ := hrel
    by_cases h128 : 128 ≤ y
    · have hy := Lib.uvarint_big h128
      have h1 := HM.out
      rw [hy, List.length_cons] at h1
      have hp := Lib.uvarint_pos (y / 128)
      have HH := hid h1
      have hm2 : m + 1 ≤ N := by omega
      clear hy h1 hp
      go_wp2
      go_round
      case rel => exact ⟨y / 128, m + 1, by go_num, by go_num, by omega, by have := HH.out; rw [Hid]; omega, hm2⟩
      case measure => simp [intOf]; omega
    · have hy := Lib.uvarint_small (x := y) (by omega)
      have h1 := HM.out
      rw [hy] at h1
      have h2 : m = N := by simp at h1; omega
      clear hy h1 HM
      go_wp2
      go_ret
      subst h2
      exact ⟨rfl, rfl⟩
set_option maxRecDepth 100000 in
theorem sLen_any (s : ByteArray) (hs : s.size ≤ 9223372036854770000) (w : World) :
    Calls Tryz.prog 31 #[.string s] w fun e w' => e = .returned (.int .i64 ((eS s).length : Nat)) ∧ w = w' := by
  have hsz : IntKind.u64.wrap (s.size : Int) = (s.size : Int) := by simp [IntKind.wrap, IntKind.signed, IntKind.bits]; omega
  have hl := eU_le s.size (by omega)
  have e1 : (eS s).length = (eU s.size).length + s.size := by rw [eS_length, eU_length]
  obtain ⟨M, hM⟩ : ∃ M, M = (eU s.size).length := ⟨_, rfl⟩
  rw [e1, ← hM]
  rw [← hM] at hl
  have HM := hid hM
  clear hM e1
  go_enter Tryz.func31, Tryz.ntmps31
  go_wp2_with (go_at_call 30; refine (uLen_any s.size (by omega) _).mono ?_; rw [← HM.out]; rintro e w1 ⟨rfl, rfl⟩)
  go_ret
  exact ⟨by simp, rfl⟩
set_option maxRecDepth 100000 in
theorem vLen_any (x : Int) (hx : I64 x) (w : World) :
    Calls Tryz.prog 32 #[.int .i64 x] w fun e w' => e = .returned (.int .i64 ((eV x).length : Nat)) ∧ w = w' := by
  obtain ⟨h1, h2⟩ := hx
  have e1 : (eV x).length = (eU (Lib.zigzag x)).length := by rw [eV_length, eU_length]
  rw [e1]
  by_cases h0 : 0 ≤ x
  · have hz : ((Lib.zigzag x : Nat) : Int) = x * 2 := by unfold Lib.zigzag; rw [if_pos h0]; omega
    have hw : IntKind.u64.wrap x = x := by simp [IntKind.wrap, IntKind.signed, IntKind.bits]; omega
    have hw2 : IntKind.u64.wrap (x * 2) = ((Lib.zigzag x : Nat) : Int) := by rw [hz]; simp [IntKind.wrap, IntKind.signed, IntKind.bits]; omega
    obtain ⟨Z, hZ⟩ : ∃ Z, Z = Lib.zigzag x := ⟨_, rfl⟩
    rw [← hZ] at hz hw2 ⊢
    clear hZ e1
    have con := uLen_any Z (by omega) w
    rw [hz] at con
    have CON := hid con
    clear con
    go_enter Tryz.func32, Tryz.ntmps32
    go_wp2_with (go_at_call 30; refine CON.out.mono ?_; rintro e w1 ⟨rfl, rfl⟩)
    go_ret
    exact ⟨rfl, rfl⟩
  · have hz : ((Lib.zigzag x : Nat) : Int) = -2 * x - 1 := by unfold Lib.zigzag; rw [if_neg h0]; omega
    obtain ⟨Z, hZ⟩ : ∃ Z, Z = Lib.zigzag x := ⟨_, rfl⟩
    rw [← hZ] at hz ⊢
    clear hZ e1
    have a1 : IntKind.i64.wrap (x + 1) = x + 1 := by simp [IntKind.wrap, IntKind.signed, IntKind.bits]; omega
    have a2 : IntKind.i64.wrap (-(x + 1)) = -(x + 1) := by simp [IntKind.wrap, IntKind.signed, IntKind.bits]; omega
    have a3 : IntKind.u64.wrap (-(x + 1)) = -(x + 1) := by simp [IntKind.wrap, IntKind.signed, IntKind.bits]; omega
    have a4 : IntKind.u64.wrap (-(x + 1) * 2) = -(x + 1) * 2 := by simp [IntKind.wrap, IntKind.signed, IntKind.bits]; omega
    have a5 : IntKind.u64.wrap (-(x + 1) * 2 + 1) = (Z : Int) := by rw [hz]; simp [IntKind.wrap, IntKind.signed, IntKind.bits]; omega
    have con := uLen_any Z (by omega) w
    rw [hz] at con
    have CON := hid con
    clear con
    go_enter Tryz.func32, Tryz.ntmps32
    go_wp2_with (go_at_call 30; refine CON.out.mono ?_; rintro e w1 ⟨rfl, rfl⟩)
    go_ret
    exact ⟨rfl, rfl⟩
end Go.Proofs.Qxb6609540aGreatDoor
