/-
  The walks of the two laws over ByteSum: each callee by its contract (Qxb6609555aPlus.lean), the plain facts (Qxb6609555aPlain.lean) laid ahead.
-/
import Derived.Test.Qxb6609555aPlain
namespace Go.Proofs.Qxb6609555a
open Go.RowKit
set_option maxHeartbeats 400000 in
theorem walk_limb (bh bl ch cl : Int) (h1 : Word bh) (h2 : Word bl) (h3 : Word ch) (h4 : Word cl) (w : World) :
    Calls Try.prog 5 #[.int .u64 bh, .int .u64 bl, .int .u64 ch, .int .u64 cl] w fun e w' => e = .returned (.bool true) ∧ Grown w w' := by
  have m1 := and_m bh h1
  have m2 := and_m bl h2
  have m3 := and_m ch h3
  have m4 := and_m cl h4
  have e1 := limb_lo bl cl h2 h4
  have e2 := limb_hi bh bl ch cl h1 h2 h3 h4
  obtain ⟨a1, a2⟩ := id h1
  obtain ⟨b1, b2⟩ := id h2
  obtain ⟨c1, c2⟩ := id h3
  obtain ⟨d1, d2⟩ := id h4
  go_enter Try.func5, Try.ntmps5
  go_wp2_with fail
  refine (new_any _ _ _).mono ?_; rintro e w' ⟨rfl, o1, rfl⟩
  clear m1 m2 m3 m4 e1 e2
  go_wp2_with fail
  refine (new_any _ _ _).mono ?_; rintro e w' ⟨rfl, o2, rfl⟩
  go_wp2_with fail
  refine (zplus_any bh bl ch cl h1 h2 h3 h4 _).mono ?_; rintro e w' ⟨rfl, p1, p2, p3, p4, p5, p6, rfl⟩
  go_wp2_with fail
  refine (parts_any _ _ _).mono ?_; rintro e w' ⟨rfl, q1, rfl⟩
  go_wp2
  go_ret
  exact ⟨by simp, by repeat (first | exact Grown.refl _ | apply Grown.drew | apply Grown.alloc)⟩
set_option maxHeartbeats 400000 in
theorem walk_back (bh bl ch cl : Int) (h1 : Word bh) (h2 : Word bl) (h3 : Word ch) (h4 : Word cl) (w : World) :
    Calls Try.prog 6 #[.int .u64 bh, .int .u64 bl, .int .u64 ch, .int .u64 cl] w fun e w' => e = .returned (.bool true) ∧ Grown w w' := by
  go_enter Try.func6, Try.ntmps6
  go_wp2_with fail
  refine (new_any _ _ _).mono ?_; rintro e w' ⟨rfl, o1, rfl⟩
  go_wp2_with fail
  refine (new_any _ _ _).mono ?_; rintro e w' ⟨rfl, o2, rfl⟩
  go_wp2_with fail
  refine (zplus_any bh bl ch cl h1 h2 h3 h4 _).mono ?_; rintro e w' ⟨rfl, p1, p2, p3, p4, p5, p6, rfl⟩
  go_wp2_with fail
  refine (parts_any _ _ _).mono ?_; rintro e w' ⟨rfl, q1, rfl⟩
  go_wp2_with fail
  refine (zplus_any ch cl bh bl h3 h4 h1 h2 _).mono ?_; rintro e w' ⟨rfl, r1, r2, r3, r4, r5, r6, rfl⟩
  go_wp2_with fail
  refine (parts_any _ _ _).mono ?_; rintro e w' ⟨rfl, q2, rfl⟩
  rw [hi_comm, lo_comm]
  have b1 := back_lo bl cl h2 h4
  have b2 := back_hi bh bl ch cl h1 h2 h3 h4
  have l1 := lo_word bl cl
  unfold Word at h1 h2 h3 h4 l1
  by_cases hlt : loOf bl cl < cl
  · have f1 : IntKind.u64.wrap (loOf bl cl - cl) = bl := by rw [IntKind.wrap_u64]; exact b1
    have f2 : IntKind.u64.wrap (IntKind.u64.wrap (hiOf bh bl ch cl - ch) - 1) = bh := by
      rw [IntKind.wrap_u64, IntKind.wrap_u64]; unfold bor at b2; rw [if_pos hlt] at b2; exact b2
    clear b1 b2
    go_wp2
    go_ret
    exact ⟨rfl, (((((((((((((((((((Grown.refl _).alloc _ _).alloc _ _).alloc _ _).alloc _ _).alloc _ _).alloc _ _).alloc _ _).alloc _ _).alloc _ _).alloc _ _).alloc _ _).alloc _ _).alloc _ _).alloc _ _).alloc _ _).alloc _ _).alloc _ _).alloc _ _).drew.drew⟩
  · have hge : cl ≤ loOf bl cl := by omega
    have f1 : loOf bl cl - cl = bl := by omega
    have f2 : IntKind.u64.wrap (IntKind.u64.wrap (hiOf bh bl ch cl - ch)) = bh := by
      rw [IntKind.wrap_u64, IntKind.wrap_u64]; unfold bor at b2; rw [if_neg hlt, Int.sub_zero] at b2; exact b2
    clear b1 b2
    go_wp2
    go_ret
    exact ⟨rfl, (((((((((((((((((((Grown.refl _).alloc _ _).alloc _ _).alloc _ _).alloc _ _).alloc _ _).alloc _ _).alloc _ _).alloc _ _).alloc _ _).alloc _ _).alloc _ _).alloc _ _).alloc _ _).alloc _ _).alloc _ _).alloc _ _).alloc _ _).alloc _ _).drew.drew⟩
end Go.Proofs.Qxb6609555a
