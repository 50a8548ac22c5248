/-
  The contracts over ByteSum: ZZnewByteSum, ZZbyteSumParts, ZZplus, (ByteSum).plus; math/bits.Add64 by the model's own entry (Derived/Laws/Externs.lean).
-/
import Derived.Test.Qxb6609555aRows
import Derived.WalkKit
import Derived.WalkSpells
import Derived.ProofKit
import Derived.Laws.Externs
import Derived.Laws.BitsAll
import Derived.RegionTactic
import Derived.RowKit3
namespace Go.Proofs.Qxb6609555a
open Go.RowKit

theorem add64_0 (x y : Int) (hx : 0 ≤ x) (hy : 0 ≤ y) (w : World) : (callFunc 22 #[.int .u64 x, .int .u64 y, .int .u64 0]).run Try.prog w =
    .ok (.value (.tuple #[.int .u64 ((x + y) % 18446744073709551616), .int .u64 ((x + y) / 18446744073709551616)])) w := by
  rw [run_callFunc_extern Try.func22 (by kernel_rfl) (by kernel_rfl) (by kernel_rfl) (e := add64Entry) (by kernel_rfl), run_add64 x y 0 hx hy (by omega) (by omega)]
  simp only [Result.andThen, Int.add_zero]

/-- A word. -/
def Word (x : Int) : Prop := 0 ≤ x ∧ x < 18446744073709551616

/-- The high word of the sum of two numbers of two words. -/
def hiOf (ah al bh bl : Int) : Int := ((ah + bh) % 18446744073709551616 + (al + bl) / 18446744073709551616) % 18446744073709551616
/-- The low word. -/
def loOf (al bl : Int) : Int := (al + bl) % 18446744073709551616
theorem hi_word (ah al bh bl : Int) : Word (hiOf ah al bh bl) := by unfold hiOf Word; omega
theorem lo_word (al bl : Int) : Word (loOf al bl) := by unfold loOf Word; omega

theorem new_any (h l : Int) (w : World) :
    Calls Try.prog 17 #[.int .u64 h, .int .u64 l] w fun e w' => e = .returned (.agg #[.int .u64 h, .int .u64 l]) ∧ ∃ c1 : Array Value, w' = w.alloc (.cells c1 41) := by
  go_enter Try.func17, Try.ntmps17
  go_wp2
  simp [bodyPost, results, Try.results17, go_sem]
  exact ⟨_, rfl⟩

theorem plus_any (ah al bh bl : Int) (h1 : Word ah) (h2 : Word al) (h3 : Word bh) (h4 : Word bl) (w : World) :
    Calls Try.prog 20 #[.agg #[.int .u64 ah, .int .u64 al], .agg #[.int .u64 bh, .int .u64 bl]] w fun e w' =>
      e = .returned (.agg #[.int .u64 (hiOf ah al bh bl), .int .u64 (loOf al bl)]) ∧ ∃ c1 c2 c3 : Array Value, w' = ((w.alloc (.cells c1 41)).alloc (.cells c2 41)).alloc (.cells c3 41) := by
  obtain ⟨a1, a2⟩ := h1; obtain ⟨b1, b2⟩ := h2; obtain ⟨c1, c2⟩ := h3; obtain ⟨d1, d2⟩ := h4
  go_enter Try.func20, Try.ntmps20
  go_wp2_with (simp only [add64_0 al bl b1 d1])
  simp [bodyPost, results, Try.results20, go_sem]
  exact ⟨⟨by rw [IntKind.wrap_u64, IntKind.wrap_u64]; rfl, rfl⟩, _, _, _, rfl⟩

theorem zplus_any (ah al bh bl : Int) (h1 : Word ah) (h2 : Word al) (h3 : Word bh) (h4 : Word bl) (w : World) :
    Calls Try.prog 16 #[.agg #[.int .u64 ah, .int .u64 al], .agg #[.int .u64 bh, .int .u64 bl]] w fun e w' =>
      e = .returned (.agg #[.int .u64 (hiOf ah al bh bl), .int .u64 (loOf al bl)]) ∧
      ∃ c1 c2 c3 c4 c5 c6 : Array Value, w' = (((((w.alloc (.cells c1 41)).alloc (.cells c2 41)).alloc (.cells c3 41)).alloc (.cells c4 41)).alloc (.cells c5 41)).alloc (.cells c6 41) := by
  go_enter Try.func16, Try.ntmps16
  go_wp2_with (go_at_call 20; refine (plus_any ah al bh bl h1 h2 h3 h4 _).mono ?_; rintro e w' ⟨rfl, c1, c2, c3, rfl⟩)
  simp [bodyPost, results, Try.results16, go_sem]
  exact ⟨_, _, _, _, _, _, rfl⟩

theorem parts_any (h l : Int) (w : World) :
    Calls Try.prog 15 #[.agg #[.int .u64 h, .int .u64 l]] w fun e w' => e = .returned (.tuple #[.int .u64 h, .int .u64 l]) ∧ ∃ c1 : Array Value, w' = (w.alloc (.cells c1 41)).drew := by
  go_enter Try.func15, Try.ntmps15
  go_wp2
  go_region
  all_goals (go_wp2; go_ret2; exact ⟨rfl, _, rfl⟩)
end Go.Proofs.Qxb6609555a
