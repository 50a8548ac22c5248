/-
  The plain arithmetic of the two laws over ByteSum: no Go in sight but the words for the bitwise operators.
-/
import Derived.Test.Qxb6609555aPlus
namespace Go.Proofs.Qxb6609555a
open Go.RowKit
theorem and_m (x : Int) (h : Word x) : bits .and .u64 x 4294967295 = x % 4294967296 := by
  obtain ⟨a, b⟩ := h
  obtain ⟨n, rfl⟩ := Int.eq_ofNat_of_zero_le a
  have := u64_and_nat n 4294967295 (by omega) (by omega)
  rw [nat_mask32] at this
  simpa using this
theorem join_m (x y : Int) (hx : Word x) (hy : Word y) :
    bits .or .u64 (bits .and .u64 x 4294967295) (IntKind.u64.wrap (bits .and .u64 y 4294967295 * 4294967296)) = y % 4294967296 * 4294967296 + x % 4294967296 := by
  rw [and_m x hx, and_m y hy, IntKind.wrap_u64]
  obtain ⟨a, b⟩ := hx
  obtain ⟨c, d⟩ := hy
  obtain ⟨n, rfl⟩ := Int.eq_ofNat_of_zero_le a
  obtain ⟨k, rfl⟩ := Int.eq_ofNat_of_zero_le c
  have e : ((k % 4294967296 * 4294967296 : Nat) : Int) = (k : Int) % 4294967296 * 4294967296 % 18446744073709551616 := by omega
  have e' : ((n % 4294967296 : Nat) : Int) = (n : Int) % 4294967296 := by omega
  have e3 : ((k % 4294967296 * 4294967296 + n % 4294967296 : Nat) : Int) = (k : Int) % 4294967296 * 4294967296 + (n : Int) % 4294967296 := by simp
  have := u64_or_nat (n % 4294967296) (k % 4294967296 * 4294967296) (by omega) (by omega)
  rw [Nat.or_comm, nat_join 32 _ _ (by omega) (by omega)] at this
  rw [e, e', e3] at this
  exact this
/-- A word out of its two halves. -/
theorem halves (x : Int) (h : Word x) : ∃ a b : Int, x = a * 4294967296 + b ∧ (0 ≤ a ∧ a < 4294967296) ∧ (0 ≤ b ∧ b < 4294967296) := by
  obtain ⟨h1, h2⟩ := h
  exact ⟨x / 4294967296, x % 4294967296, by omega, by omega, by omega⟩
theorem div_halves (a b : Int) (h : 0 ≤ b ∧ b < 4294967296) : (a * 4294967296 + b) / 4294967296 = a := by omega
theorem mod_halves (a b : Int) (h : 0 ≤ b ∧ b < 4294967296) : (a * 4294967296 + b) % 4294967296 = b := by omega

theorem limb_lo (bl cl : Int) (h2 : Word bl) (h4 : Word cl) :
    bits .or .u64 (bits .and .u64 (bl % 4294967296 + cl % 4294967296) 4294967295)
      (IntKind.u64.wrap (bits .and .u64 (bl / 4294967296 + cl / 4294967296 + (bl % 4294967296 + cl % 4294967296) / 4294967296) 4294967295 * 4294967296)) = loOf bl cl := by
  obtain ⟨b1, b0, rfl, hb1, hb0⟩ := halves bl h2
  obtain ⟨c1, c0, rfl, hc1, hc0⟩ := halves cl h4
  rw [div_halves b1 b0 hb0, div_halves c1 c0 hc0, mod_halves b1 b0 hb0, mod_halves c1 c0 hc0,
    join_m _ _ (by unfold Word; omega) (by unfold Word; omega)]
  unfold loOf
  omega
theorem limb_hi (bh bl ch cl : Int) (h1 : Word bh) (h2 : Word bl) (h3 : Word ch) (h4 : Word cl) :
    bits .or .u64 (bits .and .u64 (bh % 4294967296 + ch % 4294967296 + (bl / 4294967296 + cl / 4294967296 + (bl % 4294967296 + cl % 4294967296) / 4294967296) / 4294967296) 4294967295)
      (IntKind.u64.wrap (bits .and .u64 (bh / 4294967296 + ch / 4294967296 + (bh % 4294967296 + ch % 4294967296 + (bl / 4294967296 + cl / 4294967296 + (bl % 4294967296 + cl % 4294967296) / 4294967296) / 4294967296) / 4294967296) 4294967295 * 4294967296)) = hiOf bh bl ch cl := by
  obtain ⟨b1, b0, rfl, hb1, hb0⟩ := halves bl h2
  obtain ⟨c1, c0, rfl, hc1, hc0⟩ := halves cl h4
  have e : (b1 + c1 + (b0 + c0) / 4294967296) / 4294967296 = (b1 * 4294967296 + b0 + (c1 * 4294967296 + c0)) / 18446744073709551616 := by omega
  rw [div_halves b1 b0 hb0, div_halves c1 c0 hc0, mod_halves b1 b0 hb0, mod_halves c1 c0 hc0, e]
  unfold hiOf
  have k0 : 0 ≤ (b1 * 4294967296 + b0 + (c1 * 4294967296 + c0)) / 18446744073709551616 := by omega
  have k1 : (b1 * 4294967296 + b0 + (c1 * 4294967296 + c0)) / 18446744073709551616 ≤ 1 := by omega
  generalize (b1 * 4294967296 + b0 + (c1 * 4294967296 + c0)) / 18446744073709551616 = k at k0 k1 ⊢
  clear e
  obtain ⟨d1, d0, rfl, hd1, hd0⟩ := halves bh h1
  obtain ⟨f1, f0, rfl, hf1, hf0⟩ := halves ch h3
  rw [div_halves d1 d0 hd0, div_halves f1 f0 hf0, mod_halves d1 d0 hd0, mod_halves f1 f0 hf0,
    join_m _ _ (by unfold Word; omega) (by unfold Word; omega)]
  omega

/-- The borrow. -/
def bor (x y : Int) : Int := if x < y then 1 else 0
theorem back_lo (al bl : Int) (h2 : Word al) (h4 : Word bl) : (loOf al bl - bl) % 18446744073709551616 = al := by
  unfold loOf; obtain ⟨_, _⟩ := h2; obtain ⟨_, _⟩ := h4; omega
theorem back_hi (ah al bh bl : Int) (h1 : Word ah) (h2 : Word al) (h3 : Word bh) (h4 : Word bl) :
    ((hiOf ah al bh bl - bh) % 18446744073709551616 - bor (loOf al bl) bl) % 18446744073709551616 = ah := by
  unfold bor hiOf loOf
  obtain ⟨_, _⟩ := h1; obtain ⟨_, _⟩ := h2; obtain ⟨_, _⟩ := h3; obtain ⟨_, _⟩ := h4
  split <;> omega
theorem hi_comm (ah al bh bl : Int) : hiOf bh bl ah al = hiOf ah al bh bl := by unfold hiOf; rw [Int.add_comm bh ah, Int.add_comm bl al]
theorem lo_comm (al bl : Int) : loOf bl al = loOf al bl := by unfold loOf; rw [Int.add_comm bl al]
end Go.Proofs.Qxb6609555a
