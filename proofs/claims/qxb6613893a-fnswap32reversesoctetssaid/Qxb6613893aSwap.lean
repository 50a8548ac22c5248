/-
  The contracts of capture.swap32 and capture.ZZswap32: what they compute is 'sw', the sum of the four octets in the opposite order.
-/
import Derived.Test.Qxb6613893aRows
import Derived.WalkKit
import Derived.ProofKit
import Derived.Laws.BitsAll
namespace Go.Proofs.Qxb6613893a
open Go.RowKit

/-- The octets of v in the opposite order, as plain arithmetic. -/
def sw (v : Int) : Int := v / 16777216 + v / 65536 % 256 * 256 + v / 256 % 256 * 65536 + v % 256 * 16777216

theorem sw_bd (v : Int) (h0 : 0 ≤ v) (h1 : v < 4294967296) : 0 ≤ sw v ∧ sw v < 4294967296 := by unfold sw; omega
/-- A word out of its four octets. -/
theorem octets (v : Int) (h0 : 0 ≤ v) (h1 : v < 4294967296) :
    ∃ a b c d : Int, v = a * 16777216 + b * 65536 + c * 256 + d ∧ (0 ≤ a ∧ a < 256) ∧ (0 ≤ b ∧ b < 256) ∧ (0 ≤ c ∧ c < 256) ∧ (0 ≤ d ∧ d < 256) :=
  ⟨v / 16777216, v / 65536 % 256, v / 256 % 256, v % 256, by omega, by omega, by omega, by omega, by omega⟩
theorem oct3 (a b c d : Int) (ha : 0 ≤ a ∧ a < 256) (hb : 0 ≤ b ∧ b < 256) (hc : 0 ≤ c ∧ c < 256) (hd : 0 ≤ d ∧ d < 256) : (a * 16777216 + b * 65536 + c * 256 + d) / 16777216 % 256 = a := by
  have e : (a * 16777216 + b * 65536 + c * 256 + d) / 16777216 = a := by omega
  rw [e]; omega
theorem oct2 (a b c d : Int) (_ha : 0 ≤ a ∧ a < 256) (hb : 0 ≤ b ∧ b < 256) (hc : 0 ≤ c ∧ c < 256) (hd : 0 ≤ d ∧ d < 256) : (a * 16777216 + b * 65536 + c * 256 + d) / 65536 % 256 = b := by
  have e : (a * 16777216 + b * 65536 + c * 256 + d) / 65536 = a * 256 + b := by omega
  rw [e]; omega
theorem oct1 (a b c d : Int) (_ha : 0 ≤ a ∧ a < 256) (_hb : 0 ≤ b ∧ b < 256) (hc : 0 ≤ c ∧ c < 256) (hd : 0 ≤ d ∧ d < 256) : (a * 16777216 + b * 65536 + c * 256 + d) / 256 % 256 = c := by
  have e : (a * 16777216 + b * 65536 + c * 256 + d) / 256 = a * 65536 + b * 256 + c := by omega
  rw [e]; omega
theorem oct0 (a b c d : Int) (_ha : 0 ≤ a ∧ a < 256) (_hb : 0 ≤ b ∧ b < 256) (_hc : 0 ≤ c ∧ c < 256) (hd : 0 ≤ d ∧ d < 256) : (a * 16777216 + b * 65536 + c * 256 + d) % 256 = d := by omega
theorem sw_octets (a b c d : Int) (ha : 0 ≤ a ∧ a < 256) (hb : 0 ≤ b ∧ b < 256) (hc : 0 ≤ c ∧ c < 256) (hd : 0 ≤ d ∧ d < 256) :
    sw (a * 16777216 + b * 65536 + c * 256 + d) = d * 16777216 + c * 65536 + b * 256 + a := by
  unfold sw
  have e1 : (a * 16777216 + b * 65536 + c * 256 + d) / 16777216 = a := by omega
  rw [e1, oct2 a b c d ha hb hc hd, oct1 a b c d ha hb hc hd, oct0 a b c d ha hb hc hd]; omega
theorem sw_sw (v : Int) (h0 : 0 ≤ v) (h1 : v < 4294967296) : sw (sw v) = v := by
  obtain ⟨a, b, c, d, rfl, ha, hb, hc, hd⟩ := octets v h0 h1
  rw [sw_octets a b c d ha hb hc hd, sw_octets d c b a hd hc hb ha]
/-- Octet i of 'sw v' is octet 3-i of v. -/
theorem sw_at0 (v : Int) (h0 : 0 ≤ v) (h1 : v < 4294967296) : sw v % 256 = v / 16777216 % 256 := by
  obtain ⟨a, b, c, d, rfl, ha, hb, hc, hd⟩ := octets v h0 h1
  rw [sw_octets a b c d ha hb hc hd, oct0 d c b a hd hc hb ha, oct3 a b c d ha hb hc hd]
theorem sw_at1 (v : Int) (h0 : 0 ≤ v) (h1 : v < 4294967296) : sw v / 256 % 256 = v / 65536 % 256 := by
  obtain ⟨a, b, c, d, rfl, ha, hb, hc, hd⟩ := octets v h0 h1
  rw [sw_octets a b c d ha hb hc hd, oct1 d c b a hd hc hb ha, oct2 a b c d ha hb hc hd]
theorem sw_at2 (v : Int) (h0 : 0 ≤ v) (h1 : v < 4294967296) : sw v / 65536 % 256 = v / 256 % 256 := by
  obtain ⟨a, b, c, d, rfl, ha, hb, hc, hd⟩ := octets v h0 h1
  rw [sw_octets a b c d ha hb hc hd, oct2 d c b a hd hc hb ha, oct1 a b c d ha hb hc hd]
theorem sw_at3 (v : Int) (h0 : 0 ≤ v) (h1 : v < 4294967296) : sw v / 16777216 % 256 = v % 256 := by
  obtain ⟨a, b, c, d, rfl, ha, hb, hc, hd⟩ := octets v h0 h1
  rw [sw_octets a b c d ha hb hc hd, oct3 d c b a hd hc hb ha, oct0 a b c d ha hb hc hd]
/-- One octet up is one octet down behind the swap. -/
theorem sw_up (v : Int) (h0 : 0 ≤ v) (h1 : v < 4294967296) : sw (v * 256 % 4294967296) = sw v / 256 := by
  obtain ⟨a, b, c, d, rfl, ha, hb, hc, hd⟩ := octets v h0 h1
  have e : (a * 16777216 + b * 65536 + c * 256 + d) * 256 % 4294967296 = b * 16777216 + c * 65536 + d * 256 + 0 := by omega
  rw [e, sw_octets a b c d ha hb hc hd, sw_octets b c d 0 hb hc hd (by omega)]; omega
theorem sw_low (v : Int) (h0 : 0 ≤ v) (h1 : v < 4294967296) : sw v % 256 = v / 16777216 := by
  rw [sw_at0 v h0 h1]; omega

/-- A mask of one octet. -/
theorem nat_octet (i x : Nat) : x &&& 255 * 2 ^ i = x / 2 ^ i % 256 * 2 ^ i := by
  apply Nat.eq_of_testBit_eq
  intro j
  have e1 : x / 2 ^ i % 256 = x / 2 ^ i % 2 ^ 8 := by simp
  have e2 : (255 : Nat) = 2 ^ 8 - 1 := by decide
  rw [e1, Nat.testBit_and, Nat.testBit_mul_two_pow, Nat.testBit_mul_two_pow, Nat.testBit_mod_two_pow, Nat.testBit_div_two_pow, e2, Nat.testBit_two_pow_sub_one]
  by_cases h : i ≤ j
  · have e3 : j - i + i = j := by omega
    by_cases h2 : j - i < 8 <;> simp [h, h2, e3]
  · simp [h]

theorem sw_bits (v : Int) (h0 : 0 ≤ v) (h1 : v < 4294967296) :
    bits .or .u32 (bits .or .u32 (bits .or .u32 (v / 16777216) (bits .and .u32 (v / 256) 65280)) (bits .and .u32 (v * 256 % 4294967296) 16711680)) (v * 16777216 % 4294967296) = sw v := by
  obtain ⟨n, rfl⟩ := Int.eq_ofNat_of_zero_le h0
  have a1 : bits .and .u32 ((n : Int) / 256) 65280 = ((n / 256 / 256 % 256 * 256 : Nat) : Int) := by
    have := u32_and_nat (n / 256) 65280 (by omega) (by omega)
    have e := nat_octet 8 (n / 256)
    have e' : (255 * 2 ^ 8 : Nat) = 65280 := by decide
    rw [e'] at e
    rw [e] at this
    simpa using this
  have a2 : bits .and .u32 ((n : Int) * 256 % 4294967296) 16711680 = ((n * 256 % 4294967296 / 65536 % 256 * 65536 : Nat) : Int) := by
    have := u32_and_nat (n * 256 % 4294967296) 16711680 (by omega) (by omega)
    have e := nat_octet 16 (n * 256 % 4294967296)
    have e' : (255 * 2 ^ 16 : Nat) = 16711680 := by decide
    rw [e'] at e
    rw [e] at this
    simpa using this
  have o1 : bits .or .u32 ((n : Int) / 16777216) ((n / 256 / 256 % 256 * 256 : Nat) : Int) = ((n / 256 / 256 % 256 * 256 + n / 16777216 : Nat) : Int) := by
    have := u32_or_nat (n / 16777216) (n / 256 / 256 % 256 * 256) (by omega) (by omega)
    rw [Nat.or_comm, nat_join 8 _ _ (by omega) (by omega)] at this
    simpa using this
  have o2 : bits .or .u32 ((n / 256 / 256 % 256 * 256 + n / 16777216 : Nat) : Int) ((n * 256 % 4294967296 / 65536 % 256 * 65536 : Nat) : Int) =
      ((n * 256 % 4294967296 / 65536 % 256 * 65536 + (n / 256 / 256 % 256 * 256 + n / 16777216) : Nat) : Int) := by
    have := u32_or_nat (n / 256 / 256 % 256 * 256 + n / 16777216) (n * 256 % 4294967296 / 65536 % 256 * 65536) (by omega) (by omega)
    rw [Nat.or_comm, nat_join 16 _ _ (by omega) (by omega)] at this
    exact this
  have o3 : bits .or .u32 ((n * 256 % 4294967296 / 65536 % 256 * 65536 + (n / 256 / 256 % 256 * 256 + n / 16777216) : Nat) : Int) ((n : Int) * 16777216 % 4294967296) =
      ((n * 16777216 % 4294967296 + (n * 256 % 4294967296 / 65536 % 256 * 65536 + (n / 256 / 256 % 256 * 256 + n / 16777216)) : Nat) : Int) := by
    have := u32_or_nat (n * 256 % 4294967296 / 65536 % 256 * 65536 + (n / 256 / 256 % 256 * 256 + n / 16777216)) (n * 16777216 % 4294967296) (by omega) (by omega)
    rw [Nat.or_comm, nat_join 24 _ _ (by omega) (by omega)] at this
    have e : ((n * 16777216 % 4294967296 : Nat) : Int) = (n : Int) * 16777216 % 4294967296 := by omega
    rw [e] at this
    exact this
  rw [a1, a2, o1, o2, o3]
  unfold sw
  omega

theorem sw_mask (v : Int) (h0 : 0 ≤ v) (h1 : v < 4294967296) : bits .and .u32 (sw v) 255 = v / 16777216 := by
  have hb := sw_bd v h0 h1
  obtain ⟨n, hn⟩ := Int.eq_ofNat_of_zero_le hb.1
  have h := sw_low v h0 h1
  rw [hn] at hb h ⊢
  have := u32_and_nat n 255 (by omega) (by omega)
  rw [nat_mask8] at this
  rw [← h]
  simpa using this

theorem ret_int {k : IntKind} {a b : Int} (h : a = b) : Ending.returned (.int k a) = .returned (.int k b) := by rw [h]

theorem swap32_any (v : Int) (h0 : 0 ≤ v) (h1 : v < 4294967296) (w : World) :
    Calls Try.prog 6 #[.int .u32 v] w fun e w' => e = .returned (.int .u32 (sw v)) ∧ w' = w := by
  go_enter Try.func6, Try.ntmps6
  go_wp2
  go_ret
  exact ⟨ret_int (sw_bits v h0 h1), rfl⟩

theorem zswap32_any (v : Int) (h0 : 0 ≤ v) (h1 : v < 4294967296) (w : World) :
    Calls Try.prog 5 #[.int .u32 v] w fun e w' => e = .returned (.int .u32 (sw v)) ∧ w' = w := by
  go_enter Try.func5, Try.ntmps5
  go_wp2_with (go_at_call 6; refine (swap32_any v h0 h1 _).mono ?_; rintro e w' ⟨rfl, rfl⟩)
  go_ret
  exact ⟨rfl, rfl⟩
end Go.Proofs.Qxb6613893a
