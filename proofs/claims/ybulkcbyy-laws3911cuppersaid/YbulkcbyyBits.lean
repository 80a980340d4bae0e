/- Bit facts for time.Time's wall word. -/
import Derived.Laws.BitsAllLaws
namespace Go.Proofs.Ybulkcbyy

theorem and_mask (x : Int) (h0 : 0 ≤ x) (h1 : x < 1073741824) : bits .and .u64 x 1073741823 = x := by
  rw [u64_and x 1073741823 h0 (by omega) (by omega) (by omega)]
  have e : x.toNat &&& (1073741823 : Int).toNat = x.toNat % 1073741824 := Nat.and_two_pow_sub_one_eq_mod x.toNat 30
  rw [e]
  omega

theorem and_high (x : Int) (h0 : 0 ≤ x) (h1 : x < 1073741824) : bits .and .u64 x 9223372036854775808 = 0 := by
  rw [u64_and x 9223372036854775808 h0 (by omega) (by omega) (by omega)]
  have e : x.toNat &&& (9223372036854775808 : Int).toNat = x.toNat / 9223372036854775808 % 2 * 9223372036854775808 := nat_bit 63 x.toNat
  rw [e, Nat.div_eq_of_lt (by omega)]
  rfl

theorem and_both (x y : Int) (h0 : 0 ≤ x) (h1 : x < 1073741824) (g0 : 0 ≤ y) (g1 : y < 1073741824) : 0 ≤ bits .and .u64 x y ∧ bits .and .u64 x y < 1073741824 := by
  rw [u64_and x y h0 (by omega) g0 (by omega)]
  have : x.toNat &&& y.toNat ≤ x.toNat := Nat.and_le_left
  omega

theorem andNot_zero : bits .andNot .u64 0 1073741823 = 0 := by
  rw [u64_andNot 0 1073741823 (by omega) (by omega) (by omega) (by omega)]
  rfl

theorem or_zero (x : Int) (h0 : 0 ≤ x) (h1 : x < 1073741824) : bits .or .u64 0 x = x := by
  rw [u64_or 0 x (by omega) (by omega) h0 (by omega)]
  simp
  omega

end Go.Proofs.Ybulkcbyy
