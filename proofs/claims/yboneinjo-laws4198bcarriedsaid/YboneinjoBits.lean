/- The bit operations that time.Time's text makes on a wall word below 2^30. No program here. -/
import Derived.Laws.BitsAllLaws
import Derived.Laws.BitsAll
import Derived.WalkKit
namespace Go.Proofs.Yboneinjo

theorem and_mask30 (x : Int) (h0 : 0 ≤ x) (h1 : x ≤ 999999999) : bits .and .u64 x 1073741823 = x := by
  rw [u64_and x 1073741823 h0 (by omega) (by omega) (by omega)]
  have e : (1073741823 : Int).toNat = 2 ^ 30 - 1 := by decide
  rw [e, Nat.and_two_pow_sub_one_eq_mod, Nat.mod_eq_of_lt (by omega)]
  omega
theorem and_top (x : Int) (h0 : 0 ≤ x) (h1 : x ≤ 999999999) : bits .and .u64 x 9223372036854775808 = 0 := by
  rw [u64_and x 9223372036854775808 h0 (by omega) (by omega) (by omega)]
  have e : (9223372036854775808 : Int).toNat = 2 ^ 63 := by decide
  rw [e, nat_bit, Nat.div_eq_of_lt (by omega)]
  rfl
theorem top_no (x : Int) (h0 : 0 ≤ x) (h1 : x ≤ 999999999) : (bits .and .u64 x 9223372036854775808 != 0) = false := by
  rw [and_top x h0 h1]; rfl
theorem and_low (x y : Int) (h0 : 0 ≤ x) (h1 : x ≤ 999999999) (k0 : 0 ≤ y) (k1 : y ≤ 999999999) : 0 ≤ bits .and .u64 x y ∧ bits .and .u64 x y ≤ 999999999 := by
  rw [u64_and x y h0 (by omega) k0 (by omega)]
  have := Nat.and_le_left (n := x.toNat) (m := y.toNat)
  omega
theorem or_none (x : Int) (h0 : 0 ≤ x) (h1 : x ≤ 999999999) : bits .or .u64 0 x = x := by
  rw [u64_or 0 x (by omega) (by omega) h0 (by omega)]
  simp
  omega
theorem andNot_none : bits .andNot .u64 0 1073741823 = 0 := by decide
end Go.Proofs.Yboneinjo
