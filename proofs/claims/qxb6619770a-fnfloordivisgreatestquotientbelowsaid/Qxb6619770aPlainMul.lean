/-
  The plain part of the 128-bit product: nothing of the program here.
-/
import Derived.Laws.BitsAllLaws
namespace Go.Proofs.Qxb6619770a
set_option linter.unusedVariables false

theorem and32 (x : Int) (h0 : 0 ≤ x) (h1 : x ≤ 18446744073709551615) : bits .and .u64 x 4294967295 = x % 4294967296 := by
  rw [u64_and x 4294967295 h0 (by omega) (by decide) (by decide)]
  have := Nat.and_two_pow_sub_one_eq_mod x.toNat 32
  have e : (4294967295 : Int).toNat = 2 ^ 32 - 1 := rfl
  rw [e, this]
  omega
theorem mul_bd (a b : Int) (a0 : 0 ≤ a) (a1 : a ≤ 4294967295) (b0 : 0 ≤ b) (b1 : b ≤ 4294967295) : 0 ≤ a * b ∧ a * b ≤ 18446744065119617025 := by
  refine ⟨Int.mul_nonneg a0 b0, ?_⟩
  have h1 : a * b ≤ 4294967295 * b := Int.mul_le_mul_of_nonneg_right a1 b0
  omega
/-- The high word out of four products of half words. -/
theorem mul_hi (x y x0 x1 y0 y1 : Int) (hx : x = x1 * 4294967296 + x0) (hy : y = y1 * 4294967296 + y0) (a0 : 0 ≤ x0 * y0) (a1 : x0 * y0 ≤ 18446744065119617025)
    (b0 : 0 ≤ x1 * y0) (b1 : x1 * y0 ≤ 18446744065119617025) (c0 : 0 ≤ x0 * y1) (c1 : x0 * y1 ≤ 18446744065119617025) (d0 : 0 ≤ x1 * y1) (d1 : x1 * y1 ≤ 18446744065119617025) :
    x1 * y1 + (x1 * y0 + x0 * y0 / 4294967296) / 4294967296 + ((x1 * y0 + x0 * y0 / 4294967296) % 4294967296 + x0 * y1) / 4294967296 = x * y / 18446744073709551616 := by
  have e : x * y = x1 * y1 * 18446744073709551616 + (x1 * y0) * 4294967296 + (x0 * y1) * 4294967296 + x0 * y0 := by
    rw [hx, hy, Int.add_mul, Int.mul_add, Int.mul_add]
    have e1 : x1 * 4294967296 * (y1 * 4294967296) = x1 * y1 * 18446744073709551616 := by
      rw [Int.mul_assoc, Int.mul_left_comm 4294967296 y1 4294967296, ← Int.mul_assoc]; rfl
    have e2 : x1 * 4294967296 * y0 = x1 * y0 * 4294967296 := by rw [Int.mul_assoc, Int.mul_comm 4294967296 y0, ← Int.mul_assoc]
    have e3 : x0 * (y1 * 4294967296) = x0 * y1 * 4294967296 := by rw [Int.mul_assoc]
    rw [e1, e2, e3]
    omega
  rw [e]
  omega
/-- The two words of a product. -/
def hiW (x y : Int) : Int := x * y / 18446744073709551616
def loW (x y : Int) : Int := x * y % 18446744073709551616
theorem hi_lo (x y : Int) (h0 : 0 ≤ x) (k0 : 0 ≤ y) : x * y = hiW x y * 18446744073709551616 + loW x y ∧ 0 ≤ hiW x y ∧ 0 ≤ loW x y ∧ loW x y ≤ 18446744073709551615 := by
  have := Int.mul_nonneg h0 k0
  unfold hiW loW
  omega
/-- '0 - uint64(x)' of a negative int64. -/
theorem neg_word (x : Int) (h0 : -9223372036854775808 ≤ x) (h1 : x < 0) : IntKind.u64.wrap (-IntKind.u64.wrap x) = -x := by
  rw [IntKind.wrap_u64, IntKind.wrap_u64]
  omega
/-- 'x*y <= a', behind a name. -/
def leB (x y a : Int) : Bool := decide (x * y ≤ a)
theorem le_pos_neg (x y a : Int) (hx : 0 ≤ x) (hy : 0 < y) (ha : a < 0) : leB x y a = false := by
  have := Int.mul_nonneg hx (Int.le_of_lt hy)
  unfold leB
  exact decide_eq_false (by omega)
theorem le_neg_pos (x y a : Int) (hx : x < 0) (hy : 0 < y) (ha : 0 ≤ a) : leB x y a = true := by
  have := Int.mul_nonneg (show 0 ≤ -x by omega) (Int.le_of_lt hy)
  rw [Int.neg_mul] at this
  unfold leB
  exact decide_eq_true (by omega)
theorem le_pos_hi (x y a : Int) (hx : 0 ≤ x) (hy : 0 < y) (ha : a ≤ 9223372036854775807) (h : ¬ hiW x y = 0) : leB x y a = false := by
  have := hi_lo x y hx (Int.le_of_lt hy)
  unfold leB
  exact decide_eq_false (by omega)
theorem le_pos_lo (x y a : Int) (hx : 0 ≤ x) (hy : 0 < y) (h : hiW x y = 0) : leB x y a = decide (loW x y ≤ a) := by
  have := hi_lo x y hx (Int.le_of_lt hy)
  unfold leB
  exact decide_eq_decide.2 (by omega)
theorem le_neg_hi (x y a : Int) (hx : x < 0) (hy : 0 < y) (ha : -9223372036854775808 ≤ a) (h : 0 < hiW (-x) y) : leB x y a = true := by
  have := hi_lo (-x) y (by omega) (Int.le_of_lt hy)
  rw [Int.neg_mul] at this
  unfold leB
  exact decide_eq_true (by omega)
theorem le_neg_lo (x y a : Int) (hx : x < 0) (hy : 0 < y) (h : ¬ 0 < hiW (-x) y) : leB x y a = decide (-a ≤ loW (-x) y) := by
  have := hi_lo (-x) y (by omega) (Int.le_of_lt hy)
  rw [Int.neg_mul] at this
  unfold leB
  exact decide_eq_decide.2 (by omega)
end Go.Proofs.Qxb6619770a
