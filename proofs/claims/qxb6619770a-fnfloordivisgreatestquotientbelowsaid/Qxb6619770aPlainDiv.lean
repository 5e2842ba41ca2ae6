/-
  The plain part of floor division: nothing of the program here.
-/
import Derived.Laws.BitsAllLaws
namespace Go.Proofs.Qxb6619770a
set_option linter.unusedVariables false

/-- The quotient rounded down (b positive). -/
def fd (a b : Int) : Int := a / b

theorem fd_spec (a b : Int) (hb : 0 < b) : fd a b * b ≤ a ∧ a < (fd a b + 1) * b := by
  unfold fd
  have h1 := Int.mul_ediv_add_emod a b
  have h2 := Int.emod_nonneg a (Int.ne_of_gt hb)
  have h3 := Int.emod_lt_of_pos a hb
  rw [Int.add_mul, Int.mul_comm (a / b) b, Int.one_mul]
  omega
theorem fd_unique (a b q : Int) (hb : 0 < b) (h1 : q * b ≤ a) (h2 : a < (q + 1) * b) : fd a b = q := by
  unfold fd
  have h3 : a / b < q + 1 := Int.ediv_lt_of_lt_mul hb h2
  have h4 : q ≤ a / b := Int.le_ediv_of_mul_le hb h1
  omega
theorem fd_bd (a b : Int) (hb : 0 < b) (h0 : -9223372036854775808 ≤ a) (h1 : a ≤ 9223372036854775807) : -9223372036854775808 ≤ fd a b ∧ fd a b ≤ 9223372036854775807 := by
  unfold fd
  constructor
  · apply Int.le_ediv_of_mul_le hb
    have : 9223372036854775808 * 1 ≤ 9223372036854775808 * b := Int.mul_le_mul_of_nonneg_left (by omega) (by decide)
    omega
  · have : a / b < 9223372036854775807 + 1 := by
      apply Int.ediv_lt_of_lt_mul hb
      have : 9223372036854775808 * 1 ≤ 9223372036854775808 * b := Int.mul_le_mul_of_nonneg_left (by omega) (by decide)
      omega
    omega
/-- The two ways of Go's own division. -/
theorem fd_ways (a b : Int) (hb : 0 < b) : (a.tdiv b = fd a b ∧ ¬ a.tmod b < 0) ∨ (a.tdiv b = fd a b + 1 ∧ a.tmod b < 0 ∧ fd a b < 0) := by
  unfold fd
  have h2 := Int.emod_nonneg a (Int.ne_of_gt hb)
  have h3 := Int.emod_lt_of_pos a hb
  by_cases h : 0 ≤ a ∨ b ∣ a
  · left
    rw [Int.tdiv_eq_ediv, Int.tmod_eq_emod, if_pos h, if_pos h]
    omega
  · right
    rw [Int.tdiv_eq_ediv, Int.tmod_eq_emod, if_neg h, if_neg h, Int.sign_eq_one_of_pos hb]
    exact ⟨rfl, by omega, Int.ediv_lt_of_lt_mul hb (by omega)⟩
theorem fd_not (a b : Int) (hb : 0 < b) : fd (-a - 1) b = -fd a b - 1 := by
  have h := fd_spec a b hb
  apply fd_unique _ _ _ hb
  · have e : (-fd a b - 1) * b = -((fd a b + 1) * b) := by rw [← Int.neg_mul]; congr 1; omega
    omega
  · have e : (-fd a b - 1 + 1) * b = -(fd a b * b) := by rw [← Int.neg_mul]; congr 1; omega
    omega
theorem fd_up (a b : Int) (hb : 0 < b) : fd (a + b) b = fd a b + 1 := by
  unfold fd
  rw [Int.add_ediv_of_dvd_right (Int.dvd_refl b), Int.ediv_self (Int.ne_of_gt hb)]
theorem fd_down (a b : Int) (hb : 0 < b) : fd (a - b) b = fd a b - 1 := by
  have := fd_up (a - b) b hb
  rw [show a - b + b = a from by omega] at this
  omega
/-- A number that is t modulo 2^64, t an int64, wraps to t. -/
theorem wrap_i64_to (n t : Int) (h : (n - t) % 18446744073709551616 = 0) (h0 : -9223372036854775808 ≤ t) (h1 : t ≤ 9223372036854775807) : IntKind.i64.wrap n = t := by
  simp [IntKind.wrap, IntKind.bits, IntKind.signed]
  split <;> omega
/-- Go's '^a' on an int64. -/
theorem i64_not (a : Int) (h0 : -9223372036854775808 ≤ a) (h1 : a ≤ 9223372036854775807) : bits .xor .i64 (-1) a = -a - 1 := by
  show IntKind.i64.wrap ((BitVec.ofInt 64 (-1) ^^^ BitVec.ofInt 64 a).toNat : Int) = _
  have e : BitVec.ofInt 64 (-1) = BitVec.allOnes 64 := by decide
  rw [e, BitVec.allOnes_xor, BitVec.toNat_not, BitVec.toNat_ofInt]
  exact wrap_i64_to _ _ (by omega) (by omega) (by omega)
end Go.Proofs.Qxb6619770a
