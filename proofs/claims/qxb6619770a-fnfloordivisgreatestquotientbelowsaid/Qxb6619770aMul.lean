/-
  The contracts of 'mulU' and 'mulLE'.
-/
import Derived.Test.Qxb6619770aRows
import Derived.Test.Qxb6619770aDiv
import Derived.Test.Qxb6619770aPlainMul
import Derived.WalkKit
import Derived.WalkSpells
import Derived.RowKit3
namespace Go.Proofs.Qxb6619770a
open Go.RowKit

theorem ret_two {k l : IntKind} {a b c d : Int} (h : a = b) (h' : c = d) : Ending.returned (.tuple #[.int k a, .int l c]) = .returned (.tuple #[.int k b, .int l d]) := by rw [h, h']

/-! ### 'mulU' -/
set_option maxHeartbeats 1000000 in
theorem mulu_any (x y : Int) (h0 : 0 ≤ x) (h1 : x ≤ 18446744073709551615) (k0 : 0 ≤ y) (k1 : y ≤ 18446744073709551615) (w : World) :
    Calls Try.prog 13 #[.int .u64 x, .int .u64 y] w fun e w' => e = .returned (.tuple #[.int .u64 (hiW x y), .int .u64 (loW x y)]) ∧ w' = w := by
  have ax := and32 x h0 h1
  have ay := and32 y k0 k1
  obtain ⟨x0, hx0⟩ : ∃ x0, x % 4294967296 = x0 := ⟨_, rfl⟩
  obtain ⟨x1, hx1⟩ : ∃ x1, x / 4294967296 = x1 := ⟨_, rfl⟩
  obtain ⟨y0, hy0⟩ : ∃ y0, y % 4294967296 = y0 := ⟨_, rfl⟩
  obtain ⟨y1, hy1⟩ : ∃ y1, y / 4294967296 = y1 := ⟨_, rfl⟩
  obtain ⟨a0, a1⟩ := mul_bd x0 y0 (by omega) (by omega) (by omega) (by omega)
  obtain ⟨b0, b1⟩ := mul_bd x1 y0 (by omega) (by omega) (by omega) (by omega)
  obtain ⟨c0, c1⟩ := mul_bd x0 y1 (by omega) (by omega) (by omega) (by omega)
  obtain ⟨d0, d1⟩ := mul_bd x1 y1 (by omega) (by omega) (by omega) (by omega)
  have HH : Hid (x1 * y1 + (x1 * y0 + x0 * y0 / 4294967296) / 4294967296 + ((x1 * y0 + x0 * y0 / 4294967296) % 4294967296 + x0 * y1) / 4294967296 = x * y / 18446744073709551616) :=
    mul_hi x y x0 x1 y0 y1 (by omega) (by omega) a0 a1 b0 b1 c0 c1 d0 d1
  have at' := and32 (x1 * y0 + x0 * y0 / 4294967296) (by omega) (by omega)
  rw [hx0] at ax
  rw [hy0] at ay
  clear hx0 hy0 h0 h1 k0 k1
  have HL : Hid (IntKind.u64.wrap (x * y) = loW x y) := IntKind.wrap_u64 (x * y)
  go_enter Try.func13, Try.ntmps13
  go_wp2
  go_ret2
  exact ⟨ret_two HH.out HL.out, rfl⟩

/-! ### 'mulLE' -/
set_option maxHeartbeats 1000000 in
theorem mulle_any (x y a : Int) (x0 : -9223372036854775808 ≤ x) (x1 : x ≤ 9223372036854775807) (y0 : 0 < y) (y1 : y ≤ 9223372036854775807) (a0 : -9223372036854775808 ≤ a) (a1 : a ≤ 9223372036854775807) (w : World) :
    Calls Try.prog 8 #[.int .i64 x, .int .i64 y, .int .i64 a] w fun e w' => e = .returned (.bool (leB x y a)) ∧ w' = w := by
  by_cases hx : 0 ≤ x
  · by_cases ha : a < 0
    · rw [le_pos_neg x y a hx y0 ha]
      go_enter Try.func8, Try.ntmps8
      go_wp2_with fail
      go_ret
      exact ⟨rfl, rfl⟩
    · by_cases h : hiW x y = 0
      · rw [le_pos_lo x y a hx y0 h]
        go_enter Try.func8, Try.ntmps8
        go_wp2_with fail
        refine (mulu_any x y hx (by omega) (by omega) (by omega) _).mono ?_
        rintro e w2 ⟨rfl, rfl⟩
        go_wp2
        go_ret
        exact ⟨rfl, rfl⟩
      · rw [le_pos_hi x y a hx y0 a1 h]
        have h' : (hiW x y == 0) = false := by simpa using h
        clear h
        go_enter Try.func8, Try.ntmps8
        go_wp2_with fail
        refine (mulu_any x y hx (by omega) (by omega) (by omega) _).mono ?_
        rintro e w2 ⟨rfl, rfl⟩
        go_wp2
        go_ret
        exact ⟨rfl, rfl⟩
  · by_cases ha : 0 ≤ a
    · rw [le_neg_pos x y a (by omega) y0 ha]
      go_enter Try.func8, Try.ntmps8
      go_wp2_with fail
      go_ret
      exact ⟨rfl, rfl⟩
    · have nx := neg_word x x0 (by omega)
      have na := neg_word a a0 (by omega)
      by_cases h : 0 < hiW (-x) y
      · rw [le_neg_hi x y a (by omega) y0 a0 h]
        go_enter Try.func8, Try.ntmps8
        go_wp2_with fail
        refine (mulu_any (-x) y (by omega) (by omega) (by omega) (by omega) _).mono ?_
        rintro e w2 ⟨rfl, rfl⟩
        go_wp2
        go_ret
        exact ⟨rfl, rfl⟩
      · rw [le_neg_lo x y a (by omega) y0 h]
        have hd : decide (0 < hiW (-x) y) = false := decide_eq_false h
        clear h
        go_enter Try.func8, Try.ntmps8
        go_wp2_with fail
        refine (mulu_any (-x) y (by omega) (by omega) (by omega) (by omega) _).mono ?_
        rintro e w2 ⟨rfl, rfl⟩
        go_wp2
        go_ret
        exact ⟨rfl, rfl⟩

end Go.Proofs.Qxb6619770a
