/-
  The contracts of 'floorDiv' and 'ZZFloorDiv'.
-/
import Derived.Test.Qxb6619770aRows
import Derived.Test.Qxb6619770aPlainDiv
import Derived.WalkKit
import Derived.WalkSpells
import Derived.RowKit3
namespace Go.Proofs.Qxb6619770a
open Go.RowKit

theorem ret_int {k : IntKind} {a b : Int} (h : a = b) : Ending.returned (.int k a) = .returned (.int k b) := by rw [h]

set_option maxHeartbeats 400000 in
theorem floordiv_any (a b : Int) (hb : 0 < b) (h0 : -9223372036854775808 ≤ a) (h1 : a ≤ 9223372036854775807) (w : World) :
    Calls Try.prog 12 #[.int .i64 a, .int .i64 b] w fun e w' => e = .returned (.int .i64 (fd a b)) ∧ w' = w := by
  have hbd := fd_bd a b hb h0 h1
  have hz : (b == 0) = false := by simp; omega
  rcases fd_ways a b hb with ⟨e1, e2⟩ | ⟨e1, e2, e3⟩
  · obtain ⟨b0, b1⟩ := hbd
    go_enter Try.func12, Try.ntmps12
    go_wp2
    go_ret
    exact ⟨rfl, rfl⟩
  · obtain ⟨b0, b1⟩ := hbd
    go_enter Try.func12, Try.ntmps12
    go_wp2
    go_ret
    exact ⟨ret_int (by omega), rfl⟩

set_option maxHeartbeats 400000 in
theorem zzfloordiv_any (a b : Int) (hb : 0 < b) (h0 : -9223372036854775808 ≤ a) (h1 : a ≤ 9223372036854775807) (w : World) :
    Calls Try.prog 7 #[.int .i64 a, .int .i64 b] w fun e w' => e = .returned (.int .i64 (fd a b)) ∧ w' = w := by
  go_enter Try.func7, Try.ntmps7
  go_wp2_with (go_at_call 12; refine (floordiv_any a b hb h0 h1 _).mono ?_; rintro e w2 ⟨rfl, rfl⟩)
  go_ret
  exact ⟨rfl, rfl⟩

end Go.Proofs.Qxb6619770a
