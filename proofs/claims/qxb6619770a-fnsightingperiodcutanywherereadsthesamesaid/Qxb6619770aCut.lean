/-
  The walks of 'FnSightingPeriodCutAnywhereReadsTheSame', a way each.
-/
import Derived.Test.Qxb6619770aSight
namespace Go.Proofs.Qxb6619770a
open Go.RowKit

set_option maxRecDepth 20000 in
set_option maxHeartbeats 2000000 in
theorem cut_yet (a0 a1 a2 a3 : Int) (a4 : Bool) (a5 a6 a7 a8 a9 : Int) (A : Int) (hA : wrap64 (a0 - a7) = A) (s1 : a5 ≤ a9) (s2 : a9 ≤ a6) (k : A < a5) (w : World) :
    Calls Try.prog 6 #[.int .i64 a0, .int .i64 a1, .int .i64 a2, .int .i64 a3, .bool a4, .int .i64 a5, .int .i64 a6, .int .i64 a7, .int .i64 a8, .int .i64 a9] w fun e w' => e = .returned (.bool true) ∧ Grown w w' := by
  have k2 : A < a6 := by omega
  have k3 : A < a9 := by omega
  have d1 : decide (a5 ≤ A) = false := decide_eq_false (by omega)
  go_enter Try.func6, Try.ntmps6
  go_wp2_with fail
  refine (consider_yet a0 a1 a2 a3 a4 a5 a6 a7 a8 A hA k k2 _).mono ?_
  rintro e w1 ⟨rfl, g1⟩
  go_wp2_with fail
  refine (result_any a0 a1 a2 a3 a4 _).mono ?_
  rintro e w2 ⟨rfl, g2⟩
  go_wp2_with fail
  refine (consider_yet a0 a1 a2 a3 a4 a5 a9 a7 a8 A hA k k3 _).mono ?_
  rintro e w3 ⟨rfl, g3⟩
  go_wp2_with fail
  refine (consider_yet a0 a1 a2 a3 a4 a9 a6 a7 a8 A hA k3 k2 _).mono ?_
  rintro e w4 ⟨rfl, g4⟩
  go_wp2_with fail
  refine (result_any a0 a1 a2 a3 a4 _).mono ?_
  rintro e w5 ⟨rfl, g5⟩
  go_wp2
  go_ret
  exact ⟨by simp [res], grown_trans g1 (grown_trans g2 (grown_trans g3 (grown_trans g4 g5)))⟩

set_option maxRecDepth 20000 in
set_option maxHeartbeats 2000000 in
theorem cut_first (a0 a1 a2 a3 : Int) (a4 : Bool) (a5 a6 a7 a8 a9 : Int) (A : Int) (hA : wrap64 (a0 - a7) = A) (s1 : a5 ≤ a9) (s2 : a9 ≤ a6) (k1 : a5 ≤ A) (k2 : A < a9) (w : World) :
    Calls Try.prog 6 #[.int .i64 a0, .int .i64 a1, .int .i64 a2, .int .i64 a3, .bool a4, .int .i64 a5, .int .i64 a6, .int .i64 a7, .int .i64 a8, .int .i64 a9] w fun e w' => e = .returned (.bool true) ∧ Grown w w' := by
  have k3 : A < a6 := by omega
  go_enter Try.func6, Try.ntmps6
  go_wp2_with fail
  refine (consider_show a0 a1 a2 a3 a4 a5 a6 a7 a8 A hA k1 k3 _).mono ?_
  rintro e w1 ⟨rfl, g1⟩
  go_wp2_with fail
  refine (result_any a0 A a8 a3 true _).mono ?_
  rintro e w2 ⟨rfl, g2⟩
  go_wp2_with fail
  refine (consider_show a0 a1 a2 a3 a4 a5 a9 a7 a8 A hA k1 k2 _).mono ?_
  rintro e w3 ⟨rfl, g3⟩
  go_wp2_with fail
  refine (consider_yet a0 A a8 a3 true a9 a6 a7 a8 A hA k2 k3 _).mono ?_
  rintro e w4 ⟨rfl, g4⟩
  go_wp2_with fail
  refine (result_any a0 A a8 a3 true _).mono ?_
  rintro e w5 ⟨rfl, g5⟩
  go_wp2
  go_ret
  exact ⟨by simp [res], grown_trans g1 (grown_trans g2 (grown_trans g3 (grown_trans g4 g5)))⟩

set_option maxRecDepth 20000 in
set_option maxHeartbeats 2000000 in
theorem cut_second (a0 a1 a2 a3 : Int) (a4 : Bool) (a5 a6 a7 a8 a9 : Int) (A : Int) (hA : wrap64 (a0 - a7) = A) (s1 : a5 ≤ a9) (s2 : a9 ≤ a6) (k1 : a9 ≤ A) (k2 : A < a6) (w : World) :
    Calls Try.prog 6 #[.int .i64 a0, .int .i64 a1, .int .i64 a2, .int .i64 a3, .bool a4, .int .i64 a5, .int .i64 a6, .int .i64 a7, .int .i64 a8, .int .i64 a9] w fun e w' => e = .returned (.bool true) ∧ Grown w w' := by
  have k3 : a5 ≤ A := by omega
  go_enter Try.func6, Try.ntmps6
  go_wp2_with fail
  refine (consider_show a0 a1 a2 a3 a4 a5 a6 a7 a8 A hA k3 k2 _).mono ?_
  rintro e w1 ⟨rfl, g1⟩
  go_wp2_with fail
  refine (result_any a0 A a8 a3 true _).mono ?_
  rintro e w2 ⟨rfl, g2⟩
  go_wp2_with fail
  refine (consider_past a0 a1 a2 a3 a4 a5 a9 a7 a8 A hA k1 _).mono ?_
  rintro e w3 ⟨rfl, g3⟩
  go_wp2_with fail
  refine (consider_show a0 a1 a2 A a4 a9 a6 a7 a8 A hA k1 k2 _).mono ?_
  rintro e w4 ⟨rfl, g4⟩
  go_wp2_with fail
  refine (result_any a0 A a8 A true _).mono ?_
  rintro e w5 ⟨rfl, g5⟩
  go_wp2
  go_ret
  exact ⟨by simp [res], grown_trans g1 (grown_trans g2 (grown_trans g3 (grown_trans g4 g5)))⟩

set_option maxRecDepth 20000 in
set_option maxHeartbeats 2000000 in
theorem cut_past (a0 a1 a2 a3 : Int) (a4 : Bool) (a5 a6 a7 a8 a9 : Int) (A : Int) (hA : wrap64 (a0 - a7) = A) (s1 : a5 ≤ a9) (s2 : a9 ≤ a6) (k1 : a6 ≤ A) (w : World) :
    Calls Try.prog 6 #[.int .i64 a0, .int .i64 a1, .int .i64 a2, .int .i64 a3, .bool a4, .int .i64 a5, .int .i64 a6, .int .i64 a7, .int .i64 a8, .int .i64 a9] w fun e w' => e = .returned (.bool true) ∧ Grown w w' := by
  have k2 : a9 ≤ A := by omega
  have k3 : a5 ≤ A := by omega
  go_enter Try.func6, Try.ntmps6
  go_wp2_with fail
  refine (consider_past a0 a1 a2 a3 a4 a5 a6 a7 a8 A hA k1 _).mono ?_
  rintro e w1 ⟨rfl, g1⟩
  go_wp2_with fail
  refine (result_any a0 a1 a2 A a4 _).mono ?_
  rintro e w2 ⟨rfl, g2⟩
  go_wp2_with fail
  refine (consider_past a0 a1 a2 a3 a4 a5 a9 a7 a8 A hA k2 _).mono ?_
  rintro e w3 ⟨rfl, g3⟩
  go_wp2_with fail
  refine (consider_past a0 a1 a2 A a4 a9 a6 a7 a8 A hA k1 _).mono ?_
  rintro e w4 ⟨rfl, g4⟩
  go_wp2_with fail
  refine (result_any a0 a1 a2 A a4 _).mono ?_
  rintro e w5 ⟨rfl, g5⟩
  go_wp2
  go_ret
  exact ⟨by simp [res], grown_trans g1 (grown_trans g2 (grown_trans g3 (grown_trans g4 g5)))⟩

set_option maxRecDepth 20000 in
set_option maxHeartbeats 2000000 in
theorem cut_out (a0 a1 a2 a3 : Int) (a4 : Bool) (a5 a6 a7 a8 a9 : Int) (h : ¬ (a5 ≤ a9 ∧ a9 ≤ a6)) (w : World) :
    Calls Try.prog 6 #[.int .i64 a0, .int .i64 a1, .int .i64 a2, .int .i64 a3, .bool a4, .int .i64 a5, .int .i64 a6, .int .i64 a7, .int .i64 a8, .int .i64 a9] w fun e w' => e = .returned (.bool true) ∧ Grown w w' := by
  by_cases h1 : a6 < a5
  · clear h
    go_enter Try.func6, Try.ntmps6
    go_wp2_with fail
    go_ret
    exact ⟨rfl, Grown.refl _⟩
  · have d1 : decide (a6 < a5) = false := decide_eq_false h1
    by_cases h2 : a9 < a5
    · clear h h1
      go_enter Try.func6, Try.ntmps6
      go_wp2_with fail
      go_ret
      exact ⟨rfl, Grown.refl _⟩
    · have d2 : decide (a9 < a5) = false := decide_eq_false h2
      have h3 : a6 < a9 := by omega
      clear h h1 h2
      go_enter Try.func6, Try.ntmps6
      go_wp2_with fail
      go_ret
      exact ⟨rfl, Grown.refl _⟩

theorem cut_any (a0 a1 a2 a3 : Int) (a4 : Bool) (a5 a6 a7 a8 a9 : Int) (w : World) :
    Calls Try.prog 6 #[.int .i64 a0, .int .i64 a1, .int .i64 a2, .int .i64 a3, .bool a4, .int .i64 a5, .int .i64 a6, .int .i64 a7, .int .i64 a8, .int .i64 a9] w fun e w' => e = .returned (.bool true) ∧ Grown w w' := by
  by_cases h : a5 ≤ a9 ∧ a9 ≤ a6
  · obtain ⟨s1, s2⟩ := h
    obtain ⟨A, hA⟩ : ∃ A, wrap64 (a0 - a7) = A := ⟨_, rfl⟩
    by_cases k1 : A < a5
    · exact cut_yet a0 a1 a2 a3 a4 a5 a6 a7 a8 a9 A hA s1 s2 k1 w
    · by_cases k2 : A < a9
      · exact cut_first a0 a1 a2 a3 a4 a5 a6 a7 a8 a9 A hA s1 s2 (by omega) k2 w
      · by_cases k3 : A < a6
        · exact cut_second a0 a1 a2 a3 a4 a5 a6 a7 a8 a9 A hA s1 s2 (by omega) k3 w
        · exact cut_past a0 a1 a2 a3 a4 a5 a6 a7 a8 a9 A hA s1 s2 (by omega) w
  · exact cut_out a0 a1 a2 a3 a4 a5 a6 a7 a8 a9 h w

end Go.Proofs.Qxb6619770a
