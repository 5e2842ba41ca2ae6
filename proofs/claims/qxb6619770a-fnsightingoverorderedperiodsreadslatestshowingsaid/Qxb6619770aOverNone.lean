/-
  The walk of 'FnSightingOverOrderedPeriodsReadsLatestShowing' over no period (a nil slice, or one of length 0).
-/
import Derived.Test.Qxb6619770aOver
namespace Go.Proofs.Qxb6619770a
open Go.RowKit

set_option maxRecDepth 20000 in
set_option maxHeartbeats 2000000 in
theorem over_none (a0 a1 a2 a3 : Int) (a4 : Bool) (a : Option Addr) (cap : Nat) (w : World) :
    Calls Try.prog 5 #[.int .i64 a0, .int .i64 a1, .int .i64 a2, .int .i64 a3, .bool a4, .slice a 0 cap] w fun e w' => e = .returned (.bool true) ∧ Below w.heap.size w w' := by
  go_enter Try.func5, Try.ntmps5
  go_wp2_with (go_at_call 9; refine (bytes_yes _ _ _ _ _ _ _ _ (by omega) _).mono ?_; rintro e w1 ⟨rfl, rfl⟩)
  go_loop [13] (fun i => i = .int .i64 0) (fun _ => 0)
  case atStart => rfl
  case round =>
    subst hrel
    go_wp2_with fail
    go_loop [14, 15, 16, 17, 18, 19] (fun l sh by' bf sw j => l = .int .i64 a0 ∧ sh = .int .i64 a1 ∧ by' = .int .i64 a2 ∧ bf = .int .i64 a3 ∧ sw = .bool a4 ∧ j = .int .i64 0) (fun _ _ _ _ _ _ => 0)
    case atStart => exact ⟨rfl, rfl, rfl, rfl, rfl, rfl⟩
    case round =>
      obtain ⟨rfl, rfl, rfl, rfl, rfl, rfl⟩ := hrel
      go_wp2_with fail
      refine (result_world _ _ _ _ _ _).mono ?_
      rintro e w3 ⟨rfl, c, rfl⟩
      go_wp2_with fail
      go_loop [21, 22, 24, 25] (fun ws wb f j => ws = .int .i64 a1 ∧ wb = .int .i64 a2 ∧ f = .bool false ∧ j = .int .i64 0) (fun _ _ _ _ => 0)
      case atStart => exact ⟨rfl, rfl, rfl, rfl⟩
      case round =>
        obtain ⟨rfl, rfl, rfl, rfl⟩ := hrel
        go_wp2_with fail
        go_loop [27, 28] (fun wb j => wb = .int .i64 a3 ∧ j = .int .i64 (-1)) (fun _ _ => 0)
        case atStart => exact ⟨rfl, rfl⟩
        case round =>
          obtain ⟨rfl, rfl⟩ := hrel
          cases a4
          all_goals
            first | rw [res_true] | rw [res_false]
            go_wp2
            go_ret
            exact ⟨rfl, (Below.refl _ _).alloc (Nat.le_refl _) _⟩

end Go.Proofs.Qxb6619770a
