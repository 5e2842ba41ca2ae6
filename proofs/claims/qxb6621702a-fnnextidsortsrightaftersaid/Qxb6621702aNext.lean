import Derived.Test.Qxb6621702aRows
import Derived.WalkKit
import Derived.WalkSpells
import Derived.Deep.QuietTactic
import Derived.BigQuiet
import Derived.RowKit3
namespace Go.Proofs.Qxb6621702a
open Go.RowKit

/-- The order of two words, the high one first. -/
def lessB (a b c d : Int) : Bool := decide (a < c ∨ (a = c ∧ b < d))

/-- The low word, one more. -/
def nlo (lo : Int) : Int := IntKind.u64.wrap (lo + 1)
/-- The high word behind it. -/
def nhi (hi lo : Int) : Int := if (IntKind.u64.wrap (lo + 1) == 0) = true then IntKind.u64.wrap (hi + 1) else hi

theorem grown_trans {a b c : World} (h : Grown a b) (k : Grown b c) : Grown a c :=
  ⟨World.keptBut_trans h.1 (by
      refine ⟨k.1.1, k.1.2.1, fun i hi => ?_⟩
      exact k.1.2.2 i (by have := h.2.2; omega)), fun x => (k.2.1 x).trans (h.2.1 x), Nat.le_trans h.2.2 k.2.2⟩

theorem grown_drewN {a b : World} (h : Grown a b) (n : Nat) : Grown a (b.drewN n) := by
  induction n with
  | zero => exact h
  | succ n ih => exact ih.drew

/-! ### THE PLAIN FACTS -/
theorem wrap_u64 (n : Int) : IntKind.u64.wrap n = n % 18446744073709551616 := by
  simp [IntKind.wrap, IntKind.bits, IntKind.signed]
theorem next_max : nhi 18446744073709551615 18446744073709551615 = 0 ∧ nlo 18446744073709551615 = 0 := by
  unfold nhi nlo
  simp [wrap_u64]
/-- Below the greatest value: either the low word goes up, or it wraps and the high word goes up. -/
theorem next_cases (hi lo : Int) (h0 : 0 ≤ hi) (h1 : hi ≤ 18446744073709551615) (l0 : 0 ≤ lo) (l1 : lo ≤ 18446744073709551615)
    (hn : ¬ (hi = 18446744073709551615 ∧ lo = 18446744073709551615)) :
    (lo < 18446744073709551615 ∧ nhi hi lo = hi ∧ nlo lo = lo + 1) ∨ (lo = 18446744073709551615 ∧ hi < 18446744073709551615 ∧ nhi hi lo = hi + 1 ∧ nlo lo = 0) := by
  unfold nhi nlo
  rw [wrap_u64, wrap_u64]
  by_cases h : lo = 18446744073709551615
  · right
    subst h
    refine ⟨rfl, by omega, ?_, by decide⟩
    rw [if_pos (by decide)]
    omega
  · left
    refine ⟨by omega, ?_, by omega⟩
    rw [if_neg (by simp; omega)]
theorem next_bounds (hi lo : Int) (h0 : 0 ≤ hi) (h1 : hi ≤ 18446744073709551615) :
    0 ≤ nhi hi lo ∧ nhi hi lo ≤ 18446744073709551615 ∧ 0 ≤ nlo lo ∧ nlo lo ≤ 18446744073709551615 := by
  unfold nhi nlo
  rw [wrap_u64, wrap_u64]
  refine ⟨?_, ?_, by omega, by omega⟩ <;> split <;> omega
theorem next_less (hi lo : Int) (h0 : 0 ≤ hi) (h1 : hi ≤ 18446744073709551615) (l0 : 0 ≤ lo) (l1 : lo ≤ 18446744073709551615)
    (hn : ¬ (hi = 18446744073709551615 ∧ lo = 18446744073709551615)) : lessB hi lo (nhi hi lo) (nlo lo) = true := by
  have := next_cases hi lo h0 h1 l0 l1 hn
  unfold lessB
  rw [decide_eq_true_iff]
  omega
theorem next_none (hi lo bhi blo : Int) (h0 : 0 ≤ hi) (h1 : hi ≤ 18446744073709551615) (l0 : 0 ≤ lo) (l1 : lo ≤ 18446744073709551615)
    (m0 : 0 ≤ blo) (m1 : blo ≤ 18446744073709551615)
    (hn : ¬ (hi = 18446744073709551615 ∧ lo = 18446744073709551615)) (hb : lessB hi lo bhi blo = true) : lessB bhi blo (nhi hi lo) (nlo lo) = false := by
  have := next_cases hi lo h0 h1 l0 l1 hn
  unfold lessB at *
  rw [decide_eq_true_iff] at hb
  rw [decide_eq_false_iff_not]
  omega

/-! ### THE WALKS -/
set_option maxHeartbeats 400000 in
theorem less_any (a b c d : Int) (w : World) :
    Calls Try.prog 15 #[.int .u64 a, .int .u64 b, .int .u64 c, .int .u64 d] w fun e w' => e = .returned (.bool (lessB a b c d)) ∧ w' = w := by
  by_cases h : a = c
  · subst h
    have e : lessB a b a d = decide (b < d) := by simp [lessB]
    rw [e]
    go_enter Try.func15, Try.ntmps15
    go_wp2
    go_ret
    exact ⟨rfl, rfl⟩
  · have e : lessB a b c d = decide (a < c) := by simp [lessB, h]
    rw [e]
    have h' : (a != c) = true := by simpa using h
    clear h e
    go_enter Try.func15, Try.ntmps15
    go_wp2
    go_ret
    exact ⟨rfl, rfl⟩

set_option maxHeartbeats 400000 in
theorem next_any (hi lo : Int) (w : World) :
    Calls Try.prog 19 #[.agg #[.int .u64 hi, .int .u64 lo]] w fun e w' =>
      e = .returned (.agg #[.int .u64 (nhi hi lo), .int .u64 (nlo lo)]) ∧ Grown w w' := by
  by_cases h : (IntKind.u64.wrap (lo + 1) == 0) = true
  · have e1 : nhi hi lo = IntKind.u64.wrap (hi + 1) := by unfold nhi; rw [if_pos h]
    rw [e1, nlo]
    clear e1
    go_enter Try.func19, Try.ntmps19
    go_wp2
    all_goals exact bodyPost_ret (v := .agg #[.int .u64 (IntKind.u64.wrap (hi + 1)), .int .u64 (IntKind.u64.wrap (lo + 1))]) (by simp [results, Try.results19, go_sem]) rfl ⟨rfl, ((Grown.refl _).alloc _ _).alloc _ _⟩
  · have e1 : nhi hi lo = hi := by unfold nhi; rw [if_neg h]
    rw [e1, nlo]
    have h' : (IntKind.u64.wrap (lo + 1) == 0) = false := by simpa using h
    clear e1 h
    go_enter Try.func19, Try.ntmps19
    go_wp2
    exact bodyPost_ret (v := .agg #[.int .u64 hi, .int .u64 (IntKind.u64.wrap (lo + 1))]) (by simp [results, Try.results19, go_sem]) rfl ⟨rfl, ((Grown.refl _).alloc _ _).alloc _ _⟩

set_option maxHeartbeats 400000 in
theorem zznext_any (hi lo : Int) (w : World) :
    Calls Try.prog 14 #[.int .u64 hi, .int .u64 lo] w fun e w' =>
      e = .returned (.tuple #[.int .u64 (nhi hi lo), .int .u64 (nlo lo)]) ∧ Grown w w' := by
  go_enter Try.func14, Try.ntmps14
  go_wp2_with (go_at_call 19; refine (next_any hi lo _).mono ?_; rintro e w1 ⟨rfl, hg⟩)
  go_quiet (fail)
  go_wp2
  go_ret2
  exact ⟨rfl, grown_drewN (hg.alloc _ _) _⟩

end Go.Proofs.Qxb6621702a
