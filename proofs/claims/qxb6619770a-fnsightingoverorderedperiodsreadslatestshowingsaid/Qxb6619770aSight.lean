/-
  The contracts of 'ZZConsider' and 'ZZResult' (with 'consider' and 'result' walked in place).
-/
import Derived.Test.Qxb6619770aRows
import Derived.WalkKit
import Derived.WalkSpells
import Derived.Deep.QuietTactic
import Derived.BigQuiet
import Derived.RowKit3
namespace Go.Proofs.Qxb6619770a
open Go.RowKit

theorem grown_trans {a b c : World} (h : Grown a b) (k : Grown b c) : Grown a c :=
  ⟨World.keptBut_trans h.1 (by
      refine ⟨k.1.1, k.1.2.1, fun i hi => ?_⟩
      exact k.1.2.2 i (by have := h.2.2; omega)), fun x => (k.2.1 x).trans (h.2.1 x), Nat.le_trans h.2.2 k.2.2⟩
theorem grown_drewN {a b : World} (h : Grown a b) (n : Nat) : Grown a (b.drewN n) := by
  induction n with
  | zero => exact h
  | succ n ih => exact ih.drew

/-- What one period makes of a sighting: A is 'local' less the offset. -/
def cShown (sh A st en : Int) : Int := if st ≤ A ∧ A < en then A else sh
def cBy (b A st en i : Int) : Int := if st ≤ A ∧ A < en then i else b
def cBefore (bf A st en : Int) : Int := if st ≤ A ∧ A < en then bf else if en ≤ A then A else bf
def cShowed (sw : Bool) (A st en : Int) : Bool := if st ≤ A ∧ A < en then true else sw

set_option maxHeartbeats 1000000 in
theorem consider_world (l sh b bf : Int) (sw : Bool) (st en off i : Int) (w : World) :
    Calls Try.prog 10 #[.int .i64 l, .int .i64 sh, .int .i64 b, .int .i64 bf, .bool sw, .int .i64 st, .int .i64 en, .int .i64 off, .int .i64 i] w fun e w' =>
      e = .returned (.tuple #[.int .i64 l, .int .i64 (cShown sh (wrap64 (l - off)) st en), .int .i64 (cBy b (wrap64 (l - off)) st en i), .int .i64 (cBefore bf (wrap64 (l - off)) st en), .bool (cShowed sw (wrap64 (l - off)) st en)]) ∧ ∃ (c : Array Value) (n : Nat), w' = (w.alloc (.cells c 37)).drewN n := by
  obtain ⟨A, hA⟩ : ∃ A, wrap64 (l - off) = A := ⟨_, rfl⟩
  rw [hA]
  by_cases h : st ≤ A ∧ A < en
  · have e1 : cShown sh A st en = A := if_pos h
    have e2 : cBy b A st en i = i := if_pos h
    have e3 : cBefore bf A st en = bf := if_pos h
    have e4 : cShowed sw A st en = true := if_pos h
    rw [e1, e2, e3, e4]
    clear e1 e2 e3 e4
    obtain ⟨h1, h2⟩ := h
    go_enter Try.func10, Try.ntmps10
    go_wp2
    go_end0
    go_wp2
    go_quiet (fail)
    go_wp2
    exact bodyPost_ret (v := .tuple #[.int .i64 l, .int .i64 A, .int .i64 i, .int .i64 bf, .bool true]) (by simp [results, Try.results10, go_sem]) rfl ⟨rfl, _, _, rfl⟩
  · have e1 : cShown sh A st en = sh := if_neg h
    have e2 : cBy b A st en i = b := if_neg h
    have e4 : cShowed sw A st en = sw := if_neg h
    rw [e1, e2, e4]
    clear e1 e2 e4
    by_cases h3 : en ≤ A
    · have e3 : cBefore bf A st en = A := by unfold cBefore; rw [if_neg h, if_pos h3]
      rw [e3]
      clear e3 h
      by_cases h4 : st ≤ A
      · go_enter Try.func10, Try.ntmps10
        go_wp2
        go_end0
        go_wp2
        go_quiet (fail)
        go_wp2
        exact bodyPost_ret (v := .tuple #[.int .i64 l, .int .i64 sh, .int .i64 b, .int .i64 A, .bool sw]) (by simp [results, Try.results10, go_sem]) rfl ⟨rfl, _, _, rfl⟩
      · have h5 : decide (st ≤ A) = false := decide_eq_false h4
        clear h4
        go_enter Try.func10, Try.ntmps10
        go_wp2
        go_end0
        go_wp2
        go_quiet (fail)
        go_wp2
        exact bodyPost_ret (v := .tuple #[.int .i64 l, .int .i64 sh, .int .i64 b, .int .i64 A, .bool sw]) (by simp [results, Try.results10, go_sem]) rfl ⟨rfl, _, _, rfl⟩
    · have e3 : cBefore bf A st en = bf := by unfold cBefore; rw [if_neg h, if_neg h3]
      rw [e3]
      have h5 : decide (st ≤ A) = false := decide_eq_false (by omega)
      clear e3 h
      go_enter Try.func10, Try.ntmps10
      go_wp2
      go_end0
      go_wp2
      go_quiet (fail)
      go_wp2
      exact bodyPost_ret (v := .tuple #[.int .i64 l, .int .i64 sh, .int .i64 b, .int .i64 bf, .bool sw]) (by simp [results, Try.results10, go_sem]) rfl ⟨rfl, _, _, rfl⟩

theorem consider_any (l sh b bf : Int) (sw : Bool) (st en off i : Int) (w : World) :
    Calls Try.prog 10 #[.int .i64 l, .int .i64 sh, .int .i64 b, .int .i64 bf, .bool sw, .int .i64 st, .int .i64 en, .int .i64 off, .int .i64 i] w fun e w' =>
      e = .returned (.tuple #[.int .i64 l, .int .i64 (cShown sh (wrap64 (l - off)) st en), .int .i64 (cBy b (wrap64 (l - off)) st en i), .int .i64 (cBefore bf (wrap64 (l - off)) st en), .bool (cShowed sw (wrap64 (l - off)) st en)]) ∧ Grown w w' :=
  (consider_world l sh b bf sw st en off i w).mono fun e w' ⟨he, c, n, hw⟩ => ⟨he, by rw [hw]; exact grown_drewN ((Grown.refl _).alloc _ _) _⟩

/-- What a sighting answers. -/
def res (sw : Bool) (sh bf : Int) : Int := if sw then sh else bf
theorem res_true (sh bf : Int) : res true sh bf = sh := rfl
theorem res_false (sh bf : Int) : res false sh bf = bf := rfl

set_option maxHeartbeats 1000000 in
theorem result_world (l sh b bf : Int) (sw : Bool) (w : World) :
    Calls Try.prog 11 #[.int .i64 l, .int .i64 sh, .int .i64 b, .int .i64 bf, .bool sw] w fun e w' =>
      e = .returned (.int .i64 (res sw sh bf)) ∧ ∃ c : Array Value, w' = w.alloc (.cells c 37) := by
  cases sw
  · rw [res_false]
    go_enter Try.func11, Try.ntmps11
    go_wp2
    go_ret
    exact ⟨rfl, _, rfl⟩
  · rw [res_true]
    go_enter Try.func11, Try.ntmps11
    go_wp2
    go_ret
    exact ⟨rfl, _, rfl⟩

theorem result_any (l sh b bf : Int) (sw : Bool) (w : World) :
    Calls Try.prog 11 #[.int .i64 l, .int .i64 sh, .int .i64 b, .int .i64 bf, .bool sw] w fun e w' =>
      e = .returned (.int .i64 (res sw sh bf)) ∧ Grown w w' :=
  (result_world l sh b bf sw w).mono fun e w' ⟨he, c, hw⟩ => ⟨he, by rw [hw]; exact (Grown.refl _).alloc _ _⟩

/-! ### Three ways of one period: it shows, it has ended, it is yet to come -/
theorem consider_show (l sh b bf : Int) (sw : Bool) (st en off i A : Int) (hA : wrap64 (l - off) = A) (h1 : st ≤ A) (h2 : A < en) (w : World) :
    Calls Try.prog 10 #[.int .i64 l, .int .i64 sh, .int .i64 b, .int .i64 bf, .bool sw, .int .i64 st, .int .i64 en, .int .i64 off, .int .i64 i] w fun e w' =>
      e = .returned (.tuple #[.int .i64 l, .int .i64 A, .int .i64 i, .int .i64 bf, .bool true]) ∧ Grown w w' := by
  have h := consider_any l sh b bf sw st en off i w
  rw [hA] at h
  have e1 : cShown sh A st en = A := if_pos ⟨h1, h2⟩
  have e2 : cBy b A st en i = i := if_pos ⟨h1, h2⟩
  have e3 : cBefore bf A st en = bf := if_pos ⟨h1, h2⟩
  have e4 : cShowed sw A st en = true := if_pos ⟨h1, h2⟩
  rw [e1, e2, e3, e4] at h
  exact h
theorem consider_past (l sh b bf : Int) (sw : Bool) (st en off i A : Int) (hA : wrap64 (l - off) = A) (h2 : en ≤ A) (w : World) :
    Calls Try.prog 10 #[.int .i64 l, .int .i64 sh, .int .i64 b, .int .i64 bf, .bool sw, .int .i64 st, .int .i64 en, .int .i64 off, .int .i64 i] w fun e w' =>
      e = .returned (.tuple #[.int .i64 l, .int .i64 sh, .int .i64 b, .int .i64 A, .bool sw]) ∧ Grown w w' := by
  have h := consider_any l sh b bf sw st en off i w
  rw [hA] at h
  have h3 : ¬ (st ≤ A ∧ A < en) := by omega
  have e1 : cShown sh A st en = sh := if_neg h3
  have e2 : cBy b A st en i = b := if_neg h3
  have e3 : cBefore bf A st en = A := by unfold cBefore; rw [if_neg h3, if_pos h2]
  have e4 : cShowed sw A st en = sw := if_neg h3
  rw [e1, e2, e3, e4] at h
  exact h
theorem consider_yet (l sh b bf : Int) (sw : Bool) (st en off i A : Int) (hA : wrap64 (l - off) = A) (h1 : A < st) (h2 : A < en) (w : World) :
    Calls Try.prog 10 #[.int .i64 l, .int .i64 sh, .int .i64 b, .int .i64 bf, .bool sw, .int .i64 st, .int .i64 en, .int .i64 off, .int .i64 i] w fun e w' =>
      e = .returned (.tuple #[.int .i64 l, .int .i64 sh, .int .i64 b, .int .i64 bf, .bool sw]) ∧ Grown w w' := by
  have h := consider_any l sh b bf sw st en off i w
  rw [hA] at h
  have h3 : ¬ (st ≤ A ∧ A < en) := by omega
  have e1 : cShown sh A st en = sh := if_neg h3
  have e2 : cBy b A st en i = b := if_neg h3
  have e3 : cBefore bf A st en = bf := by unfold cBefore; rw [if_neg h3, if_neg (by omega)]
  have e4 : cShowed sw A st en = sw := if_neg h3
  rw [e1, e2, e3, e4] at h
  exact h

end Go.Proofs.Qxb6619770a
