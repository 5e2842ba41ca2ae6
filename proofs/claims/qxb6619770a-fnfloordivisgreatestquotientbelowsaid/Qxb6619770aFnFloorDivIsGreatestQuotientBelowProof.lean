/-
  'Rows.FnFloorDivIsGreatestQuotientBelowSaid': the frame by the kit's program (proof-skeleton.mjs), the walk by hand; the callees' contracts: Qxb6619770aDiv.lean, Qxb6619770aMul.lean.
-/
import Derived.Test.Qxb6619770aRows
import Derived.Test.Qxb6619770aMul
import Derived.WalkKit
import Derived.ProofKit
import Derived.OpenShut
import Derived.ShutString
namespace Go.Proofs.Qxb6619770a.fnFloorDivIsGreatestQuotientBelow
open Go.ChangeShapes Go.WideShapes Go.ChangeAt Go.RowKit
open Go.ChangeMaps (open_string shut_string)
set_option linter.unusedVariables false      -- a walk need not use every 'w<i>' (that an integer argument fits its kind)

theorem own : ownKnob Try.prog.godebug = none := by kernel_rfl

/-! ### STEP 1: THE WALK: the Go text returns true -/
set_option maxHeartbeats 1000000 in
theorem walk (a0 : Int) (a1 : Int) (w0 : (Lit.int .i64 a0).wf = true) (w1 : (Lit.int .i64 a1).wf = true) (w : World) :
    Calls Try.prog 3 #[.int .i64 a0, .int .i64 a1] w fun e w' => e = .returned (.bool true) ∧ Grown w w' := by
  obtain ⟨p0, p1⟩ := bounds_i64 w0
  obtain ⟨q0, q1⟩ := bounds_i64 w1
  clear w0 w1
  by_cases hb : a1 ≤ 0
  · go_enter Try.func3, Try.ntmps3
    go_wp2_with fail
    go_ret
    exact ⟨rfl, Grown.refl _⟩
  · have hb' : 0 < a1 := by omega
    clear hb
    obtain ⟨f0, f1⟩ := fd_bd a0 a1 hb' p0 p1
    have e1 : leB (fd a0 a1) a1 a0 = true := decide_eq_true (fd_spec a0 a1 hb').1
    by_cases hq : fd a0 a1 = 9223372036854775807
    · have hq' : (fd a0 a1 == 9223372036854775807) = true := by simpa using hq
      clear hq
      go_enter Try.func3, Try.ntmps3
      go_wp2_with fail
      refine (zzfloordiv_any a0 a1 hb' p0 p1 _).mono ?_
      rintro e w2 ⟨rfl, rfl⟩
      go_wp2_with fail
      refine (mulle_any (fd a0 a1) a1 a0 f0 f1 hb' q1 p0 p1 _).mono ?_
      rintro e w3 ⟨rfl, rfl⟩
      go_wp2
      go_ret
      exact ⟨rfl, Grown.refl _⟩
    · have hq' : (fd a0 a1 == 9223372036854775807) = false := by simpa using hq
      have f2 : fd a0 a1 + 1 ≤ 9223372036854775807 := by omega
      clear hq
      have e2 : leB (fd a0 a1 + 1) a1 a0 = false := decide_eq_false (by have := (fd_spec a0 a1 hb').2; omega)
      go_enter Try.func3, Try.ntmps3
      go_wp2_with fail
      refine (zzfloordiv_any a0 a1 hb' p0 p1 _).mono ?_
      rintro e w2 ⟨rfl, rfl⟩
      go_wp2_with fail
      refine (mulle_any (fd a0 a1) a1 a0 f0 f1 hb' q1 p0 p1 _).mono ?_
      rintro e w3 ⟨rfl, rfl⟩
      go_wp2_with fail
      refine (mulle_any (fd a0 a1 + 1) a1 a0 (by omega) f2 hb' q1 p0 p1 _).mono ?_
      rintro e w4 ⟨rfl, rfl⟩
      go_wp2
      go_ret
      exact ⟨rfl, Grown.refl _⟩

/-! ### THE ROW's STEP: WRITTEN OUT: LEAVE IT -/
set_option maxRecDepth 100000 in
theorem lifted (os : Os) (started : os.Started) (H : Type) (enc : TypeId × Value → H) :
    ReturnsInHanded {} Try.checked os 3 .any (Rows.fnFloorDivIsGreatestQuotientBelowSpec.pre6 enc Try.prog Try.f3 Rows.fnFloorDivIsGreatestQuotientBelowRow.domain false) (Rows.fnFloorDivIsGreatestQuotientBelowSpec.post enc Try.prog Try.f3 false true false false) := by
  refine returnsInHanded_of_change (C := Try.checked) own started (by kernel_rfl) Try.func3
    (ChangeSpec.witness6 (enc := enc) (C := Try.checked) false ⟨#[], #[.int .i64 0, .int .i64 0], []⟩ 8 (by kernel_rfl) (by kernel_rfl) (by kernel_rfl) (by kernel_rfl)) ?_
  intro W base args ds gs before hval0 hW hcnd _
  have hval : ∀ (j : Nat) t v, Try.f3.params[j]? = some t → args[j]? = some v → Value.okWide Try.prog W .any base t v := hval0
  have hW' := hW
  obtain ⟨p, q, hA0, hV, rfl, hfz, hnd⟩ := hW
  have hA : DataW.TrodAll enc Try.prog W 0 (fun _ => true) true Try.f3.params.toList args.toList ds p := hA0
  rw [Try.params3] at hA hval
  obtain ⟨v0, vs0, d0, ds0, p0, q0, hargs, rfl, rfl, h0, r0⟩ := trodAll_cons hA
  obtain ⟨v1, vs1, d1, ds1, p1, q1, rfl, rfl, rfl, h1, r1⟩ := trodAll_cons r0
  obtain ⟨rfl, rfl, rfl⟩ := trodAll_nil r1
  obtain rfl : args = #[v0, v1] := by cases args; simp_all
  obtain ⟨rfl, rfl⟩ := trodVars_none hV
  obtain ⟨a0, rfl, rfl, rfl, w0⟩ := open_int Try.underlying2 (hval 0 2 v0 rfl rfl) h0
  obtain ⟨a1, rfl, rfl, rfl, w1⟩ := open_int Try.underlying2 (hval 1 2 v1 rfl rfl) h1
  clear hA0 hval0
  simp only [List.append_nil] at hW'
  refine (walk a0 a1 w0 w1 W).mono fun e W' ⟨he, hg⟩ => ?_
  subst he
  exact ⟨_, rfl, post_of_same (pa := []) (pv := []) hW' (fun _ _ _ => (trodAll_cons_mk (shut_bool Try.underlying4 _) trodAll_mk0)) (fun sp _ => (trodAll_cons_mk (shut_int Try.underlying2 w0) (trodAll_cons_mk (shut_int Try.underlying2 w1) trodAll_mk0))) (fun _ _ => rfl) rfl
    (hg.frame _) hg.2.1 (ok_one (by kernel_rfl) rfl (okWide_bool_mk Try.underlying4 _))⟩

theorem over : Rows.fnFloorDivIsGreatestQuotientBelowRow.holds Try.pinned (OpenSpec.ofChange Rows.fnFloorDivIsGreatestQuotientBelowSpec) :=
  OpenClaim.holds_of_wide 3 Try.f3 rfl rfl rfl rfl rfl rfl rfl ⟨rfl, rfl, rfl, rfl, rfl⟩ rfl rfl rfl rfl rfl (by kernel_rfl) Try.func3 (by kernel_rfl)
    (of_decide_eq_true (by kernel_rfl)) (by unfold Func.isWrapper; first | (rw [if_pos (by decide +kernel)]; kernel_rfl) | (rw [if_neg (by decide +kernel)]; exact ⟨rfl, rfl⟩))
    (fun os started H enc _ => lifted os started H enc)

/-- ████ THE STATEMENT ████ -/
theorem proved : Rows.FnFloorDivIsGreatestQuotientBelowSaid :=
  over
#print axioms proved
end Go.Proofs.Qxb6619770a.fnFloorDivIsGreatestQuotientBelow
