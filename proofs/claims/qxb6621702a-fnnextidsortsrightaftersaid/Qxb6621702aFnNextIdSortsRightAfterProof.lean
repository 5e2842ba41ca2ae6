/-
  'Rows.FnNextIdSortsRightAfterSaid': the frame by the kit's program (proof-skeleton.mjs), the walk by hand; the callees' contracts: Qxb6621702aNext.lean, Qxb6621702aEnc.lean.
-/
import Derived.Test.Qxb6621702aRows
import Derived.Test.Qxb6621702aEnc
import Derived.WalkKit
import Derived.ProofKit
import Derived.OpenShut
import Derived.ShutString
namespace Go.Proofs.Qxb6621702a.fnNextIdSortsRightAfter
open Go.ChangeShapes Go.WideShapes Go.ChangeAt Go.RowKit
open Go.ChangeMaps (open_string shut_string)
set_option linter.unusedVariables false      -- a walk need not use every 'w<i>' (that an integer argument fits its kind)

theorem own : ownKnob Try.prog.godebug = none := by kernel_rfl

theorem bd {a : Int} (h : (Lit.int .u64 a).wf = true) : 0 ≤ a ∧ a < 18446744073709551616 := by
  have := bounds_u64 h
  exact ⟨by omega, by omega⟩

/-! ### THE PLAIN LAW -/
theorem next_val (hi lo : Int) (h0 : 0 ≤ hi) (h1 : hi < 18446744073709551616) (l0 : 0 ≤ lo) (l1 : lo < 18446744073709551616)
    (hn : ¬ (hi = 18446744073709551615 ∧ lo = 18446744073709551615)) : val (nhi hi lo) (nlo lo) = val hi lo + 1 := by
  have := next_cases hi lo h0 (by omega) l0 (by omega) hn
  unfold val
  omega
theorem cmp_zero (hi lo : Int) {u : Int} (hm : hi = 18446744073709551615 ∧ lo = 18446744073709551615) (hu : 0 ≤ u) : cmpV (val (nhi hi lo) (nlo lo)) u ≤ 0 := by
  obtain ⟨rfl, rfl⟩ := hm
  have e : val (nhi 18446744073709551615 18446744073709551615) (nlo 18446744073709551615) = 0 := by rw [next_max.1, next_max.2]; rfl
  rw [e]
  unfold cmpV
  split
  · decide
  · split <;> omega
theorem cmp_next (v : Int) : cmpV v (v + 1) < 0 := by
  unfold cmpV
  rw [if_pos (by omega)]
  decide
theorem cmp_none (v u : Int) : cmpV v u < 0 → ¬ cmpV u (v + 1) < 0 := by
  unfold cmpV
  repeat' split
  all_goals omega

/-! ### STEP 1: THE WALK: the Go text returns true -/
set_option maxHeartbeats 2000000 in
theorem walk (a0 : Int) (a1 : Int) (a2 : Int) (a3 : Int) (w0 : (Lit.int .u64 a0).wf = true) (w1 : (Lit.int .u64 a1).wf = true) (w2 : (Lit.int .u64 a2).wf = true) (w3 : (Lit.int .u64 a3).wf = true) (w : World) :
    Calls Try.prog 7 #[.int .u64 a0, .int .u64 a1, .int .u64 a2, .int .u64 a3] w fun e w' => e = .returned (.bool true) ∧ Grown w w' := by
  obtain ⟨p0, p1⟩ := bd w0
  obtain ⟨q0, q1⟩ := bd w1
  obtain ⟨r0, r1⟩ := bd w2
  obtain ⟨m0, m1⟩ := bd w3
  clear w0 w1 w2 w3
  obtain ⟨x0, x1', y0, y1'⟩ := next_bounds a0 a1 p0 (by omega)
  have x1 : nhi a0 a1 < 18446744073709551616 := by omega
  have y1 : nlo a1 < 18446744073709551616 := by omega
  clear x1' y1'
  have s1 := encStr_size (val a0 a1)
  have s2 := encStr_size (val (nhi a0 a1) (nlo a1))
  have b1 := val_bd a0 a1 p0 p1 q0 q1
  have b2 := val_bd a2 a3 r0 r1 m0 m1
  have b3 := val_bd (nhi a0 a1) (nlo a1) x0 x1 y0 y1
  by_cases hm : a0 = 18446744073709551615 ∧ a1 = 18446744073709551615
  · have c1 : cmpV (val (nhi a0 a1) (nlo a1)) (val a2 a3) ≤ 0 := cmp_zero _ _ hm b2.1
    have t1 : (a0 == 18446744073709551615) = true := by simpa using hm.1
    have t2 : (a1 == 18446744073709551615) = true := by simpa using hm.2
    clear hm
    go_enter Try.func7, Try.ntmps7
    go_wp2_with fail
    refine (zznext_any a0 a1 _).mono ?_
    rintro e w1 ⟨rfl, g1⟩
    go_wp2_with fail
    refine (zzencode_any a0 a1 p0 p1 q0 q1 _).mono ?_
    rintro e w2 ⟨rfl, g2⟩
    go_wp2_with fail
    refine (zzencode_any (nhi a0 a1) (nlo a1) x0 x1 y0 y1 _).mono ?_
    rintro e w3 ⟨rfl, g3⟩
    go_wp2_with fail
    refine (zzencode_any a2 a3 r0 r1 m0 m1 _).mono ?_
    rintro e w4 ⟨rfl, g4⟩
    go_wp2_with fail
    refine (cmpstr_any (val (nhi a0 a1) (nlo a1)) (val a2 a3) b3.1 b3.2 b2.1 b2.2 _).mono ?_
    rintro e w5 ⟨rfl, n, rfl⟩
    go_wp2
    go_ret
    exact ⟨rfl, grown_drewN (grown_trans g1 (grown_trans g2 (grown_trans g3 g4))) n⟩
  · have hv := next_val a0 a1 p0 p1 q0 q1 hm
    have c1 : cmpV (val a0 a1) (val (nhi a0 a1) (nlo a1)) < 0 := by rw [hv]; exact cmp_next _
    have c2 : cmpV (val a0 a1) (val a2 a3) < 0 → ¬ cmpV (val a2 a3) (val (nhi a0 a1) (nlo a1)) < 0 := by rw [hv]; exact cmp_none _ _
    clear hv
    have ht : ((a0 == 18446744073709551615) = true ∧ (a1 == 18446744073709551615) = false) ∨ (a0 == 18446744073709551615) = false := by
      by_cases h : a0 = 18446744073709551615
      · exact Or.inl ⟨by simpa using h, by simp; omega⟩
      · exact Or.inr (by simpa using h)
    clear hm
    by_cases c3 : cmpV (val a0 a1) (val a2 a3) < 0
    · have c4 : decide (cmpV (val a2 a3) (val (nhi a0 a1) (nlo a1)) < 0) = false := decide_eq_false (c2 c3)
      clear c2
      rcases ht with ⟨t1, t2⟩ | t1
      · go_enter Try.func7, Try.ntmps7
        go_wp2_with fail
        refine (zznext_any a0 a1 _).mono ?_
        rintro e w1 ⟨rfl, g1⟩
        go_wp2_with fail
        refine (zzencode_any a0 a1 p0 p1 q0 q1 _).mono ?_
        rintro e w2 ⟨rfl, g2⟩
        go_wp2_with fail
        refine (zzencode_any (nhi a0 a1) (nlo a1) x0 x1 y0 y1 _).mono ?_
        rintro e w3 ⟨rfl, g3⟩
        go_wp2_with fail
        refine (zzencode_any a2 a3 r0 r1 m0 m1 _).mono ?_
        rintro e w4 ⟨rfl, g4⟩
        go_wp2_with fail
        refine (cmpstr_any (val a0 a1) (val (nhi a0 a1) (nlo a1)) b1.1 b1.2 b3.1 b3.2 _).mono ?_
        rintro e w5 ⟨rfl, n, rfl⟩
        go_wp2_with fail
        refine (cmpstr_any (val a0 a1) (val a2 a3) b1.1 b1.2 b2.1 b2.2 _).mono ?_
        rintro e w6 ⟨rfl, n2, rfl⟩
        go_wp2_with fail
        refine (cmpstr_any (val a2 a3) (val (nhi a0 a1) (nlo a1)) b2.1 b2.2 b3.1 b3.2 _).mono ?_
        rintro e w7 ⟨rfl, n3, rfl⟩
        go_wp2
        go_ret
        exact ⟨rfl, grown_drewN (grown_drewN (grown_drewN (grown_trans g1 (grown_trans g2 (grown_trans g3 g4))) n) n2) n3⟩
      · go_enter Try.func7, Try.ntmps7
        go_wp2_with fail
        refine (zznext_any a0 a1 _).mono ?_
        rintro e w1 ⟨rfl, g1⟩
        go_wp2_with fail
        refine (zzencode_any a0 a1 p0 p1 q0 q1 _).mono ?_
        rintro e w2 ⟨rfl, g2⟩
        go_wp2_with fail
        refine (zzencode_any (nhi a0 a1) (nlo a1) x0 x1 y0 y1 _).mono ?_
        rintro e w3 ⟨rfl, g3⟩
        go_wp2_with fail
        refine (zzencode_any a2 a3 r0 r1 m0 m1 _).mono ?_
        rintro e w4 ⟨rfl, g4⟩
        go_wp2_with fail
        refine (cmpstr_any (val a0 a1) (val (nhi a0 a1) (nlo a1)) b1.1 b1.2 b3.1 b3.2 _).mono ?_
        rintro e w5 ⟨rfl, n, rfl⟩
        go_wp2_with fail
        refine (cmpstr_any (val a0 a1) (val a2 a3) b1.1 b1.2 b2.1 b2.2 _).mono ?_
        rintro e w6 ⟨rfl, n2, rfl⟩
        go_wp2_with fail
        refine (cmpstr_any (val a2 a3) (val (nhi a0 a1) (nlo a1)) b2.1 b2.2 b3.1 b3.2 _).mono ?_
        rintro e w7 ⟨rfl, n3, rfl⟩
        go_wp2
        go_ret
        exact ⟨rfl, grown_drewN (grown_drewN (grown_drewN (grown_trans g1 (grown_trans g2 (grown_trans g3 g4))) n) n2) n3⟩
    · have c4 : decide (cmpV (val a0 a1) (val a2 a3) < 0) = false := by simpa using c3
      clear c2
      rcases ht with ⟨t1, t2⟩ | t1
      · go_enter Try.func7, Try.ntmps7
        go_wp2_with fail
        refine (zznext_any a0 a1 _).mono ?_
        rintro e w1 ⟨rfl, g1⟩
        go_wp2_with fail
        refine (zzencode_any a0 a1 p0 p1 q0 q1 _).mono ?_
        rintro e w2 ⟨rfl, g2⟩
        go_wp2_with fail
        refine (zzencode_any (nhi a0 a1) (nlo a1) x0 x1 y0 y1 _).mono ?_
        rintro e w3 ⟨rfl, g3⟩
        go_wp2_with fail
        refine (zzencode_any a2 a3 r0 r1 m0 m1 _).mono ?_
        rintro e w4 ⟨rfl, g4⟩
        go_wp2_with fail
        refine (cmpstr_any (val a0 a1) (val (nhi a0 a1) (nlo a1)) b1.1 b1.2 b3.1 b3.2 _).mono ?_
        rintro e w5 ⟨rfl, n, rfl⟩
        go_wp2_with fail
        refine (cmpstr_any (val a0 a1) (val a2 a3) b1.1 b1.2 b2.1 b2.2 _).mono ?_
        rintro e w6 ⟨rfl, n2, rfl⟩
        go_wp2
        go_ret
        exact ⟨rfl, grown_drewN (grown_drewN (grown_trans g1 (grown_trans g2 (grown_trans g3 g4))) n) n2⟩
      · go_enter Try.func7, Try.ntmps7
        go_wp2_with fail
        refine (zznext_any a0 a1 _).mono ?_
        rintro e w1 ⟨rfl, g1⟩
        go_wp2_with fail
        refine (zzencode_any a0 a1 p0 p1 q0 q1 _).mono ?_
        rintro e w2 ⟨rfl, g2⟩
        go_wp2_with fail
        refine (zzencode_any (nhi a0 a1) (nlo a1) x0 x1 y0 y1 _).mono ?_
        rintro e w3 ⟨rfl, g3⟩
        go_wp2_with fail
        refine (zzencode_any a2 a3 r0 r1 m0 m1 _).mono ?_
        rintro e w4 ⟨rfl, g4⟩
        go_wp2_with fail
        refine (cmpstr_any (val a0 a1) (val (nhi a0 a1) (nlo a1)) b1.1 b1.2 b3.1 b3.2 _).mono ?_
        rintro e w5 ⟨rfl, n, rfl⟩
        go_wp2_with fail
        refine (cmpstr_any (val a0 a1) (val a2 a3) b1.1 b1.2 b2.1 b2.2 _).mono ?_
        rintro e w6 ⟨rfl, n2, rfl⟩
        go_wp2
        go_ret
        exact ⟨rfl, grown_drewN (grown_drewN (grown_trans g1 (grown_trans g2 (grown_trans g3 g4))) n) n2⟩

/-! ### THE ROW's STEP: WRITTEN OUT: LEAVE IT -/
set_option maxRecDepth 100000 in
theorem lifted (os : Os) (started : os.Started) (H : Type) (enc : TypeId × Value → H) :
    ReturnsInHanded {} Try.checked os 7 .any (Rows.fnNextIdSortsRightAfterSpec.pre6 enc Try.prog Try.f7 Rows.fnNextIdSortsRightAfterRow.domain false) (Rows.fnNextIdSortsRightAfterSpec.post enc Try.prog Try.f7 false true false false) := by
  refine returnsInHanded_of_change (C := Try.checked) own started (by kernel_rfl) Try.func7
    (ChangeSpec.witness6 (enc := enc) (C := Try.checked) false ⟨#[], #[.int .u64 0, .int .u64 0, .int .u64 0, .int .u64 0], []⟩ 8 (by kernel_rfl) (by kernel_rfl) (by kernel_rfl) (by kernel_rfl)) ?_
  intro W base args ds gs before hval0 hW hcnd _
  have hval : ∀ (j : Nat) t v, Try.f7.params[j]? = some t → args[j]? = some v → Value.okWide Try.prog W .any base t v := hval0
  have hW' := hW
  obtain ⟨p, q, hA0, hV, rfl, hfz, hnd⟩ := hW
  have hA : DataW.TrodAll enc Try.prog W 0 (fun _ => true) true Try.f7.params.toList args.toList ds p := hA0
  rw [Try.params7] at hA hval
  obtain ⟨v0, vs0, d0, ds0, p0, q0, hargs, rfl, rfl, h0, r0⟩ := trodAll_cons hA
  obtain ⟨v1, vs1, d1, ds1, p1, q1, rfl, rfl, rfl, h1, r1⟩ := trodAll_cons r0
  obtain ⟨v2, vs2, d2, ds2, p2, q2, rfl, rfl, rfl, h2, r2⟩ := trodAll_cons r1
  obtain ⟨v3, vs3, d3, ds3, p3, q3, rfl, rfl, rfl, h3, r3⟩ := trodAll_cons r2
  obtain ⟨rfl, rfl, rfl⟩ := trodAll_nil r3
  obtain rfl : args = #[v0, v1, v2, v3] := by cases args; simp_all
  obtain ⟨rfl, rfl⟩ := trodVars_none hV
  obtain ⟨a0, rfl, rfl, rfl, w0⟩ := open_int Try.underlying22 (hval 0 22 v0 rfl rfl) h0
  obtain ⟨a1, rfl, rfl, rfl, w1⟩ := open_int Try.underlying22 (hval 1 22 v1 rfl rfl) h1
  obtain ⟨a2, rfl, rfl, rfl, w2⟩ := open_int Try.underlying22 (hval 2 22 v2 rfl rfl) h2
  obtain ⟨a3, rfl, rfl, rfl, w3⟩ := open_int Try.underlying22 (hval 3 22 v3 rfl rfl) h3
  clear hA0 hval0
  simp only [List.append_nil] at hW'
  refine (walk a0 a1 a2 a3 w0 w1 w2 w3 W).mono fun e W' ⟨he, hg⟩ => ?_
  subst he
  exact ⟨_, rfl, post_of_same (pa := []) (pv := []) hW' (fun _ _ _ => (trodAll_cons_mk (shut_bool Try.underlying4 _) trodAll_mk0)) (fun sp _ => (trodAll_cons_mk (shut_int Try.underlying22 w0) (trodAll_cons_mk (shut_int Try.underlying22 w1) (trodAll_cons_mk (shut_int Try.underlying22 w2) (trodAll_cons_mk (shut_int Try.underlying22 w3) trodAll_mk0))))) (fun _ _ => rfl) rfl
    (hg.frame _) hg.2.1 (ok_one (by kernel_rfl) rfl (okWide_bool_mk Try.underlying4 _))⟩

theorem over : Rows.fnNextIdSortsRightAfterRow.holds Try.pinned (OpenSpec.ofChange Rows.fnNextIdSortsRightAfterSpec) :=
  OpenClaim.holds_of_wide 7 Try.f7 rfl rfl rfl rfl rfl rfl rfl ⟨rfl, rfl, rfl, rfl, rfl⟩ rfl rfl rfl rfl rfl (by kernel_rfl) Try.func7 (by kernel_rfl)
    (of_decide_eq_true (by kernel_rfl)) (by unfold Func.isWrapper; first | (rw [if_pos (by decide +kernel)]; kernel_rfl) | (rw [if_neg (by decide +kernel)]; exact ⟨rfl, rfl⟩))
    (fun os started H enc _ => lifted os started H enc)

/-- ████ THE STATEMENT ████ -/
theorem proved : Rows.FnNextIdSortsRightAfterSaid :=
  over
#print axioms proved
end Go.Proofs.Qxb6621702a.fnNextIdSortsRightAfter
