/-
  'Rows.FnSightingOverOrderedPeriodsReadsLatestShowingSaid': the frame after the kit's program (proof-skeleton.mjs, its form for a slice of integers), turned by hand to a slice of structs of four integers; the walks: Qxb6619770aOver.lean, Qxb6619770aOverNone.lean; the callees' contracts: Qxb6619770aSight.lean.
-/
import Derived.Test.Qxb6619770aRows
import Derived.Test.Qxb6619770aOverNone
import Derived.WalkKit
import Derived.ProofKit
import Derived.OpenShut
import Derived.ShutString
import Derived.ChangeOld
import Derived.Below
import Derived.Deep.Slices
import Derived.Lib.SmallJoins
namespace Go.Proofs.Qxb6619770a.fnSightingOverOrderedPeriodsReadsLatestShowing
open Go.ChangeShapes Go.WideShapes Go.ChangeAt Go.RowKit
open Go.ChangeMaps (open_string shut_string)
set_option linter.unusedVariables false

theorem own : ownKnob Try.prog.godebug = none := by kernel_rfl
theorem laidOut : laidOutB Try.prog = true := by kernel_rfl

theorem cells28 : Try.prog.cellsOf 28 = 4 := by kernel_rfl
theorem cells2 : Try.prog.cellsOf 2 = 1 := by kernel_rfl
theorem cells3 : Try.prog.cellsOf 3 = 1 := by kernel_rfl

/-- What the walk is told of the slice that came in: it is empty (nil too), or its elements' four cells hold integers. -/
def IsPeriods (w : World) (a : Option Addr) (len : Nat) : Prop :=
  len = 0 ∨ ∃ (b off : Nat) (S E O I : Nat → Int), a = some ⟨b, off, none⟩ ∧ Lie w b off len S E O I

theorem open_periods {H : Type} {enc : TypeId × Value → H} {W : World} {fuel : Nat} {a : Option Addr} {len cap : Nat} {x : DataW H × List MemPlace}
    (hf : DataW.trod enc Try.prog W 0 (fun _ => true) true fuel 25 [.slice a len cap] = some x) : IsPeriods W a len := by
  rcases Deep.open_slice Try.underlying25 hf with ⟨hcs, _⟩ | ⟨y, l, c, m, n, D, Pl, hcs, _, hl, _, hm, _, hx⟩
  · simp at hcs
    exact .inl hcs.2.1
  · simp at hcs
    obtain ⟨rfl, rfl, rfl⟩ := hcs
    simp only [if_true] at hm
    subst hm
    by_cases h0 : len = 0
    · exact .inl h0
    right
    rw [cells28] at hx
    have each : ∀ i, i < len → ∃ q : Int × Int × Int × Int, W.cell? (y.add (i * 4)) = some (.int .i64 q.1) ∧ W.cell? (y.add (i * 4 + 1)) = some (.int .i64 q.2.1) ∧
        W.cell? (y.add (i * 4 + 2)) = some (.int .i64 q.2.2.1) ∧ W.cell? (y.add (i * 4 + 3)) = some (.int .i64 q.2.2.2) := by
      intro i hi
      obtain ⟨cs', h1, h2⟩ := hx i (by omega)
      obtain ⟨_, hlen, hcell⟩ := World.cells?_some h1
      obtain ⟨y0, y1, y2, y3, k, _, _, g0, g1, g2, g3⟩ := Joins.trod_struct4 Try.underlying28 h2
      match cs', hlen with
      | [v0, v1, v2, v3], _ =>
        simp [cells2, cells3] at g0 g1 g2 g3
        obtain ⟨n0, e0, _, _⟩ := DataW.trod_int Try.underlying2 g0
        obtain ⟨n1, e1, _, _⟩ := DataW.trod_int Try.underlying2 g1
        obtain ⟨n2, e2, _, _⟩ := DataW.trod_int Try.underlying3 g2
        obtain ⟨n3, e3, _, _⟩ := DataW.trod_int Try.underlying3 g3
        simp at e0 e1 e2 e3
        subst e0 e1 e2 e3
        have k0 := hcell 0 (by omega)
        have k1 := hcell 1 (by omega)
        have k2 := hcell 2 (by omega)
        have k3 := hcell 3 (by omega)
        rw [Deep.add_add] at k0 k1 k2 k3
        exact ⟨(n0, n1, n2, n3), by simpa using k0, by simpa using k1, by simpa using k2, by simpa using k3⟩
    obtain ⟨q, hq⟩ := Deep.choose_lt each
    obtain ⟨b, off, spot⟩ := y
    have hspot : spot = none := by
      have := World.cell?_spot (hq 0 (by omega)).1
      simpa [Addr.add] using this
    subst hspot
    refine ⟨b, off, fun i => (q i).1, fun i => (q i).2.1, fun i => (q i).2.2.1, fun i => (q i).2.2.2, rfl, fun i hi => ?_⟩
    have := hq i hi
    rw [add_plain, add_plain, add_plain, add_plain] at this
    exact this

/-! ### STEP 1: THE WALK: the Go text returns true, and writes nothing that was there -/
theorem walk (a0 : Int) (a1 : Int) (a2 : Int) (a3 : Int) (a4 : Bool) (a5 : Option Addr) (len5 cap5 : Nat) (w : World) (w5 : IsPeriods w a5 len5) :
    Calls Try.prog 5 #[.int .i64 a0, .int .i64 a1, .int .i64 a2, .int .i64 a3, .bool a4, .slice a5 len5 cap5] w fun e w' => e = .returned (.bool true) ∧ Below w.heap.size w w' := by
  by_cases hl : 32768 < len5
  · exact over_long a0 a1 a2 a3 a4 a5 len5 cap5 hl w
  · rcases w5 with rfl | ⟨b, off, S, E, O, I, rfl, hL⟩
    · exact over_none a0 a1 a2 a3 a4 a5 cap5 w
    · exact over_walk a0 a1 a2 a3 a4 b off len5 cap5 S E O I (fun i => wrap64 (a0 - O i)) (fun _ => rfl) (by omega) w hL

/-! ### THE ROW's STEP: WRITTEN OUT: LEAVE IT -/
set_option maxRecDepth 100000 in
theorem lifted (os : Os) (started : os.Started) (H : Type) (enc : TypeId × Value → H) :
    ReturnsInHanded {} Try.checked os 5 .any (Rows.fnSightingOverOrderedPeriodsReadsLatestShowingSpec.pre6 enc Try.prog Try.f5 Rows.fnSightingOverOrderedPeriodsReadsLatestShowingRow.domain false) (Rows.fnSightingOverOrderedPeriodsReadsLatestShowingSpec.post enc Try.prog Try.f5 false true false false) := by
  refine returnsInHanded_of_change (C := Try.checked) own started (by kernel_rfl) Try.func5
    (ChangeSpec.witness6 (enc := enc) (C := Try.checked) false ⟨#[], #[.int .i64 0, .int .i64 0, .int .i64 0, .int .i64 0, .bool false, .slice none 0 0], []⟩ 8 (by kernel_rfl) (by kernel_rfl) (by kernel_rfl) (by kernel_rfl)) ?_
  intro W base args ds gs before hval0 hW hcnd _
  have hval : ∀ (j : Nat) t v, Try.f5.params[j]? = some t → args[j]? = some v → Value.okWide Try.prog W .any base t v := hval0
  have hW' := hW
  obtain ⟨p, q, hA0, hV, rfl, hfz, hnd⟩ := hW
  have hA : DataW.TrodAll enc Try.prog W 0 (fun _ => true) true Try.f5.params.toList args.toList ds p := hA0
  rw [Try.params5] at hA hval
  obtain ⟨v0, vs0, d0, ds0, p0, q0, hargs, rfl, rfl, h0, r0⟩ := trodAll_cons hA
  obtain ⟨v1, vs1, d1, ds1, p1, q1, rfl, rfl, rfl, h1, r1⟩ := trodAll_cons r0
  obtain ⟨v2, vs2, d2, ds2, p2, q2, rfl, rfl, rfl, h2, r2⟩ := trodAll_cons r1
  obtain ⟨v3, vs3, d3, ds3, p3, q3, rfl, rfl, rfl, h3, r3⟩ := trodAll_cons r2
  obtain ⟨v4, vs4, d4, ds4, p4, q4, rfl, rfl, rfl, h4, r4⟩ := trodAll_cons r3
  obtain ⟨v5, vs5, d5, ds5, p5, q5, rfl, rfl, rfl, h5, r5⟩ := trodAll_cons r4
  obtain ⟨rfl, rfl, rfl⟩ := trodAll_nil r5
  obtain rfl : args = #[v0, v1, v2, v3, v4, v5] := by cases args; simp_all
  obtain ⟨rfl, rfl⟩ := trodVars_none hV
  obtain ⟨a0, rfl, rfl, rfl, w0⟩ := open_int Try.underlying2 (hval 0 2 v0 rfl rfl) h0
  obtain ⟨a1, rfl, rfl, rfl, w1⟩ := open_int Try.underlying2 (hval 1 2 v1 rfl rfl) h1
  obtain ⟨a2, rfl, rfl, rfl, w2⟩ := open_int Try.underlying3 (hval 2 3 v2 rfl rfl) h2
  obtain ⟨a3, rfl, rfl, rfl, w3⟩ := open_int Try.underlying2 (hval 3 2 v3 rfl rfl) h3
  obtain ⟨a4, rfl, rfl, rfl⟩ := open_bool Try.underlying4 (hval 4 4 v4 rfl rfl) h4
  obtain ⟨a5, len5, cap5, rfl⟩ := okWide_slice Try.underlying25 (hval 5 25 v5 rfl rfl)
  have k5 := h5
  have lt5 : ∀ x ∈ p5, x.block < W.heap.size := by obtain ⟨m, hm⟩ := k5; exact DataW.trod_lt m _ _ _ hm
  have w5 : IsPeriods W a5 len5 := by
    obtain ⟨fuel, hf⟩ := h5
    exact open_periods (by simpa [Value.cells] using hf)
  clear hA0 hval0
  refine (walk a0 a1 a2 a3 a4 a5 len5 cap5 W w5).mono fun e W' ⟨he, bel⟩ => ?_
  subst he
  exact ⟨_, rfl, _, _, _, [], _, [], hW', trodAll_mk1 (shut_bool Try.underlying4 _), (trodAll_cons_mk (shut_int Try.underlying2 w0) (trodAll_cons_mk (shut_int Try.underlying2 w1) (trodAll_cons_mk (shut_int Try.underlying3 w2) (trodAll_cons_mk (shut_int Try.underlying2 w3) (trodAll_cons_mk (shut_bool Try.underlying4 _) (trodAll_cons_mk (Below.trod laidOut (by kernel_rfl) (of_decide_eq_true (by kernel_rfl)) k5 bel lt5) trodAll_mk0)))))), rfl, bel.frame _, fun h => by cases h⟩

theorem over : Rows.fnSightingOverOrderedPeriodsReadsLatestShowingRow.holds Try.pinned (OpenSpec.ofChange Rows.fnSightingOverOrderedPeriodsReadsLatestShowingSpec) :=
  OpenClaim.holds_of_wide 5 Try.f5 rfl rfl rfl rfl rfl rfl rfl ⟨rfl, rfl, rfl, rfl, rfl⟩ rfl rfl rfl rfl rfl (by kernel_rfl) Try.func5 (by kernel_rfl)
    (of_decide_eq_true (by kernel_rfl)) (by unfold Func.isWrapper; first | (rw [if_pos (by decide +kernel)]; kernel_rfl) | (rw [if_neg (by decide +kernel)]; exact ⟨rfl, rfl⟩))
    (fun os started H enc _ => lifted os started H enc)

/-- ████ THE STATEMENT ████ -/
theorem proved : Rows.FnSightingOverOrderedPeriodsReadsLatestShowingSaid := over
#print axioms proved
end Go.Proofs.Qxb6619770a.fnSightingOverOrderedPeriodsReadsLatestShowing
