/-
  The walk of 'FnSightingOverOrderedPeriodsReadsLatestShowing'.
-/
import Derived.Test.Qxb6619770aPlainSight
import Derived.Below
import Derived.WalkSmall
import Derived.Deep.RegionHeld3
namespace Go.Proofs.Qxb6619770a
open Go.RowKit

theorem bytes_yes (a0 a1 a2 a3 : Int) (a4 : Bool) (a : Option Addr) (len cap : Nat) (h : len ≤ 1048576) (w : World) :
    Calls Try.prog 9 #[.int .i64 a0, .int .i64 a1, .int .i64 a2, .int .i64 a3, .bool a4, .slice a len cap] w fun e w' => e = .returned (.bool true) ∧ w' = w := by
  go_enter Try.func9, Try.ntmps9
  go_wp2
  go_ret
  exact ⟨rfl, rfl⟩
theorem bytes_no (a0 a1 a2 a3 : Int) (a4 : Bool) (a : Option Addr) (len cap : Nat) (h : 1048576 < len) (w : World) :
    Calls Try.prog 9 #[.int .i64 a0, .int .i64 a1, .int .i64 a2, .int .i64 a3, .bool a4, .slice a len cap] w fun e w' => e = .returned (.bool false) ∧ w' = w := by
  go_enter Try.func9, Try.ntmps9
  go_wp2
  go_ret
  exact ⟨rfl, rfl⟩

set_option maxRecDepth 20000 in
theorem over_long (a0 a1 a2 a3 : Int) (a4 : Bool) (a : Option Addr) (len cap : Nat) (h : 32768 < len) (w : World) :
    Calls Try.prog 5 #[.int .i64 a0, .int .i64 a1, .int .i64 a2, .int .i64 a3, .bool a4, .slice a len cap] w fun e w' => e = .returned (.bool true) ∧ Below w.heap.size w w' := by
  by_cases h1 : len ≤ 1048576
  · go_enter Try.func5, Try.ntmps5
    go_wp2_with (go_at_call 9; refine (bytes_yes _ _ _ _ _ _ _ _ h1 _).mono ?_; rintro e w1 ⟨rfl, rfl⟩)
    go_ret
    exact ⟨rfl, Below.refl _ _⟩
  · have h2 : 1048576 < len := by omega
    go_enter Try.func5, Try.ntmps5
    go_wp2_with (go_at_call 9; refine (bytes_no _ _ _ _ _ _ _ _ h2 _).mono ?_; rintro e w1 ⟨rfl, rfl⟩)
    go_ret
    exact ⟨rfl, Below.refl _ _⟩

/-- The periods lie in memory: element i's four cells. -/
def Lie (w : World) (b off len : Nat) (S E O I : Nat → Int) : Prop := ∀ i, i < len →
  w.cell? ⟨b, off + i * 4, none⟩ = some (.int .i64 (S i)) ∧ w.cell? ⟨b, off + i * 4 + 1, none⟩ = some (.int .i64 (E i)) ∧
  w.cell? ⟨b, off + i * 4 + 2, none⟩ = some (.int .i64 (O i)) ∧ w.cell? ⟨b, off + i * 4 + 3, none⟩ = some (.int .i64 (I i))

set_option maxRecDepth 20000 in
set_option maxHeartbeats 4000000 in
theorem over_walk (a0 a1 a2 a3 : Int) (a4 : Bool) (b off len cap : Nat) (S E O I A : Nat → Int) (HA : Hid (∀ i, wrap64 (a0 - O i) = A i)) (h : len ≤ 32768) (w : World) (HL : Hid (Lie w b off len S E O I)) :
    Calls Try.prog 5 #[.int .i64 a0, .int .i64 a1, .int .i64 a2, .int .i64 a3, .bool a4, .slice (some ⟨b, off, none⟩) len cap] w fun e w' => e = .returned (.bool true) ∧ Below w.heap.size w w' := by
  have h1 : len ≤ 1048576 := by omega
  go_enter Try.func5, Try.ntmps5
  go_wp2_with (go_at_call 9; refine (bytes_yes _ _ _ _ _ _ _ _ h1 _).mono ?_; rintro e w1 ⟨rfl, rfl⟩)
  go_loopw [13] (fun i wr => ∃ k : Nat, k ≤ len ∧ i = .int .i64 k ∧ Hid (Ord S E k) ∧ ∃ n, wr = w1.drewN n) (fun i _ => len - (intOf i).toNat)
  case atStart => exact ⟨0, by omega, rfl, ord_zero S E, 0, rfl⟩
  case round =>
    obtain ⟨k, hk, rfl, HO, n, rfl⟩ := hrel
    by_cases hlt : k < len
    · obtain ⟨c0, c1, c2, c3⟩ := HL.out k hlt
      clear c2 c3
      by_cases hse : E k < S k
      · go_wp2
        go_quiet (fail)
        go_wp2
        go_ret
        exact ⟨rfl, below_drewN (below_drewN (Below.refl _ _) _) _⟩
      · by_cases hz : k = 0
        · subst hz
          simp only [Nat.zero_mul, Nat.add_zero] at c0 c1
          have HO' : Hid (Ord S E 1) := ord_succ HO.out (by omega) (fun h => absurd h (Nat.lt_irrefl _))
          go_wp2
          go_quiet (fail)
          go_wp2
          go_quiet (fail)
          go_wp2
          go_roundw
          case rel => exact ⟨1, by omega, rfl, HO', _, rfl⟩
          case measure => simp [intOf]; omega
        · obtain ⟨m, rfl⟩ : ∃ m, k = m + 1 := ⟨k - 1, by omega⟩
          clear hz
          have hpos : (0 : Int) < ((m + 1 : Nat) : Int) := by omega
          obtain ⟨_, p1, _, _⟩ := HL.out m (by omega)
          by_cases hpe : S (m + 1) < E m
          · go_wp2
            go_quiet (fail)
            go_wp2
            go_quiet (fail)
            go_wp2
            go_ret
            exact ⟨rfl, below_drewN (below_drewN (below_drewN (Below.refl _ _) _) _) _⟩
          · have HO' : Hid (Ord S E (m + 2)) := ord_succ HO.out (by omega) (fun _ => by show E m ≤ S (m + 1); omega)
            go_wp2
            go_quiet (fail)
            go_wp2
            go_quiet (fail)
            go_wp2
            go_roundw
            case rel => exact ⟨m + 2, by omega, by go_num, HO', _, rfl⟩
            case measure => simp [intOf]; omega
    · obtain rfl : k = len := by omega
      clear hk hlt
      go_wp2_with fail
      go_loopw [14, 15, 16, 17, 18, 19] (fun l sh by' bf sw j wr => ∃ i : Nat, i ≤ k ∧ l = .int .i64 a0 ∧ sh = .int .i64 (stSh A S E a1 i) ∧ by' = .int .i64 (stBy A S E I a2 i) ∧ bf = .int .i64 (stBf A S E a3 i) ∧ sw = .bool (stSw A S E a4 i) ∧ j = .int .i64 i ∧ Below w1.heap.size w1 wr) (fun _ _ _ _ _ j _ => k - (intOf j).toNat)
      case atStart => exact ⟨0, by omega, rfl, rfl, rfl, rfl, rfl, rfl, below_drewN (Below.refl _ _) _⟩
      case round =>
        obtain ⟨i, hi, rfl, rfl, rfl, rfl, rfl, rfl, hbl⟩ := hrel
        by_cases hlt : i < k
        · obtain ⟨d0, d1, d2, d3⟩ := HL.out i hlt
          have hbw : b < w1.heap.size := World.block_lt_of_cell? _ _ d0
          have hbr : b < wr.heap.size := by have := hbl.size; omega
          have c0 := (hbl.cell (p := ⟨b, off + i * 4, none⟩) hbw).trans d0
          have c1 := (hbl.cell (p := ⟨b, off + i * 4 + 1, none⟩) hbw).trans d1
          have c2 := (hbl.cell (p := ⟨b, off + i * 4 + 2, none⟩) hbw).trans d2
          have c3 := (hbl.cell (p := ⟨b, off + i * 4 + 3, none⟩) hbw).trans d3
          have hA := HA.out i
          have HB : Hid (Below w1.heap.size w1 wr) := hbl
          clear d0 d1 d2 d3 hbl
          go_wp2_with fail
          go_region_held3 (fun w' => w'.cell? ⟨b, off + i * 4, none⟩ = some (.int .i64 (S i)) ∧ w'.cell? ⟨b, off + i * 4 + 1, none⟩ = some (.int .i64 (E i)) ∧ w'.cell? ⟨b, off + i * 4 + 2, none⟩ = some (.int .i64 (O i)) ∧ w'.cell? ⟨b, off + i * 4 + 3, none⟩ = some (.int .i64 (I i)))
            (simp [*, go_sem, World.cell?_alloc_past])
            (first | (go_at_call 10; refine (consider_world _ _ _ _ _ _ _ _ _ _).mono ?_; rintro e w2 ⟨rfl, c, n2, rfl⟩))
          go_wp2
          go_roundw
          case rel => exact ⟨i + 1, by omega, rfl, rfl, rfl, rfl, rfl, by go_num, below_drewN (HB.out.alloc (by have := HB.out.size; omega) _) _⟩
          case measure => simp [intOf]; omega
        · obtain rfl : i = k := by omega
          clear hi hlt
          go_wp2_with fail
          refine (result_world _ _ _ _ _ _).mono ?_
          rintro e w3 ⟨rfl, c, rfl⟩
          have HB : Hid (Below w1.heap.size w1 (wr.alloc (.cells c 37))) := hbl.alloc (by have := hbl.size; omega) _
          clear hbl
          generalize wr.alloc (.cells c 37) = w4 at HB ⊢
          go_wp2_with fail
          go_loop [21, 22, 24, 25] (fun ws wb f j => ∃ m : Nat, m ≤ i ∧ ws = .int .i64 (stSh A S E a1 m) ∧ wb = .int .i64 (stBy A S E I a2 m) ∧ f = .bool (fnd A S E m) ∧ j = .int .i64 m) (fun _ _ _ j => i - (intOf j).toNat)
          case atStart => exact ⟨0, by omega, rfl, rfl, rfl, rfl⟩
          case round =>
            obtain ⟨m, hm, rfl, rfl, rfl, rfl⟩ := hrel
            by_cases hlt : m < i
            · obtain ⟨d0, d1, d2, d3⟩ := HL.out m hlt
              have hbw : b < w1.heap.size := World.block_lt_of_cell? _ _ d0
              have c0 := (HB.out.cell (p := ⟨b, off + m * 4, none⟩) hbw).trans d0
              have c1 := (HB.out.cell (p := ⟨b, off + m * 4 + 1, none⟩) hbw).trans d1
              have c2 := (HB.out.cell (p := ⟨b, off + m * 4 + 2, none⟩) hbw).trans d2
              have c3 := (HB.out.cell (p := ⟨b, off + m * 4 + 3, none⟩) hbw).trans d3
              have hA := HA.out m
              clear d0 d1 d2 d3
              by_cases hs : S m ≤ A m ∧ A m < E m
              · obtain ⟨h1, h2⟩ := hs
                obtain ⟨e1, e2, e3⟩ := step_show A S E I a1 a2 m h1 h2
                have HE : Hid (stSh A S E a1 (m + 1) = A m ∧ stBy A S E I a2 (m + 1) = I m ∧ fnd A S E (m + 1) = true) := ⟨e1, e2, e3⟩
                clear e1 e2 e3
                by_cases hf : fnd A S E m = true
                · have hl := sh_later A S E a1 i m HO.out hlt hf h1
                  go_wp2
                  go_round
                  case rel => exact ⟨m + 1, by omega, by rw [HE.out.1, hA], by rw [HE.out.2.1], by rw [HE.out.2.2], by go_num⟩
                  case measure => simp [intOf]; omega
                · have hf' : fnd A S E m = false := by simpa using hf
                  clear hf
                  go_wp2
                  go_round
                  case rel => exact ⟨m + 1, by omega, by rw [HE.out.1, hA], by rw [HE.out.2.1], by rw [HE.out.2.2], by go_num⟩
                  case measure => simp [intOf]; omega
              · obtain ⟨e1, e2, e3⟩ := step_not A S E I a1 a2 m hs
                have HE : Hid (stSh A S E a1 (m + 1) = stSh A S E a1 m ∧ stBy A S E I a2 (m + 1) = stBy A S E I a2 m ∧ fnd A S E (m + 1) = fnd A S E m) := ⟨e1, e2, e3⟩
                clear e1 e2 e3
                by_cases h1 : S m ≤ A m
                · have h2 : decide (A m < E m) = false := decide_eq_false (by omega)
                  clear hs
                  go_wp2
                  go_round
                  case rel => exact ⟨m + 1, by omega, by rw [HE.out.1], by rw [HE.out.2.1], by rw [HE.out.2.2], by go_num⟩
                  case measure => simp [intOf]; omega
                · have h2 : decide (S m ≤ A m) = false := decide_eq_false h1
                  clear hs h1
                  go_wp2
                  go_round
                  case rel => exact ⟨m + 1, by omega, by rw [HE.out.1], by rw [HE.out.2.1], by rw [HE.out.2.2], by go_num⟩
                  case measure => simp [intOf]; omega
            · obtain rfl : m = i := by omega
              clear hm hlt
              have hsw := sw_fnd A S E a4 m
              have hcase : (fnd A S E m = true ∧ stSw A S E a4 m = true) ∨ (fnd A S E m = false ∧ a4 = true ∧ stSw A S E a4 m = true) ∨ (fnd A S E m = false ∧ a4 = false ∧ stSw A S E a4 m = false) := by
                rw [hsw]
                cases fnd A S E m <;> cases a4 <;> simp
              clear hsw
              rcases hcase with ⟨f1, f2⟩ | ⟨f1, rfl, f2⟩ | ⟨f1, rfl, f2⟩
              all_goals
                rw [f1, f2]
                first | rw [res_true] | rw [res_false]
                clear f1 f2
                go_wp2_with fail
                go_loop [27, 28] (fun wb j => ∃ i : Nat, i ≤ m ∧ wb = .int .i64 a3 ∧ j = .int .i64 ((i : Int) - 1) ∧ Hid (∀ j', i ≤ j' → j' < m → ¬ E j' ≤ A j')) (fun _ j => (intOf j + 1).toNat)
                case atStart => exact ⟨m, by omega, rfl, rfl, fun j' h1 h2 => absurd h2 (by omega)⟩
                case round =>
                  obtain ⟨i, hi, rfl, rfl, HN⟩ := hrel
                  by_cases hz : i = 0
                  · subst hz
                    have hbf := bf_none A S E a3 m HN.out
                    go_wp2
                    go_ret
                    exact ⟨rfl, HB.out⟩
                  · obtain ⟨q, rfl⟩ : ∃ q, i = q + 1 := ⟨i - 1, by omega⟩
                    have e : ((q + 1 : Nat) : Int) - 1 = (q : Int) := by omega
                    rw [e]
                    clear e hz
                    obtain ⟨d0, d1, d2, d3⟩ := HL.out q (by omega)
                    have hbw : b < w1.heap.size := World.block_lt_of_cell? _ _ d0
                    have c1 := (HB.out.cell (p := ⟨b, off + q * 4 + 1, none⟩) hbw).trans d1
                    have c2 := (HB.out.cell (p := ⟨b, off + q * 4 + 2, none⟩) hbw).trans d2
                    have hA := HA.out q
                    have hqm : q < m := by omega
                    clear d0 d1 d2 d3
                    by_cases hp : E q ≤ A q
                    · have hbf := bf_last A S E a3 q m hqm HN.out hp
                      go_wp2
                      go_ret
                      exact ⟨rfl, HB.out⟩
                    · have HN' : Hid (∀ j', q ≤ j' → j' < m → ¬ E j' ≤ A j') := fun j' h1 h2 => by
                        rcases Nat.lt_or_ge q j' with h3 | h3
                        · exact HN.out j' h3 h2
                        · rw [show j' = q from by omega]; exact hp
                      go_wp2
                      go_round
                      case rel => exact ⟨q, by omega, rfl, by go_num, HN'⟩
                      case measure => simp [intOf]

end Go.Proofs.Qxb6619770a
