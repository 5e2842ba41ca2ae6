/-
  The contracts of 'encode', 'ZZEncode', 'zzb1CmpStr' and 'zzb1CmpPair'.
-/
import Derived.Test.Qxb6621702aNext
import Derived.Test.Qxb6621702aPlain
import Derived.WalkKit
import Derived.WalkSpells
import Derived.Laws.BytesArg
import Derived.Deep.QuietTactic
import Derived.BigQuiet
import Derived.RowKit3
namespace Go.Proofs.Qxb6621702a
open Go.RowKit

theorem alpha_at : ∀ e : Fin 32, ((((⟨#[48, 49, 50, 51, 52, 53, 54, 55, 56, 57, 97, 98, 99, 100, 101, 102, 103, 104, 106, 107, 109, 110, 112, 113, 114, 115, 116, 118, 119, 120, 121, 122]⟩ : ByteArray)[e.val]'(e.isLt)).toNat : Nat) : Int) = chr (e.val : Int) := by decide +kernel
/-- The constant string at a digit. -/
theorem idx_alpha (v : Int) (k : Nat) (w : World) :
    (Instr.index 9 (.string ⟨#[48, 49, 50, 51, 52, 53, 54, 55, 56, 57, 97, 98, 99, 100, 101, 102, 103, 104, 106, 107, 109, 110, 112, 113, 114, 115, 116, 118, 119, 120, 121, 122]⟩) (.int .u64 (dig v k))).run Try.prog w = .ok (.int .u8 (chr (dig v k))) w := by
  have hb := dig_bd v k
  obtain ⟨d, hd⟩ := Int.eq_ofNat_of_zero_le hb.1
  rw [hd] at hb ⊢
  have h32 : d < 32 := by omega
  have key : ∀ e : Fin 32, (Instr.index 9 (.string ⟨#[48, 49, 50, 51, 52, 53, 54, 55, 56, 57, 97, 98, 99, 100, 101, 102, 103, 104, 106, 107, 109, 110, 112, 113, 114, 115, 116, 118, 119, 120, 121, 122]⟩) (.int .u64 (e.val : Int))).run Try.prog w = .ok (.int .u8 (chr (e.val : Int))) w := by
    intro e
    rw [run_index_string w 9 _ .u64 _ Try.underlying9, dif_pos ⟨by omega, by show (e.val : Int) < 32; omega⟩]
    congr 2
    exact alpha_at e
  exact key ⟨d, h32⟩

theorem cell_enc (w : World) (c : Array Value) (v : Int) (k : Nat) (hk : k < 26) :
    ((w.alloc (.cells c 34)).alloc (.cells (encCells v k) 40)).cell? ⟨w.heap.size + 1, k, none⟩ = some (.int .u8 0) := by
  have := cells_at v k hk
  simp [go_sem, this]

theorem convert_enc (w : World) (c : Array Value) (v : Int) :
    (convert 42 9 (.slice (some ⟨w.heap.size + 1, 0, none⟩) 26 26)).run Try.prog ((w.alloc (.cells c 34)).alloc (.cells (encCells v 26) 40))
      = .ok (.string (encStr v)) ((w.alloc (.cells c 34)).alloc (.cells (encCells v 26) 40)) := by
  refine run_convert_bytes_arg _ 42 5 Try.underlying42 Try.underlying5 (w.heap.size + 1) 0 26 26 (nums v) (by simp [nums]) (fun i hi => ?_) 9 Try.underlying9
  have := cells_end v i hi
  simp [go_sem, this]

set_option maxHeartbeats 1000000 in
theorem encode_any (hi lo : Int) (h0 : 0 ≤ hi) (h1 : hi < 18446744073709551616) (l0 : 0 ≤ lo) (l1 : lo < 18446744073709551616) (w : World) :
    Calls Try.prog 16 #[.agg #[.int .u64 hi, .int .u64 lo]] w fun e w' =>
      e = .returned (.string (encStr (val hi lo))) ∧ Grown w w' := by
  go_enter Try.func16, Try.ntmps16
  go_wp2
  go_loopw [7] (fun i wr => ∃ k : Nat, k ≤ 26 ∧ i = .int .i64 k ∧ wr = (w.alloc (.cells #[.int .u64 hi, .int .u64 lo] 34)).alloc (.cells (encCells (val hi lo) k) 40)) (fun i _ => 26 - (intOf i).toNat)
  case atStart => exact ⟨0, by omega, rfl, rfl⟩
  case round =>
    obtain ⟨k, hk, rfl, rfl⟩ := hrel
    by_cases hlt : k < 26
    · have hix := idx_alpha (val hi lo) k
      have hce := cells_at (val hi lo) k hlt
      have HS : Hid ((encCells (val hi lo) k).setIfInBounds k (.int .u8 (chr (dig (val hi lo) k))) = encCells (val hi lo) (k + 1)) := cells_succ (val hi lo) k hlt
      by_cases hs : k ≤ 12
      · have hd := dig_hi hi lo k h0 h1 l0 l1 hs
        go_wp2
        go_roundw
        case rel => exact ⟨k + 1, by omega, by go_num, by rw [HS.out]⟩
        case measure => simp [intOf]; omega
      · by_cases hs : k = 13
        · subst hs
          have hd := dig_mid hi lo h0 h1 l0 l1
          go_wp2
          go_roundw
          case rel => exact ⟨14, by omega, rfl, by rw [HS.out]⟩
          case measure => simp [intOf]
        · have hd := dig_lo hi lo k l0 l1 (by omega) hlt
          go_wp2
          go_roundw
          case rel => exact ⟨k + 1, by omega, by go_num, by rw [HS.out]⟩
          case measure => simp [intOf]; omega
    · obtain rfl : k = 26 := by omega
      have hcv := convert_enc w #[.int .u64 hi, .int .u64 lo] (val hi lo)
      clear hk hlt
      go_wp2
      go_ret
      exact ⟨rfl, ((Grown.refl _).alloc _ _).alloc _ _⟩

set_option maxHeartbeats 400000 in
theorem zzencode_any (hi lo : Int) (h0 : 0 ≤ hi) (h1 : hi < 18446744073709551616) (l0 : 0 ≤ lo) (l1 : lo < 18446744073709551616) (w : World) :
    Calls Try.prog 8 #[.int .u64 hi, .int .u64 lo] w fun e w' => e = .returned (.string (encStr (val hi lo))) ∧ Grown w w' := by
  go_enter Try.func8, Try.ntmps8
  go_wp2_with (go_at_call 16; refine (encode_any hi lo h0 h1 l0 l1 _).mono ?_; rintro e w1 ⟨rfl, hg⟩)
  go_ret
  exact ⟨rfl, hg⟩

theorem lessB_val (a b c d : Int) (b0 : 0 ≤ b) (b1 : b < 18446744073709551616) (d0 : 0 ≤ d) (d1 : d < 18446744073709551616) : lessB a b c d = decide (val a b < val c d) := by
  unfold lessB val
  apply decide_eq_decide.2
  omega

set_option maxHeartbeats 400000 in
theorem cmppair_any (a b c d : Int) (b0 : 0 ≤ b) (b1 : b < 18446744073709551616) (d0 : 0 ≤ d) (d1 : d < 18446744073709551616) (w : World) :
    Calls Try.prog 12 #[.int .u64 a, .int .u64 b, .int .u64 c, .int .u64 d] w fun e w' => e = .returned (.int .i64 (cmpV (val a b) (val c d))) ∧ w' = w := by
  have e1 := lessB_val a b c d b0 b1 d0 d1
  have e2 := lessB_val c d a b d0 d1 b0 b1
  by_cases h : val a b < val c d
  · have e : cmpV (val a b) (val c d) = -1 := by simp [cmpV, h]
    rw [e]
    have e1' : lessB a b c d = true := by rw [e1]; simpa using h
    clear e e1 e2 h b0 b1 d0 d1
    go_enter Try.func12, Try.ntmps12
    go_wp2_with (go_at_call 15; refine (less_any _ _ _ _ _).mono ?_; rintro e w2 ⟨rfl, rfl⟩)
    go_ret
    exact ⟨rfl, rfl⟩
  · have e1' : lessB a b c d = false := by rw [e1]; simpa using h
    by_cases h' : val c d < val a b
    · have e : cmpV (val a b) (val c d) = 1 := by simp [cmpV, h, h']
      rw [e]
      have e2' : lessB c d a b = true := by rw [e2]; simpa using h'
      clear e e1 e2 h h' b0 b1 d0 d1
      go_enter Try.func12, Try.ntmps12
      go_wp2_with (go_at_call 15; refine (less_any _ _ _ _ _).mono ?_; rintro e w2 ⟨rfl, rfl⟩)
      go_ret
      exact ⟨rfl, rfl⟩
    · have e : cmpV (val a b) (val c d) = 0 := by simp [cmpV, h, h']
      rw [e]
      have e2' : lessB c d a b = false := by rw [e2]; simpa using h'
      clear e e1 e2 h h' b0 b1 d0 d1
      go_enter Try.func12, Try.ntmps12
      go_wp2_with (go_at_call 15; refine (less_any _ _ _ _ _).mono ?_; rintro e w2 ⟨rfl, rfl⟩)
      go_ret
      exact ⟨rfl, rfl⟩

theorem ret_int {k : IntKind} {a b : Int} (h : a = b) : Ending.returned (.int k a) = .returned (.int k b) := by rw [h]

/-- The encoded string at an index. -/
theorem idx_enc (v : Int) (k : Nat) (hk : k < 26) (w : World) :
    (Instr.index 9 (.string (encStr v)) (.int .i64 (k : Int))).run Try.prog w = .ok (.int .u8 (chr (dig v k))) w := by
  have hs := encStr_size v
  rw [run_index_string w 9 _ .i64 _ Try.underlying9, dif_pos ⟨by omega, by omega⟩]
  congr 2
  exact encStr_at v k hk (by omega)

set_option maxHeartbeats 1000000 in
theorem cmpstr_any (v u : Int) (v0 : 0 ≤ v) (v1 : v < 340282366920938463463374607431768211456) (u0 : 0 ≤ u) (u1 : u < 340282366920938463463374607431768211456) (w : World) :
    Calls Try.prog 11 #[.string (encStr v), .string (encStr u)] w fun e w' => e = .returned (.int .i64 (cmpV v u)) ∧ ∃ n, w' = w.drewN n := by
  have s1 := encStr_size v
  have s2 := encStr_size u
  have HT : Hid (top v 0 = top u 0) := by show top v 0 = top u 0; rw [top_zero v v0 v1, top_zero u u0 u1]
  clear v0 v1 u0 u1
  go_enter Try.func11, Try.ntmps11
  go_wp2
  go_loopw [6] (fun i wr => ∃ k : Nat, k ≤ 26 ∧ i = .int .i64 k ∧ Hid (top v k = top u k) ∧ ∃ n, wr = w.drewN n) (fun i _ => 26 - (intOf i).toNat)
  case atStart => exact ⟨0, by omega, rfl, HT, 0, rfl⟩
  case round =>
    obtain ⟨k, hk, rfl, HK, n, rfl⟩ := hrel
    clear HT
    by_cases hlt : k < 26
    · have i1 := idx_enc v k hlt
      have i2 := idx_enc u k hlt
      by_cases c1 : chr (dig v k) < chr (dig u k)
      · have e := cmp_less v u k hlt HK.out c1
        have HE : Hid (cmpV v u = -1) := e
        clear e
        go_wp2
        go_quiet (fail)
        go_wp2
        go_ret
        exact ⟨ret_int HE.out.symm, n + nq, by simp⟩
      · by_cases c2 : chr (dig u k) < chr (dig v k)
        · have e := cmp_more v u k hlt HK.out c2
          have HE : Hid (cmpV v u = 1) := e
          clear e
          go_wp2
          go_quiet (fail)
          go_wp2
          go_quiet (fail)
          go_wp2
          go_ret
          exact ⟨ret_int HE.out.symm, _, by rw [World.drewN_drewN, World.drewN_drewN]⟩
        · have HN : Hid (top v (k + 1) = top u (k + 1)) := top_next v u k hlt HK.out c1 c2
          go_wp2
          go_quiet (fail)
          go_wp2
          go_quiet (fail)
          go_wp2
          go_roundw
          case rel => exact ⟨k + 1, by omega, by go_num, HN, _, rfl⟩
          case measure => simp [intOf]; omega
    · obtain rfl : k = 26 := by omega
      have HE : Hid (cmpV v u = 0) := cmp_end v u HK.out
      clear hk hlt
      go_wp2
      go_ret
      exact ⟨ret_int HE.out.symm, n, rfl⟩

end Go.Proofs.Qxb6621702a
