/-
  The plain part: the digits of a 128-bit value in base 32, their characters, and how they order. Nothing of the program here.
-/
import Derived.Laws.BitsAllLaws
import Derived.Laws.BytesArg
namespace Go.Proofs.Qxb6621702a
set_option linter.unusedVariables false

/-- The value of two words. -/
def val (hi lo : Int) : Int := hi * 18446744073709551616 + lo
theorem val_bd (hi lo : Int) (h0 : 0 ≤ hi) (h1 : hi < 18446744073709551616) (l0 : 0 ≤ lo) (l1 : lo < 18446744073709551616) : 0 ≤ val hi lo ∧ val hi lo < 340282366920938463463374607431768211456 := by
  unfold val; omega
/-- What stands ahead of place k, as a number. -/
def top (v : Int) (k : Nat) : Int := v / 2 ^ (130 - 5 * k)
/-- The digit at place k. -/
def dig (v : Int) (k : Nat) : Int := v / 2 ^ (125 - 5 * k) % 32
/-- The characters, in order. -/
def alpha : List Int := [48, 49, 50, 51, 52, 53, 54, 55, 56, 57, 97, 98, 99, 100, 101, 102, 103, 104, 106, 107, 109, 110, 112, 113, 114, 115, 116, 118, 119, 120, 121, 122]
def chr (d : Int) : Int := alpha.getD d.toNat 0
/-- The characters of a value. -/
def nums (v : Int) : List Int := (List.range 26).map fun j => chr (dig v j)
def encStr (v : Int) : ByteArray := strOfNums (nums v)
/-- The block while it is written: k characters are there. -/
def encCells (v : Int) (k : Nat) : Array Value := ((List.range 26).map fun j => if j < k then Value.int .u8 (chr (dig v j)) else .int .u8 0).toArray

theorem encStr_size (v : Int) : (encStr v).size = 26 := by simp [encStr, strOfNums_size, nums]

theorem dig_bd (v : Int) (k : Nat) : 0 ≤ dig v k ∧ dig v k < 32 := by unfold dig; omega

theorem chr_facts : ∀ a : Fin 32, 0 ≤ alpha.getD a.val 0 ∧ alpha.getD a.val 0 ≤ 255 ∧ ∀ b : Fin 32, (alpha.getD a.val 0 < alpha.getD b.val 0 ↔ a.val < b.val) := by decide +kernel
theorem chr_bd (d : Int) (h0 : 0 ≤ d) (h1 : d < 32) : 0 ≤ chr d ∧ chr d ≤ 255 := by
  have := chr_facts ⟨d.toNat, by omega⟩
  exact ⟨this.1, this.2.1⟩
theorem chr_lt (a b : Int) (a0 : 0 ≤ a) (a1 : a < 32) (b0 : 0 ≤ b) (b1 : b < 32) : chr a < chr b ↔ a < b := by
  have := (chr_facts ⟨a.toNat, by omega⟩).2.2 ⟨b.toNat, by omega⟩
  simp only at this
  unfold chr
  rw [this]
  omega

theorem top_zero (v : Int) (h0 : 0 ≤ v) (h1 : v < 340282366920938463463374607431768211456) : top v 0 = 0 := by
  show v / 2 ^ 130 = 0
  omega
theorem top_end (v : Int) : top v 26 = v := by
  show v / 2 ^ 0 = v
  simp
theorem top_succ (v : Int) (k : Nat) (hk : k < 26) : top v (k + 1) = 32 * top v k + dig v k := by
  unfold top dig
  have e1 : 130 - 5 * (k + 1) = 125 - 5 * k := by omega
  have e2 : 130 - 5 * k = (125 - 5 * k) + 5 := by omega
  have e3 : (2 : Int) ^ (130 - 5 * k) = 2 ^ (125 - 5 * k) * 32 := by rw [e2, Int.pow_add]; rfl
  rw [e1, e3, ← Int.ediv_ediv_of_nonneg (Int.le_of_lt (Int.pow_pos (by decide)))]
  omega
theorem top_lt (v u : Int) (k : Nat) (h : top v k < top u k) : v < u := by
  rcases Int.lt_or_le v u with h' | h'
  · exact h'
  · have := Int.ediv_le_ediv (c := 2 ^ (130 - 5 * k)) (Int.pow_pos (by decide)) h'
    unfold top at h
    omega

/-! ### How two values compare, and what a round of the comparison learns -/
def cmpV (v u : Int) : Int := if v < u then -1 else if u < v then 1 else 0

theorem cmp_less (v u : Int) (k : Nat) (hk : k < 26) (ht : top v k = top u k) (hc : chr (dig v k) < chr (dig u k)) : cmpV v u = -1 := by
  have a := dig_bd v k
  have b := dig_bd u k
  have c := (chr_lt _ _ a.1 a.2 b.1 b.2).1 hc
  have d : v < u := top_lt v u (k + 1) (by rw [top_succ v k hk, top_succ u k hk]; omega)
  unfold cmpV
  rw [if_pos d]
theorem cmp_more (v u : Int) (k : Nat) (hk : k < 26) (ht : top v k = top u k) (hc : chr (dig u k) < chr (dig v k)) : cmpV v u = 1 := by
  have a := dig_bd v k
  have b := dig_bd u k
  have c := (chr_lt _ _ b.1 b.2 a.1 a.2).1 hc
  have d : u < v := top_lt u v (k + 1) (by rw [top_succ v k hk, top_succ u k hk]; omega)
  unfold cmpV
  rw [if_neg (by omega), if_pos d]
theorem top_next (v u : Int) (k : Nat) (hk : k < 26) (ht : top v k = top u k) (h1 : ¬ chr (dig v k) < chr (dig u k)) (h2 : ¬ chr (dig u k) < chr (dig v k)) : top v (k + 1) = top u (k + 1) := by
  have a := dig_bd v k
  have b := dig_bd u k
  rw [chr_lt _ _ a.1 a.2 b.1 b.2] at h1
  rw [chr_lt _ _ b.1 b.2 a.1 a.2] at h2
  rw [top_succ v k hk, top_succ u k hk]
  omega
theorem cmp_end (v u : Int) (ht : top v 26 = top u 26) : cmpV v u = 0 := by
  rw [top_end, top_end] at ht
  subst ht
  simp [cmpV]

/-! ### The digits as the program reckons them -/
theorem and31 (x : Int) (h0 : 0 ≤ x) (h1 : x < 18446744073709551616) : bits .and .u64 x 31 = x % 32 := by
  rw [u64_and x 31 h0 h1 (by decide) (by decide)]
  have := Nat.and_two_pow_sub_one_eq_mod x.toNat 5
  have e : (31 : Int).toNat = 2 ^ 5 - 1 := rfl
  rw [e, this]
  omega

theorem div_bd (x m : Int) (hm : 0 < m) (h0 : 0 ≤ x) (h1 : x < 18446744073709551616) : 0 ≤ x / m ∧ x / m < 18446744073709551616 :=
  ⟨Int.ediv_nonneg h0 (Int.le_of_lt hm), Int.lt_of_le_of_lt (Int.ediv_le_self m h0) h1⟩

theorem dig_hi (hi lo : Int) (k : Nat) (h0 : 0 ≤ hi) (h1 : hi < 18446744073709551616) (l0 : 0 ≤ lo) (l1 : lo < 18446744073709551616) (hk : k ≤ 12) :
    bits .and .u64 (hi / 2 ^ (5 * (25 - k) - 64)) 31 = dig (val hi lo) k := by
  have hb := div_bd hi (2 ^ (5 * (25 - k) - 64)) (Int.pow_pos (by decide)) h0 h1
  rw [and31 _ hb.1 hb.2]
  unfold dig val
  have e1 : 125 - 5 * k = 64 + (5 * (25 - k) - 64) := by omega
  have e2 : (hi * 18446744073709551616 + lo) / 2 ^ 64 = hi := by omega
  rw [e1, Int.pow_add, ← Int.ediv_ediv_of_nonneg (by decide), e2]
theorem dig_lo (hi lo : Int) (k : Nat) (l0 : 0 ≤ lo) (l1 : lo < 18446744073709551616) (hk : 14 ≤ k) (hk' : k < 26) :
    bits .and .u64 (lo / 2 ^ (5 * (25 - k))) 31 = dig (val hi lo) k := by
  have hb := div_bd lo (2 ^ (5 * (25 - k))) (Int.pow_pos (by decide)) l0 l1
  rw [and31 _ hb.1 hb.2]
  unfold dig val
  have e1 : 125 - 5 * k = 5 * (25 - k) := by omega
  rw [e1]
  have e2 : (18446744073709551616 : Int) = 2 ^ (59 - 5 * (25 - k)) * 32 * 2 ^ (5 * (25 - k)) := by
    have e3 : (59 - 5 * (25 - k)) + 5 + 5 * (25 - k) = 64 := by omega
    have e4 : (2 : Int) ^ 64 = 2 ^ (59 - 5 * (25 - k)) * 2 ^ 5 * 2 ^ (5 * (25 - k)) := by rw [← Int.pow_add, ← Int.pow_add, e3]
    exact e4
  have e5 : (hi * 18446744073709551616 + lo) / 2 ^ (5 * (25 - k)) = hi * (2 ^ (59 - 5 * (25 - k)) * 32) + lo / 2 ^ (5 * (25 - k)) := by
    have hne : (2 : Int) ^ (5 * (25 - k)) ≠ 0 := Int.ne_of_gt (Int.pow_pos (by decide))
    conv => lhs; rw [e2]
    rw [← Int.mul_assoc, Int.add_comm, Int.add_mul_ediv_right _ _ hne, Int.add_comm]
  rw [e5, ← Int.mul_assoc]
  omega
theorem dig_mid (hi lo : Int) (h0 : 0 ≤ hi) (h1 : hi < 18446744073709551616) (l0 : 0 ≤ lo) (l1 : lo < 18446744073709551616) :
    bits .and .u64 (bits .or .u64 (lo / 1152921504606846976) (IntKind.u64.wrap (hi * 16))) 31 = dig (val hi lo) 13 := by
  rw [IntKind.wrap_u64, u64_or _ _ (by omega) (by omega) (by omega) (by omega)]
  have e : (lo / 1152921504606846976).toNat ||| (hi * 16 % 18446744073709551616).toNat = 2 ^ 4 * (hi * 16 % 18446744073709551616 / 16).toNat + (lo / 1152921504606846976).toNat := by
    rw [Nat.two_pow_add_eq_or_of_lt (by omega), Nat.or_comm]
    congr 1
    omega
  rw [e, and31 _ (by omega) (by omega)]
  unfold dig val
  show _ = _ / 2 ^ 60 % 32
  omega

/-! ### The block and the string -/
theorem cells_at (v : Int) (k : Nat) (hk : k < 26) : (encCells v k)[k]? = some (.int .u8 0) := by
  simp [encCells, List.getElem?_range hk]
theorem cells_size (v : Int) (k : Nat) : (encCells v k).size = 26 := by simp [encCells]
theorem cells_succ (v : Int) (k : Nat) (hk : k < 26) : (encCells v k).setIfInBounds k (.int .u8 (chr (dig v k))) = encCells v (k + 1) := by
  apply Array.ext_getElem?
  intro j
  rw [Array.getElem?_setIfInBounds]
  by_cases hj : k = j
  · subst hj
    rw [if_pos rfl, if_pos (by rw [cells_size]; exact hk)]
    simp [encCells, List.getElem?_range hk]
  · rw [if_neg hj]
    unfold encCells
    simp only [List.getElem?_toArray, List.getElem?_map]
    by_cases h26 : j < 26
    · rw [List.getElem?_range h26]
      simp only [Option.map_some]
      by_cases h : j < k
      · rw [if_pos h, if_pos (by omega)]
      · rw [if_neg h, if_neg (by omega)]
    · rw [List.getElem?_eq_none (by simp; omega)]
      rfl
theorem nums_at (v : Int) (j : Nat) (hj : j < 26) : (nums v).getD j 0 = chr (dig v j) := by
  simp [nums, List.getD, List.getElem?_range hj]
theorem cells_end (v : Int) (j : Nat) (hj : j < 26) : (encCells v 26)[j]? = some (.int .u8 ((nums v).getD j 0)) := by
  rw [nums_at v j hj]
  simp [encCells, hj]
theorem encStr_at (v : Int) (j : Nat) (hj : j < 26) (h : j < (encStr v).size) : (((encStr v)[j].toNat : Nat) : Int) = chr (dig v j) := by
  have hb := dig_bd v j
  have hc := chr_bd _ hb.1 hb.2
  have e : (encStr v)[j] = (encStr v).data[j] := rfl
  rw [e]
  simp only [encStr, strOfNums, nums, List.getElem_toArray, List.getElem_map, List.getElem_range, UInt8.toNat_ofNat']
  omega

end Go.Proofs.Qxb6621702a
