/-
  The plain part of the law over ordered periods: what the sighting holds behind k periods, and what the law's own two loops reckon.
-/
import Derived.Test.Qxb6619770aSight
namespace Go.Proofs.Qxb6619770a
set_option linter.unusedVariables false

/-- Behind k periods (A k: local less the k-th offset; S, E: start and end; I: the index). -/
def stSh (A S E : Nat → Int) (sh : Int) : Nat → Int
  | 0 => sh
  | k + 1 => cShown (stSh A S E sh k) (A k) (S k) (E k)
def stBy (A S E I : Nat → Int) (b : Int) : Nat → Int
  | 0 => b
  | k + 1 => cBy (stBy A S E I b k) (A k) (S k) (E k) (I k)
def stBf (A S E : Nat → Int) (bf : Int) : Nat → Int
  | 0 => bf
  | k + 1 => cBefore (stBf A S E bf k) (A k) (S k) (E k)
def stSw (A S E : Nat → Int) (sw : Bool) : Nat → Bool
  | 0 => sw
  | k + 1 => cShowed (stSw A S E sw k) (A k) (S k) (E k)
/-- Did one of the first k show? -/
def fnd (A S E : Nat → Int) : Nat → Bool
  | 0 => false
  | k + 1 => cShowed (fnd A S E k) (A k) (S k) (E k)

/-- The first n periods are in order of time. -/
def Ord (S E : Nat → Int) (n : Nat) : Prop := ∀ j, j < n → S j ≤ E j ∧ (0 < j → E (j - 1) ≤ S j)
theorem ord_zero (S E : Nat → Int) : Ord S E 0 := fun j hj => absurd hj (Nat.not_lt_zero _)
theorem ord_succ {S E : Nat → Int} {n : Nat} (h : Ord S E n) (h1 : S n ≤ E n) (h2 : 0 < n → E (n - 1) ≤ S n) : Ord S E (n + 1) := fun j hj => by
  rcases Nat.lt_succ_iff_lt_or_eq.1 hj with h' | rfl
  · exact h j h'
  · exact ⟨h1, h2⟩

/-- What was shown lies ahead of the last period's end. -/
theorem sh_lt (A S E : Nat → Int) (sh : Int) (n : Nat) (ho : Ord S E n) : ∀ k, k ≤ n → fnd A S E k = true → 0 < k ∧ stSh A S E sh k < E (k - 1) := by
  intro k
  induction k with
  | zero => intro _ h; simp [fnd] at h
  | succ k ih =>
    intro hk h
    refine ⟨Nat.succ_pos _, ?_⟩
    show cShown (stSh A S E sh k) (A k) (S k) (E k) < E k
    have hf : cShowed (fnd A S E k) (A k) (S k) (E k) = true := h
    unfold cShown
    unfold cShowed at hf
    split
    · omega
    · rename_i hn
      rw [if_neg hn] at hf
      have h1 := ih (by omega) hf
      have h2 := ho k (by omega)
      have h3 := h2.2 h1.1
      omega
/-- So at a period that shows, the instant is later than what was shown before. -/
theorem sh_later (A S E : Nat → Int) (sh : Int) (n k : Nat) (ho : Ord S E n) (hk : k < n) (hf : fnd A S E k = true) (h : S k ≤ A k) : stSh A S E sh k < A k := by
  have h1 := sh_lt A S E sh n ho k (by omega) hf
  have h2 := (ho k hk).2 h1.1
  omega

theorem step_show (A S E I : Nat → Int) (sh b : Int) (k : Nat) (h1 : S k ≤ A k) (h2 : A k < E k) :
    stSh A S E sh (k + 1) = A k ∧ stBy A S E I b (k + 1) = I k ∧ fnd A S E (k + 1) = true :=
  ⟨if_pos ⟨h1, h2⟩, if_pos ⟨h1, h2⟩, if_pos ⟨h1, h2⟩⟩
theorem step_not (A S E I : Nat → Int) (sh b : Int) (k : Nat) (h : ¬ (S k ≤ A k ∧ A k < E k)) :
    stSh A S E sh (k + 1) = stSh A S E sh k ∧ stBy A S E I b (k + 1) = stBy A S E I b k ∧ fnd A S E (k + 1) = fnd A S E k :=
  ⟨if_neg h, if_neg h, if_neg h⟩

/-- 'showed' behind all: one showed, or it was so before. -/
theorem sw_fnd (A S E : Nat → Int) (sw : Bool) (k : Nat) : stSw A S E sw k = if fnd A S E k then true else sw := by
  induction k with
  | zero => rfl
  | succ k ih =>
    show cShowed (stSw A S E sw k) (A k) (S k) (E k) = if cShowed (fnd A S E k) (A k) (S k) (E k) then true else sw
    unfold cShowed
    by_cases h : S k ≤ A k ∧ A k < E k
    · rw [if_pos h, if_pos h]; rfl
    · rw [if_neg h, if_neg h]; exact ih

/-- 'before': the last period that has ended says it. -/
theorem bf_keep (A S E : Nat → Int) (bf : Int) (k n : Nat) (hk : k ≤ n) (h : ∀ j, k ≤ j → j < n → ¬ E j ≤ A j) : stBf A S E bf n = stBf A S E bf k := by
  induction n with
  | zero => rw [show k = 0 from by omega]
  | succ n ih =>
    rcases Nat.lt_or_ge n k with h' | h'
    · rw [show k = n + 1 from by omega]
    · rw [← ih h' (fun j a b => h j a (by omega))]
      show cBefore (stBf A S E bf n) (A n) (S n) (E n) = _
      unfold cBefore
      have := h n h' (by omega)
      rw [if_neg this]
      split <;> rfl
theorem bf_last (A S E : Nat → Int) (bf : Int) (m n : Nat) (hm : m < n) (h : ∀ j, m + 1 ≤ j → j < n → ¬ E j ≤ A j) (hl : E m ≤ A m) : stBf A S E bf n = A m := by
  rw [bf_keep A S E bf (m + 1) n hm h]
  show cBefore (stBf A S E bf m) (A m) (S m) (E m) = _
  unfold cBefore
  rw [if_neg (by omega), if_pos hl]
theorem bf_none (A S E : Nat → Int) (bf : Int) (n : Nat) (h : ∀ j, 0 ≤ j → j < n → ¬ E j ≤ A j) : stBf A S E bf n = bf := bf_keep A S E bf 0 n (by omega) h

end Go.Proofs.Qxb6619770a
