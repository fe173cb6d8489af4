/-
  The plain mathematics behind 'LawS3294BImage': gathering the targets of the set bits, from the lowest bit up (the law's model) and by striking the lowest set bit (step). No Go in sight.
-/
import Derived.Lib.TrailingZeros
namespace Go.Proofs.YbulkbpesDoor.Plain

/-- The targets of the bits below k of S, gathered. -/
def gath (t : Nat → Nat) (S : Nat) : Nat → Nat
  | 0 => 0
  | k + 1 => if S / 2 ^ k % 2 = 1 then gath t S k ||| 2 ^ t k else gath t S k

theorem gath_yes (t : Nat → Nat) (S k : Nat) (h : S / 2 ^ k % 2 = 1) : gath t S (k + 1) = gath t S k ||| 2 ^ t k := by simp [gath, h]
theorem gath_no (t : Nat → Nat) (S k : Nat) (h : S / 2 ^ k % 2 ≠ 1) : gath t S (k + 1) = gath t S k := by simp [gath, h]

theorem gath_lt (t : Nat → Nat) (ht : ∀ q, t q < 64) (S : Nat) : ∀ k, gath t S k < 2 ^ 64
  | 0 => by simp [gath]
  | k + 1 => by
    have ih := gath_lt t ht S k
    have hp : 2 ^ t k < 2 ^ 64 := Nat.pow_lt_pow_right (by decide) (ht k)
    unfold gath
    split
    · exact Nat.or_lt_two_pow ih hp
    · exact ih

/-- No bit of S from k to q: nothing is gathered there. -/
theorem gath_skip (t : Nat → Nat) (S k : Nat) : ∀ d, (∀ j, k ≤ j → j < k + d → S / 2 ^ j % 2 ≠ 1) → gath t S (k + d) = gath t S k
  | 0, _ => rfl
  | d + 1, h => by
    have ih := gath_skip t S k d (fun j h1 h2 => h j h1 (by omega))
    rw [← Nat.add_assoc, gath_no t S (k + d) (h _ (by omega) (by omega)), ih]

/-- S with its bits below k struck. -/
def hi (S k : Nat) : Nat := S / 2 ^ k * 2 ^ k

theorem hi_zero (S : Nat) : hi S 0 = S := by simp [hi]
theorem hi_lt (S k : Nat) (h : S < 2 ^ 64) : hi S k < 2 ^ 64 := Nat.lt_of_le_of_lt (Nat.div_mul_le_self _ _) h

theorem strike (q m : Nat) : (2 ^ q * (2 * m + 1)) &&& (2 ^ q * (2 * m + 1) - 1) = 2 ^ (q + 1) * m := by
  have hpos : 0 < 2 ^ q := Nat.two_pow_pos q
  have e : 2 ^ q * (2 * m + 1) - 1 = 2 ^ q * (2 * m) + (2 ^ q - 1) := by rw [Nat.mul_add]; omega
  rw [e]
  apply Nat.eq_of_testBit_eq
  intro i
  rw [Nat.testBit_and, Nat.testBit_two_pow_mul, Nat.testBit_two_pow_mul_add _ (by omega), Nat.testBit_two_pow_mul]
  by_cases h : i < q
  · simp [h, show ¬ q ≤ i by omega, show ¬ q + 1 ≤ i by omega]
  · have h1 : q ≤ i := by omega
    simp only [h, h1, decide_true, Bool.true_and, if_false]
    by_cases h2 : i = q
    · subst h2
      simp [Nat.testBit_zero, show ¬ i + 1 ≤ i by omega]
    · obtain ⟨j, rfl⟩ : ∃ j, i = q + (j + 1) := ⟨i - q - 1, by omega⟩
      have e1 : q + (j + 1) - q = j + 1 := by omega
      have e2 : q + (j + 1) - (q + 1) = j := by omega
      rw [e1, e2, Nat.testBit_succ, Nat.testBit_succ, show (2 * m + 1) / 2 = m by omega, show 2 * m / 2 = m by omega]
      simp [show q + 1 ≤ q + (j + 1) by omega]

/-- ONE ROUND OF step: the lowest set bit q of what is left. -/
theorem round (t : Nat → Nat) (S k : Nat) (hS : S < 2 ^ 64) (hk : hi S k ≠ 0) :
    k ≤ Lib.ctz 64 (hi S k) ∧ Lib.ctz 64 (hi S k) < 64 ∧ S / 2 ^ Lib.ctz 64 (hi S k) % 2 = 1 ∧ gath t S (Lib.ctz 64 (hi S k)) = gath t S k ∧ hi S k &&& (hi S k - 1) = hi S (Lib.ctz 64 (hi S k) + 1) := by
  have hlt := hi_lt S k hS
  obtain ⟨m, hm, hq⟩ := Lib.ctzFrom_spec 64 (hi S k) (by omega) hlt
  have e : Lib.ctz 64 (hi S k) = Lib.ctzFrom 64 (hi S k) := by simp [Lib.ctz, hk]
  rw [e]
  generalize Lib.ctzFrom 64 (hi S k) = q at hm hq ⊢
  have hp : 0 < 2 ^ k := Nat.two_pow_pos k
  have hr : S % 2 ^ k < 2 ^ k := Nat.mod_lt _ hp
  have hsum : S = 2 ^ q * (2 * m + 1) + S % 2 ^ k := by
    rw [← hm]; unfold hi; rw [Nat.mul_comm]; exact (Nat.div_add_mod S (2 ^ k)).symm
  have hkq : k ≤ q := by
    apply Nat.le_of_not_lt
    intro hlt'
    obtain ⟨d, rfl⟩ : ∃ d, k = q + (d + 1) := ⟨k - q - 1, by omega⟩
    have h1 : hi S (q + (d + 1)) = 2 ^ q * (2 * (2 ^ d * (S / 2 ^ (q + (d + 1))))) := by
      unfold hi
      rw [Nat.pow_add, Nat.pow_succ]
      generalize S / (2 ^ q * (2 ^ d * 2)) = z
      rw [Nat.mul_comm z, Nat.mul_assoc, Nat.mul_assoc, Nat.mul_comm 2 z, Nat.mul_comm (2 ^ d) (z * 2), Nat.mul_comm z 2, Nat.mul_assoc, Nat.mul_comm z]
    rw [h1] at hm
    have := Nat.eq_of_mul_eq_mul_left (Nat.two_pow_pos q) hm
    omega
  have hrq : S % 2 ^ k < 2 ^ q := Nat.lt_of_lt_of_le hr (Nat.pow_le_pow_right (by decide) hkq)
  have hdiv : S / 2 ^ q = 2 * m + 1 := by
    rw [hsum, Nat.mul_add_div (Nat.two_pow_pos q), Nat.div_eq_of_lt hrq, Nat.add_zero]
  refine ⟨hkq, hq, by rw [hdiv]; omega, ?_, ?_⟩
  · obtain ⟨d, rfl⟩ : ∃ d, q = k + d := ⟨q - k, by omega⟩
    refine gath_skip t S k d fun j h1 h2 => ?_
    obtain ⟨c, hc⟩ : ∃ c, k + d = j + (c + 1) := ⟨k + d - j - 1, by omega⟩
    have hrj : S % 2 ^ k < 2 ^ j := Nat.lt_of_lt_of_le hr (Nat.pow_le_pow_right (by decide) h1)
    have hj : S / 2 ^ j = 2 * (2 ^ c * (2 * m + 1)) := by
      rw [hsum, hc, Nat.pow_add, Nat.mul_assoc, Nat.mul_add_div (Nat.two_pow_pos j), Nat.div_eq_of_lt hrj, Nat.pow_succ, Nat.mul_comm (2 ^ c) 2, Nat.mul_assoc, Nat.add_zero]
    rw [hj]; omega
  · rw [hm, strike q m]
    have h2 : S / 2 ^ (q + 1) = m := by
      rw [Nat.pow_succ, ← Nat.div_div_eq_div_mul, hdiv]; omega
    unfold hi
    rw [h2, Nat.mul_comm]

/-- Nothing is left: all has been gathered. -/
theorem done (t : Nat → Nat) (S k : Nat) (hk : k ≤ 64) (h : hi S k = 0) : gath t S 64 = gath t S k := by
  obtain ⟨d, hd⟩ : ∃ d, 64 = k + d := ⟨64 - k, by omega⟩
  rw [hd]
  refine gath_skip t S k d fun j h1 h2 => ?_
  have hz : S / 2 ^ k = 0 := by
    unfold hi at h
    rcases Nat.mul_eq_zero.1 h with h | h
    · exact h
    · have := Nat.two_pow_pos k; omega
  have hS : S < 2 ^ k := by
    rcases Nat.div_eq_zero_iff.1 hz with h | h
    · have := Nat.two_pow_pos k; omega
    · exact h
  have : S / 2 ^ j = 0 := Nat.div_eq_of_lt (Nat.lt_of_lt_of_le hS (Nat.pow_le_pow_right (by decide) h1))
  rw [this]; simp

end Go.Proofs.YbulkbpesDoor.Plain
