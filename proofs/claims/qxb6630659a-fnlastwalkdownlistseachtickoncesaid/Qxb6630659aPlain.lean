import Derived.WalkKit
import Derived.Lib.BitFns
import Derived.Lib.ItoaNum
import Derived.Laws.Bits64b
import Derived.Below
/- WORDS AS SETS OF BITS; no program. -/
namespace Go.Proofs.Qxb6630659a
set_option linter.unusedVariables false

def wordTo (f : Nat → Bool) : Nat → Nat
  | 0 => 0
  | n + 1 => wordTo f n ||| (if f n then 2 ^ n else 0)
theorem wordTo_testBit (f : Nat → Bool) (n j : Nat) : (wordTo f n).testBit j = (decide (j < n) && f j) := by
  induction n with
  | zero => simp [wordTo]
  | succ n ih =>
    simp only [wordTo, Nat.testBit_or, ih]
    by_cases hf : f n = true
    · rw [if_pos hf, Nat.testBit_two_pow]
      by_cases e : n = j
      · subst e; simp [hf]
      · have e2 : ¬ (j = n) := fun h => e h.symm
        by_cases h : j < n
        · have : j < n + 1 := by omega
          simp [h, this, e]
        · have : ¬ j < n + 1 := by omega
          simp [h, this, e]
    · rw [if_neg hf]
      by_cases e : j = n
      · subst e; simp [hf]
      · by_cases h : j < n
        · have : j < n + 1 := by omega
          simp [h, this]
        · have : ¬ j < n + 1 := by omega
          simp [h, this]
theorem wordTo_lt (f : Nat → Bool) (n : Nat) : wordTo f n < 2 ^ n := by
  induction n with
  | zero => simp [wordTo]
  | succ n ih =>
    simp only [wordTo]
    apply Nat.or_lt_two_pow
    · have : 2 ^ n < 2 ^ (n + 1) := Nat.pow_lt_pow_right (by omega) (by omega)
      omega
    · split
      · exact Nat.pow_lt_pow_right (by omega) (by omega)
      · exact Nat.two_pow_pos _
def word (f : Nat → Bool) : Nat := wordTo f 64
theorem word_testBit (f : Nat → Bool) (j : Nat) : (word f).testBit j = (decide (j < 64) && f j) := wordTo_testBit f 64 j
theorem word_lt (f : Nat → Bool) : word f < 18446744073709551616 := wordTo_lt f 64
theorem word_ext (f g : Nat → Bool) (h : ∀ j, j < 64 → f j = g j) : word f = word g := by
  apply Nat.eq_of_testBit_eq
  intro j
  rw [word_testBit, word_testBit]
  by_cases e : j < 64
  · simp [e, h j e]
  · simp [e]
theorem word_or (f : Nat → Bool) (j : Nat) (hj : j < 64) : word f ||| 2 ^ j = word (fun k => f k || k == j) := by
  apply Nat.eq_of_testBit_eq
  intro k
  rw [Nat.testBit_or, word_testBit, word_testBit, Nat.testBit_two_pow]
  by_cases e : k = j
  · subst e; simp [hj]
  · have e2 : ¬ j = k := fun h => e h.symm
    have e3 : (k == j) = false := by simpa using e
    simp [e2, e3]
theorem word_mask (f : Nat → Bool) (m : Nat) : word f &&& (2 ^ m - 1) = word (fun k => f k && decide (k < m)) := by
  apply Nat.eq_of_testBit_eq
  intro k
  rw [Nat.testBit_and, word_testBit, word_testBit, Nat.testBit_two_pow_sub_one, Bool.and_assoc]
theorem word_zero (f : Nat → Bool) : word f = 0 ↔ ∀ j, j < 64 → f j = false := by
  constructor
  · intro h j hj
    have := word_testBit f j
    rw [h] at this
    simpa [hj] using this
  · intro h
    have : word f = word (fun _ => false) := word_ext _ _ (fun j hj => by rw [h j hj])
    rw [this]; decide
theorem word_and_bit (f : Nat → Bool) (j : Nat) (hj : j < 64) : (word f &&& 2 ^ j = 0) ↔ f j = false := by
  constructor
  · intro h
    have : (word f &&& 2 ^ j).testBit j = false := by rw [h]; simp
    rw [Nat.testBit_and, word_testBit, Nat.testBit_two_pow] at this
    simpa [hj] using this
  · intro h
    apply Nat.eq_of_testBit_eq
    intro k
    rw [Nat.testBit_and, word_testBit, Nat.testBit_two_pow]
    by_cases e : j = k
    · subst e; simp [h]
    · simp [e]
theorem word_top (f : Nat → Bool) (h : word f ≠ 0) : 1 ≤ Lib.bitLen (word f) ∧ Lib.bitLen (word f) ≤ 64 ∧ f (Lib.bitLen (word f) - 1) = true ∧ ∀ j, Lib.bitLen (word f) ≤ j → j < 64 → f j = false := by
  have hlt : word f < 2 ^ 64 := word_lt f
  obtain ⟨h1, h2, h3⟩ := Lib.bitLenAux_bounds 64 (word f) hlt h
  have hb : Lib.bitLenAux 64 (word f) = Lib.bitLen (word f) := rfl
  rw [hb] at h1 h2 h3
  have h4 : Lib.bitLen (word f) ≤ 64 := Lib.bitLen_le _ 64 (by omega) hlt
  refine ⟨h1, h4, ?_, fun j hj hj2 => ?_⟩
  · have ht : (word f).testBit (Lib.bitLen (word f) - 1) = true := by
      have e1 : (word f) / 2 ^ (Lib.bitLen (word f) - 1) = 1 := by
        have e2 : 2 ^ Lib.bitLen (word f) = 2 * 2 ^ (Lib.bitLen (word f) - 1) := by
          conv => lhs; rw [show Lib.bitLen (word f) = (Lib.bitLen (word f) - 1) + 1 by omega, Nat.pow_succ]
          omega
        rw [e2] at h3
        apply Nat.div_eq_of_lt_le
        · omega
        · omega
      rw [Nat.testBit, Nat.shiftRight_eq_div_pow, e1]; decide
    rw [word_testBit] at ht
    simpa using (Bool.and_eq_true _ _ ▸ ht).2
  · have ht : (word f).testBit j = false := Nat.testBit_lt_two_pow (Nat.lt_of_lt_of_le h3 (Nat.pow_le_pow_right (by omega) hj))
    rw [word_testBit] at ht
    simpa [hj2] using ht
end Go.Proofs.Qxb6630659a
