/-
  Lemmas on the way to the statement of YtkcdakohmfodjaaGreatHeader, joined out of these texts: Hfl. No condition.
-/
import Derived.Laws.BitsAllLaws
import Derived.Lib.EndianBits
import Derived.Test.YtkcdakohmfodjaaGreatNValLaw
namespace Go.Proofs.YtkcdakohmfodjaaGreat
set_option linter.unusedVariables false
theorem flag_or16 (p : HP) (k : Nat) (hk : k < 14) : Go.bits .or .u16 ((p.flags k : Nat) : Int) ((2 ^ (15 - k) : Nat) : Int) = ((p.flags k + 2 ^ (15 - k) : Nat) : Int) := by
  obtain ⟨h1, h2⟩ := p.flags_lt k (by omega)
  have h3 : 2 ^ (15 - k) < 2 ^ (16 - k) := Nat.pow_lt_pow_right (by omega) (by omega)
  have h4 : 2 ^ (15 - k) ≤ 2 ^ 15 := Nat.pow_le_pow_right (by omega) (by omega)
  rw [u16_or_nat _ _ (by omega) (by omega), nat_join (16 - k) _ _ h1 h3]
theorem HP.flags_or (p : HP) (k : Nat) (hk : k < 14) : p.flags (k + 1) = p.flags k ||| (if p.has k then 2 ^ (15 - k) else 0) := by
  obtain ⟨h1, h2⟩ := p.flags_lt k (by omega)
  have h3 : 2 ^ (15 - k) < 2 ^ (16 - k) := Nat.pow_lt_pow_right (by omega) (by omega)
  obtain ⟨a, ha⟩ : ∃ a, p.flags k = 2 ^ (16 - k) * a := ⟨p.flags k / 2 ^ (16 - k), by rw [Nat.mul_div_cancel' (Nat.dvd_of_mod_eq_zero h1)]⟩
  show p.flags k + (if p.has k then 2 ^ (15 - k) else 0) = _
  cases p.has k
  · simp
  · simp only [if_true]
    rw [ha, Nat.two_pow_add_eq_or_of_lt h3]
theorem HP.flags_bit (p : HP) (j : Nat) (hj : j < 14) : ∀ k, k ≤ 14 → (p.flags k).testBit (15 - j) = (decide (j < k) && p.has j)
  | 0, _ => by simp [HP.flags]
  | k + 1, hk => by
    rw [p.flags_or k (by omega), Nat.testBit_or, HP.flags_bit p j hj k (by omega)]
    by_cases h : j = k
    · subst h
      cases hp : p.has j <;> simp
    · have hne : 15 - k ≠ 15 - j := by omega
      have e : (if p.has k then 2 ^ (15 - k) else 0).testBit (15 - j) = false := by
        cases p.has k
        · simp
        · simp only [if_true]
          rw [Nat.testBit_two_pow]
          simpa using hne
      rw [e, Bool.or_false]
      congr 1
      by_cases h2 : j < k
      · simp [h2, show j < k + 1 by omega]
      · simp [h2, show ¬ j < k + 1 by omega]
theorem HP.flags_and (p : HP) (j : Nat) (hj : j < 14) : p.flags 14 &&& 2 ^ (15 - j) = if p.has j then 2 ^ (15 - j) else 0 := by
  have h := p.flags_bit j hj 14 (Nat.le_refl _)
  apply Nat.eq_of_testBit_eq
  intro i
  rw [Nat.testBit_and, Nat.testBit_two_pow]
  by_cases e : 15 - j = i
  · subst e
    rw [h]
    cases p.has j <;> simp [hj]
  · cases p.has j
    · simp [e]
    · simp only [if_true]
      rw [Nat.testBit_two_pow]
      simp [e]
theorem and_i64 (a b : Nat) (ha : a < 65536) (hb : b < 65536) : bits .and .i64 (a : Int) (b : Int) = ((a &&& b : Nat) : Int) := by
  have ofI : ∀ n : Nat, n < 65536 → (BitVec.ofInt 64 (n : Int)).toNat = n := fun n hn => by
    rw [BitVec.ofInt_natCast, BitVec.toNat_ofNat]; exact Nat.mod_eq_of_lt (by omega)
  have hx : a &&& b < 2 ^ 16 := Nat.and_lt_two_pow _ (by omega)
  show IntKind.i64.wrap ((BitVec.ofInt 64 (a : Int) &&& BitVec.ofInt 64 (b : Int)).toNat : Int) = _
  rw [BitVec.toNat_and, ofI a ha, ofI b hb, IntKind.wrap_i64]
  omega
/-- What hasProperty asks. -/
theorem flag_and (p : HP) (j : Nat) (hj : j < 14) : bits .and .i64 ((p.flags 14 : Nat) : Int) ((2 ^ (15 - j) : Nat) : Int) = if p.has j then ((2 ^ (15 - j) : Nat) : Int) else 0 := by
  have h4 : 2 ^ (15 - j) ≤ 2 ^ 15 := Nat.pow_le_pow_right (by omega) (by omega)
  rw [and_i64 _ _ (p.flags_lt 14 (by omega)).2 (by omega), p.flags_and j hj]
  cases p.has j <;> simp
end Go.Proofs.YtkcdakohmfodjaaGreat
