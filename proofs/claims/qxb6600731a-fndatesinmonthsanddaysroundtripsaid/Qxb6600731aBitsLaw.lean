/-
  THE PLAIN LAW OF THE MONTHS' BITS: month j stands at bit j.
-/
import Derived.Test.Qxb6600731aMonths
namespace Go.Proofs.Qxb6600731a

theorem testBit_moTo (x : Nat → Int) : ∀ k j, (moTo x k).testBit j = (decide (1 ≤ j) && decide (j ≤ k) && (x (j - 1) != 0))
  | 0, j => by
    rw [moTo, Nat.zero_testBit]
    by_cases h : 1 ≤ j
    · have h2 : ¬ j ≤ 0 := by omega
      simp [h2]
    · simp [h]
  | k + 1, j => by
    have ih := testBit_moTo x k j
    by_cases h0 : x k = 0
    · rw [moTo, if_pos h0, ih]
      by_cases hj : j = k + 1
      · subst hj
        simp [h0]
      · have e : decide (j ≤ k) = decide (j ≤ k + 1) := by
          by_cases h : j ≤ k
          · have h2 : j ≤ k + 1 := by omega
            simp [h, h2]
          · have h2 : ¬ j ≤ k + 1 := by omega
            simp [h, h2]
        rw [e]
    · rw [moTo, if_neg h0, Nat.testBit_or, ih, Nat.testBit_two_pow]
      by_cases hj : j = k + 1
      · subst hj
        simp [h0]
      · have e : decide (j ≤ k) = decide (j ≤ k + 1) := by
          by_cases h : j ≤ k
          · have h2 : j ≤ k + 1 := by omega
            simp [h, h2]
          · have h2 : ¬ j ≤ k + 1 := by omega
            simp [h, h2]
        have e2 : decide (k + 1 = j) = false := by simp; omega
        rw [e, e2, Bool.or_false]

theorem moTo12_lt (x : Nat → Int) : moTo x 12 < 8192 := moTo_lt x 12

/-- Bit m + 1 is set just if month m holds a day. -/
theorem bit_of (x : Nat → Int) (m : Nat) (hm : m < 12) (p : Int) (hp : p = ((2 ^ (m + 1) : Nat) : Int)) : (bits .and .u64 ((moTo x 12 : Int) / p) 1 == 1) = (x m != 0) := by
  have hl := moTo12_lt x
  have hd : moTo x 12 / 2 ^ (m + 1) ≤ moTo x 12 := Nat.div_le_self _ _
  have e1 : bits .and .u64 ((moTo x 12 : Int) / p) 1 = ((moTo x 12 / 2 ^ (m + 1) % 2 : Nat) : Int) := by
    rw [hp, ← Int.natCast_ediv]
    have e := u64_and_nat (moTo x 12 / 2 ^ (m + 1)) 1 (by omega) (by omega)
    rw [nat_mask1] at e
    exact e
  have e2 := testBit_moTo x 12 (m + 1)
  rw [Nat.testBit_eq_decide_div_mod_eq] at e2
  have e3 : decide (1 ≤ m + 1) = true := by simp
  have e4 : decide (m + 1 ≤ 12) = true := by simp; omega
  rw [e3, e4, Bool.true_and, Bool.true_and, Nat.add_sub_cancel] at e2
  rw [e1, ← e2]
  by_cases h : moTo x 12 / 2 ^ (m + 1) % 2 = 1
  · rw [h]
    rfl
  · have h0 : moTo x 12 / 2 ^ (m + 1) % 2 = 0 := by omega
    rw [h0]
    rfl

/-- No bit outside 1 to 12. -/
theorem mask_of (x : Nat → Int) : (bits .andNot .u64 (moTo x 12 : Int) 8190 != 0) = false := by
  have hl := moTo12_lt x
  have e := u64_andNot_nat (moTo x 12) 8190 (by omega) (by omega)
  have e0 : moTo x 12 &&& (18446744073709551615 - 8190) = 0 := by
    apply Nat.eq_of_testBit_eq
    intro j
    rw [Nat.testBit_and, testBit_moTo, Nat.zero_testBit]
    by_cases h : 1 ≤ j ∧ j ≤ 12
    · have hc : (18446744073709551615 - 8190).testBit j = false := by
        rcases (show j = 1 ∨ j = 2 ∨ j = 3 ∨ j = 4 ∨ j = 5 ∨ j = 6 ∨ j = 7 ∨ j = 8 ∨ j = 9 ∨ j = 10 ∨ j = 11 ∨ j = 12 by omega) with rfl | rfl | rfl | rfl | rfl | rfl | rfl | rfl | rfl | rfl | rfl | rfl <;> decide
      rw [hc, Bool.and_false]
    · have hc : (decide (1 ≤ j) && decide (j ≤ 12)) = false := by
        by_cases h1 : 1 ≤ j
        · have h2 : ¬ j ≤ 12 := fun h2 => h ⟨h1, h2⟩
          simp [h2]
        · simp [h1]
      rw [hc, Bool.false_and, Bool.false_and]
  rw [e0] at e
  have e2 : bits .andNot .u64 (moTo x 12 : Int) 8190 = 0 := e
  rw [e2]
  rfl
end Go.Proofs.Qxb6600731a
