/-
  THE WALKS OF ZZdatesIn AND OF THE LAW FnDatesInMonthsAndDaysRoundTrip; the plain law of both together.
-/
import Derived.Test.Qxb6600731aDates
import Derived.Test.Qxb6600731aExact
namespace Go.Proofs.Qxb6600731a
open Go.RowKit

/-! ### The plain law -/
theorem xk_at (M : Nat) (D : Int) (j : Nat) (hj : j < 12) : xk M D 12 j = if M.testBit (j + 1) = true then D else 0 := by
  unfold xk
  by_cases h : M.testBit (j + 1) = true
  · rw [if_pos ⟨hj, h⟩, if_pos h]
  · rw [if_neg (fun x => h x.2), if_neg h]

theorem mask_bit (j : Nat) (h1 : 1 ≤ j) (h2 : j ≤ 12) : (8190 : Nat).testBit j = true := by
  rcases (show j = 1 ∨ j = 2 ∨ j = 3 ∨ j = 4 ∨ j = 5 ∨ j = 6 ∨ j = 7 ∨ j = 8 ∨ j = 9 ∨ j = 10 ∨ j = 11 ∨ j = 12 by omega) with rfl | rfl | rfl | rfl | rfl | rfl | rfl | rfl | rfl | rfl | rfl | rfl <;> decide
theorem mask_bit_no (j : Nat) (h : ¬ (1 ≤ j ∧ j ≤ 12)) : (8190 : Nat).testBit j = false := by
  by_cases h0 : j = 0
  · subst h0
    decide
  · have hp : 2 ^ 13 ≤ 2 ^ j := Nat.pow_le_pow_right (by decide) (by omega)
    exact Nat.testBit_lt_two_pow (Nat.lt_of_lt_of_le (by decide) hp)

/-- Days: the months that are named among the twelve. -/
theorem mo_trip (M : Nat) (D : Int) (hD : D ≠ 0) : moTo (xk M D 12) 12 = M &&& 8190 := by
  apply Nat.eq_of_testBit_eq
  intro j
  rw [testBit_moTo, Nat.testBit_and]
  by_cases h : 1 ≤ j ∧ j ≤ 12
  · obtain ⟨h1, h2⟩ := h
    rw [mask_bit j h1 h2, xk_at M D (j - 1) (by omega), Nat.sub_add_cancel h1]
    simp only [h1, h2, decide_true, Bool.true_and, Bool.and_true]
    by_cases hb : M.testBit j = true
    · rw [if_pos hb, hb]
      simpa using hD
    · have hb' : M.testBit j = false := by simpa using hb
      rw [if_neg hb, hb']
      rfl
  · rw [mask_bit_no j h, Bool.and_false]
    have hc : (decide (1 ≤ j) && decide (j ≤ 12)) = false := by
      by_cases h1 : 1 ≤ j
      · have h2 : ¬ j ≤ 12 := fun h2 => h ⟨h1, h2⟩
        simp [h2]
      · simp [h1]
    rw [hc, Bool.false_and]

/-- Where every month is empty. -/
theorem all_zero (x : Nat → Int) : ∀ k, (∀ j, j < k → x j = 0) → moTo x k = 0 ∧ dTo x k = 0
  | 0, _ => ⟨rfl, rfl⟩
  | k + 1, h => by
    obtain ⟨h1, h2⟩ := all_zero x k (fun j hj => h j (by omega))
    rw [moTo, dTo, if_pos (h k (by omega)), if_pos (h k (by omega))]
    exact ⟨h1, h2⟩

/-- Where each month is empty or holds D. -/
theorem d_trip (x : Nat → Int) (D : Int) (hD : D ≠ 0) : ∀ k, (∀ j, j < k → x j = 0 ∨ x j = D) → dTo x k = if moTo x k = 0 then 0 else D
  | 0, _ => by simp [moTo, dTo]
  | k + 1, h => by
    have ih := d_trip x D hD k (fun j hj => h j (by omega))
    rcases h k (by omega) with h0 | h0
    · rw [moTo, dTo, if_pos h0, if_pos h0, ih]
    · have hne : ¬ x k = 0 := by rw [h0]; exact hD
      have hor : ¬ moTo x k ||| 2 ^ (k + 1) = 0 := by
        intro e
        have hb : (moTo x k ||| 2 ^ (k + 1)).testBit (k + 1) = true := by rw [Nat.testBit_or, Nat.testBit_two_pow]; simp
        rw [e, Nat.zero_testBit] at hb
        cases hb
      rw [moTo, dTo, if_neg hne, if_neg hne, if_neg hor, h0]

theorem xk_two (M : Nat) (D : Int) : ∀ j, j < 12 → xk M D 12 j = 0 ∨ xk M D 12 j = D := by
  intro j hj
  rw [xk_at M D j hj]
  split
  · exact .inr rfl
  · exact .inl rfl

/-- No days, or no month: two empty sets. -/
theorem trip_none (M : Nat) (D : Int) (h : D = 0 ∨ M &&& 8190 = 0) : moTo (xk M D 12) 12 = 0 ∧ dTo (xk M D 12) 12 = 0 := by
  by_cases hD : D = 0
  · refine all_zero _ 12 (fun j hj => ?_)
    rcases xk_two M D j hj with h | h
    · exact h
    · rw [h, hD]
  · have hm : M &&& 8190 = 0 := by
      rcases h with h | h
      · exact absurd h hD
      · exact h
    have e := mo_trip M D hD
    rw [hm] at e
    refine ⟨e, ?_⟩
    rw [d_trip _ D hD 12 (xk_two M D), if_pos e]

/-- Else what was named. -/
theorem trip_some (M : Nat) (D : Int) (hD : D ≠ 0) (hm : M &&& 8190 ≠ 0) : moTo (xk M D 12) 12 = M &&& 8190 ∧ dTo (xk M D 12) 12 = D := by
  have e := mo_trip M D hD
  refine ⟨e, ?_⟩
  rw [d_trip _ D hD 12 (xk_two M D), if_neg (by rw [e]; exact hm)]

/-! ### The walks -/
set_option maxHeartbeats 1000000 in
/-- ZZdatesIn. -/
theorem zz14 (M : Nat) (D : Int) (y : ByteArray) (hM : M < 18446744073709551616) (w : World) :
    Calls Try.prog 14 #[.int .u64 (M : Int), .int .u64 D, .string y] w fun e w' => e = .returned (.tuple #[.agg (arrOf (xk M D 12)), .string y]) ∧ Below w.heap.size w w' := by
  go_enter Try.func14, Try.ntmps14
  go_wp2_with fail
  refine (dates20 M D y hM _).mono ?_
  rintro e w1 ⟨rfl, c1, c2, c3, rfl⟩
  go_wp2
  refine wp_loop_rounds 13 ?_
  iterate 13 (rw [rounds_succ]; go_wp2)
  go_region
  go_wp2
  simp [bodyPost, results, Try.results14, go_sem]
  refine Below.drew ?_
  repeat (with_reducible refine below_alloc ?_ _)
  exact Below.refl _ _

theorem bytes13 (a b : Int) (y : ByteArray) (w : World) :
    Calls Try.prog 13 #[.int .u64 a, .int .u64 b, .string y] w fun e w' => AnyBool e ∧ w = w' := by
  go_enter Try.func13, Try.ntmps13
  go_wp2
  all_goals (go_ret; exact ⟨anyBool _, rfl⟩)

/-- Of the answer mo, d the law's last test: the two ways. -/
theorem law5_none (M : Nat) (D : Int) (y : ByteArray) (hM : M < 18446744073709551616) (w : World)
    (hor : ((D == 0) = true) ∨ ((D == 0) = false ∧ (bits .and .u64 (M : Int) 8190 == 0) = true)) (h1 : ((moTo (xk M D 12) 12 : Int) == 0) = true) (h2 : (dTo (xk M D 12) 12 == 0) = true) :
    Calls Try.prog 5 #[.int .u64 (M : Int), .int .u64 D, .string y] w fun e w' => e = .returned (.bool true) ∧ Below w.heap.size w w' := by
  have HM : Hid (M < 18446744073709551616) := hM
  clear hM
  rcases hor with hd | ⟨hd, hm⟩
  all_goals
    go_enter Try.func5, Try.ntmps5
    go_wp2_with fail
    refine (bytes13 _ _ y _).mono ?_
    rintro e w1 ⟨⟨z, rfl⟩, rfl⟩
    cases z
    · go_wp2
      go_ret
      exact ⟨rfl, Below.refl _ _⟩
    go_wp2_with fail
    · go_ret
      exact ⟨rfl, Below.refl _ _⟩
    refine (zz14 M D y HM.out _).mono ?_
    rintro e w1 ⟨rfl, hB1⟩
    have HB1 : Hid (Below w.heap.size w w1) := hB1
    clear hB1
    go_wp2_with fail
    refine (zz15 (xk M D 12) y _).mono ?_
    rintro e w2 ⟨rfl, c1, c2, rfl⟩
    go_wp2
    go_ret
    refine ⟨rfl, ?_⟩
    repeat (with_reducible refine below_alloc ?_ _)
    exact HB1.out

theorem law5_some (M : Nat) (D : Int) (y : ByteArray) (hM : M < 18446744073709551616) (w : World)
    (hd : (D == 0) = false) (hm : (bits .and .u64 (M : Int) 8190 == 0) = false) (h1 : ((moTo (xk M D 12) 12 : Int) == bits .and .u64 (M : Int) 8190) = true) (h2 : (dTo (xk M D 12) 12 == D) = true) :
    Calls Try.prog 5 #[.int .u64 (M : Int), .int .u64 D, .string y] w fun e w' => e = .returned (.bool true) ∧ Below w.heap.size w w' := by
  have HM : Hid (M < 18446744073709551616) := hM
  clear hM
  go_enter Try.func5, Try.ntmps5
  go_wp2_with fail
  refine (bytes13 _ _ y _).mono ?_
  rintro e w1 ⟨⟨z, rfl⟩, rfl⟩
  cases z
  · go_wp2
    go_ret
    exact ⟨rfl, Below.refl _ _⟩
  go_wp2_with fail
  · go_ret
    exact ⟨rfl, Below.refl _ _⟩
  refine (zz14 M D y HM.out _).mono ?_
  rintro e w1 ⟨rfl, hB1⟩
  have HB1 : Hid (Below w.heap.size w w1) := hB1
  clear hB1
  go_wp2_with fail
  refine (zz15 (xk M D 12) y _).mono ?_
  rintro e w2 ⟨rfl, c1, c2, rfl⟩
  go_wp2
  go_ret
  refine ⟨rfl, ?_⟩
  repeat (with_reducible refine below_alloc ?_ _)
  exact HB1.out

theorem law5 (M : Nat) (D : Int) (y : ByteArray) (hM : M < 18446744073709551616) (w : World) :
    Calls Try.prog 5 #[.int .u64 (M : Int), .int .u64 D, .string y] w fun e w' => e = .returned (.bool true) ∧ Below w.heap.size w w' := by
  have eb : bits .and .u64 (M : Int) 8190 = ((M &&& 8190 : Nat) : Int) := u64_and_nat M 8190 hM (by decide)
  by_cases hD : D = 0
  · obtain ⟨e1, e2⟩ := trip_none M D (.inl hD)
    exact law5_none M D y hM w (.inl (beq_iff_eq.2 hD)) (by rw [e1]; rfl) (beq_iff_eq.2 e2)
  · by_cases hm : M &&& 8190 = 0
    · obtain ⟨e1, e2⟩ := trip_none M D (.inr hm)
      exact law5_none M D y hM w (.inr ⟨beq_eq_false_iff_ne.2 hD, by rw [eb, hm]; rfl⟩) (by rw [e1]; rfl) (beq_iff_eq.2 e2)
    · obtain ⟨e1, e2⟩ := trip_some M D hD hm
      exact law5_some M D y hM w (beq_eq_false_iff_ne.2 hD) (by rw [eb]; exact beq_eq_false_iff_ne.2 (by omega)) (by rw [eb, e1]; exact beq_iff_eq.2 rfl) (beq_iff_eq.2 e2)
end Go.Proofs.Qxb6600731a
