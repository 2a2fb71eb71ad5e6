/-
  THE WALKS OF has AND datesIn.
-/
import Derived.Test.Qxb6600731aMonths
namespace Go.Proofs.Qxb6600731a
open Go.RowKit

theorem has_bit (M k : Nat) (hM : M < 18446744073709551616) (hk : k < 12) (p : Int) (hp : p = ((2 ^ (k + 1) : Nat) : Int)) : (bits .and .u64 (M : Int) p != 0) = M.testBit (k + 1) := by
  have h2 : 2 ^ (k + 1) ≤ 2 ^ 12 := Nat.pow_le_pow_right (by decide) (by omega)
  have h12 : 2 ^ 12 < 18446744073709551616 := by decide
  rw [hp, u64_and_nat M (2 ^ (k + 1)) hM (by omega), nat_bit, Nat.testBit_eq_decide_div_mod_eq]
  have hpos : 0 < 2 ^ (k + 1) := Nat.pow_pos (by decide)
  by_cases h : M / 2 ^ (k + 1) % 2 = 1
  · rw [h, Nat.one_mul]
    have hne : ((2 ^ (k + 1) : Nat) : Int) ≠ 0 := by omega
    rw [bne_iff_ne.2 hne]
    rfl
  · have h0 : M / 2 ^ (k + 1) % 2 = 0 := by omega
    rw [h0, Nat.zero_mul]
    rfl

/-- (valueSet).has of one month. -/
theorem has22 (M k : Nat) (hM : M < 18446744073709551616) (hk : k < 12) (w : World) :
    Calls Try.prog 22 #[.int .u64 (M : Int), .int .i64 ((k : Int) + 1)] w fun e w' => e = .returned (.bool (M.testBit (k + 1))) ∧ w = w' := by
  rcases (show k = 0 ∨ k = 1 ∨ k = 2 ∨ k = 3 ∨ k = 4 ∨ k = 5 ∨ k = 6 ∨ k = 7 ∨ k = 8 ∨ k = 9 ∨ k = 10 ∨ k = 11 by omega) with rfl | rfl | rfl | rfl | rfl | rfl | rfl | rfl | rfl | rfl | rfl | rfl
  · go_enter Try.func22, Try.ntmps22
    go_wp2_with (go_at_call 24; refine (bit24 1 (by omega) _).mono ?_; rintro e w' ⟨rfl, rfl⟩)
    go_ret
    exact ⟨congrArg (fun b => Ending.returned (.bool b)) (has_bit M 0 hM (by omega) 2 (by decide)), rfl⟩
  · go_enter Try.func22, Try.ntmps22
    go_wp2_with (go_at_call 24; refine (bit24 2 (by omega) _).mono ?_; rintro e w' ⟨rfl, rfl⟩)
    go_ret
    exact ⟨congrArg (fun b => Ending.returned (.bool b)) (has_bit M 1 hM (by omega) 4 (by decide)), rfl⟩
  · go_enter Try.func22, Try.ntmps22
    go_wp2_with (go_at_call 24; refine (bit24 3 (by omega) _).mono ?_; rintro e w' ⟨rfl, rfl⟩)
    go_ret
    exact ⟨congrArg (fun b => Ending.returned (.bool b)) (has_bit M 2 hM (by omega) 8 (by decide)), rfl⟩
  · go_enter Try.func22, Try.ntmps22
    go_wp2_with (go_at_call 24; refine (bit24 4 (by omega) _).mono ?_; rintro e w' ⟨rfl, rfl⟩)
    go_ret
    exact ⟨congrArg (fun b => Ending.returned (.bool b)) (has_bit M 3 hM (by omega) 16 (by decide)), rfl⟩
  · go_enter Try.func22, Try.ntmps22
    go_wp2_with (go_at_call 24; refine (bit24 5 (by omega) _).mono ?_; rintro e w' ⟨rfl, rfl⟩)
    go_ret
    exact ⟨congrArg (fun b => Ending.returned (.bool b)) (has_bit M 4 hM (by omega) 32 (by decide)), rfl⟩
  · go_enter Try.func22, Try.ntmps22
    go_wp2_with (go_at_call 24; refine (bit24 6 (by omega) _).mono ?_; rintro e w' ⟨rfl, rfl⟩)
    go_ret
    exact ⟨congrArg (fun b => Ending.returned (.bool b)) (has_bit M 5 hM (by omega) 64 (by decide)), rfl⟩
  · go_enter Try.func22, Try.ntmps22
    go_wp2_with (go_at_call 24; refine (bit24 7 (by omega) _).mono ?_; rintro e w' ⟨rfl, rfl⟩)
    go_ret
    exact ⟨congrArg (fun b => Ending.returned (.bool b)) (has_bit M 6 hM (by omega) 128 (by decide)), rfl⟩
  · go_enter Try.func22, Try.ntmps22
    go_wp2_with (go_at_call 24; refine (bit24 8 (by omega) _).mono ?_; rintro e w' ⟨rfl, rfl⟩)
    go_ret
    exact ⟨congrArg (fun b => Ending.returned (.bool b)) (has_bit M 7 hM (by omega) 256 (by decide)), rfl⟩
  · go_enter Try.func22, Try.ntmps22
    go_wp2_with (go_at_call 24; refine (bit24 9 (by omega) _).mono ?_; rintro e w' ⟨rfl, rfl⟩)
    go_ret
    exact ⟨congrArg (fun b => Ending.returned (.bool b)) (has_bit M 8 hM (by omega) 512 (by decide)), rfl⟩
  · go_enter Try.func22, Try.ntmps22
    go_wp2_with (go_at_call 24; refine (bit24 10 (by omega) _).mono ?_; rintro e w' ⟨rfl, rfl⟩)
    go_ret
    exact ⟨congrArg (fun b => Ending.returned (.bool b)) (has_bit M 9 hM (by omega) 1024 (by decide)), rfl⟩
  · go_enter Try.func22, Try.ntmps22
    go_wp2_with (go_at_call 24; refine (bit24 11 (by omega) _).mono ?_; rintro e w' ⟨rfl, rfl⟩)
    go_ret
    exact ⟨congrArg (fun b => Ending.returned (.bool b)) (has_bit M 10 hM (by omega) 2048 (by decide)), rfl⟩
  · go_enter Try.func22, Try.ntmps22
    go_wp2_with (go_at_call 24; refine (bit24 12 (by omega) _).mono ?_; rintro e w' ⟨rfl, rfl⟩)
    go_ret
    exact ⟨congrArg (fun b => Ending.returned (.bool b)) (has_bit M 11 hM (by omega) 4096 (by decide)), rfl⟩

theorem has22_yes (M k : Nat) (hM : M < 18446744073709551616) (hk : k < 12) (h : M.testBit (k + 1) = true) (w : World) :
    Calls Try.prog 22 #[.int .u64 (M : Int), .int .i64 ((k : Int) + 1)] w fun e w' => e = .returned (.bool true) ∧ w = w' := by
  have c := has22 M k hM hk w
  rw [h] at c
  exact c
theorem has22_no (M k : Nat) (hM : M < 18446744073709551616) (hk : k < 12) (h : M.testBit (k + 1) = false) (w : World) :
    Calls Try.prog 22 #[.int .u64 (M : Int), .int .i64 ((k : Int) + 1)] w fun e w' => e = .returned (.bool false) ∧ w = w' := by
  have c := has22 M k hM hk w
  rw [h] at c
  exact c

/-- Month j's days when k months are laid. -/
def xk (M : Nat) (D : Int) (k j : Nat) : Int := if j < k ∧ M.testBit (j + 1) = true then D else 0

theorem xk_other (M : Nat) (D : Int) (k j : Nat) (h : j ≠ k) : xk M D (k + 1) j = xk M D k j := by
  unfold xk
  have e : (j < k + 1 ∧ M.testBit (j + 1) = true) ↔ (j < k ∧ M.testBit (j + 1) = true) := ⟨fun ⟨a, b⟩ => ⟨by omega, b⟩, fun ⟨a, b⟩ => ⟨by omega, b⟩⟩
  by_cases hh : j < k ∧ M.testBit (j + 1) = true
  · rw [if_pos hh, if_pos (e.2 hh)]
  · rw [if_neg hh, if_neg (fun x => hh (e.1 x))]
theorem xk_hit (M : Nat) (D : Int) (k : Nat) (h : M.testBit (k + 1) = true) : xk M D (k + 1) k = D := by
  unfold xk
  rw [if_pos ⟨by omega, h⟩]
theorem xk_miss (M : Nat) (D : Int) (k : Nat) (h : M.testBit (k + 1) = false) : xk M D (k + 1) k = xk M D k k := by
  unfold xk
  rw [if_neg (fun x => by rw [h] at x; exact absurd x.2 (by decide)), if_neg (fun x => by omega)]

/-- A date set as cells. -/
abbrev dsOf (x : Nat → Int) (y : ByteArray) : Array Value := #[.int .u64 (x 0), .int .u64 (x 1), .int .u64 (x 2), .int .u64 (x 3), .int .u64 (x 4), .int .u64 (x 5), .int .u64 (x 6), .int .u64 (x 7), .int .u64 (x 8), .int .u64 (x 9), .int .u64 (x 10), .int .u64 (x 11), .string y]

theorem ds_start (M : Nat) (D : Int) (y : ByteArray) : dsOf (xk M D 0) y = dsOf (fun _ => 0) y := by
  have e : ∀ j, xk M D 0 j = 0 := fun j => by
    unfold xk
    rw [if_neg (fun x => by omega)]
  simp only [dsOf, e]

theorem ds_miss (M : Nat) (D : Int) (y : ByteArray) (k : Nat) (h : M.testBit (k + 1) = false) : dsOf (xk M D k) y = dsOf (xk M D (k + 1)) y := by
  have e : ∀ j, xk M D (k + 1) j = xk M D k j := fun j => by
    by_cases hj : j = k
    · rw [hj]
      exact xk_miss M D k h
    · exact xk_other M D k j hj
  simp only [dsOf, e]

set_option maxHeartbeats 1600000 in
/-- datesIn. -/
theorem dates20 (M : Nat) (D : Int) (y : ByteArray) (hM : M < 18446744073709551616) (w : World) :
    Calls Try.prog 20 #[.int .u64 (M : Int), .int .u64 D, .agg #[.string y]] w fun e w' => e = .returned (.agg (dsOf (xk M D 12) y)) ∧ ∃ c1 c2 c3 : Array Value, w' = ((w.alloc (.cells c1 42)).alloc (.cells c2 44)).alloc (.cells c3 44) := by
  go_enter Try.func20, Try.ntmps20
  go_wp2
  go_loopw [11] (fun i wr => ∃ k : Nat, k ≤ 12 ∧ i = .int .i64 k ∧ wr = ((w.alloc (.cells #[.string y] 42)).alloc (.cells (dsOf (fun _ => 0) ⟨#[]⟩) 44)).alloc (.cells (dsOf (xk M D k) y) 44)) (fun i _ => 12 - (intOf i).toNat)
  case atStart => exact ⟨0, Nat.zero_le _, rfl, by rw [ds_start]⟩
  case round =>
    obtain ⟨k, hk, rfl, rfl⟩ := hrel
    rcases (show k = 12 ∨ k = 0 ∨ k = 1 ∨ k = 2 ∨ k = 3 ∨ k = 4 ∨ k = 5 ∨ k = 6 ∨ k = 7 ∨ k = 8 ∨ k = 9 ∨ k = 10 ∨ k = 11 by omega) with rfl | rfl | rfl | rfl | rfl | rfl | rfl | rfl | rfl | rfl | rfl | rfl | rfl
    · go_wp2
      simp [bodyPost, results, Try.results20, go_sem]
      exact ⟨_, _, _, rfl⟩
    · cases hb : M.testBit (0 + 1)
      · have HE : Hid (dsOf (xk M D 0) y = dsOf (xk M D (0 + 1)) y) := ds_miss M D y 0 hb
        go_wp2_with (go_at_call 22; refine (has22_no M 0 hM (by omega) hb _).mono ?_; rintro e w' ⟨rfl, rfl⟩)
        go_roundw
        case rel => exact ⟨0 + 1, by omega, by go_num, by rw [← HE.out]⟩
        case measure => simp [intOf]
      · have HE : Hid ((dsOf (xk M D 0) y).setIfInBounds 0 (.int .u64 D) = dsOf (xk M D (0 + 1)) y) := by
          have e : xk M D (0 + 1) 0 = D := xk_hit M D 0 hb
          have e1 : xk M D (0 + 1) 1 = xk M D 0 1 := xk_other M D 0 1 (by omega)
          have e2 : xk M D (0 + 1) 2 = xk M D 0 2 := xk_other M D 0 2 (by omega)
          have e3 : xk M D (0 + 1) 3 = xk M D 0 3 := xk_other M D 0 3 (by omega)
          have e4 : xk M D (0 + 1) 4 = xk M D 0 4 := xk_other M D 0 4 (by omega)
          have e5 : xk M D (0 + 1) 5 = xk M D 0 5 := xk_other M D 0 5 (by omega)
          have e6 : xk M D (0 + 1) 6 = xk M D 0 6 := xk_other M D 0 6 (by omega)
          have e7 : xk M D (0 + 1) 7 = xk M D 0 7 := xk_other M D 0 7 (by omega)
          have e8 : xk M D (0 + 1) 8 = xk M D 0 8 := xk_other M D 0 8 (by omega)
          have e9 : xk M D (0 + 1) 9 = xk M D 0 9 := xk_other M D 0 9 (by omega)
          have e10 : xk M D (0 + 1) 10 = xk M D 0 10 := xk_other M D 0 10 (by omega)
          have e11 : xk M D (0 + 1) 11 = xk M D 0 11 := xk_other M D 0 11 (by omega)
          show #[Value.int .u64 D, Value.int .u64 (xk M D 0 1), Value.int .u64 (xk M D 0 2), Value.int .u64 (xk M D 0 3), Value.int .u64 (xk M D 0 4), Value.int .u64 (xk M D 0 5), Value.int .u64 (xk M D 0 6), Value.int .u64 (xk M D 0 7), Value.int .u64 (xk M D 0 8), Value.int .u64 (xk M D 0 9), Value.int .u64 (xk M D 0 10), Value.int .u64 (xk M D 0 11), .string y] = _
          rw [dsOf, e, e1, e2, e3, e4, e5, e6, e7, e8, e9, e10, e11]
        go_wp2_with (go_at_call 22; refine (has22_yes M 0 hM (by omega) hb _).mono ?_; rintro e w' ⟨rfl, rfl⟩)
        go_roundw
        case rel => exact ⟨0 + 1, by omega, by go_num, by rw [← HE.out]; rfl⟩
        case measure => simp [intOf]
    · cases hb : M.testBit (1 + 1)
      · have HE : Hid (dsOf (xk M D 1) y = dsOf (xk M D (1 + 1)) y) := ds_miss M D y 1 hb
        go_wp2_with (go_at_call 22; refine (has22_no M 1 hM (by omega) hb _).mono ?_; rintro e w' ⟨rfl, rfl⟩)
        go_roundw
        case rel => exact ⟨1 + 1, by omega, by go_num, by rw [← HE.out]⟩
        case measure => simp [intOf]
      · have HE : Hid ((dsOf (xk M D 1) y).setIfInBounds 1 (.int .u64 D) = dsOf (xk M D (1 + 1)) y) := by
          have e : xk M D (1 + 1) 1 = D := xk_hit M D 1 hb
          have e0 : xk M D (1 + 1) 0 = xk M D 1 0 := xk_other M D 1 0 (by omega)
          have e2 : xk M D (1 + 1) 2 = xk M D 1 2 := xk_other M D 1 2 (by omega)
          have e3 : xk M D (1 + 1) 3 = xk M D 1 3 := xk_other M D 1 3 (by omega)
          have e4 : xk M D (1 + 1) 4 = xk M D 1 4 := xk_other M D 1 4 (by omega)
          have e5 : xk M D (1 + 1) 5 = xk M D 1 5 := xk_other M D 1 5 (by omega)
          have e6 : xk M D (1 + 1) 6 = xk M D 1 6 := xk_other M D 1 6 (by omega)
          have e7 : xk M D (1 + 1) 7 = xk M D 1 7 := xk_other M D 1 7 (by omega)
          have e8 : xk M D (1 + 1) 8 = xk M D 1 8 := xk_other M D 1 8 (by omega)
          have e9 : xk M D (1 + 1) 9 = xk M D 1 9 := xk_other M D 1 9 (by omega)
          have e10 : xk M D (1 + 1) 10 = xk M D 1 10 := xk_other M D 1 10 (by omega)
          have e11 : xk M D (1 + 1) 11 = xk M D 1 11 := xk_other M D 1 11 (by omega)
          show #[Value.int .u64 (xk M D 1 0), Value.int .u64 D, Value.int .u64 (xk M D 1 2), Value.int .u64 (xk M D 1 3), Value.int .u64 (xk M D 1 4), Value.int .u64 (xk M D 1 5), Value.int .u64 (xk M D 1 6), Value.int .u64 (xk M D 1 7), Value.int .u64 (xk M D 1 8), Value.int .u64 (xk M D 1 9), Value.int .u64 (xk M D 1 10), Value.int .u64 (xk M D 1 11), .string y] = _
          rw [dsOf, e, e0, e2, e3, e4, e5, e6, e7, e8, e9, e10, e11]
        go_wp2_with (go_at_call 22; refine (has22_yes M 1 hM (by omega) hb _).mono ?_; rintro e w' ⟨rfl, rfl⟩)
        go_roundw
        case rel => exact ⟨1 + 1, by omega, by go_num, by rw [← HE.out]; rfl⟩
        case measure => simp [intOf]
    · cases hb : M.testBit (2 + 1)
      · have HE : Hid (dsOf (xk M D 2) y = dsOf (xk M D (2 + 1)) y) := ds_miss M D y 2 hb
        go_wp2_with (go_at_call 22; refine (has22_no M 2 hM (by omega) hb _).mono ?_; rintro e w' ⟨rfl, rfl⟩)
        go_roundw
        case rel => exact ⟨2 + 1, by omega, by go_num, by rw [← HE.out]⟩
        case measure => simp [intOf]
      · have HE : Hid ((dsOf (xk M D 2) y).setIfInBounds 2 (.int .u64 D) = dsOf (xk M D (2 + 1)) y) := by
          have e : xk M D (2 + 1) 2 = D := xk_hit M D 2 hb
          have e0 : xk M D (2 + 1) 0 = xk M D 2 0 := xk_other M D 2 0 (by omega)
          have e1 : xk M D (2 + 1) 1 = xk M D 2 1 := xk_other M D 2 1 (by omega)
          have e3 : xk M D (2 + 1) 3 = xk M D 2 3 := xk_other M D 2 3 (by omega)
          have e4 : xk M D (2 + 1) 4 = xk M D 2 4 := xk_other M D 2 4 (by omega)
          have e5 : xk M D (2 + 1) 5 = xk M D 2 5 := xk_other M D 2 5 (by omega)
          have e6 : xk M D (2 + 1) 6 = xk M D 2 6 := xk_other M D 2 6 (by omega)
          have e7 : xk M D (2 + 1) 7 = xk M D 2 7 := xk_other M D 2 7 (by omega)
          have e8 : xk M D (2 + 1) 8 = xk M D 2 8 := xk_other M D 2 8 (by omega)
          have e9 : xk M D (2 + 1) 9 = xk M D 2 9 := xk_other M D 2 9 (by omega)
          have e10 : xk M D (2 + 1) 10 = xk M D 2 10 := xk_other M D 2 10 (by omega)
          have e11 : xk M D (2 + 1) 11 = xk M D 2 11 := xk_other M D 2 11 (by omega)
          show #[Value.int .u64 (xk M D 2 0), Value.int .u64 (xk M D 2 1), Value.int .u64 D, Value.int .u64 (xk M D 2 3), Value.int .u64 (xk M D 2 4), Value.int .u64 (xk M D 2 5), Value.int .u64 (xk M D 2 6), Value.int .u64 (xk M D 2 7), Value.int .u64 (xk M D 2 8), Value.int .u64 (xk M D 2 9), Value.int .u64 (xk M D 2 10), Value.int .u64 (xk M D 2 11), .string y] = _
          rw [dsOf, e, e0, e1, e3, e4, e5, e6, e7, e8, e9, e10, e11]
        go_wp2_with (go_at_call 22; refine (has22_yes M 2 hM (by omega) hb _).mono ?_; rintro e w' ⟨rfl, rfl⟩)
        go_roundw
        case rel => exact ⟨2 + 1, by omega, by go_num, by rw [← HE.out]; rfl⟩
        case measure => simp [intOf]
    · cases hb : M.testBit (3 + 1)
      · have HE : Hid (dsOf (xk M D 3) y = dsOf (xk M D (3 + 1)) y) := ds_miss M D y 3 hb
        go_wp2_with (go_at_call 22; refine (has22_no M 3 hM (by omega) hb _).mono ?_; rintro e w' ⟨rfl, rfl⟩)
        go_roundw
        case rel => exact ⟨3 + 1, by omega, by go_num, by rw [← HE.out]⟩
        case measure => simp [intOf]
      · have HE : Hid ((dsOf (xk M D 3) y).setIfInBounds 3 (.int .u64 D) = dsOf (xk M D (3 + 1)) y) := by
          have e : xk M D (3 + 1) 3 = D := xk_hit M D 3 hb
          have e0 : xk M D (3 + 1) 0 = xk M D 3 0 := xk_other M D 3 0 (by omega)
          have e1 : xk M D (3 + 1) 1 = xk M D 3 1 := xk_other M D 3 1 (by omega)
          have e2 : xk M D (3 + 1) 2 = xk M D 3 2 := xk_other M D 3 2 (by omega)
          have e4 : xk M D (3 + 1) 4 = xk M D 3 4 := xk_other M D 3 4 (by omega)
          have e5 : xk M D (3 + 1) 5 = xk M D 3 5 := xk_other M D 3 5 (by omega)
          have e6 : xk M D (3 + 1) 6 = xk M D 3 6 := xk_other M D 3 6 (by omega)
          have e7 : xk M D (3 + 1) 7 = xk M D 3 7 := xk_other M D 3 7 (by omega)
          have e8 : xk M D (3 + 1) 8 = xk M D 3 8 := xk_other M D 3 8 (by omega)
          have e9 : xk M D (3 + 1) 9 = xk M D 3 9 := xk_other M D 3 9 (by omega)
          have e10 : xk M D (3 + 1) 10 = xk M D 3 10 := xk_other M D 3 10 (by omega)
          have e11 : xk M D (3 + 1) 11 = xk M D 3 11 := xk_other M D 3 11 (by omega)
          show #[Value.int .u64 (xk M D 3 0), Value.int .u64 (xk M D 3 1), Value.int .u64 (xk M D 3 2), Value.int .u64 D, Value.int .u64 (xk M D 3 4), Value.int .u64 (xk M D 3 5), Value.int .u64 (xk M D 3 6), Value.int .u64 (xk M D 3 7), Value.int .u64 (xk M D 3 8), Value.int .u64 (xk M D 3 9), Value.int .u64 (xk M D 3 10), Value.int .u64 (xk M D 3 11), .string y] = _
          rw [dsOf, e, e0, e1, e2, e4, e5, e6, e7, e8, e9, e10, e11]
        go_wp2_with (go_at_call 22; refine (has22_yes M 3 hM (by omega) hb _).mono ?_; rintro e w' ⟨rfl, rfl⟩)
        go_roundw
        case rel => exact ⟨3 + 1, by omega, by go_num, by rw [← HE.out]; rfl⟩
        case measure => simp [intOf]
    · cases hb : M.testBit (4 + 1)
      · have HE : Hid (dsOf (xk M D 4) y = dsOf (xk M D (4 + 1)) y) := ds_miss M D y 4 hb
        go_wp2_with (go_at_call 22; refine (has22_no M 4 hM (by omega) hb _).mono ?_; rintro e w' ⟨rfl, rfl⟩)
        go_roundw
        case rel => exact ⟨4 + 1, by omega, by go_num, by rw [← HE.out]⟩
        case measure => simp [intOf]
      · have HE : Hid ((dsOf (xk M D 4) y).setIfInBounds 4 (.int .u64 D) = dsOf (xk M D (4 + 1)) y) := by
          have e : xk M D (4 + 1) 4 = D := xk_hit M D 4 hb
          have e0 : xk M D (4 + 1) 0 = xk M D 4 0 := xk_other M D 4 0 (by omega)
          have e1 : xk M D (4 + 1) 1 = xk M D 4 1 := xk_other M D 4 1 (by omega)
          have e2 : xk M D (4 + 1) 2 = xk M D 4 2 := xk_other M D 4 2 (by omega)
          have e3 : xk M D (4 + 1) 3 = xk M D 4 3 := xk_other M D 4 3 (by omega)
          have e5 : xk M D (4 + 1) 5 = xk M D 4 5 := xk_other M D 4 5 (by omega)
          have e6 : xk M D (4 + 1) 6 = xk M D 4 6 := xk_other M D 4 6 (by omega)
          have e7 : xk M D (4 + 1) 7 = xk M D 4 7 := xk_other M D 4 7 (by omega)
          have e8 : xk M D (4 + 1) 8 = xk M D 4 8 := xk_other M D 4 8 (by omega)
          have e9 : xk M D (4 + 1) 9 = xk M D 4 9 := xk_other M D 4 9 (by omega)
          have e10 : xk M D (4 + 1) 10 = xk M D 4 10 := xk_other M D 4 10 (by omega)
          have e11 : xk M D (4 + 1) 11 = xk M D 4 11 := xk_other M D 4 11 (by omega)
          show #[Value.int .u64 (xk M D 4 0), Value.int .u64 (xk M D 4 1), Value.int .u64 (xk M D 4 2), Value.int .u64 (xk M D 4 3), Value.int .u64 D, Value.int .u64 (xk M D 4 5), Value.int .u64 (xk M D 4 6), Value.int .u64 (xk M D 4 7), Value.int .u64 (xk M D 4 8), Value.int .u64 (xk M D 4 9), Value.int .u64 (xk M D 4 10), Value.int .u64 (xk M D 4 11), .string y] = _
          rw [dsOf, e, e0, e1, e2, e3, e5, e6, e7, e8, e9, e10, e11]
        go_wp2_with (go_at_call 22; refine (has22_yes M 4 hM (by omega) hb _).mono ?_; rintro e w' ⟨rfl, rfl⟩)
        go_roundw
        case rel => exact ⟨4 + 1, by omega, by go_num, by rw [← HE.out]; rfl⟩
        case measure => simp [intOf]
    · cases hb : M.testBit (5 + 1)
      · have HE : Hid (dsOf (xk M D 5) y = dsOf (xk M D (5 + 1)) y) := ds_miss M D y 5 hb
        go_wp2_with (go_at_call 22; refine (has22_no M 5 hM (by omega) hb _).mono ?_; rintro e w' ⟨rfl, rfl⟩)
        go_roundw
        case rel => exact ⟨5 + 1, by omega, by go_num, by rw [← HE.out]⟩
        case measure => simp [intOf]
      · have HE : Hid ((dsOf (xk M D 5) y).setIfInBounds 5 (.int .u64 D) = dsOf (xk M D (5 + 1)) y) := by
          have e : xk M D (5 + 1) 5 = D := xk_hit M D 5 hb
          have e0 : xk M D (5 + 1) 0 = xk M D 5 0 := xk_other M D 5 0 (by omega)
          have e1 : xk M D (5 + 1) 1 = xk M D 5 1 := xk_other M D 5 1 (by omega)
          have e2 : xk M D (5 + 1) 2 = xk M D 5 2 := xk_other M D 5 2 (by omega)
          have e3 : xk M D (5 + 1) 3 = xk M D 5 3 := xk_other M D 5 3 (by omega)
          have e4 : xk M D (5 + 1) 4 = xk M D 5 4 := xk_other M D 5 4 (by omega)
          have e6 : xk M D (5 + 1) 6 = xk M D 5 6 := xk_other M D 5 6 (by omega)
          have e7 : xk M D (5 + 1) 7 = xk M D 5 7 := xk_other M D 5 7 (by omega)
          have e8 : xk M D (5 + 1) 8 = xk M D 5 8 := xk_other M D 5 8 (by omega)
          have e9 : xk M D (5 + 1) 9 = xk M D 5 9 := xk_other M D 5 9 (by omega)
          have e10 : xk M D (5 + 1) 10 = xk M D 5 10 := xk_other M D 5 10 (by omega)
          have e11 : xk M D (5 + 1) 11 = xk M D 5 11 := xk_other M D 5 11 (by omega)
          show #[Value.int .u64 (xk M D 5 0), Value.int .u64 (xk M D 5 1), Value.int .u64 (xk M D 5 2), Value.int .u64 (xk M D 5 3), Value.int .u64 (xk M D 5 4), Value.int .u64 D, Value.int .u64 (xk M D 5 6), Value.int .u64 (xk M D 5 7), Value.int .u64 (xk M D 5 8), Value.int .u64 (xk M D 5 9), Value.int .u64 (xk M D 5 10), Value.int .u64 (xk M D 5 11), .string y] = _
          rw [dsOf, e, e0, e1, e2, e3, e4, e6, e7, e8, e9, e10, e11]
        go_wp2_with (go_at_call 22; refine (has22_yes M 5 hM (by omega) hb _).mono ?_; rintro e w' ⟨rfl, rfl⟩)
        go_roundw
        case rel => exact ⟨5 + 1, by omega, by go_num, by rw [← HE.out]; rfl⟩
        case measure => simp [intOf]
    · cases hb : M.testBit (6 + 1)
      · have HE : Hid (dsOf (xk M D 6) y = dsOf (xk M D (6 + 1)) y) := ds_miss M D y 6 hb
        go_wp2_with (go_at_call 22; refine (has22_no M 6 hM (by omega) hb _).mono ?_; rintro e w' ⟨rfl, rfl⟩)
        go_roundw
        case rel => exact ⟨6 + 1, by omega, by go_num, by rw [← HE.out]⟩
        case measure => simp [intOf]
      · have HE : Hid ((dsOf (xk M D 6) y).setIfInBounds 6 (.int .u64 D) = dsOf (xk M D (6 + 1)) y) := by
          have e : xk M D (6 + 1) 6 = D := xk_hit M D 6 hb
          have e0 : xk M D (6 + 1) 0 = xk M D 6 0 := xk_other M D 6 0 (by omega)
          have e1 : xk M D (6 + 1) 1 = xk M D 6 1 := xk_other M D 6 1 (by omega)
          have e2 : xk M D (6 + 1) 2 = xk M D 6 2 := xk_other M D 6 2 (by omega)
          have e3 : xk M D (6 + 1) 3 = xk M D 6 3 := xk_other M D 6 3 (by omega)
          have e4 : xk M D (6 + 1) 4 = xk M D 6 4 := xk_other M D 6 4 (by omega)
          have e5 : xk M D (6 + 1) 5 = xk M D 6 5 := xk_other M D 6 5 (by omega)
          have e7 : xk M D (6 + 1) 7 = xk M D 6 7 := xk_other M D 6 7 (by omega)
          have e8 : xk M D (6 + 1) 8 = xk M D 6 8 := xk_other M D 6 8 (by omega)
          have e9 : xk M D (6 + 1) 9 = xk M D 6 9 := xk_other M D 6 9 (by omega)
          have e10 : xk M D (6 + 1) 10 = xk M D 6 10 := xk_other M D 6 10 (by omega)
          have e11 : xk M D (6 + 1) 11 = xk M D 6 11 := xk_other M D 6 11 (by omega)
          show #[Value.int .u64 (xk M D 6 0), Value.int .u64 (xk M D 6 1), Value.int .u64 (xk M D 6 2), Value.int .u64 (xk M D 6 3), Value.int .u64 (xk M D 6 4), Value.int .u64 (xk M D 6 5), Value.int .u64 D, Value.int .u64 (xk M D 6 7), Value.int .u64 (xk M D 6 8), Value.int .u64 (xk M D 6 9), Value.int .u64 (xk M D 6 10), Value.int .u64 (xk M D 6 11), .string y] = _
          rw [dsOf, e, e0, e1, e2, e3, e4, e5, e7, e8, e9, e10, e11]
        go_wp2_with (go_at_call 22; refine (has22_yes M 6 hM (by omega) hb _).mono ?_; rintro e w' ⟨rfl, rfl⟩)
        go_roundw
        case rel => exact ⟨6 + 1, by omega, by go_num, by rw [← HE.out]; rfl⟩
        case measure => simp [intOf]
    · cases hb : M.testBit (7 + 1)
      · have HE : Hid (dsOf (xk M D 7) y = dsOf (xk M D (7 + 1)) y) := ds_miss M D y 7 hb
        go_wp2_with (go_at_call 22; refine (has22_no M 7 hM (by omega) hb _).mono ?_; rintro e w' ⟨rfl, rfl⟩)
        go_roundw
        case rel => exact ⟨7 + 1, by omega, by go_num, by rw [← HE.out]⟩
        case measure => simp [intOf]
      · have HE : Hid ((dsOf (xk M D 7) y).setIfInBounds 7 (.int .u64 D) = dsOf (xk M D (7 + 1)) y) := by
          have e : xk M D (7 + 1) 7 = D := xk_hit M D 7 hb
          have e0 : xk M D (7 + 1) 0 = xk M D 7 0 := xk_other M D 7 0 (by omega)
          have e1 : xk M D (7 + 1) 1 = xk M D 7 1 := xk_other M D 7 1 (by omega)
          have e2 : xk M D (7 + 1) 2 = xk M D 7 2 := xk_other M D 7 2 (by omega)
          have e3 : xk M D (7 + 1) 3 = xk M D 7 3 := xk_other M D 7 3 (by omega)
          have e4 : xk M D (7 + 1) 4 = xk M D 7 4 := xk_other M D 7 4 (by omega)
          have e5 : xk M D (7 + 1) 5 = xk M D 7 5 := xk_other M D 7 5 (by omega)
          have e6 : xk M D (7 + 1) 6 = xk M D 7 6 := xk_other M D 7 6 (by omega)
          have e8 : xk M D (7 + 1) 8 = xk M D 7 8 := xk_other M D 7 8 (by omega)
          have e9 : xk M D (7 + 1) 9 = xk M D 7 9 := xk_other M D 7 9 (by omega)
          have e10 : xk M D (7 + 1) 10 = xk M D 7 10 := xk_other M D 7 10 (by omega)
          have e11 : xk M D (7 + 1) 11 = xk M D 7 11 := xk_other M D 7 11 (by omega)
          show #[Value.int .u64 (xk M D 7 0), Value.int .u64 (xk M D 7 1), Value.int .u64 (xk M D 7 2), Value.int .u64 (xk M D 7 3), Value.int .u64 (xk M D 7 4), Value.int .u64 (xk M D 7 5), Value.int .u64 (xk M D 7 6), Value.int .u64 D, Value.int .u64 (xk M D 7 8), Value.int .u64 (xk M D 7 9), Value.int .u64 (xk M D 7 10), Value.int .u64 (xk M D 7 11), .string y] = _
          rw [dsOf, e, e0, e1, e2, e3, e4, e5, e6, e8, e9, e10, e11]
        go_wp2_with (go_at_call 22; refine (has22_yes M 7 hM (by omega) hb _).mono ?_; rintro e w' ⟨rfl, rfl⟩)
        go_roundw
        case rel => exact ⟨7 + 1, by omega, by go_num, by rw [← HE.out]; rfl⟩
        case measure => simp [intOf]
    · cases hb : M.testBit (8 + 1)
      · have HE : Hid (dsOf (xk M D 8) y = dsOf (xk M D (8 + 1)) y) := ds_miss M D y 8 hb
        go_wp2_with (go_at_call 22; refine (has22_no M 8 hM (by omega) hb _).mono ?_; rintro e w' ⟨rfl, rfl⟩)
        go_roundw
        case rel => exact ⟨8 + 1, by omega, by go_num, by rw [← HE.out]⟩
        case measure => simp [intOf]
      · have HE : Hid ((dsOf (xk M D 8) y).setIfInBounds 8 (.int .u64 D) = dsOf (xk M D (8 + 1)) y) := by
          have e : xk M D (8 + 1) 8 = D := xk_hit M D 8 hb
          have e0 : xk M D (8 + 1) 0 = xk M D 8 0 := xk_other M D 8 0 (by omega)
          have e1 : xk M D (8 + 1) 1 = xk M D 8 1 := xk_other M D 8 1 (by omega)
          have e2 : xk M D (8 + 1) 2 = xk M D 8 2 := xk_other M D 8 2 (by omega)
          have e3 : xk M D (8 + 1) 3 = xk M D 8 3 := xk_other M D 8 3 (by omega)
          have e4 : xk M D (8 + 1) 4 = xk M D 8 4 := xk_other M D 8 4 (by omega)
          have e5 : xk M D (8 + 1) 5 = xk M D 8 5 := xk_other M D 8 5 (by omega)
          have e6 : xk M D (8 + 1) 6 = xk M D 8 6 := xk_other M D 8 6 (by omega)
          have e7 : xk M D (8 + 1) 7 = xk M D 8 7 := xk_other M D 8 7 (by omega)
          have e9 : xk M D (8 + 1) 9 = xk M D 8 9 := xk_other M D 8 9 (by omega)
          have e10 : xk M D (8 + 1) 10 = xk M D 8 10 := xk_other M D 8 10 (by omega)
          have e11 : xk M D (8 + 1) 11 = xk M D 8 11 := xk_other M D 8 11 (by omega)
          show #[Value.int .u64 (xk M D 8 0), Value.int .u64 (xk M D 8 1), Value.int .u64 (xk M D 8 2), Value.int .u64 (xk M D 8 3), Value.int .u64 (xk M D 8 4), Value.int .u64 (xk M D 8 5), Value.int .u64 (xk M D 8 6), Value.int .u64 (xk M D 8 7), Value.int .u64 D, Value.int .u64 (xk M D 8 9), Value.int .u64 (xk M D 8 10), Value.int .u64 (xk M D 8 11), .string y] = _
          rw [dsOf, e, e0, e1, e2, e3, e4, e5, e6, e7, e9, e10, e11]
        go_wp2_with (go_at_call 22; refine (has22_yes M 8 hM (by omega) hb _).mono ?_; rintro e w' ⟨rfl, rfl⟩)
        go_roundw
        case rel => exact ⟨8 + 1, by omega, by go_num, by rw [← HE.out]; rfl⟩
        case measure => simp [intOf]
    · cases hb : M.testBit (9 + 1)
      · have HE : Hid (dsOf (xk M D 9) y = dsOf (xk M D (9 + 1)) y) := ds_miss M D y 9 hb
        go_wp2_with (go_at_call 22; refine (has22_no M 9 hM (by omega) hb _).mono ?_; rintro e w' ⟨rfl, rfl⟩)
        go_roundw
        case rel => exact ⟨9 + 1, by omega, by go_num, by rw [← HE.out]⟩
        case measure => simp [intOf]
      · have HE : Hid ((dsOf (xk M D 9) y).setIfInBounds 9 (.int .u64 D) = dsOf (xk M D (9 + 1)) y) := by
          have e : xk M D (9 + 1) 9 = D := xk_hit M D 9 hb
          have e0 : xk M D (9 + 1) 0 = xk M D 9 0 := xk_other M D 9 0 (by omega)
          have e1 : xk M D (9 + 1) 1 = xk M D 9 1 := xk_other M D 9 1 (by omega)
          have e2 : xk M D (9 + 1) 2 = xk M D 9 2 := xk_other M D 9 2 (by omega)
          have e3 : xk M D (9 + 1) 3 = xk M D 9 3 := xk_other M D 9 3 (by omega)
          have e4 : xk M D (9 + 1) 4 = xk M D 9 4 := xk_other M D 9 4 (by omega)
          have e5 : xk M D (9 + 1) 5 = xk M D 9 5 := xk_other M D 9 5 (by omega)
          have e6 : xk M D (9 + 1) 6 = xk M D 9 6 := xk_other M D 9 6 (by omega)
          have e7 : xk M D (9 + 1) 7 = xk M D 9 7 := xk_other M D 9 7 (by omega)
          have e8 : xk M D (9 + 1) 8 = xk M D 9 8 := xk_other M D 9 8 (by omega)
          have e10 : xk M D (9 + 1) 10 = xk M D 9 10 := xk_other M D 9 10 (by omega)
          have e11 : xk M D (9 + 1) 11 = xk M D 9 11 := xk_other M D 9 11 (by omega)
          show #[Value.int .u64 (xk M D 9 0), Value.int .u64 (xk M D 9 1), Value.int .u64 (xk M D 9 2), Value.int .u64 (xk M D 9 3), Value.int .u64 (xk M D 9 4), Value.int .u64 (xk M D 9 5), Value.int .u64 (xk M D 9 6), Value.int .u64 (xk M D 9 7), Value.int .u64 (xk M D 9 8), Value.int .u64 D, Value.int .u64 (xk M D 9 10), Value.int .u64 (xk M D 9 11), .string y] = _
          rw [dsOf, e, e0, e1, e2, e3, e4, e5, e6, e7, e8, e10, e11]
        go_wp2_with (go_at_call 22; refine (has22_yes M 9 hM (by omega) hb _).mono ?_; rintro e w' ⟨rfl, rfl⟩)
        go_roundw
        case rel => exact ⟨9 + 1, by omega, by go_num, by rw [← HE.out]; rfl⟩
        case measure => simp [intOf]
    · cases hb : M.testBit (10 + 1)
      · have HE : Hid (dsOf (xk M D 10) y = dsOf (xk M D (10 + 1)) y) := ds_miss M D y 10 hb
        go_wp2_with (go_at_call 22; refine (has22_no M 10 hM (by omega) hb _).mono ?_; rintro e w' ⟨rfl, rfl⟩)
        go_roundw
        case rel => exact ⟨10 + 1, by omega, by go_num, by rw [← HE.out]⟩
        case measure => simp [intOf]
      · have HE : Hid ((dsOf (xk M D 10) y).setIfInBounds 10 (.int .u64 D) = dsOf (xk M D (10 + 1)) y) := by
          have e : xk M D (10 + 1) 10 = D := xk_hit M D 10 hb
          have e0 : xk M D (10 + 1) 0 = xk M D 10 0 := xk_other M D 10 0 (by omega)
          have e1 : xk M D (10 + 1) 1 = xk M D 10 1 := xk_other M D 10 1 (by omega)
          have e2 : xk M D (10 + 1) 2 = xk M D 10 2 := xk_other M D 10 2 (by omega)
          have e3 : xk M D (10 + 1) 3 = xk M D 10 3 := xk_other M D 10 3 (by omega)
          have e4 : xk M D (10 + 1) 4 = xk M D 10 4 := xk_other M D 10 4 (by omega)
          have e5 : xk M D (10 + 1) 5 = xk M D 10 5 := xk_other M D 10 5 (by omega)
          have e6 : xk M D (10 + 1) 6 = xk M D 10 6 := xk_other M D 10 6 (by omega)
          have e7 : xk M D (10 + 1) 7 = xk M D 10 7 := xk_other M D 10 7 (by omega)
          have e8 : xk M D (10 + 1) 8 = xk M D 10 8 := xk_other M D 10 8 (by omega)
          have e9 : xk M D (10 + 1) 9 = xk M D 10 9 := xk_other M D 10 9 (by omega)
          have e11 : xk M D (10 + 1) 11 = xk M D 10 11 := xk_other M D 10 11 (by omega)
          show #[Value.int .u64 (xk M D 10 0), Value.int .u64 (xk M D 10 1), Value.int .u64 (xk M D 10 2), Value.int .u64 (xk M D 10 3), Value.int .u64 (xk M D 10 4), Value.int .u64 (xk M D 10 5), Value.int .u64 (xk M D 10 6), Value.int .u64 (xk M D 10 7), Value.int .u64 (xk M D 10 8), Value.int .u64 (xk M D 10 9), Value.int .u64 D, Value.int .u64 (xk M D 10 11), .string y] = _
          rw [dsOf, e, e0, e1, e2, e3, e4, e5, e6, e7, e8, e9, e11]
        go_wp2_with (go_at_call 22; refine (has22_yes M 10 hM (by omega) hb _).mono ?_; rintro e w' ⟨rfl, rfl⟩)
        go_roundw
        case rel => exact ⟨10 + 1, by omega, by go_num, by rw [← HE.out]; rfl⟩
        case measure => simp [intOf]
    · cases hb : M.testBit (11 + 1)
      · have HE : Hid (dsOf (xk M D 11) y = dsOf (xk M D (11 + 1)) y) := ds_miss M D y 11 hb
        go_wp2_with (go_at_call 22; refine (has22_no M 11 hM (by omega) hb _).mono ?_; rintro e w' ⟨rfl, rfl⟩)
        go_roundw
        case rel => exact ⟨11 + 1, by omega, by go_num, by rw [← HE.out]⟩
        case measure => simp [intOf]
      · have HE : Hid ((dsOf (xk M D 11) y).setIfInBounds 11 (.int .u64 D) = dsOf (xk M D (11 + 1)) y) := by
          have e : xk M D (11 + 1) 11 = D := xk_hit M D 11 hb
          have e0 : xk M D (11 + 1) 0 = xk M D 11 0 := xk_other M D 11 0 (by omega)
          have e1 : xk M D (11 + 1) 1 = xk M D 11 1 := xk_other M D 11 1 (by omega)
          have e2 : xk M D (11 + 1) 2 = xk M D 11 2 := xk_other M D 11 2 (by omega)
          have e3 : xk M D (11 + 1) 3 = xk M D 11 3 := xk_other M D 11 3 (by omega)
          have e4 : xk M D (11 + 1) 4 = xk M D 11 4 := xk_other M D 11 4 (by omega)
          have e5 : xk M D (11 + 1) 5 = xk M D 11 5 := xk_other M D 11 5 (by omega)
          have e6 : xk M D (11 + 1) 6 = xk M D 11 6 := xk_other M D 11 6 (by omega)
          have e7 : xk M D (11 + 1) 7 = xk M D 11 7 := xk_other M D 11 7 (by omega)
          have e8 : xk M D (11 + 1) 8 = xk M D 11 8 := xk_other M D 11 8 (by omega)
          have e9 : xk M D (11 + 1) 9 = xk M D 11 9 := xk_other M D 11 9 (by omega)
          have e10 : xk M D (11 + 1) 10 = xk M D 11 10 := xk_other M D 11 10 (by omega)
          show #[Value.int .u64 (xk M D 11 0), Value.int .u64 (xk M D 11 1), Value.int .u64 (xk M D 11 2), Value.int .u64 (xk M D 11 3), Value.int .u64 (xk M D 11 4), Value.int .u64 (xk M D 11 5), Value.int .u64 (xk M D 11 6), Value.int .u64 (xk M D 11 7), Value.int .u64 (xk M D 11 8), Value.int .u64 (xk M D 11 9), Value.int .u64 (xk M D 11 10), Value.int .u64 D, .string y] = _
          rw [dsOf, e, e0, e1, e2, e3, e4, e5, e6, e7, e8, e9, e10]
        go_wp2_with (go_at_call 22; refine (has22_yes M 11 hM (by omega) hb _).mono ?_; rintro e w' ⟨rfl, rfl⟩)
        go_roundw
        case rel => exact ⟨11 + 1, by omega, by go_num, by rw [← HE.out]; rfl⟩
        case measure => simp [intOf]
end Go.Proofs.Qxb6600731a
