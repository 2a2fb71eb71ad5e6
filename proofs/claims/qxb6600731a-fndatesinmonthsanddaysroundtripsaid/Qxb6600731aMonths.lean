/-
  THE WALKS OF bitOf, valueRange (at one month) AND monthsAndDays.
-/
import Derived.Test.Qxb6600731aRows
import Derived.WalkKit
import Derived.ProofKit
import Derived.WalkSpells
namespace Go.Proofs.Qxb6600731a
open Go.RowKit

theorem ret_int {k : IntKind} {a b : Int} (h : a = b) : Ending.returned (.int k a) = .returned (.int k b) := by rw [h]

theorem and63 (n : Nat) (hn : n < 64) : bits .and .u64 (n : Int) 63 = (n : Int) := by
  have e := u64_and_nat n 63 (by omega) (by omega)
  rw [nat_mask6, Nat.mod_eq_of_lt hn] at e
  exact e

/-- bitOf. -/
theorem bit24 (n : Nat) (hn : n < 64) (w : World) :
    Calls Try.prog 24 #[.int .i64 (n : Int)] w fun e w' => e = .returned (.int .u64 (n : Int)) ∧ w = w' := by
  go_enter Try.func24, Try.ntmps24
  go_wp2
  go_ret
  exact ⟨ret_int (and63 n hn), rfl⟩

/-- valueRange of one month. -/
theorem range23 (k : Nat) (hk : k < 12) (w : World) :
    Calls Try.prog 23 #[.int .i64 ((k : Int) + 1), .int .i64 ((k : Int) + 1)] w fun e w' => e = .returned (.int .u64 ((2 ^ (k + 1) : Nat) : Int)) ∧ w = w' := by
  rcases (show k = 0 ∨ k = 1 ∨ k = 2 ∨ k = 3 ∨ k = 4 ∨ k = 5 ∨ k = 6 ∨ k = 7 ∨ k = 8 ∨ k = 9 ∨ k = 10 ∨ k = 11 by omega) with rfl | rfl | rfl | rfl | rfl | rfl | rfl | rfl | rfl | rfl | rfl | rfl
  · go_enter Try.func23, Try.ntmps23
    go_wp2_with (go_at_call 24; refine (bit24 1 (by omega) _).mono ?_; rintro e w' ⟨rfl, rfl⟩)
    go_ret
    exact ⟨rfl, rfl⟩
  · go_enter Try.func23, Try.ntmps23
    go_wp2_with (go_at_call 24; refine (bit24 2 (by omega) _).mono ?_; rintro e w' ⟨rfl, rfl⟩)
    go_ret
    exact ⟨rfl, rfl⟩
  · go_enter Try.func23, Try.ntmps23
    go_wp2_with (go_at_call 24; refine (bit24 3 (by omega) _).mono ?_; rintro e w' ⟨rfl, rfl⟩)
    go_ret
    exact ⟨rfl, rfl⟩
  · go_enter Try.func23, Try.ntmps23
    go_wp2_with (go_at_call 24; refine (bit24 4 (by omega) _).mono ?_; rintro e w' ⟨rfl, rfl⟩)
    go_ret
    exact ⟨rfl, rfl⟩
  · go_enter Try.func23, Try.ntmps23
    go_wp2_with (go_at_call 24; refine (bit24 5 (by omega) _).mono ?_; rintro e w' ⟨rfl, rfl⟩)
    go_ret
    exact ⟨rfl, rfl⟩
  · go_enter Try.func23, Try.ntmps23
    go_wp2_with (go_at_call 24; refine (bit24 6 (by omega) _).mono ?_; rintro e w' ⟨rfl, rfl⟩)
    go_ret
    exact ⟨rfl, rfl⟩
  · go_enter Try.func23, Try.ntmps23
    go_wp2_with (go_at_call 24; refine (bit24 7 (by omega) _).mono ?_; rintro e w' ⟨rfl, rfl⟩)
    go_ret
    exact ⟨rfl, rfl⟩
  · go_enter Try.func23, Try.ntmps23
    go_wp2_with (go_at_call 24; refine (bit24 8 (by omega) _).mono ?_; rintro e w' ⟨rfl, rfl⟩)
    go_ret
    exact ⟨rfl, rfl⟩
  · go_enter Try.func23, Try.ntmps23
    go_wp2_with (go_at_call 24; refine (bit24 9 (by omega) _).mono ?_; rintro e w' ⟨rfl, rfl⟩)
    go_ret
    exact ⟨rfl, rfl⟩
  · go_enter Try.func23, Try.ntmps23
    go_wp2_with (go_at_call 24; refine (bit24 10 (by omega) _).mono ?_; rintro e w' ⟨rfl, rfl⟩)
    go_ret
    exact ⟨rfl, rfl⟩
  · go_enter Try.func23, Try.ntmps23
    go_wp2_with (go_at_call 24; refine (bit24 11 (by omega) _).mono ?_; rintro e w' ⟨rfl, rfl⟩)
    go_ret
    exact ⟨rfl, rfl⟩
  · go_enter Try.func23, Try.ntmps23
    go_wp2_with (go_at_call 24; refine (bit24 12 (by omega) _).mono ?_; rintro e w' ⟨rfl, rfl⟩)
    go_ret
    exact ⟨rfl, rfl⟩

/-- The months that hold a day, behind k months: month j at bit j. -/
def moTo (x : Nat → Int) : Nat → Nat
  | 0 => 0
  | k + 1 => if x k = 0 then moTo x k else moTo x k ||| 2 ^ (k + 1)

/-- The days of the last month that holds any. -/
def dTo (x : Nat → Int) : Nat → Int
  | 0 => 0
  | k + 1 => if x k = 0 then dTo x k else x k

/-- The array as a value. -/
abbrev arrOf (x : Nat → Int) : Array Value := #[.int .u64 (x 0), .int .u64 (x 1), .int .u64 (x 2), .int .u64 (x 3), .int .u64 (x 4), .int .u64 (x 5), .int .u64 (x 6), .int .u64 (x 7), .int .u64 (x 8), .int .u64 (x 9), .int .u64 (x 10), .int .u64 (x 11)]

theorem moTo_lt (x : Nat → Int) (k : Nat) : moTo x k < 2 ^ (k + 1) := by
  induction k with
  | zero => simp [moTo]
  | succ k ih =>
    unfold moTo
    have h1 : 2 ^ (k + 1) < 2 ^ (k + 1 + 1) := Nat.pow_lt_pow_right (by decide) (by omega)
    split
    · omega
    · exact Nat.or_lt_two_pow (by omega) h1

theorem moTo_no (x : Nat → Int) (k : Nat) (h : (x k != 0) = false) : moTo x (k + 1) = moTo x k := by
  have h0 : x k = 0 := by simpa using h
  rw [moTo, if_pos h0]
theorem dTo_no (x : Nat → Int) (k : Nat) (h : (x k != 0) = false) : dTo x (k + 1) = dTo x k := by
  have h0 : x k = 0 := by simpa using h
  rw [dTo, if_pos h0]
theorem moTo_yes (x : Nat → Int) (k : Nat) (hk : k < 12) (h : (x k != 0) = true) : bits .or .u64 (moTo x k : Int) ((2 ^ (k + 1) : Nat) : Int) = (moTo x (k + 1) : Int) := by
  have h0 : ¬ x k = 0 := by simpa using h
  have hl := moTo_lt x k
  have hp : 2 ^ (k + 1) ≤ 2 ^ 12 := Nat.pow_le_pow_right (by decide) (by omega)
  have h12 : 2 ^ 12 < 18446744073709551616 := by decide
  rw [u64_or_nat _ _ (by omega) (by omega), moTo, if_neg h0]
theorem dTo_yes (x : Nat → Int) (k : Nat) (h : (x k != 0) = true) : dTo x (k + 1) = x k := by
  have h0 : ¬ x k = 0 := by simpa using h
  rw [dTo, if_neg h0]

theorem val_int {k : IntKind} {a b : Int} (h : a = b) : Value.int k a = Value.int k b := by rw [h]

set_option maxHeartbeats 1000000 in
/-- monthsAndDays. -/
theorem mad21 (x : Nat → Int) (b : Nat) (w : World)
    (c0 : w.cell? ⟨b, 0, none⟩ = some (.int .u64 (x 0))) (c1 : w.cell? ⟨b, 1, none⟩ = some (.int .u64 (x 1))) (c2 : w.cell? ⟨b, 2, none⟩ = some (.int .u64 (x 2)))
    (c3 : w.cell? ⟨b, 3, none⟩ = some (.int .u64 (x 3))) (c4 : w.cell? ⟨b, 4, none⟩ = some (.int .u64 (x 4))) (c5 : w.cell? ⟨b, 5, none⟩ = some (.int .u64 (x 5)))
    (c6 : w.cell? ⟨b, 6, none⟩ = some (.int .u64 (x 6))) (c7 : w.cell? ⟨b, 7, none⟩ = some (.int .u64 (x 7))) (c8 : w.cell? ⟨b, 8, none⟩ = some (.int .u64 (x 8)))
    (c9 : w.cell? ⟨b, 9, none⟩ = some (.int .u64 (x 9))) (c10 : w.cell? ⟨b, 10, none⟩ = some (.int .u64 (x 10))) (c11 : w.cell? ⟨b, 11, none⟩ = some (.int .u64 (x 11))) :
    Calls Try.prog 21 #[.pointer (some ⟨b, 0, none⟩)] w fun e w' => e = .returned (.tuple #[.int .u64 (moTo x 12 : Nat), .int .u64 (dTo x 12)]) ∧ w = w' := by
  go_enter Try.func21, Try.ntmps21
  go_wp2
  go_loop [2, 3, 10] (fun mo d i => ∃ k : Nat, k ≤ 12 ∧ i = .int .i64 k ∧ mo = .int .u64 (moTo x k : Nat) ∧ d = .int .u64 (dTo x k)) (fun _ _ i => 12 - (intOf i).toNat)
  case atStart => exact ⟨0, Nat.zero_le _, rfl, rfl, rfl⟩
  case round =>
    obtain ⟨k, hk, rfl, rfl, rfl⟩ := hrel
    rcases (show k = 12 ∨ k = 0 ∨ k = 1 ∨ k = 2 ∨ k = 3 ∨ k = 4 ∨ k = 5 ∨ k = 6 ∨ k = 7 ∨ k = 8 ∨ k = 9 ∨ k = 10 ∨ k = 11 by omega) with rfl | rfl | rfl | rfl | rfl | rfl | rfl | rfl | rfl | rfl | rfl | rfl | rfl
    · go_wp2
      go_ret2
      exact ⟨rfl, rfl⟩
    · have ix : ∀ w, (Instr.index 40 (.agg (arrOf x)) (.int .i64 0)).run Try.prog w = .ok (.int .u64 (x 0)) w := fun _ => by kernel_rfl
      cases hx : (x 0 != 0)
      · have E1 : Hid (moTo x (0 + 1) = moTo x 0) := moTo_no x 0 hx
        have E2 : Hid (dTo x (0 + 1) = dTo x 0) := dTo_no x 0 hx
        go_wp2
        go_round
        case rel => exact ⟨0 + 1, by omega, by go_num, by rw [E1.out], by rw [E2.out]⟩
        case measure => simp [intOf]
      · have E1 : Hid (bits .or .u64 (moTo x 0 : Int) ((2 ^ (0 + 1) : Nat) : Int) = (moTo x (0 + 1) : Int)) := moTo_yes x 0 (by omega) hx
        have E2 : Hid (dTo x (0 + 1) = x 0) := dTo_yes x 0 hx
        go_wp2_with (go_at_call 23; refine (range23 0 (by omega) _).mono ?_; rintro e w' ⟨rfl, rfl⟩)
        go_round
        case rel => exact ⟨0 + 1, by omega, by go_num, val_int E1.out, by rw [E2.out]⟩
        case measure => simp [intOf]
    · have ix : ∀ w, (Instr.index 40 (.agg (arrOf x)) (.int .i64 1)).run Try.prog w = .ok (.int .u64 (x 1)) w := fun _ => by kernel_rfl
      cases hx : (x 1 != 0)
      · have E1 : Hid (moTo x (1 + 1) = moTo x 1) := moTo_no x 1 hx
        have E2 : Hid (dTo x (1 + 1) = dTo x 1) := dTo_no x 1 hx
        go_wp2
        go_round
        case rel => exact ⟨1 + 1, by omega, by go_num, by rw [E1.out], by rw [E2.out]⟩
        case measure => simp [intOf]
      · have E1 : Hid (bits .or .u64 (moTo x 1 : Int) ((2 ^ (1 + 1) : Nat) : Int) = (moTo x (1 + 1) : Int)) := moTo_yes x 1 (by omega) hx
        have E2 : Hid (dTo x (1 + 1) = x 1) := dTo_yes x 1 hx
        go_wp2_with (go_at_call 23; refine (range23 1 (by omega) _).mono ?_; rintro e w' ⟨rfl, rfl⟩)
        go_round
        case rel => exact ⟨1 + 1, by omega, by go_num, val_int E1.out, by rw [E2.out]⟩
        case measure => simp [intOf]
    · have ix : ∀ w, (Instr.index 40 (.agg (arrOf x)) (.int .i64 2)).run Try.prog w = .ok (.int .u64 (x 2)) w := fun _ => by kernel_rfl
      cases hx : (x 2 != 0)
      · have E1 : Hid (moTo x (2 + 1) = moTo x 2) := moTo_no x 2 hx
        have E2 : Hid (dTo x (2 + 1) = dTo x 2) := dTo_no x 2 hx
        go_wp2
        go_round
        case rel => exact ⟨2 + 1, by omega, by go_num, by rw [E1.out], by rw [E2.out]⟩
        case measure => simp [intOf]
      · have E1 : Hid (bits .or .u64 (moTo x 2 : Int) ((2 ^ (2 + 1) : Nat) : Int) = (moTo x (2 + 1) : Int)) := moTo_yes x 2 (by omega) hx
        have E2 : Hid (dTo x (2 + 1) = x 2) := dTo_yes x 2 hx
        go_wp2_with (go_at_call 23; refine (range23 2 (by omega) _).mono ?_; rintro e w' ⟨rfl, rfl⟩)
        go_round
        case rel => exact ⟨2 + 1, by omega, by go_num, val_int E1.out, by rw [E2.out]⟩
        case measure => simp [intOf]
    · have ix : ∀ w, (Instr.index 40 (.agg (arrOf x)) (.int .i64 3)).run Try.prog w = .ok (.int .u64 (x 3)) w := fun _ => by kernel_rfl
      cases hx : (x 3 != 0)
      · have E1 : Hid (moTo x (3 + 1) = moTo x 3) := moTo_no x 3 hx
        have E2 : Hid (dTo x (3 + 1) = dTo x 3) := dTo_no x 3 hx
        go_wp2
        go_round
        case rel => exact ⟨3 + 1, by omega, by go_num, by rw [E1.out], by rw [E2.out]⟩
        case measure => simp [intOf]
      · have E1 : Hid (bits .or .u64 (moTo x 3 : Int) ((2 ^ (3 + 1) : Nat) : Int) = (moTo x (3 + 1) : Int)) := moTo_yes x 3 (by omega) hx
        have E2 : Hid (dTo x (3 + 1) = x 3) := dTo_yes x 3 hx
        go_wp2_with (go_at_call 23; refine (range23 3 (by omega) _).mono ?_; rintro e w' ⟨rfl, rfl⟩)
        go_round
        case rel => exact ⟨3 + 1, by omega, by go_num, val_int E1.out, by rw [E2.out]⟩
        case measure => simp [intOf]
    · have ix : ∀ w, (Instr.index 40 (.agg (arrOf x)) (.int .i64 4)).run Try.prog w = .ok (.int .u64 (x 4)) w := fun _ => by kernel_rfl
      cases hx : (x 4 != 0)
      · have E1 : Hid (moTo x (4 + 1) = moTo x 4) := moTo_no x 4 hx
        have E2 : Hid (dTo x (4 + 1) = dTo x 4) := dTo_no x 4 hx
        go_wp2
        go_round
        case rel => exact ⟨4 + 1, by omega, by go_num, by rw [E1.out], by rw [E2.out]⟩
        case measure => simp [intOf]
      · have E1 : Hid (bits .or .u64 (moTo x 4 : Int) ((2 ^ (4 + 1) : Nat) : Int) = (moTo x (4 + 1) : Int)) := moTo_yes x 4 (by omega) hx
        have E2 : Hid (dTo x (4 + 1) = x 4) := dTo_yes x 4 hx
        go_wp2_with (go_at_call 23; refine (range23 4 (by omega) _).mono ?_; rintro e w' ⟨rfl, rfl⟩)
        go_round
        case rel => exact ⟨4 + 1, by omega, by go_num, val_int E1.out, by rw [E2.out]⟩
        case measure => simp [intOf]
    · have ix : ∀ w, (Instr.index 40 (.agg (arrOf x)) (.int .i64 5)).run Try.prog w = .ok (.int .u64 (x 5)) w := fun _ => by kernel_rfl
      cases hx : (x 5 != 0)
      · have E1 : Hid (moTo x (5 + 1) = moTo x 5) := moTo_no x 5 hx
        have E2 : Hid (dTo x (5 + 1) = dTo x 5) := dTo_no x 5 hx
        go_wp2
        go_round
        case rel => exact ⟨5 + 1, by omega, by go_num, by rw [E1.out], by rw [E2.out]⟩
        case measure => simp [intOf]
      · have E1 : Hid (bits .or .u64 (moTo x 5 : Int) ((2 ^ (5 + 1) : Nat) : Int) = (moTo x (5 + 1) : Int)) := moTo_yes x 5 (by omega) hx
        have E2 : Hid (dTo x (5 + 1) = x 5) := dTo_yes x 5 hx
        go_wp2_with (go_at_call 23; refine (range23 5 (by omega) _).mono ?_; rintro e w' ⟨rfl, rfl⟩)
        go_round
        case rel => exact ⟨5 + 1, by omega, by go_num, val_int E1.out, by rw [E2.out]⟩
        case measure => simp [intOf]
    · have ix : ∀ w, (Instr.index 40 (.agg (arrOf x)) (.int .i64 6)).run Try.prog w = .ok (.int .u64 (x 6)) w := fun _ => by kernel_rfl
      cases hx : (x 6 != 0)
      · have E1 : Hid (moTo x (6 + 1) = moTo x 6) := moTo_no x 6 hx
        have E2 : Hid (dTo x (6 + 1) = dTo x 6) := dTo_no x 6 hx
        go_wp2
        go_round
        case rel => exact ⟨6 + 1, by omega, by go_num, by rw [E1.out], by rw [E2.out]⟩
        case measure => simp [intOf]
      · have E1 : Hid (bits .or .u64 (moTo x 6 : Int) ((2 ^ (6 + 1) : Nat) : Int) = (moTo x (6 + 1) : Int)) := moTo_yes x 6 (by omega) hx
        have E2 : Hid (dTo x (6 + 1) = x 6) := dTo_yes x 6 hx
        go_wp2_with (go_at_call 23; refine (range23 6 (by omega) _).mono ?_; rintro e w' ⟨rfl, rfl⟩)
        go_round
        case rel => exact ⟨6 + 1, by omega, by go_num, val_int E1.out, by rw [E2.out]⟩
        case measure => simp [intOf]
    · have ix : ∀ w, (Instr.index 40 (.agg (arrOf x)) (.int .i64 7)).run Try.prog w = .ok (.int .u64 (x 7)) w := fun _ => by kernel_rfl
      cases hx : (x 7 != 0)
      · have E1 : Hid (moTo x (7 + 1) = moTo x 7) := moTo_no x 7 hx
        have E2 : Hid (dTo x (7 + 1) = dTo x 7) := dTo_no x 7 hx
        go_wp2
        go_round
        case rel => exact ⟨7 + 1, by omega, by go_num, by rw [E1.out], by rw [E2.out]⟩
        case measure => simp [intOf]
      · have E1 : Hid (bits .or .u64 (moTo x 7 : Int) ((2 ^ (7 + 1) : Nat) : Int) = (moTo x (7 + 1) : Int)) := moTo_yes x 7 (by omega) hx
        have E2 : Hid (dTo x (7 + 1) = x 7) := dTo_yes x 7 hx
        go_wp2_with (go_at_call 23; refine (range23 7 (by omega) _).mono ?_; rintro e w' ⟨rfl, rfl⟩)
        go_round
        case rel => exact ⟨7 + 1, by omega, by go_num, val_int E1.out, by rw [E2.out]⟩
        case measure => simp [intOf]
    · have ix : ∀ w, (Instr.index 40 (.agg (arrOf x)) (.int .i64 8)).run Try.prog w = .ok (.int .u64 (x 8)) w := fun _ => by kernel_rfl
      cases hx : (x 8 != 0)
      · have E1 : Hid (moTo x (8 + 1) = moTo x 8) := moTo_no x 8 hx
        have E2 : Hid (dTo x (8 + 1) = dTo x 8) := dTo_no x 8 hx
        go_wp2
        go_round
        case rel => exact ⟨8 + 1, by omega, by go_num, by rw [E1.out], by rw [E2.out]⟩
        case measure => simp [intOf]
      · have E1 : Hid (bits .or .u64 (moTo x 8 : Int) ((2 ^ (8 + 1) : Nat) : Int) = (moTo x (8 + 1) : Int)) := moTo_yes x 8 (by omega) hx
        have E2 : Hid (dTo x (8 + 1) = x 8) := dTo_yes x 8 hx
        go_wp2_with (go_at_call 23; refine (range23 8 (by omega) _).mono ?_; rintro e w' ⟨rfl, rfl⟩)
        go_round
        case rel => exact ⟨8 + 1, by omega, by go_num, val_int E1.out, by rw [E2.out]⟩
        case measure => simp [intOf]
    · have ix : ∀ w, (Instr.index 40 (.agg (arrOf x)) (.int .i64 9)).run Try.prog w = .ok (.int .u64 (x 9)) w := fun _ => by kernel_rfl
      cases hx : (x 9 != 0)
      · have E1 : Hid (moTo x (9 + 1) = moTo x 9) := moTo_no x 9 hx
        have E2 : Hid (dTo x (9 + 1) = dTo x 9) := dTo_no x 9 hx
        go_wp2
        go_round
        case rel => exact ⟨9 + 1, by omega, by go_num, by rw [E1.out], by rw [E2.out]⟩
        case measure => simp [intOf]
      · have E1 : Hid (bits .or .u64 (moTo x 9 : Int) ((2 ^ (9 + 1) : Nat) : Int) = (moTo x (9 + 1) : Int)) := moTo_yes x 9 (by omega) hx
        have E2 : Hid (dTo x (9 + 1) = x 9) := dTo_yes x 9 hx
        go_wp2_with (go_at_call 23; refine (range23 9 (by omega) _).mono ?_; rintro e w' ⟨rfl, rfl⟩)
        go_round
        case rel => exact ⟨9 + 1, by omega, by go_num, val_int E1.out, by rw [E2.out]⟩
        case measure => simp [intOf]
    · have ix : ∀ w, (Instr.index 40 (.agg (arrOf x)) (.int .i64 10)).run Try.prog w = .ok (.int .u64 (x 10)) w := fun _ => by kernel_rfl
      cases hx : (x 10 != 0)
      · have E1 : Hid (moTo x (10 + 1) = moTo x 10) := moTo_no x 10 hx
        have E2 : Hid (dTo x (10 + 1) = dTo x 10) := dTo_no x 10 hx
        go_wp2
        go_round
        case rel => exact ⟨10 + 1, by omega, by go_num, by rw [E1.out], by rw [E2.out]⟩
        case measure => simp [intOf]
      · have E1 : Hid (bits .or .u64 (moTo x 10 : Int) ((2 ^ (10 + 1) : Nat) : Int) = (moTo x (10 + 1) : Int)) := moTo_yes x 10 (by omega) hx
        have E2 : Hid (dTo x (10 + 1) = x 10) := dTo_yes x 10 hx
        go_wp2_with (go_at_call 23; refine (range23 10 (by omega) _).mono ?_; rintro e w' ⟨rfl, rfl⟩)
        go_round
        case rel => exact ⟨10 + 1, by omega, by go_num, val_int E1.out, by rw [E2.out]⟩
        case measure => simp [intOf]
    · have ix : ∀ w, (Instr.index 40 (.agg (arrOf x)) (.int .i64 11)).run Try.prog w = .ok (.int .u64 (x 11)) w := fun _ => by kernel_rfl
      cases hx : (x 11 != 0)
      · have E1 : Hid (moTo x (11 + 1) = moTo x 11) := moTo_no x 11 hx
        have E2 : Hid (dTo x (11 + 1) = dTo x 11) := dTo_no x 11 hx
        go_wp2
        go_round
        case rel => exact ⟨11 + 1, by omega, by go_num, by rw [E1.out], by rw [E2.out]⟩
        case measure => simp [intOf]
      · have E1 : Hid (bits .or .u64 (moTo x 11 : Int) ((2 ^ (11 + 1) : Nat) : Int) = (moTo x (11 + 1) : Int)) := moTo_yes x 11 (by omega) hx
        have E2 : Hid (dTo x (11 + 1) = x 11) := dTo_yes x 11 hx
        go_wp2_with (go_at_call 23; refine (range23 11 (by omega) _).mono ?_; rintro e w' ⟨rfl, rfl⟩)
        go_round
        case rel => exact ⟨11 + 1, by omega, by go_num, val_int E1.out, by rw [E2.out]⟩
        case measure => simp [intOf]
end Go.Proofs.Qxb6600731a
