/-
  THE WALK OF fnItoa: the decimal digits of its argument, the greatest first.
-/
import Derived.Test.Qxb6600731aRows
import Derived.WalkKit
import Derived.ProofKit
import Derived.WalkSpells
namespace Go.Proofs.Qxb6600731a
open Go.RowKit

/-- The j least decimal digits of n as text, the greatest first. -/
def decTo (n : Nat) : Nat → List Int
  | 0 => []
  | j + 1 => ((48 + n / 10 ^ j % 10 : Nat) : Int) :: decTo n j

theorem decTo_length (n : Nat) : ∀ j, (decTo n j).length = j
  | 0 => rfl
  | j + 1 => by simp [decTo, decTo_length n j]

/-- J is the number of n's decimal digits (1 for 0). -/
def IsLen (n J : Nat) : Prop := 1 ≤ J ∧ J ≤ 20 ∧ n < 10 ^ J ∧ (J = 1 ∨ 10 ^ (J - 1) ≤ n)

/-- The twenty cells when j digits are laid. -/
def cellsTo (n k j : Nat) : Array Value := ((List.replicate k (0 : Int) ++ decTo n j).map (Value.int .u8)).toArray

theorem cells_at (n k j : Nat) : (cellsTo n (k + 1) j)[k]? = some (.int .u8 0) := by
  simp [cellsTo, List.getElem?_append]

theorem cells_set (n k j : Nat) (q : Nat) (hq : q = n / 10 ^ j) : (cellsTo n (k + 1) j).setIfInBounds k (.int .u8 (48 + (q : Int) % 10)) = cellsTo n k (j + 1) := by
  subst hq
  unfold cellsTo
  rw [List.setIfInBounds_toArray]
  congr 1
  rw [List.replicate_succ', List.append_assoc, List.map_append, List.set_append_right _ _ (by simp)]
  simp [decTo]

theorem cells_get (n k j i : Nat) (hi : i < j) : (cellsTo n k j)[k + i]? = some (.int .u8 ((decTo n j).getD i 0)) := by
  have hl := decTo_length n j
  unfold cellsTo
  rw [List.getElem?_toArray, List.map_append, List.getElem?_append_right (by simp)]
  simp [List.getElem?_eq_getElem (show i < (decTo n j).length by omega)]

theorem len36 : Try.prog.arrayLen 36 = 20 := by kernel_rfl
theorem elem36 : Try.prog.elem 36 = 5 := by kernel_rfl
theorem size5 (w : World) : (sizeOf 5).run Try.prog w = .ok 1 w := by kernel_rfl
theorem slice36 (b k : Nat) (hk : k < 20) (w : World) : (Instr.sliceAt 36 (.pointer (some ⟨b, 0, none⟩)) (some (.int .i64 (k : Int))) none none).run Try.prog w = .ok (.slice (some ⟨b, k, none⟩) (20 - k) (20 - k)) w := by
  have h := run_sliceAt_array_l (P := Try.prog) w 36 ⟨b, 0, none⟩ (by rw [len36, elem36]; exact Try.underlying36) .i64 (k : Int) (by omega) (by rw [len36]; omega)
  rw [h, elem36, size5, len36]
  have e1 : ¬ (20 = k) := by omega
  simp [Result.andThen, slicedAt, e1, Addr.add]
  intro h0
  exact h0.symm

theorem conv37 (n k j : Nat) (hkj : k + j = 20) (w : World) :
    (convert 37 9 (.slice (some ⟨w.heap.size, k, none⟩) (20 - k) (20 - k))).run Try.prog (w.alloc (.cells (cellsTo n k j) 36)) = .ok (.string (strOfNums (decTo n j))) (w.alloc (.cells (cellsTo n k j) 36)) := by
  refine run_convert_bytes_arg (P := Try.prog) (w.alloc (.cells (cellsTo n k j) 36)) 37 5 Try.underlying37 Try.underlying5 w.heap.size k (20 - k) (20 - k) (decTo n j) (by rw [decTo_length]; omega) ?_ 9 Try.underlying9
  intro i hi
  rw [World.cell?_alloc_new]
  exact cells_get n k j i (by omega)

theorem pow20 : 18446744073709551616 < 10 ^ 20 := by decide

theorem ret_str {s t : ByteArray} (h : s = t) : Ending.returned (.string s) = .returned (.string t) := by rw [h]

set_option maxHeartbeats 400000 in
theorem itoa10_pos (n : Nat) (hn : 0 < n) (hn2 : n < 18446744073709551616) (w : World) :
    Calls Try.prog 10 #[.int .u64 (n : Int)] w fun e w' => (∃ J, IsLen n J ∧ e = .returned (.string (strOfNums (decTo n J)))) ∧ Below w.heap.size w w' := by
  have h0 : ((n : Int) == 0) = false := by simp; omega
  have hp := pow20
  go_enter Try.func10, Try.ntmps10
  go_wp2
  go_loopw [0, 4] (fun v i wr => ∃ k j q : Nat, k + j = 20 ∧ Hid (q = n / 10 ^ j) ∧ Hid (j = 0 ∨ 10 ^ (j - 1) ≤ n) ∧ i = .int .i64 k ∧ v = .int .u64 (q : Int) ∧ wr = w.alloc (.cells (cellsTo n k j) 36)) (fun v _ _ => (intOf v).toNat)
  case atStart => exact ⟨20, 0, n, rfl, by simp [Hid], .inl rfl, rfl, by simp, rfl⟩
  case round =>
    obtain ⟨k, j, q, hkj, Hq, Hj, rfl, rfl, rfl⟩ := hrel
    have hq1 : q < 18446744073709551616 := by
      have := Hq.out
      have h2 : n / 10 ^ j ≤ n := Nat.div_le_self _ _
      omega
    by_cases hv : 0 < q
    · have hj : 10 ^ j ≤ n := by
        have h1 := Hq.out
        rw [h1] at hv
        exact (Nat.div_pos_iff.1 hv).2
      have hjl : j < 20 := by
        rcases Nat.lt_or_ge j 20 with h | h
        · exact h
        · have h3 : 10 ^ 20 ≤ 10 ^ j := Nat.pow_le_pow_right (by decide) h
          omega
      have HJ : Hid (10 ^ j ≤ n) := hj
      clear hj
      obtain ⟨k, rfl⟩ : ∃ k', k = k' + 1 := ⟨k - 1, by omega⟩
      have hc := cells_at n k j
      have HS : Hid ((cellsTo n (k + 1) j).setIfInBounds k (.int .u8 (48 + (q : Int) % 10)) = cellsTo n k (j + 1)) := cells_set n k j q Hq.out
      have hk1 : k < 20 := by omega
      go_wp2
      go_roundw
      case rel =>
        refine ⟨k, j + 1, q / 10, by omega, ?_, .inr HJ.out, rfl, by simp, by rw [HS.out]⟩
        show q / 10 = n / 10 ^ (j + 1)
        rw [Hq.out, Nat.div_div_eq_div_mul, Nat.pow_succ]
      case measure => simp [intOf]; omega
    · obtain rfl : q = 0 := by omega
      have hj0 : j ≠ 0 := by
        intro e
        have h1 := Hq.out
        rw [e] at h1
        simp at h1
        omega
      have hk1 : k < 20 := by omega
      have hsl := slice36 w.heap.size k hk1
      have hcv := conv37 n k j hkj w
      have HN : Hid (n < 10 ^ j) := by
        have h1 := Hq.out
        have h2 : 0 < 10 ^ j := Nat.pow_pos (by decide)
        exact (Nat.div_eq_zero_iff_lt h2).1 h1.symm
      go_wp2
      go_ret
      refine ⟨⟨j, ⟨by omega, by omega, HN.out, ?_⟩, rfl⟩, (Below.refl _ _).alloc (Nat.le_refl _) _⟩
      rcases Hj.out with h | h
      · omega
      · exact .inr h

theorem itoa10_zero (w : World) :
    Calls Try.prog 10 #[.int .u64 0] w fun e w' => e = .returned (.string (strOfNums (decTo 0 1))) ∧ Below w.heap.size w w' := by
  go_enter Try.func10, Try.ntmps10
  go_wp2
  go_ret
  exact ⟨rfl, Below.refl _ _⟩

/-- fnItoa. -/
theorem itoa10 (n : Nat) (hn2 : n < 18446744073709551616) (w : World) :
    Calls Try.prog 10 #[.int .u64 (n : Int)] w fun e w' => (∃ J, IsLen n J ∧ e = .returned (.string (strOfNums (decTo n J)))) ∧ Below w.heap.size w w' := by
  by_cases h : n = 0
  · subst h
    refine (itoa10_zero w).mono ?_
    rintro e w' ⟨rfl, hB⟩
    exact ⟨⟨1, ⟨by decide, by decide, by decide, .inl rfl⟩, rfl⟩, hB⟩
  · exact itoa10_pos n (by omega) hn2 w
end Go.Proofs.Qxb6600731a
