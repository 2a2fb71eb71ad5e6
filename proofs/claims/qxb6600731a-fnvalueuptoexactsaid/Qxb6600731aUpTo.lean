/-
  THE WALK OF valueUpTo.
-/
import Derived.Test.Qxb6600731aRows
import Derived.WalkKit
import Derived.ProofKit
import Derived.WalkSpells
namespace Go.Proofs.Qxb6600731a
open Go.RowKit

/-- One digit more. -/
def stepUp (lim v : Nat) (c : UInt8) : Nat := if v ≤ lim then v * 10 + (c.toNat - 48) else v
/-- valueUpTo's answer. -/
def upTo (lim : Nat) (l : List UInt8) : Nat := l.foldl (stepUp lim) 0

/-- ASCII digits alone. -/
def Digits (l : List UInt8) : Prop := ∀ c ∈ l, 48 ≤ c.toNat ∧ c.toNat ≤ 57

theorem take_snoc (s : ByteArray) (k : Nat) (h : k < s.size) : s.data.toList.take (k + 1) = s.data.toList.take k ++ [s[k]] := by
  rw [List.take_succ_eq_append_getElem (by simpa using h)]
  rfl

theorem upTo_snoc (lim : Nat) (l : List UInt8) (c : UInt8) : upTo lim (l ++ [c]) = stepUp lim (upTo lim l) c := by
  simp [upTo, List.foldl_append]

theorem digit_at {s : ByteArray} (hd : Digits s.data.toList) (k : Nat) (hk : k < s.size) : 48 ≤ s[k].toNat ∧ s[k].toNat ≤ 57 := by
  refine hd s[k] ?_
  have hk' : k < s.data.toList.length := by simpa using hk
  have h := List.getElem_mem hk'
  exact h

set_option maxHeartbeats 400000 in
theorem upTo18 (s : ByteArray) (lim : Nat) (hl : lim < 1844674407370955161) (hs : s.size ≤ 9223372036854775807) (hd : Digits s.data.toList) (w : World) :
    Calls Try.prog 18 #[.string s, .int .u64 (lim : Int)] w fun e w' => e = .returned (.int .u64 (upTo lim s.data.toList : Nat)) ∧ w = w' := by
  have HD : Hid (Digits s.data.toList) := hd
  clear hd
  go_enter Try.func18, Try.ntmps18
  go_wp2
  go_loop [5, 9] (fun v i => ∃ k q : Nat, k ≤ s.size ∧ i = .int .i64 k ∧ v = .int .u64 (q : Int) ∧ Hid (q = upTo lim (s.data.toList.take k))) (fun _ i => s.size - (intOf i).toNat)
  case atStart => exact ⟨0, 0, Nat.zero_le _, rfl, rfl, rfl⟩
  case round =>
    obtain ⟨k, q, hk, rfl, rfl, Hq⟩ := hrel
    by_cases hlt : k < s.size
    · obtain ⟨h48, h57⟩ := digit_at HD.out k hlt
      have HS : Hid (upTo lim (s.data.toList.take (k + 1)) = stepUp lim (upTo lim (s.data.toList.take k)) s[k]) := by
        rw [take_snoc s k hlt, upTo_snoc]; exact rfl
      by_cases hv : q ≤ lim
      · go_wp2
        go_round
        case rel =>
          refine ⟨k + 1, q * 10 + (s[k].toNat - 48), by omega, by go_num, by go_num, ?_⟩
          show q * 10 + (s[k].toNat - 48) = upTo lim (s.data.toList.take (k + 1))
          rw [HS.out, ← Hq.out]
          unfold stepUp
          rw [if_pos hv]
        case measure => simp [intOf]; omega
      · go_wp2
        go_round
        case rel =>
          refine ⟨k + 1, q, by omega, by go_num, rfl, ?_⟩
          show q = upTo lim (s.data.toList.take (k + 1))
          rw [HS.out, ← Hq.out]
          unfold stepUp
          rw [if_neg hv]
        case measure => simp [intOf]; omega
    · go_wp2
      go_ret
      refine ⟨?_, rfl⟩
      have e := Hq.out
      rw [List.take_of_length_le (by simp; omega)] at e
      rw [← e]
      rfl

theorem upTo9 (s : ByteArray) (lim : Nat) (hl : lim < 1844674407370955161) (hs : s.size ≤ 9223372036854775807) (hd : Digits s.data.toList) (w : World) :
    Calls Try.prog 9 #[.string s, .int .u64 (lim : Int)] w fun e w' => e = .returned (.int .u64 (upTo lim s.data.toList : Nat)) ∧ w = w' := by
  go_enter Try.func9, Try.ntmps9
  go_wp2_with fail
  refine (upTo18 s lim hl hs hd _).mono ?_
  rintro e w1 ⟨rfl, rfl⟩
  go_wp2
  go_ret
  exact ⟨rfl, rfl⟩
end Go.Proofs.Qxb6600731a
