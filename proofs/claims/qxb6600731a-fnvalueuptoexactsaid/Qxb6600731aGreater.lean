/-
  THE WALK OF fnGreater: the longer text is greater; of one length: the first byte that parts decides.
-/
import Derived.Test.Qxb6600731aRows
import Derived.WalkKit
import Derived.ProofKit
import Derived.WalkSpells
import Derived.Deep.QuietTactic
import Derived.BigQuiet
namespace Go.Proofs.Qxb6600731a
open Go.RowKit

/-- Of two texts of one length: the first byte that parts decides. -/
def lexGt : List UInt8 → List UInt8 → Bool
  | x :: xs, y :: ys => if x = y then lexGt xs ys else decide (y < x)
  | _, _ => false

/-- fnGreater's answer. -/
def textGt (a b : ByteArray) : Bool := if a.size = b.size then lexGt a.data.toList b.data.toList else decide (b.size < a.size)

theorem lex_step (a b : ByteArray) (k : Nat) (ha : k < a.size) (hb : k < b.size) :
    lexGt (a.data.toList.drop k) (b.data.toList.drop k) = if a[k] = b[k] then lexGt (a.data.toList.drop (k + 1)) (b.data.toList.drop (k + 1)) else decide (b[k] < a[k]) := by
  have ha' : k < a.data.toList.length := by simpa using ha
  have hb' : k < b.data.toList.length := by simpa using hb
  rw [List.drop_eq_getElem_cons ha', List.drop_eq_getElem_cons hb']
  rfl

theorem lex_yes (a b : ByteArray) (k : Nat) (ha : k < a.size) (hb : k < b.size) (h : ((a[k].toNat : Int) != (b[k].toNat : Int)) = false) :
    lexGt (a.data.toList.drop k) (b.data.toList.drop k) = lexGt (a.data.toList.drop (k + 1)) (b.data.toList.drop (k + 1)) := by
  have e : a[k] = b[k] := by
    apply UInt8.toNat_inj.1
    have h1 : (a[k].toNat : Int) = (b[k].toNat : Int) := by simpa using h
    omega
  rw [lex_step a b k ha hb, if_pos e]

theorem lex_no (a b : ByteArray) (k : Nat) (ha : k < a.size) (hb : k < b.size) (h : ((a[k].toNat : Int) != (b[k].toNat : Int)) = true) :
    lexGt (a.data.toList.drop k) (b.data.toList.drop k) = decide (b[k].toNat < a[k].toNat) := by
  have h1 : (a[k].toNat : Int) ≠ (b[k].toNat : Int) := by simpa using h
  have e : ¬ a[k] = b[k] := by
    intro e
    rw [e] at h1
    exact h1 rfl
  rw [lex_step a b k ha hb, if_neg e]
  exact decide_eq_decide.2 UInt8.lt_iff_toNat_lt

theorem ret_bool {a b : Bool} (h : a = b) : Ending.returned (.bool a) = .returned (.bool b) := by rw [h]

set_option maxHeartbeats 400000 in
theorem greater_same (a b : ByteArray) (hl : a.size = b.size) (hm : a.size ≤ 9223372036854775807) (w : World) :
    Calls Try.prog 19 #[.string a, .string b] w fun e w' => e = .returned (.bool (lexGt a.data.toList b.data.toList)) ∧ ∃ n, w' = w.drewN n := by
  have hne : ((a.size : Int) != (b.size : Int)) = false := by rw [hl]; simp
  have HL : Hid (a.size = b.size) := hl
  clear hl
  go_enter Try.func19, Try.ntmps19
  go_wp2
  go_loopw [5] (fun i wr => ∃ k : Nat, k ≤ a.size ∧ i = .int .i64 k ∧ Hid (lexGt a.data.toList b.data.toList = lexGt (a.data.toList.drop k) (b.data.toList.drop k)) ∧ ∃ n, wr = w.drewN n) (fun i _ => a.size - (intOf i).toNat)
  case atStart => exact ⟨0, Nat.zero_le _, rfl, rfl, 0, rfl⟩
  case round =>
    obtain ⟨k, hk, rfl, Hx, n, rfl⟩ := hrel
    by_cases hlt : k < a.size
    · have hlb : k < b.size := by have := HL.out; omega
      have i1 : (k : Int) < (a.size : Int) := by omega
      have i2 : (k : Int) < (b.size : Int) := by omega
      cases hc : ((a[k].toNat : Int) != (b[k].toNat : Int))
      · have HE : Hid (lexGt (a.data.toList.drop k) (b.data.toList.drop k) = lexGt (a.data.toList.drop (k + 1)) (b.data.toList.drop (k + 1))) := lex_yes a b k hlt hlb hc
        go_wp2
        go_quiet (fail)
        go_wp2
        go_roundw
        case rel => exact ⟨k + 1, by omega, by go_num, Hx.out.trans HE.out, _, rfl⟩
        case measure => simp [intOf]; omega
      · have HE : Hid (lexGt (a.data.toList.drop k) (b.data.toList.drop k) = decide (b[k].toNat < a[k].toNat)) := lex_no a b k hlt hlb hc
        go_wp2
        go_quiet (fail)
        go_wp2
        go_quiet (fail)
        go_wp2
        go_ret
        exact ⟨ret_bool (Hx.out.trans HE.out).symm, _, by rw [World.drewN_drewN, World.drewN_drewN]⟩
    · go_wp2
      go_ret
      refine ⟨ret_bool ?_, _, rfl⟩
      rw [Hx.out, List.drop_of_length_le (by simp; omega)]
      rfl

theorem greater_part (a b : ByteArray) (hl : a.size ≠ b.size) (w : World) :
    Calls Try.prog 19 #[.string a, .string b] w fun e w' => e = .returned (.bool (decide (b.size < a.size))) ∧ ∃ n, w' = w.drewN n := by
  have hne : ((a.size : Int) != (b.size : Int)) = true := by simp; omega
  go_enter Try.func19, Try.ntmps19
  go_wp2
  go_ret
  refine ⟨ret_bool (decide_eq_decide.2 ?_), 0, rfl⟩
  omega

/-- fnGreater. -/
theorem greater19 (a b : ByteArray) (hm : a.size ≤ 9223372036854775807) (w : World) :
    Calls Try.prog 19 #[.string a, .string b] w fun e w' => e = .returned (.bool (textGt a b)) ∧ ∃ n, w' = w.drewN n := by
  unfold textGt
  by_cases h : a.size = b.size
  · rw [if_pos h]
    exact greater_same a b h hm w
  · rw [if_neg h]
    exact greater_part a b h w
end Go.Proofs.Qxb6600731a
