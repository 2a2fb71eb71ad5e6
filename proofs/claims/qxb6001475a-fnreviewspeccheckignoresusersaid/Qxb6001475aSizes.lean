/-
  THE WALKS OF THE SIZE FUNCTIONS OF THE THIRD LAW: what they answer is not said, only that they return and leave the world alone: the law answers true on both ways.
-/
import Derived.Test.Qxb6001475aRows
import Derived.WalkKit
import Derived.ProofKit
import Derived.WalkSpells
namespace Go.Proofs.Qxb6001475a
open Go.RowKit

/-- WHAT A WALK IS TOLD OF A SLICE OF STRINGS: no element; or a row of cells, element i the string 'ss i'. -/
def StrRow (w : World) (a : Option Addr) (len : Nat) (ss : Nat → ByteArray) : Prop :=
  len = 0 ∨ ∃ b off, a = some ⟨b, off, none⟩ ∧ b < w.heap.size ∧ (∀ k, k < len → w.cell? ⟨b, off + k, none⟩ = some (.string (ss k)))

set_option maxHeartbeats 400000 in
theorem count11_some (b off len cap : Nat) (ss : Nat → ByteArray) (w : World) (hl : len ≤ 9223372036854775807)
    (hcell : ∀ k, k < len → w.cell? ⟨b, off + k, none⟩ = some (.string (ss k))) :
    Calls Try.prog 11 #[.slice (some ⟨b, off, none⟩) len cap] w fun e w' => (∃ z, e = .returned (.int .i64 z)) ∧ w = w' := by
  go_enter Try.func11, Try.ntmps11
  go_wp2
  go_loop [3, 4] (fun n i => ∃ k : Nat, ∃ z : Int, k ≤ len ∧ i = .int .i64 k ∧ n = .int .i64 z) (fun _ i => len - (intOf i).toNat)
  case atStart => exact ⟨0, 0, Nat.zero_le _, rfl, rfl⟩
  case round =>
    obtain ⟨k, z, hk, rfl, rfl⟩ := hrel
    by_cases hlt : k < len
    · have hc := hcell k hlt
      go_wp2
      · go_ret
        exact ⟨⟨_, rfl⟩, rfl⟩
      · go_ret
        exact ⟨⟨_, rfl⟩, rfl⟩
      · go_round
        case rel => exact ⟨k + 1, _, by omega, by go_num, rfl⟩
        case measure => simp [intOf]; omega
    · go_wp2
      go_ret
      exact ⟨⟨_, rfl⟩, rfl⟩

theorem count11_none (a : Option Addr) (cap : Nat) (w : World) :
    Calls Try.prog 11 #[.slice a 0 cap] w fun e w' => (∃ z, e = .returned (.int .i64 z)) ∧ w = w' := by
  go_enter Try.func11, Try.ntmps11
  go_wp2
  go_loop [3, 4] (fun n i => i = .int .i64 0 ∧ n = .int .i64 0) (fun _ i => 0)
  case atStart => exact ⟨rfl, rfl⟩
  case round =>
    obtain ⟨rfl, rfl⟩ := hrel
    go_wp2
    go_ret
    exact ⟨⟨_, rfl⟩, rfl⟩

theorem count11 (a : Option Addr) (len cap : Nat) (ss : Nat → ByteArray) (w : World) (hl : len ≤ 9223372036854775807) (h : StrRow w a len ss) :
    Calls Try.prog 11 #[.slice a len cap] w fun e w' => (∃ z, e = .returned (.int .i64 z)) ∧ w = w' := by
  rcases h with rfl | ⟨b, off, rfl, _, hcell⟩
  · exact count11_none a cap w
  · exact count11_some b off len cap ss w hl hcell

/-- It returns, with some bool. -/
def AnyBool (e : Ending) : Prop := ∃ z, e = .returned (.bool z)
theorem anyBool (z : Bool) : AnyBool (.returned (.bool z)) := ⟨z, rfl⟩

set_option maxHeartbeats 1600000 in
theorem bytes10_ss (a0 a1 a4 a5 a6 a7 a8 a9 a10 : ByteArray) (b2 o2 l2 c2 : Nat) (s2 : Nat → ByteArray) (b3 o3 l3 c3 : Nat) (s3 : Nat → ByteArray) (w : World) (h2 : l2 ≤ 9223372036854775807) (hcell2 : ∀ k, k < l2 → w.cell? ⟨b2, o2 + k, none⟩ = some (.string (s2 k))) (h3 : l3 ≤ 9223372036854775807) (hcell3 : ∀ k, k < l3 → w.cell? ⟨b3, o3 + k, none⟩ = some (.string (s3 k))) :
    Calls Try.prog 10 #[.string a0, .string a1, .slice (some ⟨b2, o2, none⟩) l2 c2, .slice (some ⟨b3, o3, none⟩) l3 c3, .string a4, .string a5, .string a6, .string a7, .string a8, .string a9, .string a10] w
      fun e w' => AnyBool e ∧ w = w' := by
  go_enter Try.func10, Try.ntmps10
  go_wp2
  all_goals try (go_ret; exact ⟨anyBool _, rfl⟩)
  go_loop [23, 24] (fun n i => ∃ k : Nat, ∃ z : Int, k ≤ l2 ∧ i = .int .i64 k ∧ n = .int .i64 z) (fun _ i => l2 - (intOf i).toNat)
  case atStart => exact ⟨0, _, Nat.zero_le _, rfl, rfl⟩
  case round =>
    obtain ⟨k, z, hk, rfl, rfl⟩ := hrel
    by_cases hlt : k < l2
    · have hc := hcell2 k hlt
      go_wp2
      · go_ret; exact ⟨anyBool _, rfl⟩
      · go_ret; exact ⟨anyBool _, rfl⟩
      · go_round
        case rel => exact ⟨k + 1, _, by omega, by go_num, rfl⟩
        case measure => simp [intOf]; omega
    · go_wp2
      all_goals try (go_ret; exact ⟨anyBool _, rfl⟩)
      go_loop [23, 25] (fun n i => ∃ k : Nat, ∃ z : Int, k ≤ l3 ∧ i = .int .i64 k ∧ n = .int .i64 z) (fun _ i => l3 - (intOf i).toNat)
      case atStart => exact ⟨0, _, Nat.zero_le _, rfl, rfl⟩
      case round =>
        obtain ⟨j, y, hj, rfl, rfl⟩ := hrel
        by_cases hlt' : j < l3
        · have hc := hcell3 j hlt'
          go_wp2
          · go_ret; exact ⟨anyBool _, rfl⟩
          · go_ret; exact ⟨anyBool _, rfl⟩
          · go_round
            case rel => exact ⟨j + 1, _, by omega, by go_num, rfl⟩
            case measure => simp [intOf]; omega
        · go_wp2
          all_goals (go_ret; exact ⟨anyBool _, rfl⟩)

set_option maxHeartbeats 1600000 in
theorem bytes10_ns (a0 a1 a4 a5 a6 a7 a8 a9 a10 : ByteArray) (a2 : Option Addr) (c2 : Nat) (b3 o3 l3 c3 : Nat) (s3 : Nat → ByteArray) (w : World) (h3 : l3 ≤ 9223372036854775807) (hcell3 : ∀ k, k < l3 → w.cell? ⟨b3, o3 + k, none⟩ = some (.string (s3 k))) :
    Calls Try.prog 10 #[.string a0, .string a1, .slice a2 0 c2, .slice (some ⟨b3, o3, none⟩) l3 c3, .string a4, .string a5, .string a6, .string a7, .string a8, .string a9, .string a10] w
      fun e w' => AnyBool e ∧ w = w' := by
  go_enter Try.func10, Try.ntmps10
  go_wp2
  all_goals try (go_ret; exact ⟨anyBool _, rfl⟩)
  go_loop [23, 24] (fun n i => i = .int .i64 0 ∧ ∃ z : Int, n = .int .i64 z) (fun _ _ => 0)
  case atStart => exact ⟨rfl, _, rfl⟩
  case round =>
    obtain ⟨rfl, z, rfl⟩ := hrel
    go_wp2
    all_goals try (go_ret; exact ⟨anyBool _, rfl⟩)
    go_loop [23, 25] (fun n i => ∃ k : Nat, ∃ z : Int, k ≤ l3 ∧ i = .int .i64 k ∧ n = .int .i64 z) (fun _ i => l3 - (intOf i).toNat)
    case atStart => exact ⟨0, _, Nat.zero_le _, rfl, rfl⟩
    case round =>
      obtain ⟨j, y, hj, rfl, rfl⟩ := hrel
      by_cases hlt' : j < l3
      · have hc := hcell3 j hlt'
        go_wp2
        · go_ret; exact ⟨anyBool _, rfl⟩
        · go_ret; exact ⟨anyBool _, rfl⟩
        · go_round
          case rel => exact ⟨j + 1, _, by omega, by go_num, rfl⟩
          case measure => simp [intOf]; omega
      · go_wp2
        all_goals (go_ret; exact ⟨anyBool _, rfl⟩)

set_option maxHeartbeats 1600000 in
theorem bytes10_sn (a0 a1 a4 a5 a6 a7 a8 a9 a10 : ByteArray) (b2 o2 l2 c2 : Nat) (s2 : Nat → ByteArray) (a3 : Option Addr) (c3 : Nat) (w : World) (h2 : l2 ≤ 9223372036854775807) (hcell2 : ∀ k, k < l2 → w.cell? ⟨b2, o2 + k, none⟩ = some (.string (s2 k))) :
    Calls Try.prog 10 #[.string a0, .string a1, .slice (some ⟨b2, o2, none⟩) l2 c2, .slice a3 0 c3, .string a4, .string a5, .string a6, .string a7, .string a8, .string a9, .string a10] w
      fun e w' => AnyBool e ∧ w = w' := by
  go_enter Try.func10, Try.ntmps10
  go_wp2
  all_goals try (go_ret; exact ⟨anyBool _, rfl⟩)
  go_loop [23, 24] (fun n i => ∃ k : Nat, ∃ z : Int, k ≤ l2 ∧ i = .int .i64 k ∧ n = .int .i64 z) (fun _ i => l2 - (intOf i).toNat)
  case atStart => exact ⟨0, _, Nat.zero_le _, rfl, rfl⟩
  case round =>
    obtain ⟨k, z, hk, rfl, rfl⟩ := hrel
    by_cases hlt : k < l2
    · have hc := hcell2 k hlt
      go_wp2
      · go_ret; exact ⟨anyBool _, rfl⟩
      · go_ret; exact ⟨anyBool _, rfl⟩
      · go_round
        case rel => exact ⟨k + 1, _, by omega, by go_num, rfl⟩
        case measure => simp [intOf]; omega
    · go_wp2
      all_goals try (go_ret; exact ⟨anyBool _, rfl⟩)
      go_loop [23, 25] (fun n i => i = .int .i64 0 ∧ ∃ z : Int, n = .int .i64 z) (fun _ _ => 0)
      case atStart => exact ⟨rfl, _, rfl⟩
      case round =>
        obtain ⟨rfl, y, rfl⟩ := hrel
        go_wp2
        all_goals (go_ret; exact ⟨anyBool _, rfl⟩)

set_option maxHeartbeats 1600000 in
theorem bytes10_nn (a0 a1 a4 a5 a6 a7 a8 a9 a10 : ByteArray) (a2 : Option Addr) (c2 : Nat) (a3 : Option Addr) (c3 : Nat) (w : World) :
    Calls Try.prog 10 #[.string a0, .string a1, .slice a2 0 c2, .slice a3 0 c3, .string a4, .string a5, .string a6, .string a7, .string a8, .string a9, .string a10] w
      fun e w' => AnyBool e ∧ w = w' := by
  go_enter Try.func10, Try.ntmps10
  go_wp2
  all_goals try (go_ret; exact ⟨anyBool _, rfl⟩)
  go_loop [23, 24] (fun n i => i = .int .i64 0 ∧ ∃ z : Int, n = .int .i64 z) (fun _ _ => 0)
  case atStart => exact ⟨rfl, _, rfl⟩
  case round =>
    obtain ⟨rfl, z, rfl⟩ := hrel
    go_wp2
    all_goals try (go_ret; exact ⟨anyBool _, rfl⟩)
    go_loop [23, 25] (fun n i => i = .int .i64 0 ∧ ∃ z : Int, n = .int .i64 z) (fun _ _ => 0)
    case atStart => exact ⟨rfl, _, rfl⟩
    case round =>
      obtain ⟨rfl, y, rfl⟩ := hrel
      go_wp2
      all_goals (go_ret; exact ⟨anyBool _, rfl⟩)

theorem bytes10 (a0 a1 a4 a5 a6 a7 a8 a9 a10 : ByteArray) (g2 : Option Addr) (l2 c2 : Nat) (g3 : Option Addr) (l3 c3 : Nat) (s2 s3 : Nat → ByteArray) (w : World) (h2 : l2 ≤ 9223372036854775807) (h3 : l3 ≤ 9223372036854775807)
    (r2 : StrRow w g2 l2 s2) (r3 : StrRow w g3 l3 s3) :
    Calls Try.prog 10 #[.string a0, .string a1, .slice g2 l2 c2, .slice g3 l3 c3, .string a4, .string a5, .string a6, .string a7, .string a8, .string a9, .string a10] w
      fun e w' => AnyBool e ∧ w = w' := by
  rcases r2 with rfl | ⟨b2, o2, rfl, _, hc2⟩ <;> rcases r3 with rfl | ⟨b3, o3, rfl, _, hc3⟩
  · exact bytes10_nn a0 a1 a4 a5 a6 a7 a8 a9 a10 g2 c2 g3 c3 w
  · exact bytes10_ns a0 a1 a4 a5 a6 a7 a8 a9 a10 g2 c2 b3 o3 l3 c3 s3 w h3 hc3
  · exact bytes10_sn a0 a1 a4 a5 a6 a7 a8 a9 a10 b2 o2 l2 c2 s2 g3 c3 w h2 hc2
  · exact bytes10_ss a0 a1 a4 a5 a6 a7 a8 a9 a10 b2 o2 l2 c2 s2 b3 o3 l3 c3 s3 w h2 hc2 h3 hc3
end Go.Proofs.Qxb6001475a
