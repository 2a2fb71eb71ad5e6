/-
  THE WALKS OF THE SHARED FUNCTIONS: the size guards, newSubjectAccessReviewSpec.
-/
import Derived.Test.Qxb6001475aRows
import Derived.WalkKit
import Derived.ProofKit
import Derived.WalkSpells
namespace Go.Proofs.Qxb6001475a
open Go.RowKit

set_option maxHeartbeats 400000 in
theorem bytes6_yes (a0 a1 a2 a3 a4 a5 a6 : ByteArray) (w : World)
    (h : a0.size + a1.size + a2.size + a3.size + a4.size + a5.size + a6.size ≤ 1048576) :
    Calls Try.prog 6 #[.string a0, .string a1, .string a2, .string a3, .string a4, .string a5, .string a6] w fun e w' => e = .returned (.bool true) ∧ w = w' := by
  go_enter Try.func6, Try.ntmps6
  go_wp2
  go_ret
  exact ⟨rfl, rfl⟩

set_option maxHeartbeats 400000 in
theorem bytes6_no (a0 a1 a2 a3 a4 a5 a6 : ByteArray) (w : World)
    (w0 : a0.size ≤ maxLen) (w1 : a1.size ≤ maxLen) (w2 : a2.size ≤ maxLen) (w3 : a3.size ≤ maxLen) (w4 : a4.size ≤ maxLen) (w5 : a5.size ≤ maxLen) (w6 : a6.size ≤ maxLen)
    (h : 1048576 < a0.size + a1.size + a2.size + a3.size + a4.size + a5.size + a6.size) :
    Calls Try.prog 6 #[.string a0, .string a1, .string a2, .string a3, .string a4, .string a5, .string a6] w fun e w' => e = .returned (.bool false) ∧ w = w' := by
  unfold maxLen at *
  go_enter Try.func6, Try.ntmps6
  go_wp2
  all_goals (go_ret; exact ⟨rfl, rfl⟩)

set_option maxHeartbeats 400000 in
/-- newSubjectAccessReviewSpec, attrs with a path. -/
theorem new13_path (un ui : ByteArray) (ga : Option Addr) (gl gc : Nat) (mr : Option Nat) (a0 a1 a2 a3 a4 a5 a6 : ByteArray) (w : World) (h : (a6.toList == []) = false) :
    Calls Try.prog 13 #[.agg #[.string un, .string ui, .slice ga gl gc, .map mr], .agg #[.string a0, .string a1, .string a2, .string a3, .string a4, .string a5, .string a6]] w fun e w' =>
      e = .returned (.agg #[.pointer none, .pointer (some ⟨w.heap.size + 1 + 1 + 1 + 1, 0, none⟩), .string un, .string ui, .slice ga gl gc, .map mr]) ∧
      ∃ c1 c2 c3 c4 : Array Value, w' = ((((w.alloc (.cells c1 33)).alloc (.cells c2 24)).alloc (.cells c3 30)).alloc (.cells c4 30)).alloc (.cells #[.string a6, .string a0] 40) := by
  go_enter Try.func13, Try.ntmps13
  go_wp2
  simp [bodyPost, results, Try.results13, go_sem]
  exact ⟨_, _, _, _, rfl⟩

set_option maxHeartbeats 400000 in
/-- newSubjectAccessReviewSpec, attrs without a path. -/
theorem new13_res (un ui : ByteArray) (ga : Option Addr) (gl gc : Nat) (mr : Option Nat) (a0 a1 a2 a3 a4 a5 a6 : ByteArray) (w : World) (h : (a6.toList == []) = true) :
    Calls Try.prog 13 #[.agg #[.string un, .string ui, .slice ga gl gc, .map mr], .agg #[.string a0, .string a1, .string a2, .string a3, .string a4, .string a5, .string a6]] w fun e w' =>
      e = .returned (.agg #[.pointer (some ⟨w.heap.size + 1 + 1 + 1 + 1, 0, none⟩), .pointer none, .string un, .string ui, .slice ga gl gc, .map mr]) ∧
      ∃ c1 c2 c3 c4 : Array Value, w' = ((((w.alloc (.cells c1 33)).alloc (.cells c2 24)).alloc (.cells c3 30)).alloc (.cells c4 30)).alloc (.cells #[.string a0, .string a1, .string a2, .string a3, .string a4, .string a5] 42) := by
  go_enter Try.func13, Try.ntmps13
  go_wp2
  simp [bodyPost, results, Try.results13, go_sem]
  exact ⟨_, _, _, _, rfl⟩

set_option maxHeartbeats 400000 in
/-- ZZnewSubjectAccessReviewSpec, attrs with a path. -/
theorem new7_path (un ui : ByteArray) (ga : Option Addr) (gl gc : Nat) (mr : Option Nat) (a0 a1 a2 a3 a4 a5 a6 : ByteArray) (w : World) (h : (a6.toList == []) = false) :
    Calls Try.prog 7 #[.agg #[.string un, .string ui, .slice ga gl gc, .map mr], .agg #[.string a0, .string a1, .string a2, .string a3, .string a4, .string a5, .string a6]] w fun e w' =>
      e = .returned (.agg #[.pointer none, .pointer (some ⟨w.heap.size + 1 + 1 + 1 + 1 + 1 + 1 + 1, 0, none⟩), .string un, .string ui, .slice ga gl gc, .map mr]) ∧
      ∃ d1 d2 d3 c1 c2 c3 c4 : Array Value, w' = (((((((w.alloc (.cells d1 33)).alloc (.cells d2 24)).alloc (.cells d3 30)).alloc (.cells c1 33)).alloc (.cells c2 24)).alloc (.cells c3 30)).alloc (.cells c4 30)).alloc (.cells #[.string a6, .string a0] 40) := by
  go_enter Try.func7, Try.ntmps7
  go_wp2_with fail
  refine (new13_path un ui ga gl gc mr a0 a1 a2 a3 a4 a5 a6 _ h).mono ?_
  rintro e w1 ⟨rfl, c1, c2, c3, c4, rfl⟩
  go_wp2
  simp [bodyPost, results, Try.results7, go_sem]
  exact ⟨_, _, _, _, _, _, _, rfl⟩

set_option maxHeartbeats 400000 in
/-- ZZnewSubjectAccessReviewSpec, attrs without a path. -/
theorem new7_res (un ui : ByteArray) (ga : Option Addr) (gl gc : Nat) (mr : Option Nat) (a0 a1 a2 a3 a4 a5 a6 : ByteArray) (w : World) (h : (a6.toList == []) = true) :
    Calls Try.prog 7 #[.agg #[.string un, .string ui, .slice ga gl gc, .map mr], .agg #[.string a0, .string a1, .string a2, .string a3, .string a4, .string a5, .string a6]] w fun e w' =>
      e = .returned (.agg #[.pointer (some ⟨w.heap.size + 1 + 1 + 1 + 1 + 1 + 1 + 1, 0, none⟩), .pointer none, .string un, .string ui, .slice ga gl gc, .map mr]) ∧
      ∃ d1 d2 d3 c1 c2 c3 c4 : Array Value, w' = (((((((w.alloc (.cells d1 33)).alloc (.cells d2 24)).alloc (.cells d3 30)).alloc (.cells c1 33)).alloc (.cells c2 24)).alloc (.cells c3 30)).alloc (.cells c4 30)).alloc (.cells #[.string a0, .string a1, .string a2, .string a3, .string a4, .string a5] 42) := by
  go_enter Try.func7, Try.ntmps7
  go_wp2_with fail
  refine (new13_res un ui ga gl gc mr a0 a1 a2 a3 a4 a5 a6 _ h).mono ?_
  rintro e w1 ⟨rfl, c1, c2, c3, c4, rfl⟩
  go_wp2
  simp [bodyPost, results, Try.results7, go_sem]
  exact ⟨_, _, _, _, _, _, _, rfl⟩
end Go.Proofs.Qxb6001475a
