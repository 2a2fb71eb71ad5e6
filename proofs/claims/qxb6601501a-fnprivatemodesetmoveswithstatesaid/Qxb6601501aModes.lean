/-
  THE WALK OF ZZVtB1PrivateModeSet, A THEOREM A MODE: what is told of the mode; nothing that was there has turned.
-/
import Derived.Test.Qxb6601501aRows
import Derived.WalkKit
import Derived.ProofKit
import Derived.WalkSpells
import Derived.Deep.QuietTactic
import Derived.BigQuiet
import Derived.LaidEqlPtr
namespace Go.Proofs.Qxb6601501a
open Go.RowKit

theorem below_alloc {a w : World} (h : Below a.heap.size a w) (o : Obj) : Below a.heap.size a (w.alloc o) := h.alloc h.size o
theorem below_drawn {a w : World} {n : Nat} (h : Below a.heap.size a w) : Below a.heap.size a (w.drewN n) := ⟨h.os, h.tape, h.output, h.size, h.block⟩

theorem Try.size29 : (Try.prog.info? 29).map (fun i => i.size) = some 1 := by kernel_rfl
theorem info29 : ∃ j, Try.prog.info? 29 = some j ∧ j.size ≠ 0 := by
  obtain ⟨j, h1, h2⟩ := Option.map_eq_some_iff.1 Try.size29
  exact ⟨j, h1, by rw [h2]; decide⟩

/-- 't.active == t.alt', one and the same grid. -/
theorem eql_same (w : World) (a : Addr) : (binOp .eql 26 (.pointer (some a)) (.pointer (some a))).run Try.prog w = .ok (.bool true) w := by
  obtain ⟨j, h1, _⟩ := info29
  exact run_eql_ptr_same w a Try.underlying26 h1

/-- 't.active == t.alt', two grids of the call's own. -/
theorem eql_other (w : World) (X Y : Array Value) (Z : Obj) (n : Nat) : (binOp .eql 26 (.pointer (some ⟨w.heap.size, 0, none⟩)) (.pointer (some ⟨w.heap.size + 1, 0, none⟩))).run Try.prog ((((w.alloc (.cells X 29)).alloc (.cells Y 29)).alloc Z).drewN n) = .ok (.bool false) ((((w.alloc (.cells X 29)).alloc (.cells Y 29)).alloc Z).drewN n) := by
  obtain ⟨j, h1, h2⟩ := info29
  refine run_eql_ptr_other (ca := X) (cb := Y) (ta := 29) (tb := 29) _ Try.underlying26 h1 h2 (by simp) ?_ ?_
  · show (((w.alloc (.cells X 29)).alloc (.cells Y 29)).alloc Z).heap[w.heap.size]? = _
    rw [Below.heap_alloc _ _ _ (by simp; omega), Below.heap_alloc _ _ _ (by simp), heap_alloc_new]
  · show (((w.alloc (.cells X 29)).alloc (.cells Y 29)).alloc Z).heap[w.heap.size + 1]? = _
    rw [Below.heap_alloc _ _ _ (by simp)]
    have e : w.heap.size + 1 = (w.alloc (.cells X 29)).heap.size := by simp
    rw [e, heap_alloc_new]

set_option maxHeartbeats 400000 in
theorem zz4_1 (a b c d e o : Bool) (w : World) :
    Calls Try.prog 4 #[.bool a, .bool b, .bool c, .bool d, .bool e, .bool o, .int .i64 1] w fun x w' => x = .returned (.tuple #[.bool a, .bool true]) ∧ Below w.heap.size w w' := by
  cases o
  · go_enter Try.func4, Try.ntmps4
    go_wp2
    go_ret2
    refine ⟨rfl, ?_⟩
    repeat (with_reducible refine below_alloc ?_ _)
    exact Below.refl _ _
  · go_enter Try.func4, Try.ntmps4
    go_wp2
    go_ret2
    refine ⟨rfl, ?_⟩
    repeat (with_reducible refine below_alloc ?_ _)
    exact Below.refl _ _

set_option maxHeartbeats 400000 in
theorem zz4_6 (a b c d e o : Bool) (w : World) :
    Calls Try.prog 4 #[.bool a, .bool b, .bool c, .bool d, .bool e, .bool o, .int .i64 6] w fun x w' => x = .returned (.tuple #[.bool b, .bool true]) ∧ Below w.heap.size w w' := by
  cases o
  · go_enter Try.func4, Try.ntmps4
    go_wp2
    go_ret2
    refine ⟨rfl, ?_⟩
    repeat (with_reducible refine below_alloc ?_ _)
    exact Below.refl _ _
  · go_enter Try.func4, Try.ntmps4
    go_wp2
    go_ret2
    refine ⟨rfl, ?_⟩
    repeat (with_reducible refine below_alloc ?_ _)
    exact Below.refl _ _

set_option maxHeartbeats 400000 in
theorem zz4_7 (a b c d e o : Bool) (w : World) :
    Calls Try.prog 4 #[.bool a, .bool b, .bool c, .bool d, .bool e, .bool o, .int .i64 7] w fun x w' => x = .returned (.tuple #[.bool c, .bool true]) ∧ Below w.heap.size w w' := by
  cases o
  · go_enter Try.func4, Try.ntmps4
    go_wp2
    go_ret2
    refine ⟨rfl, ?_⟩
    repeat (with_reducible refine below_alloc ?_ _)
    exact Below.refl _ _
  · go_enter Try.func4, Try.ntmps4
    go_wp2
    go_ret2
    refine ⟨rfl, ?_⟩
    repeat (with_reducible refine below_alloc ?_ _)
    exact Below.refl _ _

set_option maxHeartbeats 400000 in
theorem zz4_25 (a b c d e o : Bool) (w : World) :
    Calls Try.prog 4 #[.bool a, .bool b, .bool c, .bool d, .bool e, .bool o, .int .i64 25] w fun x w' => x = .returned (.tuple #[.bool (!d), .bool true]) ∧ Below w.heap.size w w' := by
  cases o
  · go_enter Try.func4, Try.ntmps4
    go_wp2
    go_ret2
    refine ⟨rfl, ?_⟩
    repeat (with_reducible refine below_alloc ?_ _)
    exact Below.refl _ _
  · go_enter Try.func4, Try.ntmps4
    go_wp2
    go_ret2
    refine ⟨rfl, ?_⟩
    repeat (with_reducible refine below_alloc ?_ _)
    exact Below.refl _ _

set_option maxHeartbeats 400000 in
theorem zz4_47 (a b c d e o : Bool) (w : World) :
    Calls Try.prog 4 #[.bool a, .bool b, .bool c, .bool d, .bool e, .bool o, .int .i64 47] w fun x w' => x = .returned (.tuple #[.bool o, .bool true]) ∧ Below w.heap.size w w' := by
  have hsame := eql_same
  have hother := eql_other w
  cases o
  · go_enter Try.func4, Try.ntmps4
    go_wp2
    go_quiet (fail)
    go_wp2
    go_ret2
    refine ⟨rfl, ?_⟩
    refine below_drawn ?_
    repeat (with_reducible refine below_alloc ?_ _)
    exact Below.refl _ _
  · go_enter Try.func4, Try.ntmps4
    go_wp2
    go_quiet (fail)
    go_wp2
    go_ret2
    refine ⟨rfl, ?_⟩
    refine below_drawn ?_
    repeat (with_reducible refine below_alloc ?_ _)
    exact Below.refl _ _

set_option maxHeartbeats 400000 in
theorem zz4_1047 (a b c d e o : Bool) (w : World) :
    Calls Try.prog 4 #[.bool a, .bool b, .bool c, .bool d, .bool e, .bool o, .int .i64 1047] w fun x w' => x = .returned (.tuple #[.bool o, .bool true]) ∧ Below w.heap.size w w' := by
  have hsame := eql_same
  have hother := eql_other w
  cases o
  · go_enter Try.func4, Try.ntmps4
    go_wp2
    go_quiet (fail)
    go_wp2
    go_ret2
    refine ⟨rfl, ?_⟩
    refine below_drawn ?_
    repeat (with_reducible refine below_alloc ?_ _)
    exact Below.refl _ _
  · go_enter Try.func4, Try.ntmps4
    go_wp2
    go_quiet (fail)
    go_wp2
    go_ret2
    refine ⟨rfl, ?_⟩
    refine below_drawn ?_
    repeat (with_reducible refine below_alloc ?_ _)
    exact Below.refl _ _

set_option maxHeartbeats 400000 in
theorem zz4_1049 (a b c d e o : Bool) (w : World) :
    Calls Try.prog 4 #[.bool a, .bool b, .bool c, .bool d, .bool e, .bool o, .int .i64 1049] w fun x w' => x = .returned (.tuple #[.bool o, .bool true]) ∧ Below w.heap.size w w' := by
  have hsame := eql_same
  have hother := eql_other w
  cases o
  · go_enter Try.func4, Try.ntmps4
    go_wp2
    go_quiet (fail)
    go_wp2
    go_ret2
    refine ⟨rfl, ?_⟩
    refine below_drawn ?_
    repeat (with_reducible refine below_alloc ?_ _)
    exact Below.refl _ _
  · go_enter Try.func4, Try.ntmps4
    go_wp2
    go_quiet (fail)
    go_wp2
    go_ret2
    refine ⟨rfl, ?_⟩
    refine below_drawn ?_
    repeat (with_reducible refine below_alloc ?_ _)
    exact Below.refl _ _

set_option maxHeartbeats 400000 in
theorem zz4_1048 (a b c d e o : Bool) (w : World) :
    Calls Try.prog 4 #[.bool a, .bool b, .bool c, .bool d, .bool e, .bool o, .int .i64 1048] w fun x w' => x = .returned (.tuple #[.bool false, .bool true]) ∧ Below w.heap.size w w' := by
  cases o
  · go_enter Try.func4, Try.ntmps4
    go_wp2
    go_ret2
    refine ⟨rfl, ?_⟩
    repeat (with_reducible refine below_alloc ?_ _)
    exact Below.refl _ _
  · go_enter Try.func4, Try.ntmps4
    go_wp2
    go_ret2
    refine ⟨rfl, ?_⟩
    repeat (with_reducible refine below_alloc ?_ _)
    exact Below.refl _ _

set_option maxHeartbeats 400000 in
theorem zz4_2004 (a b c d e o : Bool) (w : World) :
    Calls Try.prog 4 #[.bool a, .bool b, .bool c, .bool d, .bool e, .bool o, .int .i64 2004] w fun x w' => x = .returned (.tuple #[.bool e, .bool true]) ∧ Below w.heap.size w w' := by
  cases o
  · go_enter Try.func4, Try.ntmps4
    go_wp2
    go_ret2
    refine ⟨rfl, ?_⟩
    repeat (with_reducible refine below_alloc ?_ _)
    exact Below.refl _ _
  · go_enter Try.func4, Try.ntmps4
    go_wp2
    go_ret2
    refine ⟨rfl, ?_⟩
    repeat (with_reducible refine below_alloc ?_ _)
    exact Below.refl _ _

set_option maxHeartbeats 400000 in
theorem zz4_other (a b c d e o : Bool) (m : Int) (h1 : (m == 1) = false) (h6 : (m == 6) = false) (h7 : (m == 7) = false) (h25 : (m == 25) = false) (h47 : (m == 47) = false) (h1047 : (m == 1047) = false) (h1049 : (m == 1049) = false) (h1048 : (m == 1048) = false) (h2004 : (m == 2004) = false) (w : World) :
    Calls Try.prog 4 #[.bool a, .bool b, .bool c, .bool d, .bool e, .bool o, .int .i64 m] w fun x w' => x = .returned (.tuple #[.bool false, .bool false]) ∧ Below w.heap.size w w' := by
  cases o
  · go_enter Try.func4, Try.ntmps4
    go_wp2
    go_ret2
    refine ⟨rfl, ?_⟩
    repeat (with_reducible refine below_alloc ?_ _)
    exact Below.refl _ _
  · go_enter Try.func4, Try.ntmps4
    go_wp2
    go_ret2
    refine ⟨rfl, ?_⟩
    repeat (with_reducible refine below_alloc ?_ _)
    exact Below.refl _ _

end Go.Proofs.Qxb6601501a
