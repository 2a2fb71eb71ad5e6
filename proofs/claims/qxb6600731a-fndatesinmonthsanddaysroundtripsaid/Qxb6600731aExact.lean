/-
  THE WALKS OF ZZmonthsAndDays AND OF THE LAW FnMonthsAndDaysExact.
-/
import Derived.Test.Qxb6600731aBitsLaw
namespace Go.Proofs.Qxb6600731a
open Go.RowKit
set_option maxHeartbeats 1000000 in
theorem zz15 (x : Nat → Int) (y : ByteArray) (w : World) :
    Calls Try.prog 15 #[.agg (arrOf x), .string y] w fun e w' => e = .returned (.tuple #[.int .u64 (moTo x 12 : Nat), .int .u64 (dTo x 12)]) ∧ ∃ c1 c2 : Array Value, w' = (w.alloc (.cells c1 29)).alloc (.cells c2 44) := by
  go_enter Try.func15, Try.ntmps15
  go_wp2
  refine wp_loop_rounds 13 ?_
  rw [rounds_succ]
  go_wp2
  iterate 12 (rw [rounds_succ]; go_wp2_with fail)
  refine (mad21 x _ _ (by simp [go_sem]) (by simp [go_sem]) (by simp [go_sem]) (by simp [go_sem]) (by simp [go_sem]) (by simp [go_sem]) (by simp [go_sem]) (by simp [go_sem]) (by simp [go_sem]) (by simp [go_sem]) (by simp [go_sem]) (by simp [go_sem])).mono ?_
  rintro e w1 ⟨rfl, rfl⟩
  go_wp2
  go_ret2
  exact ⟨rfl, _, _, rfl⟩

theorem below_alloc {a w : World} (h : Below a.heap.size a w) (o : Obj) : Below a.heap.size a (w.alloc o) := h.alloc h.size o

/-- It returns, with some bool. -/
def AnyBool (e : Ending) : Prop := ∃ z, e = .returned (.bool z)
theorem anyBool (z : Bool) : AnyBool (.returned (.bool z)) := ⟨z, rfl⟩

theorem bytes16 (x : Nat → Int) (y : ByteArray) (w : World) :
    Calls Try.prog 16 #[.agg (arrOf x), .string y] w fun e w' => AnyBool e ∧ ∃ c, w' = w.alloc (.cells c 29) := by
  go_enter Try.func16, Try.ntmps16
  go_wp2
  all_goals (go_ret; exact ⟨anyBool _, _, rfl⟩)

set_option maxHeartbeats 1000000 in
theorem law6 (x : Nat → Int) (y : ByteArray) (w : World) :
    Calls Try.prog 6 #[.agg (arrOf x), .string y] w fun e w' => e = .returned (.bool true) ∧ Below w.heap.size w w' := by
  have hmask := mask_of x
  have hb0 := bit_of x 0 (by omega) 2 (by decide)
  have hb1 := bit_of x 1 (by omega) 4 (by decide)
  have hb2 := bit_of x 2 (by omega) 8 (by decide)
  have hb3 := bit_of x 3 (by omega) 16 (by decide)
  have hb4 := bit_of x 4 (by omega) 32 (by decide)
  have hb5 := bit_of x 5 (by omega) 64 (by decide)
  have hb6 := bit_of x 6 (by omega) 128 (by decide)
  have hb7 := bit_of x 7 (by omega) 256 (by decide)
  have hb8 := bit_of x 8 (by omega) 512 (by decide)
  have hb9 := bit_of x 9 (by omega) 1024 (by decide)
  have hb10 := bit_of x 10 (by omega) 2048 (by decide)
  have hb11 := bit_of x 11 (by omega) 4096 (by decide)
  go_enter Try.func6, Try.ntmps6
  go_wp2_with fail
  refine (bytes16 x y _).mono ?_
  rintro e w1 ⟨⟨z, rfl⟩, c, rfl⟩
  cases z
  · go_wp2
    go_ret
    exact ⟨rfl, below_alloc (below_alloc (Below.refl _ _) _) _⟩
  go_wp2_with fail
  · go_ret
    exact ⟨rfl, below_alloc (below_alloc (Below.refl _ _) _) _⟩
  refine (zz15 x y _).mono ?_
  rintro e w1 ⟨rfl, c1, c2, rfl⟩
  go_wp2
  refine wp_loop_rounds 13 ?_
  iterate 13 (rw [rounds_succ]; go_wp2)
  clear hb0 hb1 hb2 hb3 hb4 hb5 hb6 hb7 hb8 hb9 hb10 hb11 hmask
  refine wp_loop_rounds 13 ?_
  rw [rounds_succ]
  cases h11 : (x 11 != 0)
  case true =>
    have hd : (dTo x 12 == x 11) = true := beq_iff_eq.2 (dTo_yes x 11 h11)
    go_wp2
    go_ret
    exact ⟨rfl, below_alloc (below_alloc (below_alloc (below_alloc (Below.refl _ _) _) _) _) _⟩
  go_wp2
  rw [rounds_succ]
  cases h10 : (x 10 != 0)
  case true =>
    have hd : (dTo x 12 == x 10) = true := beq_iff_eq.2 ((dTo_no x 11 h11).trans (dTo_yes x 10 h10))
    go_wp2
    go_ret
    exact ⟨rfl, below_alloc (below_alloc (below_alloc (below_alloc (Below.refl _ _) _) _) _) _⟩
  go_wp2
  rw [rounds_succ]
  cases h9 : (x 9 != 0)
  case true =>
    have hd : (dTo x 12 == x 9) = true := beq_iff_eq.2 ((dTo_no x 11 h11).trans ((dTo_no x 10 h10).trans (dTo_yes x 9 h9)))
    go_wp2
    go_ret
    exact ⟨rfl, below_alloc (below_alloc (below_alloc (below_alloc (Below.refl _ _) _) _) _) _⟩
  go_wp2
  rw [rounds_succ]
  cases h8 : (x 8 != 0)
  case true =>
    have hd : (dTo x 12 == x 8) = true := beq_iff_eq.2 ((dTo_no x 11 h11).trans ((dTo_no x 10 h10).trans ((dTo_no x 9 h9).trans (dTo_yes x 8 h8))))
    go_wp2
    go_ret
    exact ⟨rfl, below_alloc (below_alloc (below_alloc (below_alloc (Below.refl _ _) _) _) _) _⟩
  go_wp2
  rw [rounds_succ]
  cases h7 : (x 7 != 0)
  case true =>
    have hd : (dTo x 12 == x 7) = true := beq_iff_eq.2 ((dTo_no x 11 h11).trans ((dTo_no x 10 h10).trans ((dTo_no x 9 h9).trans ((dTo_no x 8 h8).trans (dTo_yes x 7 h7)))))
    go_wp2
    go_ret
    exact ⟨rfl, below_alloc (below_alloc (below_alloc (below_alloc (Below.refl _ _) _) _) _) _⟩
  go_wp2
  rw [rounds_succ]
  cases h6 : (x 6 != 0)
  case true =>
    have hd : (dTo x 12 == x 6) = true := beq_iff_eq.2 ((dTo_no x 11 h11).trans ((dTo_no x 10 h10).trans ((dTo_no x 9 h9).trans ((dTo_no x 8 h8).trans ((dTo_no x 7 h7).trans (dTo_yes x 6 h6))))))
    go_wp2
    go_ret
    exact ⟨rfl, below_alloc (below_alloc (below_alloc (below_alloc (Below.refl _ _) _) _) _) _⟩
  go_wp2
  rw [rounds_succ]
  cases h5 : (x 5 != 0)
  case true =>
    have hd : (dTo x 12 == x 5) = true := beq_iff_eq.2 ((dTo_no x 11 h11).trans ((dTo_no x 10 h10).trans ((dTo_no x 9 h9).trans ((dTo_no x 8 h8).trans ((dTo_no x 7 h7).trans ((dTo_no x 6 h6).trans (dTo_yes x 5 h5)))))))
    go_wp2
    go_ret
    exact ⟨rfl, below_alloc (below_alloc (below_alloc (below_alloc (Below.refl _ _) _) _) _) _⟩
  go_wp2
  rw [rounds_succ]
  cases h4 : (x 4 != 0)
  case true =>
    have hd : (dTo x 12 == x 4) = true := beq_iff_eq.2 ((dTo_no x 11 h11).trans ((dTo_no x 10 h10).trans ((dTo_no x 9 h9).trans ((dTo_no x 8 h8).trans ((dTo_no x 7 h7).trans ((dTo_no x 6 h6).trans ((dTo_no x 5 h5).trans (dTo_yes x 4 h4))))))))
    go_wp2
    go_ret
    exact ⟨rfl, below_alloc (below_alloc (below_alloc (below_alloc (Below.refl _ _) _) _) _) _⟩
  go_wp2
  rw [rounds_succ]
  cases h3 : (x 3 != 0)
  case true =>
    have hd : (dTo x 12 == x 3) = true := beq_iff_eq.2 ((dTo_no x 11 h11).trans ((dTo_no x 10 h10).trans ((dTo_no x 9 h9).trans ((dTo_no x 8 h8).trans ((dTo_no x 7 h7).trans ((dTo_no x 6 h6).trans ((dTo_no x 5 h5).trans ((dTo_no x 4 h4).trans (dTo_yes x 3 h3)))))))))
    go_wp2
    go_ret
    exact ⟨rfl, below_alloc (below_alloc (below_alloc (below_alloc (Below.refl _ _) _) _) _) _⟩
  go_wp2
  rw [rounds_succ]
  cases h2 : (x 2 != 0)
  case true =>
    have hd : (dTo x 12 == x 2) = true := beq_iff_eq.2 ((dTo_no x 11 h11).trans ((dTo_no x 10 h10).trans ((dTo_no x 9 h9).trans ((dTo_no x 8 h8).trans ((dTo_no x 7 h7).trans ((dTo_no x 6 h6).trans ((dTo_no x 5 h5).trans ((dTo_no x 4 h4).trans ((dTo_no x 3 h3).trans (dTo_yes x 2 h2))))))))))
    go_wp2
    go_ret
    exact ⟨rfl, below_alloc (below_alloc (below_alloc (below_alloc (Below.refl _ _) _) _) _) _⟩
  go_wp2
  rw [rounds_succ]
  cases h1 : (x 1 != 0)
  case true =>
    have hd : (dTo x 12 == x 1) = true := beq_iff_eq.2 ((dTo_no x 11 h11).trans ((dTo_no x 10 h10).trans ((dTo_no x 9 h9).trans ((dTo_no x 8 h8).trans ((dTo_no x 7 h7).trans ((dTo_no x 6 h6).trans ((dTo_no x 5 h5).trans ((dTo_no x 4 h4).trans ((dTo_no x 3 h3).trans ((dTo_no x 2 h2).trans (dTo_yes x 1 h1)))))))))))
    go_wp2
    go_ret
    exact ⟨rfl, below_alloc (below_alloc (below_alloc (below_alloc (Below.refl _ _) _) _) _) _⟩
  go_wp2
  rw [rounds_succ]
  cases h0 : (x 0 != 0)
  case true =>
    have hd : (dTo x 12 == x 0) = true := beq_iff_eq.2 ((dTo_no x 11 h11).trans ((dTo_no x 10 h10).trans ((dTo_no x 9 h9).trans ((dTo_no x 8 h8).trans ((dTo_no x 7 h7).trans ((dTo_no x 6 h6).trans ((dTo_no x 5 h5).trans ((dTo_no x 4 h4).trans ((dTo_no x 3 h3).trans ((dTo_no x 2 h2).trans ((dTo_no x 1 h1).trans (dTo_yes x 0 h0))))))))))))
    go_wp2
    go_ret
    exact ⟨rfl, below_alloc (below_alloc (below_alloc (below_alloc (Below.refl _ _) _) _) _) _⟩
  go_wp2
  have hd : (dTo x 12 == 0) = true := beq_iff_eq.2 ((dTo_no x 11 h11).trans ((dTo_no x 10 h10).trans ((dTo_no x 9 h9).trans ((dTo_no x 8 h8).trans ((dTo_no x 7 h7).trans ((dTo_no x 6 h6).trans ((dTo_no x 5 h5).trans ((dTo_no x 4 h4).trans ((dTo_no x 3 h3).trans ((dTo_no x 2 h2).trans ((dTo_no x 1 h1).trans ((dTo_no x 0 h0).trans (rfl)))))))))))))
  rw [rounds_succ]
  go_wp2
  go_ret
  exact ⟨rfl, below_alloc (below_alloc (below_alloc (below_alloc (Below.refl _ _) _) _) _) _⟩
end Go.Proofs.Qxb6600731a
