/-
  A PROOF OF 'Rows.FnPrivateModeSetMovesWithStateSaid'. Its frame was written by program (proof-skeleton.mjs) and turned to 'Below'; the walks are ours.
-/
import Derived.Test.Qxb6601501aModes
import Derived.WalkKit
import Derived.ProofKit
import Derived.OpenShut
import Derived.ShutString
namespace Go.Proofs.Qxb6601501a.fnPrivateModeSetMovesWithState
open Go.ChangeShapes Go.WideShapes Go.ChangeAt Go.RowKit
open Go.ChangeMaps (open_string shut_string)
set_option linter.unusedVariables false      -- a walk need not use every 'w<i>' (that an integer argument fits its kind)

theorem own : ownKnob Try.prog.godebug = none := by kernel_rfl

/-! ### STEP 1: THE WALK, a theorem a mode -/
set_option maxHeartbeats 400000 in
theorem law_1 (a b c d e o : Bool) (w : World) :
    Calls Try.prog 3 #[.bool a, .bool b, .bool c, .bool d, .bool e, .bool o, .int .i64 1] w fun x w' => x = .returned (.bool true) ∧ Below w.heap.size w w' := by
  cases a
  all_goals
    go_enter Try.func3, Try.ntmps3
    go_wp2_with fail
    refine (zz4_1 _ _ _ _ _ _ _).mono ?_
    rintro x w1 ⟨rfl, hB1⟩
    have HB1 : Hid (Below w.heap.size w w1) := hB1
    clear hB1
    go_wp2_with fail
    refine (zz4_1 _ _ _ _ _ _ _).mono ?_
    rintro x w2 ⟨rfl, hB2⟩
    have HB2 : Hid (Below w.heap.size w w2) := HB1.out.trans (hB2.mono HB1.out.size)
    clear hB2
    go_wp2
    go_ret
    exact ⟨rfl, HB2.out⟩

set_option maxHeartbeats 400000 in
theorem law_6 (a b c d e o : Bool) (w : World) :
    Calls Try.prog 3 #[.bool a, .bool b, .bool c, .bool d, .bool e, .bool o, .int .i64 6] w fun x w' => x = .returned (.bool true) ∧ Below w.heap.size w w' := by
  cases b
  all_goals
    go_enter Try.func3, Try.ntmps3
    go_wp2_with fail
    refine (zz4_6 _ _ _ _ _ _ _).mono ?_
    rintro x w1 ⟨rfl, hB1⟩
    have HB1 : Hid (Below w.heap.size w w1) := hB1
    clear hB1
    go_wp2_with fail
    refine (zz4_6 _ _ _ _ _ _ _).mono ?_
    rintro x w2 ⟨rfl, hB2⟩
    have HB2 : Hid (Below w.heap.size w w2) := HB1.out.trans (hB2.mono HB1.out.size)
    clear hB2
    go_wp2
    go_ret
    exact ⟨rfl, HB2.out⟩

set_option maxHeartbeats 400000 in
theorem law_7 (a b c d e o : Bool) (w : World) :
    Calls Try.prog 3 #[.bool a, .bool b, .bool c, .bool d, .bool e, .bool o, .int .i64 7] w fun x w' => x = .returned (.bool true) ∧ Below w.heap.size w w' := by
  cases c
  all_goals
    go_enter Try.func3, Try.ntmps3
    go_wp2_with fail
    refine (zz4_7 _ _ _ _ _ _ _).mono ?_
    rintro x w1 ⟨rfl, hB1⟩
    have HB1 : Hid (Below w.heap.size w w1) := hB1
    clear hB1
    go_wp2_with fail
    refine (zz4_7 _ _ _ _ _ _ _).mono ?_
    rintro x w2 ⟨rfl, hB2⟩
    have HB2 : Hid (Below w.heap.size w w2) := HB1.out.trans (hB2.mono HB1.out.size)
    clear hB2
    go_wp2
    go_ret
    exact ⟨rfl, HB2.out⟩

set_option maxHeartbeats 400000 in
theorem law_25 (a b c d e o : Bool) (w : World) :
    Calls Try.prog 3 #[.bool a, .bool b, .bool c, .bool d, .bool e, .bool o, .int .i64 25] w fun x w' => x = .returned (.bool true) ∧ Below w.heap.size w w' := by
  cases d
  all_goals
    go_enter Try.func3, Try.ntmps3
    go_wp2_with fail
    refine (zz4_25 _ _ _ _ _ _ _).mono ?_
    rintro x w1 ⟨rfl, hB1⟩
    have HB1 : Hid (Below w.heap.size w w1) := hB1
    clear hB1
    go_wp2_with fail
    refine (zz4_25 _ _ _ _ _ _ _).mono ?_
    rintro x w2 ⟨rfl, hB2⟩
    have HB2 : Hid (Below w.heap.size w w2) := HB1.out.trans (hB2.mono HB1.out.size)
    clear hB2
    go_wp2
    go_ret
    exact ⟨rfl, HB2.out⟩

set_option maxHeartbeats 400000 in
theorem law_47 (a b c d e o : Bool) (w : World) :
    Calls Try.prog 3 #[.bool a, .bool b, .bool c, .bool d, .bool e, .bool o, .int .i64 47] w fun x w' => x = .returned (.bool true) ∧ Below w.heap.size w w' := by
  cases o
  all_goals
    go_enter Try.func3, Try.ntmps3
    go_wp2_with fail
    refine (zz4_47 _ _ _ _ _ _ _).mono ?_
    rintro x w1 ⟨rfl, hB1⟩
    have HB1 : Hid (Below w.heap.size w w1) := hB1
    clear hB1
    go_wp2_with fail
    refine (zz4_47 _ _ _ _ _ _ _).mono ?_
    rintro x w2 ⟨rfl, hB2⟩
    have HB2 : Hid (Below w.heap.size w w2) := HB1.out.trans (hB2.mono HB1.out.size)
    clear hB2
    go_wp2
    go_ret
    exact ⟨rfl, HB2.out⟩

set_option maxHeartbeats 400000 in
theorem law_1047 (a b c d e o : Bool) (w : World) :
    Calls Try.prog 3 #[.bool a, .bool b, .bool c, .bool d, .bool e, .bool o, .int .i64 1047] w fun x w' => x = .returned (.bool true) ∧ Below w.heap.size w w' := by
  cases o
  all_goals
    go_enter Try.func3, Try.ntmps3
    go_wp2_with fail
    refine (zz4_1047 _ _ _ _ _ _ _).mono ?_
    rintro x w1 ⟨rfl, hB1⟩
    have HB1 : Hid (Below w.heap.size w w1) := hB1
    clear hB1
    go_wp2_with fail
    refine (zz4_1047 _ _ _ _ _ _ _).mono ?_
    rintro x w2 ⟨rfl, hB2⟩
    have HB2 : Hid (Below w.heap.size w w2) := HB1.out.trans (hB2.mono HB1.out.size)
    clear hB2
    go_wp2
    go_ret
    exact ⟨rfl, HB2.out⟩

set_option maxHeartbeats 400000 in
theorem law_1049 (a b c d e o : Bool) (w : World) :
    Calls Try.prog 3 #[.bool a, .bool b, .bool c, .bool d, .bool e, .bool o, .int .i64 1049] w fun x w' => x = .returned (.bool true) ∧ Below w.heap.size w w' := by
  cases o
  all_goals
    go_enter Try.func3, Try.ntmps3
    go_wp2_with fail
    refine (zz4_1049 _ _ _ _ _ _ _).mono ?_
    rintro x w1 ⟨rfl, hB1⟩
    have HB1 : Hid (Below w.heap.size w w1) := hB1
    clear hB1
    go_wp2_with fail
    refine (zz4_1049 _ _ _ _ _ _ _).mono ?_
    rintro x w2 ⟨rfl, hB2⟩
    have HB2 : Hid (Below w.heap.size w w2) := HB1.out.trans (hB2.mono HB1.out.size)
    clear hB2
    go_wp2
    go_ret
    exact ⟨rfl, HB2.out⟩

set_option maxHeartbeats 400000 in
theorem law_1048 (a b c d e o : Bool) (w : World) :
    Calls Try.prog 3 #[.bool a, .bool b, .bool c, .bool d, .bool e, .bool o, .int .i64 1048] w fun x w' => x = .returned (.bool true) ∧ Below w.heap.size w w' := by
  go_enter Try.func3, Try.ntmps3
  go_wp2_with fail
  refine (zz4_1048 _ _ _ _ _ _ _).mono ?_
  rintro x w1 ⟨rfl, hB1⟩
  have HB1 : Hid (Below w.heap.size w w1) := hB1
  clear hB1
  go_wp2_with fail
  refine (zz4_1048 _ _ _ _ _ _ _).mono ?_
  rintro x w2 ⟨rfl, hB2⟩
  have HB2 : Hid (Below w.heap.size w w2) := HB1.out.trans (hB2.mono HB1.out.size)
  clear hB2
  go_wp2
  go_ret
  exact ⟨rfl, HB2.out⟩

set_option maxHeartbeats 400000 in
theorem law_2004 (a b c d e o : Bool) (w : World) :
    Calls Try.prog 3 #[.bool a, .bool b, .bool c, .bool d, .bool e, .bool o, .int .i64 2004] w fun x w' => x = .returned (.bool true) ∧ Below w.heap.size w w' := by
  cases e
  all_goals
    go_enter Try.func3, Try.ntmps3
    go_wp2_with fail
    refine (zz4_2004 _ _ _ _ _ _ _).mono ?_
    rintro x w1 ⟨rfl, hB1⟩
    have HB1 : Hid (Below w.heap.size w w1) := hB1
    clear hB1
    go_wp2_with fail
    refine (zz4_2004 _ _ _ _ _ _ _).mono ?_
    rintro x w2 ⟨rfl, hB2⟩
    have HB2 : Hid (Below w.heap.size w w2) := HB1.out.trans (hB2.mono HB1.out.size)
    clear hB2
    go_wp2
    go_ret
    exact ⟨rfl, HB2.out⟩

set_option maxHeartbeats 400000 in
theorem law_other (a b c d e o : Bool) (m : Int) (h1 : (m == 1) = false) (h6 : (m == 6) = false) (h7 : (m == 7) = false) (h25 : (m == 25) = false) (h47 : (m == 47) = false) (h1047 : (m == 1047) = false) (h1049 : (m == 1049) = false) (h1048 : (m == 1048) = false) (h2004 : (m == 2004) = false) (w : World) :
    Calls Try.prog 3 #[.bool a, .bool b, .bool c, .bool d, .bool e, .bool o, .int .i64 m] w fun x w' => x = .returned (.bool true) ∧ Below w.heap.size w w' := by
  go_enter Try.func3, Try.ntmps3
  go_wp2_with fail
  refine (zz4_other _ _ _ _ _ _ m h1 h6 h7 h25 h47 h1047 h1049 h1048 h2004 _).mono ?_
  rintro x w1 ⟨rfl, hB1⟩
  have HB1 : Hid (Below w.heap.size w w1) := hB1
  clear hB1
  go_wp2_with fail
  refine (zz4_other _ _ _ _ _ _ m h1 h6 h7 h25 h47 h1047 h1049 h1048 h2004 _).mono ?_
  rintro x w2 ⟨rfl, hB2⟩
  have HB2 : Hid (Below w.heap.size w w2) := HB1.out.trans (hB2.mono HB1.out.size)
  clear hB2
  go_wp2
  go_ret
  exact ⟨rfl, HB2.out⟩

theorem walk (a0 : Bool) (a1 : Bool) (a2 : Bool) (a3 : Bool) (a4 : Bool) (a5 : Bool) (a6 : Int) (w : World) :
    Calls Try.prog 3 #[.bool a0, .bool a1, .bool a2, .bool a3, .bool a4, .bool a5, .int .i64 a6] w fun e w' => e = .returned (.bool true) ∧ Below w.heap.size w w' := by
  by_cases h1 : a6 = 1
  · subst h1
    exact law_1 a0 a1 a2 a3 a4 a5 w
  by_cases h6 : a6 = 6
  · subst h6
    exact law_6 a0 a1 a2 a3 a4 a5 w
  by_cases h7 : a6 = 7
  · subst h7
    exact law_7 a0 a1 a2 a3 a4 a5 w
  by_cases h25 : a6 = 25
  · subst h25
    exact law_25 a0 a1 a2 a3 a4 a5 w
  by_cases h47 : a6 = 47
  · subst h47
    exact law_47 a0 a1 a2 a3 a4 a5 w
  by_cases h1047 : a6 = 1047
  · subst h1047
    exact law_1047 a0 a1 a2 a3 a4 a5 w
  by_cases h1049 : a6 = 1049
  · subst h1049
    exact law_1049 a0 a1 a2 a3 a4 a5 w
  by_cases h1048 : a6 = 1048
  · subst h1048
    exact law_1048 a0 a1 a2 a3 a4 a5 w
  by_cases h2004 : a6 = 2004
  · subst h2004
    exact law_2004 a0 a1 a2 a3 a4 a5 w
  exact law_other a0 a1 a2 a3 a4 a5 a6 (beq_eq_false_iff_ne.2 h1) (beq_eq_false_iff_ne.2 h6) (beq_eq_false_iff_ne.2 h7) (beq_eq_false_iff_ne.2 h25) (beq_eq_false_iff_ne.2 h47) (beq_eq_false_iff_ne.2 h1047) (beq_eq_false_iff_ne.2 h1049) (beq_eq_false_iff_ne.2 h1048) (beq_eq_false_iff_ne.2 h2004) w

/-! ### THE ROW's STEP: WRITTEN OUT: LEAVE IT -/
set_option maxRecDepth 100000 in
theorem lifted (os : Os) (started : os.Started) (H : Type) (enc : TypeId × Value → H) :
    ReturnsInHanded {} Try.checked os 3 .any (Rows.fnPrivateModeSetMovesWithStateSpec.pre6 enc Try.prog Try.f3 Rows.fnPrivateModeSetMovesWithStateRow.domain false) (Rows.fnPrivateModeSetMovesWithStateSpec.post enc Try.prog Try.f3 false true false false) := by
  refine returnsInHanded_of_change (C := Try.checked) own started (by kernel_rfl) Try.func3
    (ChangeSpec.witness6 (enc := enc) (C := Try.checked) false ⟨#[], #[.bool false, .bool false, .bool false, .bool false, .bool false, .bool false, .int .i64 0], []⟩ 8 (by kernel_rfl) (by kernel_rfl) (by kernel_rfl) (by kernel_rfl)) ?_
  intro W base args ds gs before hval0 hW hcnd _
  have hval : ∀ (j : Nat) t v, Try.f3.params[j]? = some t → args[j]? = some v → Value.okWide Try.prog W .any base t v := hval0
  have hW' := hW
  obtain ⟨p, q, hA0, hV, rfl, hfz, hnd⟩ := hW
  have hA : DataW.TrodAll enc Try.prog W 0 (fun _ => true) true Try.f3.params.toList args.toList ds p := hA0
  rw [Try.params3] at hA hval
  obtain ⟨v0, vs0, d0, ds0, p0, q0, hargs, rfl, rfl, h0, r0⟩ := trodAll_cons hA
  obtain ⟨v1, vs1, d1, ds1, p1, q1, rfl, rfl, rfl, h1, r1⟩ := trodAll_cons r0
  obtain ⟨v2, vs2, d2, ds2, p2, q2, rfl, rfl, rfl, h2, r2⟩ := trodAll_cons r1
  obtain ⟨v3, vs3, d3, ds3, p3, q3, rfl, rfl, rfl, h3, r3⟩ := trodAll_cons r2
  obtain ⟨v4, vs4, d4, ds4, p4, q4, rfl, rfl, rfl, h4, r4⟩ := trodAll_cons r3
  obtain ⟨v5, vs5, d5, ds5, p5, q5, rfl, rfl, rfl, h5, r5⟩ := trodAll_cons r4
  obtain ⟨v6, vs6, d6, ds6, p6, q6, rfl, rfl, rfl, h6, r6⟩ := trodAll_cons r5
  obtain ⟨rfl, rfl, rfl⟩ := trodAll_nil r6
  obtain rfl : args = #[v0, v1, v2, v3, v4, v5, v6] := by cases args; simp_all
  obtain ⟨rfl, rfl⟩ := trodVars_none hV
  obtain ⟨a0, rfl, rfl, rfl⟩ := open_bool Try.underlying4 (hval 0 4 v0 rfl rfl) h0
  obtain ⟨a1, rfl, rfl, rfl⟩ := open_bool Try.underlying4 (hval 1 4 v1 rfl rfl) h1
  obtain ⟨a2, rfl, rfl, rfl⟩ := open_bool Try.underlying4 (hval 2 4 v2 rfl rfl) h2
  obtain ⟨a3, rfl, rfl, rfl⟩ := open_bool Try.underlying4 (hval 3 4 v3 rfl rfl) h3
  obtain ⟨a4, rfl, rfl, rfl⟩ := open_bool Try.underlying4 (hval 4 4 v4 rfl rfl) h4
  obtain ⟨a5, rfl, rfl, rfl⟩ := open_bool Try.underlying4 (hval 5 4 v5 rfl rfl) h5
  obtain ⟨a6, rfl, rfl, rfl, w6⟩ := open_int Try.underlying3 (hval 6 3 v6 rfl rfl) h6
  clear hA0 hval0
  refine (walk a0 a1 a2 a3 a4 a5 a6 W).mono fun e W' ⟨he, bel⟩ => ?_
  subst he
  exact ⟨_, rfl, _, _, _, [], _, [], hW', trodAll_mk1 (shut_bool Try.underlying4 _), (trodAll_cons_mk (shut_bool Try.underlying4 a0) (trodAll_cons_mk (shut_bool Try.underlying4 a1) (trodAll_cons_mk (shut_bool Try.underlying4 a2) (trodAll_cons_mk (shut_bool Try.underlying4 a3) (trodAll_cons_mk (shut_bool Try.underlying4 a4) (trodAll_cons_mk (shut_bool Try.underlying4 a5) (trodAll_cons_mk (shut_int Try.underlying3 w6) trodAll_mk0))))))), rfl, bel.frame _, fun h => by cases h⟩

theorem over : Rows.fnPrivateModeSetMovesWithStateRow.holds Try.pinned (OpenSpec.ofChange Rows.fnPrivateModeSetMovesWithStateSpec) :=
  OpenClaim.holds_of_wide 3 Try.f3 rfl rfl rfl rfl rfl rfl rfl ⟨rfl, rfl, rfl, rfl, rfl⟩ rfl rfl rfl rfl rfl (by kernel_rfl) Try.func3 (by kernel_rfl)
    (of_decide_eq_true (by kernel_rfl)) (by unfold Func.isWrapper; first | (rw [if_pos (by decide +kernel)]; kernel_rfl) | (rw [if_neg (by decide +kernel)]; exact ⟨rfl, rfl⟩))
    (fun os started H enc _ => lifted os started H enc)

/-- ████ THE STATEMENT ████ -/
theorem proved : Rows.FnPrivateModeSetMovesWithStateSaid :=
  over
#print axioms proved
end Go.Proofs.Qxb6601501a.fnPrivateModeSetMovesWithState
