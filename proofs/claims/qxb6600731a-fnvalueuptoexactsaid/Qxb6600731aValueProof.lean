/-
  A PROOF OF 'Rows.FnValueUpToExactSaid'. Its frame was written by program (proof-skeleton.mjs) and turned to 'Below'; the walks are ours.
-/
import Derived.Test.Qxb6600731aModel
import Derived.WalkKit
import Derived.ProofKit
import Derived.OpenShut
import Derived.ShutString
namespace Go.Proofs.Qxb6600731a.fnValueUpToExact
open Go.ChangeShapes Go.WideShapes Go.ChangeAt Go.RowKit
open Go.ChangeMaps (open_string shut_string)
set_option linter.unusedVariables false      -- a walk need not use every 'w<i>' (that an integer argument fits its kind)

theorem own : ownKnob Try.prog.godebug = none := by kernel_rfl

/-! ### STEP 1: THE WALKS -/
/-- It returns, with some bool. -/
def AnyB (e : Ending) : Prop := ∃ z, e = .returned (.bool z)
theorem anyB (z : Bool) : AnyB (.returned (.bool z)) := ⟨z, rfl⟩

theorem bytes8 (s : ByteArray) (v : Int) (w : World) :
    Calls Try.prog 8 #[.string s, .int .u64 v] w fun e w' => AnyB e ∧ w = w' := by
  go_enter Try.func8, Try.ntmps8
  go_wp2
  all_goals (go_ret; exact ⟨anyB _, rfl⟩)

theorem digits_step (s : ByteArray) (k : Nat) (hk : k < s.size) (h : Digits (s.data.toList.take k)) (h1 : 48 ≤ s[k].toNat) (h2 : s[k].toNat ≤ 57) : Digits (s.data.toList.take (k + 1)) := by
  rw [take_snoc s k hk]
  intro c hc
  rcases List.mem_append.1 hc with hc | hc
  · exact h c hc
  · rw [List.mem_singleton.1 hc]
    exact ⟨h1, h2⟩

theorem law3_true (s : ByteArray) (lim : Nat) (w : World) (hb : decide ((1844674407370955161 : Int) ≤ (lim : Int)) = true) :
    Calls Try.prog 3 #[.string s, .int .u64 (lim : Int)] w fun e w' => e = .returned (.bool true) ∧ Below w.heap.size w w' := by
  go_enter Try.func3, Try.ntmps3
  go_wp2_with fail
  refine (bytes8 s lim _).mono ?_
  rintro e w1 ⟨⟨z, rfl⟩, rfl⟩
  cases z
  · go_wp2
    go_ret
    exact ⟨rfl, Below.refl _ _⟩
  · go_wp2
    all_goals (go_ret; exact ⟨rfl, Below.refl _ _⟩)

set_option maxHeartbeats 400000 in
theorem law3 (s : ByteArray) (lim : Nat) (hb : decide ((1844674407370955161 : Int) ≤ (lim : Int)) = false) (w : World) :
    Calls Try.prog 3 #[.string s, .int .u64 (lim : Int)] w fun e w' => e = .returned (.bool true) ∧ Below w.heap.size w w' := by
  have HL : Hid (lim < 1844674407370955161) := by
    have h : ¬ (1844674407370955161 : Int) ≤ (lim : Int) := of_decide_eq_false hb
    show lim < 1844674407370955161
    omega
  go_enter Try.func3, Try.ntmps3
  go_wp2_with fail
  refine (bytes8 s lim _).mono ?_
  rintro e w1 ⟨⟨z, rfl⟩, rfl⟩
  cases z
  · go_wp2
    go_ret
    exact ⟨rfl, Below.refl _ _⟩
  by_cases hsz : s.size ≤ 1048576
  case neg =>
    go_wp2
    go_ret
    exact ⟨rfl, Below.refl _ _⟩
  go_wp2
  go_loop [5] (fun i => ∃ k : Nat, k ≤ s.size ∧ i = .int .i64 k ∧ Hid (Digits (s.data.toList.take k))) (fun i => s.size - (intOf i).toNat)
  case atStart => exact ⟨0, Nat.zero_le _, rfl, fun c hc => by simp at hc⟩
  case round =>
    obtain ⟨k, hk, rfl, Hd⟩ := hrel
    by_cases hlt : k < s.size
    · by_cases h1 : 48 ≤ s[k].toNat
      · by_cases h2 : s[k].toNat ≤ 57
        · have HD : Hid (Digits (s.data.toList.take (k + 1))) := digits_step s k hlt Hd.out h1 h2
          go_wp2
          go_round
          case rel => exact ⟨k + 1, by omega, by go_num, HD⟩
          case measure => simp [intOf]; omega
        · go_wp2
          go_ret
          exact ⟨rfl, Below.refl _ _⟩
      · go_wp2
        go_ret
        exact ⟨rfl, Below.refl _ _⟩
    · have HD : Hid (Digits s.data.toList) := by
        have h := Hd.out
        rw [List.take_of_length_le (by simp; omega)] at h
        exact h
      go_wp2_with fail
      refine (upTo9 s lim HL.out (by omega) HD.out _).mono ?_
      rintro e w1 ⟨rfl, rfl⟩
      go_wp2_with fail
      refine (itoa10 _ (upTo_lt lim HL.out _ HD.out) _).mono ?_
      rintro e w1 ⟨⟨J1, hJ1, rfl⟩, hB1⟩
      have HJ1 : Hid (IsLen (upTo lim s.data.toList) J1) := hJ1
      have HB1 : Hid (Below w.heap.size w w1) := hB1
      clear hJ1 hB1
      go_wp2_with fail
      refine (model11 s lim HL.out hsz HD.out _).mono ?_
      rintro e w2 ⟨⟨J2, hJ2, rfl⟩, hB2⟩
      obtain rfl := len_unique HJ1.out hJ2
      have HB2 : Hid (Below w.heap.size w w2) := HB1.out.trans (hB2.mono HB1.out.size)
      clear hJ2 hB2
      go_wp2
      go_ret
      exact ⟨rfl, HB2.out⟩

theorem walk (a0 : ByteArray) (a1 : Int) (w0 : a0.size ≤ maxLen) (w1 : (Lit.int .u64 a1).wf = true) (w : World) :
    Calls Try.prog 3 #[.string a0, .int .u64 a1] w fun e w' => e = .returned (.bool true) ∧ Below w.heap.size w w' := by
  obtain ⟨h1, h2⟩ := bounds_u64 w1
  obtain ⟨n, rfl⟩ := Int.eq_ofNat_of_zero_le h1
  cases hb : decide ((1844674407370955161 : Int) ≤ (n : Int))
  · exact law3 a0 n hb w
  · exact law3_true a0 n w hb

/-! ### THE ROW's STEP: WRITTEN OUT: LEAVE IT -/
set_option maxRecDepth 100000 in
theorem lifted (os : Os) (started : os.Started) (H : Type) (enc : TypeId × Value → H) :
    ReturnsInHanded {} Try.checked os 3 .any (Rows.fnValueUpToExactSpec.pre6 enc Try.prog Try.f3 Rows.fnValueUpToExactRow.domain false) (Rows.fnValueUpToExactSpec.post enc Try.prog Try.f3 false true false false) := by
  refine returnsInHanded_of_change (C := Try.checked) own started (by kernel_rfl) Try.func3
    (ChangeSpec.witness6 (enc := enc) (C := Try.checked) false ⟨#[], #[.string ByteArray.empty, .int .u64 0], []⟩ 8 (by kernel_rfl) (by kernel_rfl) (by kernel_rfl) (by kernel_rfl)) ?_
  intro W base args ds gs before hval0 hW hcnd _
  have hval : ∀ (j : Nat) t v, Try.f3.params[j]? = some t → args[j]? = some v → Value.okWide Try.prog W .any base t v := hval0
  have hW' := hW
  obtain ⟨p, q, hA0, hV, rfl, hfz, hnd⟩ := hW
  have hA : DataW.TrodAll enc Try.prog W 0 (fun _ => true) true Try.f3.params.toList args.toList ds p := hA0
  rw [Try.params3] at hA hval
  obtain ⟨v0, vs0, d0, ds0, p0, q0, hargs, rfl, rfl, h0, r0⟩ := trodAll_cons hA
  obtain ⟨v1, vs1, d1, ds1, p1, q1, rfl, rfl, rfl, h1, r1⟩ := trodAll_cons r0
  obtain ⟨rfl, rfl, rfl⟩ := trodAll_nil r1
  obtain rfl : args = #[v0, v1] := by cases args; simp_all
  obtain ⟨rfl, rfl⟩ := trodVars_none hV
  obtain ⟨a0, rfl, rfl, rfl, w0⟩ := open_string Try.underlying9 (hval 0 9 v0 rfl rfl) h0
  obtain ⟨a1, rfl, rfl, rfl, w1⟩ := open_int Try.underlying22 (hval 1 22 v1 rfl rfl) h1
  clear hA0 hval0
  refine (walk a0 a1 w0 w1 W).mono fun e W' ⟨he, bel⟩ => ?_
  subst he
  exact ⟨_, rfl, _, _, _, [], _, [], hW', trodAll_mk1 (shut_bool Try.underlying4 _), (trodAll_cons_mk (shut_string Try.underlying9 w0) (trodAll_cons_mk (shut_int Try.underlying22 w1) trodAll_mk0)), rfl, bel.frame _, fun h => by cases h⟩

theorem over : Rows.fnValueUpToExactRow.holds Try.pinned (OpenSpec.ofChange Rows.fnValueUpToExactSpec) :=
  OpenClaim.holds_of_wide 3 Try.f3 rfl rfl rfl rfl rfl rfl rfl ⟨rfl, rfl, rfl, rfl, rfl⟩ rfl rfl rfl rfl rfl (by kernel_rfl) Try.func3 (by kernel_rfl)
    (of_decide_eq_true (by kernel_rfl)) (by unfold Func.isWrapper; first | (rw [if_pos (by decide +kernel)]; kernel_rfl) | (rw [if_neg (by decide +kernel)]; exact ⟨rfl, rfl⟩))
    (fun os started H enc _ => lifted os started H enc)

/-- ████ THE STATEMENT ████ -/
theorem proved : Rows.FnValueUpToExactSaid :=
  over
#print axioms proved
end Go.Proofs.Qxb6600731a.fnValueUpToExact
