/-
  A PROOF OF 'Rows.FnMonthsAndDaysExactSaid'. Its frame follows the guide's for laws over memory that is read ('Below'); the walks are ours.
-/
import Derived.Test.Qxb6600731aExact
import Derived.WalkKit
import Derived.ProofKit
import Derived.OpenShut
import Derived.ShutString
import Derived.ChangeOld
import Derived.Below
namespace Go.Proofs.Qxb6600731a.fnMonthsAndDaysExact
open Go.ChangeShapes Go.WideShapes Go.ChangeAt Go.RowKit
open Go.ChangeMaps (open_string shut_string)
set_option linter.unusedVariables false

theorem own : ownKnob Try.prog.godebug = none := by kernel_rfl
theorem laidOut : laidOutB Try.prog = true := by kernel_rfl
theorem cells29 : Try.prog.cellsOf 29 = 12 := by kernel_rfl
theorem cells22 : Try.prog.cellsOf 22 = 1 := by kernel_rfl

/-- AN ARRAY OF TWELVE NUMBERS, OPENED. -/
theorem arr_open {H : Type} {enc : TypeId × Value → H} {W : World} {base : Nat} {v : Value} {d : DataW H} {p : List MemPlace}
    (hv : Value.okWide Try.prog W .any base 29 v) (h : DataW.Trod enc Try.prog W 0 (fun _ => true) true 29 v d p) : ∃ x : Nat → Int, v = .agg (arrOf x) := by
  obtain ⟨cs, rfl, hsz, _⟩ : ∃ cs, v = .agg cs ∧ cs.size = Try.prog.cellsOf 29 ∧ Row.okWide Try.prog W .any base 29 cs := by
    simpa [Value.okWide, Try.underlying29] using hv
  rw [cells29] at hsz
  obtain ⟨fuel, hf⟩ := h
  obtain ⟨xs, m, _, _, _, hl, hget⟩ := DataW.trod_array Try.underlying29 hf
  rw [cells22] at hget
  have each : ∀ i, i < 12 → ∃ n, cs[i]? = some (.int .u64 n) := by
    intro i hi
    have h1 := hget i hi
    rw [Nat.mul_one, List.getElem?_eq_getElem (by omega)] at h1
    obtain ⟨n, e0, _, _⟩ := DataW.trod_int Try.underlying22 h1
    refine ⟨n, ?_⟩
    have e1 : (cs.toList.drop i).take 1 = [.int .u64 n] := e0
    have e2 : cs.toList[i]? = some (.int .u64 n) := by
      have e3 : ((cs.toList.drop i).take 1)[0]? = some (.int .u64 n) := by rw [e1]; rfl
      rw [List.getElem?_take_of_lt (by omega), List.getElem?_drop] at e3
      simpa using e3
    simpa using e2
  refine ⟨fun i => intOf (cs.getD i undef), ?_⟩
  have cell : ∀ i, i < 12 → cs[i]? = some (.int .u64 (intOf (cs.getD i undef))) := by
    intro i hi
    obtain ⟨n, hn⟩ := each i hi
    rw [hn]
    have e : cs.getD i undef = .int .u64 n := by simp [Array.getD_eq_getD_getElem?, hn]
    rw [e]
    rfl
  congr 1
  apply Array.ext_getElem?
  intro i
  by_cases hi : i < 12
  · rw [cell i hi]
    rcases (show i = 0 ∨ i = 1 ∨ i = 2 ∨ i = 3 ∨ i = 4 ∨ i = 5 ∨ i = 6 ∨ i = 7 ∨ i = 8 ∨ i = 9 ∨ i = 10 ∨ i = 11 by omega) with rfl | rfl | rfl | rfl | rfl | rfl | rfl | rfl | rfl | rfl | rfl | rfl <;> rfl
  · rw [Array.getElem?_eq_none (by omega), Array.getElem?_eq_none (by simp [arrOf]; omega)]

set_option maxRecDepth 100000 in
theorem lifted (os : Os) (started : os.Started) (H : Type) (enc : TypeId × Value → H) :
    ReturnsInHanded {} Try.checked os 6 .any (Rows.fnMonthsAndDaysExactSpec.pre6 enc Try.prog Try.f6 Rows.fnMonthsAndDaysExactRow.domain false) (Rows.fnMonthsAndDaysExactSpec.post enc Try.prog Try.f6 false true false false) := by
  refine returnsInHanded_of_change (C := Try.checked) own started (by kernel_rfl) Try.func6
    (ChangeSpec.witness6 (enc := enc) (C := Try.checked) false ⟨#[], #[.agg #[.int .u64 0, .int .u64 0, .int .u64 0, .int .u64 0, .int .u64 0, .int .u64 0, .int .u64 0, .int .u64 0, .int .u64 0, .int .u64 0, .int .u64 0, .int .u64 0], .string ByteArray.empty], []⟩ 8 (by kernel_rfl) (by kernel_rfl) (by kernel_rfl) (by kernel_rfl)) ?_
  intro W base args ds gs before hval0 hW hcnd _
  have hval : ∀ (j : Nat) t v, Try.f6.params[j]? = some t → args[j]? = some v → Value.okWide Try.prog W .any base t v := hval0
  have hW' := hW
  obtain ⟨p, q, hA0, hV, rfl, hfz, hnd⟩ := hW
  have hA : DataW.TrodAll enc Try.prog W 0 (fun _ => true) true Try.f6.params.toList args.toList ds p := hA0
  rw [Try.params6] at hA hval
  obtain ⟨v0, vs0, d0, ds0, p0, q0, hargs, rfl, rfl, h0, r0⟩ := trodAll_cons hA
  obtain ⟨v1, vs1, d1, ds1, p1, q1, rfl, rfl, rfl, h1, r1⟩ := trodAll_cons r0
  obtain ⟨rfl, rfl, rfl⟩ := trodAll_nil r1
  obtain rfl : args = #[v0, v1] := by cases args; simp_all
  obtain ⟨rfl, rfl⟩ := trodVars_none hV
  have lt0 : ∀ x ∈ p0, x.block < W.heap.size := by obtain ⟨m, hm⟩ := h0; exact DataW.trod_lt m _ _ _ hm
  obtain ⟨x, rfl⟩ := arr_open (hval 0 29 v0 rfl rfl) h0
  obtain ⟨a1, rfl, rfl, rfl, w1⟩ := open_string Try.underlying9 (hval 1 9 v1 rfl rfl) h1
  clear hA0 hval0
  refine (law6 x a1 W).mono fun e W' ⟨he, bel⟩ => ?_
  subst he
  exact ⟨_, rfl, _, _, _, [], _, [], hW', trodAll_mk1 (shut_bool Try.underlying4 _), (trodAll_cons_mk (Below.trod laidOut (by kernel_rfl) (of_decide_eq_true (by kernel_rfl)) h0 bel lt0) (trodAll_cons_mk (shut_string Try.underlying9 w1) trodAll_mk0)), rfl, bel.frame _, fun h => by cases h⟩

theorem over : Rows.fnMonthsAndDaysExactRow.holds Try.pinned (OpenSpec.ofChange Rows.fnMonthsAndDaysExactSpec) :=
  OpenClaim.holds_of_wide 6 Try.f6 rfl rfl rfl rfl rfl rfl rfl ⟨rfl, rfl, rfl, rfl, rfl⟩ rfl rfl rfl rfl rfl (by kernel_rfl) Try.func6 (by kernel_rfl)
    (of_decide_eq_true (by kernel_rfl)) (by unfold Func.isWrapper; first | (rw [if_pos (by decide +kernel)]; kernel_rfl) | (rw [if_neg (by decide +kernel)]; exact ⟨rfl, rfl⟩))
    (fun os started H enc _ => lifted os started H enc)

/-- THE STATEMENT -/
theorem proved : Rows.FnMonthsAndDaysExactSaid :=
  over
#print axioms proved
end Go.Proofs.Qxb6600731a.fnMonthsAndDaysExact
