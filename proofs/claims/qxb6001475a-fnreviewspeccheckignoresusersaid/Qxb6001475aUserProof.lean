/-
  A PROOF OF 'Rows.FnReviewSpecCheckIgnoresUserSaid'. Its frame follows the guide's for laws over slices; the walks are ours.
-/
import Derived.Test.Qxb6001475aUserPath
import Derived.Test.Qxb6001475aUserRes
import Derived.WalkKit
import Derived.ProofKit
import Derived.OpenShut
import Derived.ShutString
import Derived.ChangeOld
import Derived.Below
import Derived.SliceStrings
namespace Go.Proofs.Qxb6001475a.fnReviewSpecCheckIgnoresUser
open Go.ChangeShapes Go.WideShapes Go.ChangeAt Go.RowKit
open Go.ChangeMaps (open_string shut_string)
set_option linter.unusedVariables false

theorem own : ownKnob Try.prog.godebug = none := by kernel_rfl
theorem laidOut : laidOutB Try.prog = true := by kernel_rfl

/-- WHAT THE READING OF A SLICE OF STRINGS TELLS THE WALK. -/
theorem row_of {H : Type} {enc : TypeId × Value → H} {W : World} {a : Option Addr} {len cap : Nat} {d : DataW H} {p : List MemPlace}
    (h : DataW.Trod enc Try.prog W 0 (fun _ => true) true 27 (.slice a len cap) d p) :
    ∃ ss : Nat → ByteArray, len ≤ 9223372036854775807 ∧ (a = none → len = 0 ∧ cap = 0) ∧ StrRow W a len ss ∧ ∀ k, k < len → (ss k).size ≤ maxLen := by
  obtain ⟨fuel, hf⟩ := h
  rcases open_strings Try.underlying27 Try.underlying9 (by kernel_rfl) hf with ⟨hcs, _⟩ | ⟨x, l, c, ss, hcs, _, hl, hm, hz, _, hcell, hws⟩
  · simp [Value.cells] at hcs
    obtain ⟨rfl, rfl, rfl⟩ := hcs
    exact ⟨fun _ => ByteArray.empty, by omega, fun _ => ⟨rfl, rfl⟩, .inl rfl, fun k hk => by omega⟩
  · simp [Value.cells] at hcs
    obtain ⟨rfl, rfl, rfl⟩ := hcs
    have hz' : ss.length = cap := by simpa using hz
    refine ⟨fun k => ss.getD k ByteArray.empty, by unfold maxLen at hm; omega, (fun e => by cases e), ?_, fun k hk => ?_⟩
    · by_cases h0 : len = 0
      · exact .inl h0
      · obtain ⟨b, off, spot⟩ := x
        have hc := hcell 0 (by omega)
        have hspot : spot = none := by simpa [Addr.add] using World.cell?_spot hc
        subst hspot
        refine .inr ⟨b, off, rfl, ?_, fun k hk => ?_⟩
        · by_cases hb : b < W.heap.size
          · exact hb
          · exfalso
            have e0 : W.heap[b]? = none := by simp; omega
            have e1 : W.cell? ((⟨b, off, none⟩ : Addr).add 0) = none := by
              have : ((⟨b, off, none⟩ : Addr).add 0).block = b := rfl
              unfold World.cell?
              rw [this, e0]
            rw [e1] at hc
            cases hc
        · have hk' := hcell k (by omega)
          rw [add_plain] at hk'
          exact hk'
    · have hk2 : k < ss.length := by omega
      show (ss.getD k ByteArray.empty).size ≤ maxLen
      rw [List.getD_eq_getElem?_getD, List.getElem?_eq_getElem hk2]
      exact hws _ (List.getElem_mem hk2)

theorem walk (un ui a0 a1 a2 a3 a4 a5 a6 : ByteArray) (g2 : Option Addr) (l2 c2 : Nat) (g3 : Option Addr) (l3 c3 : Nat) (s2 s3 : Nat → ByteArray) (w : World)
    (m2 : l2 ≤ 9223372036854775807) (n2 : g2 = none → l2 = 0 ∧ c2 = 0) (r2 : StrRow w g2 l2 s2)
    (m3 : l3 ≤ 9223372036854775807) (n3 : g3 = none → l3 = 0 ∧ c3 = 0) (r3 : StrRow w g3 l3 s3) (z3 : ∀ k, k < l3 → (s3 k).size ≤ maxLen) :
    Calls Try.prog 5 #[.string un, .string ui, .slice g2 l2 c2, .slice g3 l3 c3, .string a0, .string a1, .string a2, .string a3, .string a4, .string a5, .string a6] w
      fun e w' => e = .returned (.bool true) ∧ Below w.heap.size w w' := by
  cases hp : (a6.toList == [])
  · cases g3 with
    | none =>
      obtain ⟨rfl, rfl⟩ := n3 rfl
      exact user_none_path un ui a0 a1 a2 a3 a4 a5 a6 g2 l2 c2 s2 w m2 n2 r2 hp
    | some ad => exact user_some_path un ui a0 a1 a2 a3 a4 a5 a6 g2 l2 c2 ad l3 c3 s2 s3 w m2 n2 r2 m3 r3 z3 hp
  · cases g3 with
    | none =>
      obtain ⟨rfl, rfl⟩ := n3 rfl
      exact user_none_res un ui a0 a1 a2 a3 a4 a5 a6 g2 l2 c2 s2 w m2 n2 r2 hp
    | some ad => exact user_some_res un ui a0 a1 a2 a3 a4 a5 a6 g2 l2 c2 ad l3 c3 s2 s3 w m2 n2 r2 m3 r3 z3 hp

set_option maxRecDepth 100000 in
theorem lifted (os : Os) (started : os.Started) (H : Type) (enc : TypeId × Value → H) :
    ReturnsInHanded {} Try.checked os 5 .any (Rows.fnReviewSpecCheckIgnoresUserSpec.pre6 enc Try.prog Try.f5 Rows.fnReviewSpecCheckIgnoresUserRow.domain false) (Rows.fnReviewSpecCheckIgnoresUserSpec.post enc Try.prog Try.f5 false true false false) := by
  refine returnsInHanded_of_change (C := Try.checked) own started (by kernel_rfl) Try.func5
    (ChangeSpec.witness6 (enc := enc) (C := Try.checked) false ⟨#[], #[.string ByteArray.empty, .string ByteArray.empty, .slice none 0 0, .slice none 0 0, .string ByteArray.empty, .string ByteArray.empty, .string ByteArray.empty, .string ByteArray.empty, .string ByteArray.empty, .string ByteArray.empty, .string ByteArray.empty], []⟩ 8 (by kernel_rfl) (by kernel_rfl) (by kernel_rfl) (by kernel_rfl)) ?_
  intro W base args ds gs before hval0 hW hcnd _
  have hval : ∀ (j : Nat) t v, Try.f5.params[j]? = some t → args[j]? = some v → Value.okWide Try.prog W .any base t v := hval0
  have hW' := hW
  obtain ⟨p, q, hA0, hV, rfl, hfz, hnd⟩ := hW
  have hA : DataW.TrodAll enc Try.prog W 0 (fun _ => true) true Try.f5.params.toList args.toList ds p := hA0
  rw [Try.params5] at hA hval
  obtain ⟨v0, vs0, d0, ds0, p0, q0, hargs, rfl, rfl, h0, r0⟩ := trodAll_cons hA
  obtain ⟨v1, vs1, d1, ds1, p1, q1, rfl, rfl, rfl, h1, r1⟩ := trodAll_cons r0
  obtain ⟨v2, vs2, d2, ds2, p2, q2, rfl, rfl, rfl, h2, r2⟩ := trodAll_cons r1
  obtain ⟨v3, vs3, d3, ds3, p3, q3, rfl, rfl, rfl, h3, r3⟩ := trodAll_cons r2
  obtain ⟨v4, vs4, d4, ds4, p4, q4, rfl, rfl, rfl, h4, r4⟩ := trodAll_cons r3
  obtain ⟨v5, vs5, d5, ds5, p5, q5, rfl, rfl, rfl, h5, r5⟩ := trodAll_cons r4
  obtain ⟨v6, vs6, d6, ds6, p6, q6, rfl, rfl, rfl, h6, r6⟩ := trodAll_cons r5
  obtain ⟨v7, vs7, d7, ds7, p7, q7, rfl, rfl, rfl, h7, r7⟩ := trodAll_cons r6
  obtain ⟨v8, vs8, d8, ds8, p8, q8, rfl, rfl, rfl, h8, r8⟩ := trodAll_cons r7
  obtain ⟨v9, vs9, d9, ds9, p9, q9, rfl, rfl, rfl, h9, r9⟩ := trodAll_cons r8
  obtain ⟨v10, vs10, d10, ds10, p10, q10, rfl, rfl, rfl, h10, r10⟩ := trodAll_cons r9
  obtain ⟨rfl, rfl, rfl⟩ := trodAll_nil r10
  obtain rfl : args = #[v0, v1, v2, v3, v4, v5, v6, v7, v8, v9, v10] := by cases args; simp_all
  obtain ⟨rfl, rfl⟩ := trodVars_none hV
  obtain ⟨a0, rfl, rfl, rfl, w0⟩ := open_string Try.underlying9 (hval 0 9 v0 rfl rfl) h0
  obtain ⟨a1, rfl, rfl, rfl, w1⟩ := open_string Try.underlying9 (hval 1 9 v1 rfl rfl) h1
  obtain ⟨g2, l2, c2, rfl⟩ := okWide_slice Try.underlying27 (hval 2 27 v2 rfl rfl)
  have lt2 : ∀ x ∈ p2, x.block < W.heap.size := by obtain ⟨m, hm⟩ := h2; exact DataW.trod_lt m _ _ _ hm
  obtain ⟨s2, m2, n2, w2, z2⟩ := row_of h2
  obtain ⟨g3, l3, c3, rfl⟩ := okWide_slice Try.underlying27 (hval 3 27 v3 rfl rfl)
  have lt3 : ∀ x ∈ p3, x.block < W.heap.size := by obtain ⟨m, hm⟩ := h3; exact DataW.trod_lt m _ _ _ hm
  obtain ⟨s3, m3, n3, w3, z3⟩ := row_of h3
  obtain ⟨a4, rfl, rfl, rfl, w4⟩ := open_string Try.underlying9 (hval 4 9 v4 rfl rfl) h4
  obtain ⟨a5, rfl, rfl, rfl, w5⟩ := open_string Try.underlying9 (hval 5 9 v5 rfl rfl) h5
  obtain ⟨a6, rfl, rfl, rfl, w6⟩ := open_string Try.underlying9 (hval 6 9 v6 rfl rfl) h6
  obtain ⟨a7, rfl, rfl, rfl, w7⟩ := open_string Try.underlying9 (hval 7 9 v7 rfl rfl) h7
  obtain ⟨a8, rfl, rfl, rfl, w8⟩ := open_string Try.underlying9 (hval 8 9 v8 rfl rfl) h8
  obtain ⟨a9, rfl, rfl, rfl, w9⟩ := open_string Try.underlying9 (hval 9 9 v9 rfl rfl) h9
  obtain ⟨a10, rfl, rfl, rfl, w10⟩ := open_string Try.underlying9 (hval 10 9 v10 rfl rfl) h10
  clear hA0 hval0
  refine (walk a0 a1 a4 a5 a6 a7 a8 a9 a10 g2 l2 c2 g3 l3 c3 s2 s3 W m2 n2 w2 m3 n3 w3 z3).mono fun e W' ⟨he, bel⟩ => ?_
  subst he
  exact ⟨_, rfl, _, _, _, [], _, [], hW', trodAll_mk1 (shut_bool Try.underlying4 _), (trodAll_cons_mk (shut_string Try.underlying9 w0) (trodAll_cons_mk (shut_string Try.underlying9 w1) (trodAll_cons_mk (Below.trod laidOut (by kernel_rfl) (of_decide_eq_true (by kernel_rfl)) h2 bel lt2) (trodAll_cons_mk (Below.trod laidOut (by kernel_rfl) (of_decide_eq_true (by kernel_rfl)) h3 bel lt3) (trodAll_cons_mk (shut_string Try.underlying9 w4) (trodAll_cons_mk (shut_string Try.underlying9 w5) (trodAll_cons_mk (shut_string Try.underlying9 w6) (trodAll_cons_mk (shut_string Try.underlying9 w7) (trodAll_cons_mk (shut_string Try.underlying9 w8) (trodAll_cons_mk (shut_string Try.underlying9 w9) (trodAll_cons_mk (shut_string Try.underlying9 w10) trodAll_mk0))))))))))), rfl, bel.frame _, fun h => by cases h⟩

theorem over : Rows.fnReviewSpecCheckIgnoresUserRow.holds Try.pinned (OpenSpec.ofChange Rows.fnReviewSpecCheckIgnoresUserSpec) :=
  OpenClaim.holds_of_wide 5 Try.f5 rfl rfl rfl rfl rfl rfl rfl ⟨rfl, rfl, rfl, rfl, rfl⟩ rfl rfl rfl rfl rfl (by kernel_rfl) Try.func5 (by kernel_rfl)
    (of_decide_eq_true (by kernel_rfl)) (by unfold Func.isWrapper; first | (rw [if_pos (by decide +kernel)]; kernel_rfl) | (rw [if_neg (by decide +kernel)]; exact ⟨rfl, rfl⟩))
    (fun os started H enc _ => lifted os started H enc)

/-- THE STATEMENT -/
theorem proved : Rows.FnReviewSpecCheckIgnoresUserSaid :=
  over
#print axioms proved
end Go.Proofs.Qxb6001475a.fnReviewSpecCheckIgnoresUser
