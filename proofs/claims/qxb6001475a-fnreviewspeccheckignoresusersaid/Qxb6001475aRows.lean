/-
  No cell of these rows narrows 'for every input' (looked for: loops, veiled, ifaces, maps, wideKeys, modest, calm, conditions, laid).
  DERIVED. THE GIVEN ROWS OF THIS SEAT. 3 by the template 'for every input the law returns true; each argument reads behind the call as it read before'; 0 by the template 'total and deterministic' (their statements: Qxb6001475aTotals.lean).
  GIVEN WITH THE SEED: the statements are not yours to turn. If you find one false, say at which input.
  Laid BY PROGRAM, IN A SANDBOX (cutbox-rows.mjs): the forced cells as the released guide's own fill.sh prints them over the translation 8b73b71d6edd88e3… (all of the seat's roots in one cut). By AI agents, Wed Nov 11 2026. No macro, syntax, notation, axiom, sorry.
-/
import Derived.Test.Qxb6001475aChecked
import GoSem.Claim
import GoSem.ClaimJoined
import GoSem.ClaimMapViews
import Derived.JoinedTies
import Derived.KernelRfl
namespace Go.Proofs.Qxb6001475a
/- THE CELL 'sum', in the pinned program and in every row, IS THE sha256 OF THE DUMP (.gsa) THAT Qxb6001475aProg.lean LOADS. Nothing in Lean hashes anything: it is a label: what it is worth is what the hold of that sum in a sandbox is worth. -/
noncomputable def Try.pinned : Pinned := { name := "qxb6001475a", sum := "8b73b71d6edd88e3548c35b36ef151441600dc63eca161562e9f5935caa20622", checked := Try.checked }
namespace Rows
def none {H : Type} : Left H := { results := [], args := [] }

/-- 'zzlaws_internal_gateway_b1.FnReviewSpecAsksExactlyOneCheck': WHATEVER THE INPUT: true; the input reads as it did. -/
def fnReviewSpecAsksExactlyOneCheckSpec : ChangeSpec := { name := "fnReviewSpecAsksExactlyOneCheck", fn := fun _ => fun
  | [d1, d2, d3, d4, d5, d6, d7] => { results := [.lit (.bool true)], args := [d1, d2, d3, d4, d5, d6, d7] }
  | _ => none }
def fnReviewSpecAsksExactlyOneCheckRow : OpenClaim := { program := "qxb6001475a", sum := "8b73b71d6edd88e3548c35b36ef151441600dc63eca161562e9f5935caa20622", func := "example.com/understudy/understudy/zzlaws_internal_gateway_b1.FnReviewSpecAsksExactlyOneCheck", spec := "fnReviewSpecAsksExactlyOneCheck", apart := false }
def FnReviewSpecAsksExactlyOneCheckSaid : Prop := fnReviewSpecAsksExactlyOneCheckRow.holds Try.pinned (OpenSpec.ofChange fnReviewSpecAsksExactlyOneCheckSpec)

/-- ITS FALSE NEIGHBOUR: 'it returns false'. Refute it at one input. -/
def fnReviewSpecAsksExactlyOneCheckWrong : ChangeSpec := { name := "fnReviewSpecAsksExactlyOneCheck", fn := fun _ => fun
  | [d1, d2, d3, d4, d5, d6, d7] => { results := [.lit (.bool false)], args := [d1, d2, d3, d4, d5, d6, d7] }
  | _ => none }
def FnReviewSpecAsksExactlyOneCheckWrongFalsely : Prop := fnReviewSpecAsksExactlyOneCheckRow.holds Try.pinned (OpenSpec.ofChange fnReviewSpecAsksExactlyOneCheckWrong)

/-- 'zzlaws_internal_gateway_b1.FnReviewSpecRoundTripsAttributes': WHATEVER THE INPUT: true; the input reads as it did. -/
def fnReviewSpecRoundTripsAttributesSpec : ChangeSpec := { name := "fnReviewSpecRoundTripsAttributes", fn := fun _ => fun
  | [d1, d2, d3, d4, d5, d6, d7] => { results := [.lit (.bool true)], args := [d1, d2, d3, d4, d5, d6, d7] }
  | _ => none }
def fnReviewSpecRoundTripsAttributesRow : OpenClaim := { program := "qxb6001475a", sum := "8b73b71d6edd88e3548c35b36ef151441600dc63eca161562e9f5935caa20622", func := "example.com/understudy/understudy/zzlaws_internal_gateway_b1.FnReviewSpecRoundTripsAttributes", spec := "fnReviewSpecRoundTripsAttributes", apart := false }
def FnReviewSpecRoundTripsAttributesSaid : Prop := fnReviewSpecRoundTripsAttributesRow.holds Try.pinned (OpenSpec.ofChange fnReviewSpecRoundTripsAttributesSpec)

/-- ITS FALSE NEIGHBOUR: 'it returns false'. Refute it at one input. -/
def fnReviewSpecRoundTripsAttributesWrong : ChangeSpec := { name := "fnReviewSpecRoundTripsAttributes", fn := fun _ => fun
  | [d1, d2, d3, d4, d5, d6, d7] => { results := [.lit (.bool false)], args := [d1, d2, d3, d4, d5, d6, d7] }
  | _ => none }
def FnReviewSpecRoundTripsAttributesWrongFalsely : Prop := fnReviewSpecRoundTripsAttributesRow.holds Try.pinned (OpenSpec.ofChange fnReviewSpecRoundTripsAttributesWrong)

/-- 'zzlaws_internal_gateway_b1.FnReviewSpecCheckIgnoresUser': WHATEVER THE INPUT: true; the input reads as it did. -/
def fnReviewSpecCheckIgnoresUserSpec : ChangeSpec := { name := "fnReviewSpecCheckIgnoresUser", fn := fun _ => fun
  | [d1, d2, d3, d4, d5, d6, d7, d8, d9, d10, d11] => { results := [.lit (.bool true)], args := [d1, d2, d3, d4, d5, d6, d7, d8, d9, d10, d11] }
  | _ => none }
def fnReviewSpecCheckIgnoresUserRow : OpenClaim := { program := "qxb6001475a", sum := "8b73b71d6edd88e3548c35b36ef151441600dc63eca161562e9f5935caa20622", func := "example.com/understudy/understudy/zzlaws_internal_gateway_b1.FnReviewSpecCheckIgnoresUser", spec := "fnReviewSpecCheckIgnoresUser", apart := false }
def FnReviewSpecCheckIgnoresUserSaid : Prop := fnReviewSpecCheckIgnoresUserRow.holds Try.pinned (OpenSpec.ofChange fnReviewSpecCheckIgnoresUserSpec)

/-- ITS FALSE NEIGHBOUR: 'it returns false'. Refute it at one input. -/
def fnReviewSpecCheckIgnoresUserWrong : ChangeSpec := { name := "fnReviewSpecCheckIgnoresUser", fn := fun _ => fun
  | [d1, d2, d3, d4, d5, d6, d7, d8, d9, d10, d11] => { results := [.lit (.bool false)], args := [d1, d2, d3, d4, d5, d6, d7, d8, d9, d10, d11] }
  | _ => none }
def FnReviewSpecCheckIgnoresUserWrongFalsely : Prop := fnReviewSpecCheckIgnoresUserRow.holds Try.pinned (OpenSpec.ofChange fnReviewSpecCheckIgnoresUserWrong)

end Rows
end Go.Proofs.Qxb6001475a
