/-
  No cell of these rows narrows 'for every input' (looked for: loops, veiled, ifaces, maps, wideKeys, modest, calm, conditions, laid).
  DERIVED. THE GIVEN ROWS OF THIS SEAT. 1 by the template 'for every input the law returns true; each argument reads behind the call as it read before'; 0 by the template 'total and deterministic' (their statements: Qxb6601501aTotals.lean).
  GIVEN WITH THE SEED: the statements are not yours to turn. If you find one false, say at which input.
  Laid BY PROGRAM, IN A SANDBOX (cutbox-rows.mjs): the forced cells as the released guide's own fill.sh prints them over the translation 0c4c52f4b254b891… (all of the seat's roots in one cut). By AI agents, Wed Nov 11 2026. No macro, syntax, notation, axiom, sorry.
-/
import Derived.Test.Qxb6601501aChecked
import GoSem.Claim
import GoSem.ClaimJoined
import GoSem.ClaimMapViews
import Derived.JoinedTies
import Derived.KernelRfl
namespace Go.Proofs.Qxb6601501a
/- THE CELL 'sum', in the pinned program and in every row, IS THE sha256 OF THE DUMP (.gsa) THAT Qxb6601501aProg.lean LOADS. Nothing in Lean hashes anything: it is a label: what it is worth is what the hold of that sum in a sandbox is worth. -/
noncomputable def Try.pinned : Pinned := { name := "qxb6601501a", sum := "0c4c52f4b254b891508362e10ef79ed801797bf7e3ee3c1789f0817108898ae1", checked := Try.checked }
namespace Rows
def none {H : Type} : Left H := { results := [], args := [] }

/-- 'zzlaws_internal_vt_b1.FnPrivateModeSetMovesWithState': WHATEVER THE INPUT: true; the input reads as it did. -/
def fnPrivateModeSetMovesWithStateSpec : ChangeSpec := { name := "fnPrivateModeSetMovesWithState", fn := fun _ => fun
  | [d1, d2, d3, d4, d5, d6, d7] => { results := [.lit (.bool true)], args := [d1, d2, d3, d4, d5, d6, d7] }
  | _ => none }
def fnPrivateModeSetMovesWithStateRow : OpenClaim := { program := "qxb6601501a", sum := "0c4c52f4b254b891508362e10ef79ed801797bf7e3ee3c1789f0817108898ae1", func := "example.com/mooring/mooring/zzlaws_internal_vt_b1.FnPrivateModeSetMovesWithState", spec := "fnPrivateModeSetMovesWithState", apart := false }
def FnPrivateModeSetMovesWithStateSaid : Prop := fnPrivateModeSetMovesWithStateRow.holds Try.pinned (OpenSpec.ofChange fnPrivateModeSetMovesWithStateSpec)

/-- ITS FALSE NEIGHBOUR: 'it returns false'. Refute it at one input. -/
def fnPrivateModeSetMovesWithStateWrong : ChangeSpec := { name := "fnPrivateModeSetMovesWithState", fn := fun _ => fun
  | [d1, d2, d3, d4, d5, d6, d7] => { results := [.lit (.bool false)], args := [d1, d2, d3, d4, d5, d6, d7] }
  | _ => none }
def FnPrivateModeSetMovesWithStateWrongFalsely : Prop := fnPrivateModeSetMovesWithStateRow.holds Try.pinned (OpenSpec.ofChange fnPrivateModeSetMovesWithStateWrong)

end Rows
end Go.Proofs.Qxb6601501a
