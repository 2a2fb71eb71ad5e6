/-
  No cell of these rows narrows 'for every input' (looked for: loops, veiled, ifaces, maps, wideKeys, modest, calm, conditions, laid).
  DERIVED. THE GIVEN ROWS OF THIS SEAT. 1 by the template 'for every input the law returns true; each argument reads behind the call as it read before'; 0 by the template 'total and deterministic' (their statements: Qxb6601543aTotals.lean).
  GIVEN WITH THE SEED: the statements are not yours to turn. If you find one false, say at which input.
  Laid BY PROGRAM, IN A SANDBOX (cutbox-rows.mjs): the forced cells as the released guide's own fill.sh prints them over the translation f292bd0d00ef5a51… (all of the seat's roots in one cut). By AI agents, Wed Nov 11 2026. No macro, syntax, notation, axiom, sorry.
-/
import Derived.Test.Qxb6601543aChecked
import GoSem.Claim
import GoSem.ClaimJoined
import GoSem.ClaimMapViews
import Derived.JoinedTies
import Derived.KernelRfl
namespace Go.Proofs.Qxb6601543a
/- THE CELL 'sum', in the pinned program and in every row, IS THE sha256 OF THE DUMP (.gsa) THAT Qxb6601543aProg.lean LOADS. Nothing in Lean hashes anything: it is a label: what it is worth is what the hold of that sum in a sandbox is worth. -/
noncomputable def Try.pinned : Pinned := { name := "qxb6601543a", sum := "f292bd0d00ef5a51b375d5e541acdd4bf29b3157b9573cd34ac910b475c2e029", checked := Try.checked }
namespace Rows
def none {H : Type} : Left H := { results := [], args := [] }

/-- 'zzlaws_root_b1.FnRefusedInNameComplement': WHATEVER THE INPUT: true; the input reads as it did. -/
def fnRefusedInNameComplementSpec : ChangeSpec := { name := "fnRefusedInNameComplement", fn := fun _ => fun
  | [d] => { results := [.lit (.bool true)], args := [d] }
  | _ => none }
def fnRefusedInNameComplementRow : OpenClaim := { program := "qxb6601543a", sum := "f292bd0d00ef5a51b375d5e541acdd4bf29b3157b9573cd34ac910b475c2e029", func := "example.com/latchkey/latchkey/zzlaws_root_b1.FnRefusedInNameComplement", spec := "fnRefusedInNameComplement", apart := false }
def FnRefusedInNameComplementSaid : Prop := fnRefusedInNameComplementRow.holds Try.pinned (OpenSpec.ofChange fnRefusedInNameComplementSpec)

/-- ITS FALSE NEIGHBOUR: 'it returns false'. Refute it at one input. -/
def fnRefusedInNameComplementWrong : ChangeSpec := { name := "fnRefusedInNameComplement", fn := fun _ => fun
  | [d] => { results := [.lit (.bool false)], args := [d] }
  | _ => none }
def FnRefusedInNameComplementWrongFalsely : Prop := fnRefusedInNameComplementRow.holds Try.pinned (OpenSpec.ofChange fnRefusedInNameComplementWrong)

end Rows
end Go.Proofs.Qxb6601543a
