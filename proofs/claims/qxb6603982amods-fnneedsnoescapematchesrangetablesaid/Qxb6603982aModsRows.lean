/-
  No cell of these rows narrows 'for every input' (looked for: loops, veiled, ifaces, maps, wideKeys, modest, calm, conditions, laid).
  DERIVED. THE GIVEN ROWS OF THIS SEAT. 1 by the template 'for every input the law returns true; each argument reads behind the call as it read before'; 0 by the template 'total and deterministic' (their statements: Qxb6603982aModsTotals.lean).
  GIVEN WITH THE SEED: the statements are not yours to turn. If you find one false, say at which input.
  Laid BY PROGRAM, IN A SANDBOX (cutbox-rows.mjs): the forced cells as the released guide's own fill.sh prints them over the translation 2edcb005e73afbe0… (all of the seat's roots in one cut). By AI agents, Wed Nov 11 2026. No macro, syntax, notation, axiom, sorry.
-/
import Derived.Test.Qxb6603982aModsChecked
import GoSem.Claim
import GoSem.ClaimJoined
import GoSem.ClaimMapViews
import Derived.JoinedTies
import Derived.KernelRfl
namespace Go.Proofs.Qxb6603982aMods
/- THE CELL 'sum', in the pinned program and in every row, IS THE sha256 OF THE DUMP (.gsa) THAT Qxb6603982aModsProg.lean LOADS. Nothing in Lean hashes anything: it is a label: what it is worth is what the hold of that sum in a sandbox is worth. -/
noncomputable def Trym.pinned : Pinned := { name := "qxb6603982amods", sum := "2edcb005e73afbe08f0f0f41c2aea1162f66bdcc2e47729562f7519874ce080f", checked := Trym.checked }
namespace Rows
def none {H : Type} : Left H := { results := [], args := [] }

/-- 'zzlaws_internal_twopc_b1.FnNeedsNoEscapeMatchesRangeTable': WHATEVER THE INPUT: true; the input reads as it did. -/
def fnNeedsNoEscapeMatchesRangeTableSpec : ChangeSpec := { name := "fnNeedsNoEscapeMatchesRangeTable", fn := fun _ => fun
  | [d] => { results := [.lit (.bool true)], args := [d] }
  | _ => none }
def fnNeedsNoEscapeMatchesRangeTableRow : OpenClaim := { program := "qxb6603982amods", sum := "2edcb005e73afbe08f0f0f41c2aea1162f66bdcc2e47729562f7519874ce080f", func := "example.com/onceward/onceward/zzlaws_internal_twopc_b1.FnNeedsNoEscapeMatchesRangeTable", spec := "fnNeedsNoEscapeMatchesRangeTable", make := .lifted ["publicsums"], apart := false }
def FnNeedsNoEscapeMatchesRangeTableSaid : Prop := fnNeedsNoEscapeMatchesRangeTableRow.holds Trym.pinned (OpenSpec.ofChange fnNeedsNoEscapeMatchesRangeTableSpec)

/-- ITS FALSE NEIGHBOUR: 'it returns false'. Refute it at one input. -/
def fnNeedsNoEscapeMatchesRangeTableWrong : ChangeSpec := { name := "fnNeedsNoEscapeMatchesRangeTable", fn := fun _ => fun
  | [d] => { results := [.lit (.bool false)], args := [d] }
  | _ => none }
def FnNeedsNoEscapeMatchesRangeTableWrongFalsely : Prop := fnNeedsNoEscapeMatchesRangeTableRow.holds Trym.pinned (OpenSpec.ofChange fnNeedsNoEscapeMatchesRangeTableWrong)

end Rows
end Go.Proofs.Qxb6603982aMods
