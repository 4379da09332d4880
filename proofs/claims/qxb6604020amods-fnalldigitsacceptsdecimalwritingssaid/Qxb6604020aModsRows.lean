/-
  No cell of these rows narrows 'for every input' (looked for: loops, veiled, ifaces, maps, wideKeys, modest, calm, conditions, laid).
  DERIVED. THE GIVEN ROWS OF THIS SEAT. 2 by the template 'for every input the law returns true; each argument reads behind the call as it read before'; 0 by the template 'total and deterministic' (their statements: Qxb6604020aModsTotals.lean).
  GIVEN WITH THE SEED: the statements are not yours to turn. If you find one false, say at which input.
  Laid BY PROGRAM, IN A SANDBOX (cutbox-rows.mjs): the forced cells as the released guide's own fill.sh prints them over the translation 1212706e6487913e… (all of the seat's roots in one cut). By AI agents, Wed Nov 11 2026. No macro, syntax, notation, axiom, sorry.
-/
import Derived.Test.Qxb6604020aModsChecked
import GoSem.Claim
import GoSem.ClaimJoined
import GoSem.ClaimMapViews
import Derived.JoinedTies
import Derived.KernelRfl
namespace Go.Proofs.Qxb6604020aMods
/- THE CELL 'sum', in the pinned program and in every row, IS THE sha256 OF THE DUMP (.gsa) THAT Qxb6604020aModsProg.lean LOADS. Nothing in Lean hashes anything: it is a label: what it is worth is what the hold of that sum in a sandbox is worth. -/
noncomputable def Trym.pinned : Pinned := { name := "qxb6604020amods", sum := "1212706e6487913e2ada76bd84cf590058766558bfa4a3f574f1f25c3f4d6739", checked := Trym.checked }
namespace Rows
def none {H : Type} : Left H := { results := [], args := [] }

/-- 'zzlaws_root_b1.FnAllDigitsMatchesCountingModel': WHATEVER THE INPUT: true; the input reads as it did. -/
def fnAllDigitsMatchesCountingModelSpec : ChangeSpec := { name := "fnAllDigitsMatchesCountingModel", fn := fun _ => fun
  | [d] => { results := [.lit (.bool true)], args := [d] }
  | _ => none }
def fnAllDigitsMatchesCountingModelRow : OpenClaim := { program := "qxb6604020amods", sum := "1212706e6487913e2ada76bd84cf590058766558bfa4a3f574f1f25c3f4d6739", func := "example.com/hedgerow/hedgerow/zzlaws_root_b1.FnAllDigitsMatchesCountingModel", spec := "fnAllDigitsMatchesCountingModel", make := .lifted ["publicsums"], apart := false }
def FnAllDigitsMatchesCountingModelSaid : Prop := fnAllDigitsMatchesCountingModelRow.holds Trym.pinned (OpenSpec.ofChange fnAllDigitsMatchesCountingModelSpec)

/-- ITS FALSE NEIGHBOUR: 'it returns false'. Refute it at one input. -/
def fnAllDigitsMatchesCountingModelWrong : ChangeSpec := { name := "fnAllDigitsMatchesCountingModel", fn := fun _ => fun
  | [d] => { results := [.lit (.bool false)], args := [d] }
  | _ => none }
def FnAllDigitsMatchesCountingModelWrongFalsely : Prop := fnAllDigitsMatchesCountingModelRow.holds Trym.pinned (OpenSpec.ofChange fnAllDigitsMatchesCountingModelWrong)

/-- 'zzlaws_root_b1.FnAllDigitsAcceptsDecimalWritings': WHATEVER THE INPUT: true; the input reads as it did. -/
def fnAllDigitsAcceptsDecimalWritingsSpec : ChangeSpec := { name := "fnAllDigitsAcceptsDecimalWritings", fn := fun _ => fun
  | [d] => { results := [.lit (.bool true)], args := [d] }
  | _ => none }
def fnAllDigitsAcceptsDecimalWritingsRow : OpenClaim := { program := "qxb6604020amods", sum := "1212706e6487913e2ada76bd84cf590058766558bfa4a3f574f1f25c3f4d6739", func := "example.com/hedgerow/hedgerow/zzlaws_root_b1.FnAllDigitsAcceptsDecimalWritings", spec := "fnAllDigitsAcceptsDecimalWritings", make := .lifted ["publicsums"], apart := false }
def FnAllDigitsAcceptsDecimalWritingsSaid : Prop := fnAllDigitsAcceptsDecimalWritingsRow.holds Trym.pinned (OpenSpec.ofChange fnAllDigitsAcceptsDecimalWritingsSpec)

/-- ITS FALSE NEIGHBOUR: 'it returns false'. Refute it at one input. -/
def fnAllDigitsAcceptsDecimalWritingsWrong : ChangeSpec := { name := "fnAllDigitsAcceptsDecimalWritings", fn := fun _ => fun
  | [d] => { results := [.lit (.bool false)], args := [d] }
  | _ => none }
def FnAllDigitsAcceptsDecimalWritingsWrongFalsely : Prop := fnAllDigitsAcceptsDecimalWritingsRow.holds Trym.pinned (OpenSpec.ofChange fnAllDigitsAcceptsDecimalWritingsWrong)

end Rows
end Go.Proofs.Qxb6604020aMods
