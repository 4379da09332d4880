/-
  No cell of these rows narrows 'for every input' (looked for: loops, veiled, ifaces, maps, wideKeys, modest, calm, conditions, laid).
  DERIVED. THE GIVEN ROWS OF THIS SEAT. 2 by the template 'for every input the law returns true; each argument reads behind the call as it read before'; 0 by the template 'total and deterministic' (their statements: Qxb6604095aModsTotals.lean).
  GIVEN WITH THE SEED: the statements are not yours to turn. If you find one false, say at which input.
  Laid BY PROGRAM, IN A SANDBOX (cutbox-rows.mjs): the forced cells as the released guide's own fill.sh prints them over the translation 29a43707249657a8… (all of the seat's roots in one cut). By AI agents, Wed Nov 11 2026. No macro, syntax, notation, axiom, sorry.
-/
import Derived.Test.Qxb6604095aModsChecked
import GoSem.Claim
import GoSem.ClaimJoined
import GoSem.ClaimMapViews
import Derived.JoinedTies
import Derived.KernelRfl
namespace Go.Proofs.Qxb6604095aMods
/- THE CELL 'sum', in the pinned program and in every row, IS THE sha256 OF THE DUMP (.gsa) THAT Qxb6604095aModsProg.lean LOADS. Nothing in Lean hashes anything: it is a label: what it is worth is what the hold of that sum in a sandbox is worth. -/
noncomputable def Trym.pinned : Pinned := { name := "qxb6604095amods", sum := "29a43707249657a82f0cce582581e7d714943e42a947bc8472a45f9e48edc14e", checked := Trym.checked }
namespace Rows
def none {H : Type} : Left H := { results := [], args := [] }

/-- 'zzlaws_internal_catalogue_b1.FnDigitsIsLongestSignedDigitRun': WHATEVER THE INPUT: true; the input reads as it did. -/
def fnDigitsIsLongestSignedDigitRunSpec : ChangeSpec := { name := "fnDigitsIsLongestSignedDigitRun", fn := fun _ => fun
  | [d1, d2, d3] => { results := [.lit (.bool true)], args := [d1, d2, d3] }
  | _ => none }
def fnDigitsIsLongestSignedDigitRunRow : OpenClaim := { program := "qxb6604095amods", sum := "29a43707249657a82f0cce582581e7d714943e42a947bc8472a45f9e48edc14e", func := "example.com/accrete/accrete/zzlaws_internal_catalogue_b1.FnDigitsIsLongestSignedDigitRun", spec := "fnDigitsIsLongestSignedDigitRun", make := .lifted ["publicsums"], apart := false }
def FnDigitsIsLongestSignedDigitRunSaid : Prop := fnDigitsIsLongestSignedDigitRunRow.holds Trym.pinned (OpenSpec.ofChange fnDigitsIsLongestSignedDigitRunSpec)

/-- ITS FALSE NEIGHBOUR: 'it returns false'. Refute it at one input. -/
def fnDigitsIsLongestSignedDigitRunWrong : ChangeSpec := { name := "fnDigitsIsLongestSignedDigitRun", fn := fun _ => fun
  | [d1, d2, d3] => { results := [.lit (.bool false)], args := [d1, d2, d3] }
  | _ => none }
def FnDigitsIsLongestSignedDigitRunWrongFalsely : Prop := fnDigitsIsLongestSignedDigitRunRow.holds Trym.pinned (OpenSpec.ofChange fnDigitsIsLongestSignedDigitRunWrong)

/-- 'zzlaws_internal_catalogue_b1.FnDigitsReadsBackDecimal': WHATEVER THE INPUT: true; the input reads as it did. -/
def fnDigitsReadsBackDecimalSpec : ChangeSpec := { name := "fnDigitsReadsBackDecimal", fn := fun _ => fun
  | [d1, d2, d3] => { results := [.lit (.bool true)], args := [d1, d2, d3] }
  | _ => none }
def fnDigitsReadsBackDecimalRow : OpenClaim := { program := "qxb6604095amods", sum := "29a43707249657a82f0cce582581e7d714943e42a947bc8472a45f9e48edc14e", func := "example.com/accrete/accrete/zzlaws_internal_catalogue_b1.FnDigitsReadsBackDecimal", spec := "fnDigitsReadsBackDecimal", make := .lifted ["publicsums"], apart := false }
def FnDigitsReadsBackDecimalSaid : Prop := fnDigitsReadsBackDecimalRow.holds Trym.pinned (OpenSpec.ofChange fnDigitsReadsBackDecimalSpec)

/-- ITS FALSE NEIGHBOUR: 'it returns false'. Refute it at one input. -/
def fnDigitsReadsBackDecimalWrong : ChangeSpec := { name := "fnDigitsReadsBackDecimal", fn := fun _ => fun
  | [d1, d2, d3] => { results := [.lit (.bool false)], args := [d1, d2, d3] }
  | _ => none }
def FnDigitsReadsBackDecimalWrongFalsely : Prop := fnDigitsReadsBackDecimalRow.holds Trym.pinned (OpenSpec.ofChange fnDigitsReadsBackDecimalWrong)

end Rows
end Go.Proofs.Qxb6604095aMods
