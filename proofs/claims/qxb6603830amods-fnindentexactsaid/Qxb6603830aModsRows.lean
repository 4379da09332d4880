/-
  No cell of these rows narrows 'for every input' (looked for: loops, veiled, ifaces, maps, wideKeys, modest, calm, conditions, laid).
  DERIVED. THE GIVEN ROWS OF THIS SEAT. 1 by the template 'for every input the law returns true; each argument reads behind the call as it read before'; 0 by the template 'total and deterministic' (their statements: Qxb6603830aModsTotals.lean).
  GIVEN WITH THE SEED: the statements are not yours to turn. If you find one false, say at which input.
  Laid BY PROGRAM, IN A SANDBOX (cutbox-rows.mjs): the forced cells as the released guide's own fill.sh prints them over the translation 31262a68cfe2d6f6… (all of the seat's roots in one cut). By AI agents, Wed Nov 11 2026. No macro, syntax, notation, axiom, sorry.
-/
import Derived.Test.Qxb6603830aModsChecked
import GoSem.Claim
import GoSem.ClaimJoined
import GoSem.ClaimMapViews
import Derived.JoinedTies
import Derived.KernelRfl
namespace Go.Proofs.Qxb6603830aMods
/- THE CELL 'sum', in the pinned program and in every row, IS THE sha256 OF THE DUMP (.gsa) THAT Qxb6603830aModsProg.lean LOADS. Nothing in Lean hashes anything: it is a label: what it is worth is what the hold of that sum in a sandbox is worth. -/
noncomputable def Trym.pinned : Pinned := { name := "qxb6603830amods", sum := "31262a68cfe2d6f68ef73f4066e20c8c37c5957fef852adb8a0fe07dbcb757da", checked := Trym.checked }
namespace Rows
def none {H : Type} : Left H := { results := [], args := [] }

/-- 'zzlaws_internal_manifest_b1.FnIndentExact': WHATEVER THE INPUT: true; the input reads as it did. -/
def fnIndentExactSpec : ChangeSpec := { name := "fnIndentExact", fn := fun _ => fun
  | [d1, d2, d3, d4, d5] => { results := [.lit (.bool true)], args := [d1, d2, d3, d4, d5] }
  | _ => none }
def fnIndentExactRow : OpenClaim := { program := "qxb6603830amods", sum := "31262a68cfe2d6f68ef73f4066e20c8c37c5957fef852adb8a0fe07dbcb757da", func := "example.com/mini-mutator/mini-mutator/zzlaws_internal_manifest_b1.FnIndentExact", spec := "fnIndentExact", make := .lifted ["publicsums"], apart := false }
def FnIndentExactSaid : Prop := fnIndentExactRow.holds Trym.pinned (OpenSpec.ofChange fnIndentExactSpec)

/-- ITS FALSE NEIGHBOUR: 'it returns false'. Refute it at one input. -/
def fnIndentExactWrong : ChangeSpec := { name := "fnIndentExact", fn := fun _ => fun
  | [d1, d2, d3, d4, d5] => { results := [.lit (.bool false)], args := [d1, d2, d3, d4, d5] }
  | _ => none }
def FnIndentExactWrongFalsely : Prop := fnIndentExactRow.holds Trym.pinned (OpenSpec.ofChange fnIndentExactWrong)

end Rows
end Go.Proofs.Qxb6603830aMods
