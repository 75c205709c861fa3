/-
  No cell of these rows narrows 'for every input' (looked for: loops, veiled, ifaces, maps, wideKeys, modest, calm, conditions, laid).
  DERIVED. THE GIVEN ROWS OF THIS SEAT. 2 by the template 'for every input the law returns true; each argument reads behind the call as it read before'; 0 by the template 'total and deterministic' (their statements: Qxb6626432aTotals.lean).
  GIVEN WITH THE SEED: the statements are not yours to turn. If you find one false, say at which input.
  Laid BY PROGRAM, IN A SANDBOX (cutbox-rows.mjs): the forced cells as the released guide's own fill.sh prints them over the translation f46e2bf4245c5a47… (all of the seat's roots in one cut). By AI agents, Wed Nov 11 2026. No macro, syntax, notation, axiom, sorry.
-/
import Derived.Test.Qxb6626432aChecked
import GoSem.Claim
import GoSem.ClaimJoined
import GoSem.ClaimMapViews
import Derived.JoinedTies
import Derived.KernelRfl
namespace Go.Proofs.Qxb6626432a
/- THE CELL 'sum', in the pinned program and in every row, IS THE sha256 OF THE DUMP (.gsa) THAT Qxb6626432aProg.lean LOADS. Nothing in Lean hashes anything: it is a label: what it is worth is what the hold of that sum in a sandbox is worth. -/
noncomputable def Try.pinned : Pinned := { name := "qxb6626432a", sum := "f46e2bf4245c5a4767e4f8ff2d1391bd99546e15242efbe8be01ea93f42238e7", checked := Try.checked }
namespace Rows
def none {H : Type} : Left H := { results := [], args := [] }

/-- 'zzlaws_internal_input_b1.FnAllDigitsInsertOneByte': WHATEVER THE INPUT: true; the input reads as it did. -/
def fnAllDigitsInsertOneByteSpec : ChangeSpec := { name := "fnAllDigitsInsertOneByte", fn := fun _ => fun
  | [d1, d2, d3] => { results := [.lit (.bool true)], args := [d1, d2, d3] }
  | _ => none }
def fnAllDigitsInsertOneByteRow : OpenClaim := { program := "qxb6626432a", sum := "f46e2bf4245c5a4767e4f8ff2d1391bd99546e15242efbe8be01ea93f42238e7", func := "example.com/trustwright/trustwright/zzlaws_internal_input_b1.FnAllDigitsInsertOneByte", spec := "fnAllDigitsInsertOneByte", apart := false }
def FnAllDigitsInsertOneByteSaid : Prop := fnAllDigitsInsertOneByteRow.holds Try.pinned (OpenSpec.ofChange fnAllDigitsInsertOneByteSpec)

/-- ITS FALSE NEIGHBOUR: 'it returns false'. Refute it at one input. -/
def fnAllDigitsInsertOneByteWrong : ChangeSpec := { name := "fnAllDigitsInsertOneByte", fn := fun _ => fun
  | [d1, d2, d3] => { results := [.lit (.bool false)], args := [d1, d2, d3] }
  | _ => none }
def FnAllDigitsInsertOneByteWrongFalsely : Prop := fnAllDigitsInsertOneByteRow.holds Try.pinned (OpenSpec.ofChange fnAllDigitsInsertOneByteWrong)

/-- 'zzlaws_internal_input_b1.FnAllDigitsFixedPointsOfDigitFold': WHATEVER THE INPUT: true; the input reads as it did. -/
def fnAllDigitsFixedPointsOfDigitFoldSpec : ChangeSpec := { name := "fnAllDigitsFixedPointsOfDigitFold", fn := fun _ => fun
  | [d] => { results := [.lit (.bool true)], args := [d] }
  | _ => none }
def fnAllDigitsFixedPointsOfDigitFoldRow : OpenClaim := { program := "qxb6626432a", sum := "f46e2bf4245c5a4767e4f8ff2d1391bd99546e15242efbe8be01ea93f42238e7", func := "example.com/trustwright/trustwright/zzlaws_internal_input_b1.FnAllDigitsFixedPointsOfDigitFold", spec := "fnAllDigitsFixedPointsOfDigitFold", apart := false }
def FnAllDigitsFixedPointsOfDigitFoldSaid : Prop := fnAllDigitsFixedPointsOfDigitFoldRow.holds Try.pinned (OpenSpec.ofChange fnAllDigitsFixedPointsOfDigitFoldSpec)

/-- ITS FALSE NEIGHBOUR: 'it returns false'. Refute it at one input. -/
def fnAllDigitsFixedPointsOfDigitFoldWrong : ChangeSpec := { name := "fnAllDigitsFixedPointsOfDigitFold", fn := fun _ => fun
  | [d] => { results := [.lit (.bool false)], args := [d] }
  | _ => none }
def FnAllDigitsFixedPointsOfDigitFoldWrongFalsely : Prop := fnAllDigitsFixedPointsOfDigitFoldRow.holds Try.pinned (OpenSpec.ofChange fnAllDigitsFixedPointsOfDigitFoldWrong)

end Rows
end Go.Proofs.Qxb6626432a
