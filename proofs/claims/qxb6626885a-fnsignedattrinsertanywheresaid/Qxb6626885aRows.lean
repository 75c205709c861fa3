/-
  No cell of these rows narrows 'for every input' (looked for: loops, veiled, ifaces, maps, wideKeys, modest, calm, conditions, laid).
  DERIVED. THE GIVEN ROWS OF THIS SEAT. 2 by the template 'for every input the law returns true; each argument reads behind the call as it read before'; 0 by the template 'total and deterministic' (their statements: Qxb6626885aTotals.lean).
  GIVEN WITH THE SEED: the statements are not yours to turn. If you find one false, say at which input.
  Laid BY PROGRAM, IN A SANDBOX (cutbox-rows.mjs): the forced cells as the released guide's own fill.sh prints them over the translation 9c790fde1d4eb860… (all of the seat's roots in one cut). By AI agents, Wed Nov 11 2026. No macro, syntax, notation, axiom, sorry.
-/
import Derived.Test.Qxb6626885aChecked
import GoSem.Claim
import GoSem.ClaimJoined
import GoSem.ClaimMapViews
import Derived.JoinedTies
import Derived.KernelRfl
namespace Go.Proofs.Qxb6626885a
/- THE CELL 'sum', in the pinned program and in every row, IS THE sha256 OF THE DUMP (.gsa) THAT Qxb6626885aProg.lean LOADS. Nothing in Lean hashes anything: it is a label: what it is worth is what the hold of that sum in a sandbox is worth. -/
noncomputable def Try.pinned : Pinned := { name := "qxb6626885a", sum := "9c790fde1d4eb860f67e08c35f7a7f54fe51c7b513170c7c4787eebe319d2bb1", checked := Try.checked }
namespace Rows
def none {H : Type} : Left H := { results := [], args := [] }

/-- 'zzlaws_internal_cms_b1.FnSignedAttrInsertAnywhere': WHATEVER THE INPUT: true; the input reads as it did. -/
def fnSignedAttrInsertAnywhereSpec : ChangeSpec := { name := "fnSignedAttrInsertAnywhere", fn := fun _ => fun
  | [d1, d2, d3, d4] => { results := [.lit (.bool true)], args := [d1, d2, d3, d4] }
  | _ => none }
def fnSignedAttrInsertAnywhereRow : OpenClaim := { program := "qxb6626885a", sum := "9c790fde1d4eb860f67e08c35f7a7f54fe51c7b513170c7c4787eebe319d2bb1", func := "example.com/ambit/ambit/zzlaws_internal_cms_b1.FnSignedAttrInsertAnywhere", spec := "fnSignedAttrInsertAnywhere", apart := false }
def FnSignedAttrInsertAnywhereSaid : Prop := fnSignedAttrInsertAnywhereRow.holds Try.pinned (OpenSpec.ofChange fnSignedAttrInsertAnywhereSpec)

/-- ITS FALSE NEIGHBOUR: 'it returns false'. Refute it at one input. -/
def fnSignedAttrInsertAnywhereWrong : ChangeSpec := { name := "fnSignedAttrInsertAnywhere", fn := fun _ => fun
  | [d1, d2, d3, d4] => { results := [.lit (.bool false)], args := [d1, d2, d3, d4] }
  | _ => none }
def FnSignedAttrInsertAnywhereWrongFalsely : Prop := fnSignedAttrInsertAnywhereRow.holds Try.pinned (OpenSpec.ofChange fnSignedAttrInsertAnywhereWrong)

/-- 'zzlaws_internal_cms_b1.FnSignedAttrPartitionsValues': WHATEVER THE INPUT: true; the input reads as it did. -/
def fnSignedAttrPartitionsValuesSpec : ChangeSpec := { name := "fnSignedAttrPartitionsValues", fn := fun _ => fun
  | [d] => { results := [.lit (.bool true)], args := [d] }
  | _ => none }
def fnSignedAttrPartitionsValuesRow : OpenClaim := { program := "qxb6626885a", sum := "9c790fde1d4eb860f67e08c35f7a7f54fe51c7b513170c7c4787eebe319d2bb1", func := "example.com/ambit/ambit/zzlaws_internal_cms_b1.FnSignedAttrPartitionsValues", spec := "fnSignedAttrPartitionsValues", apart := false }
def FnSignedAttrPartitionsValuesSaid : Prop := fnSignedAttrPartitionsValuesRow.holds Try.pinned (OpenSpec.ofChange fnSignedAttrPartitionsValuesSpec)

/-- ITS FALSE NEIGHBOUR: 'it returns false'. Refute it at one input. -/
def fnSignedAttrPartitionsValuesWrong : ChangeSpec := { name := "fnSignedAttrPartitionsValues", fn := fun _ => fun
  | [d] => { results := [.lit (.bool false)], args := [d] }
  | _ => none }
def FnSignedAttrPartitionsValuesWrongFalsely : Prop := fnSignedAttrPartitionsValuesRow.holds Try.pinned (OpenSpec.ofChange fnSignedAttrPartitionsValuesWrong)

end Rows
end Go.Proofs.Qxb6626885a
