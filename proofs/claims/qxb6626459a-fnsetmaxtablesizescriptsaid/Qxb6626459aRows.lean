/-
  No cell of these rows narrows 'for every input' (looked for: loops, veiled, ifaces, maps, wideKeys, modest, calm, conditions, laid).
  DERIVED. THE GIVEN ROWS OF THIS SEAT. 2 by the template 'for every input the law returns true; each argument reads behind the call as it read before'; 0 by the template 'total and deterministic' (their statements: Qxb6626459aTotals.lean).
  GIVEN WITH THE SEED: the statements are not yours to turn. If you find one false, say at which input.
  Laid BY PROGRAM, IN A SANDBOX (cutbox-rows.mjs): the forced cells as the released guide's own fill.sh prints them over the translation 455c77ceab7ad4bd… (all of the seat's roots in one cut). By AI agents, Wed Nov 11 2026. No macro, syntax, notation, axiom, sorry.
-/
import Derived.Test.Qxb6626459aChecked
import GoSem.Claim
import GoSem.ClaimJoined
import GoSem.ClaimMapViews
import Derived.JoinedTies
import Derived.KernelRfl
namespace Go.Proofs.Qxb6626459a
/- THE CELL 'sum', in the pinned program and in every row, IS THE sha256 OF THE DUMP (.gsa) THAT Qxb6626459aProg.lean LOADS. Nothing in Lean hashes anything: it is a label: what it is worth is what the hold of that sum in a sandbox is worth. -/
noncomputable def Try.pinned : Pinned := { name := "qxb6626459a", sum := "455c77ceab7ad4bdb7ab14f5e48de3c61931a02c4e19455ee25a7aafa1ceccd5", checked := Try.checked }
namespace Rows
def none {H : Type} : Left H := { results := [], args := [] }

/-- 'zzlaws_hpack_b1.FnSetMaxTableSizeScript': WHATEVER THE INPUT: true; the input reads as it did. -/
def fnSetMaxTableSizeScriptSpec : ChangeSpec := { name := "fnSetMaxTableSizeScript", fn := fun _ => fun
  | [d1, d2, d3, d4, d5, d6, d7, d8] => { results := [.lit (.bool true)], args := [d1, d2, d3, d4, d5, d6, d7, d8] }
  | _ => none }
def fnSetMaxTableSizeScriptRow : OpenClaim := { program := "qxb6626459a", sum := "455c77ceab7ad4bdb7ab14f5e48de3c61931a02c4e19455ee25a7aafa1ceccd5", func := "example.com/loomwire/loomwire/zzlaws_hpack_b1.FnSetMaxTableSizeScript", spec := "fnSetMaxTableSizeScript", apart := false }
def FnSetMaxTableSizeScriptSaid : Prop := fnSetMaxTableSizeScriptRow.holds Try.pinned (OpenSpec.ofChange fnSetMaxTableSizeScriptSpec)

/-- ITS FALSE NEIGHBOUR: 'it returns false'. Refute it at one input. -/
def fnSetMaxTableSizeScriptWrong : ChangeSpec := { name := "fnSetMaxTableSizeScript", fn := fun _ => fun
  | [d1, d2, d3, d4, d5, d6, d7, d8] => { results := [.lit (.bool false)], args := [d1, d2, d3, d4, d5, d6, d7, d8] }
  | _ => none }
def FnSetMaxTableSizeScriptWrongFalsely : Prop := fnSetMaxTableSizeScriptRow.holds Try.pinned (OpenSpec.ofChange fnSetMaxTableSizeScriptWrong)

/-- 'zzlaws_hpack_b1.FnSetMaxTableSizeAboveDefault': WHATEVER THE INPUT: true; the input reads as it did. -/
def fnSetMaxTableSizeAboveDefaultSpec : ChangeSpec := { name := "fnSetMaxTableSizeAboveDefault", fn := fun _ => fun
  | [d1, d2, d3, d4, d5, d6, d7, d8] => { results := [.lit (.bool true)], args := [d1, d2, d3, d4, d5, d6, d7, d8] }
  | _ => none }
def fnSetMaxTableSizeAboveDefaultRow : OpenClaim := { program := "qxb6626459a", sum := "455c77ceab7ad4bdb7ab14f5e48de3c61931a02c4e19455ee25a7aafa1ceccd5", func := "example.com/loomwire/loomwire/zzlaws_hpack_b1.FnSetMaxTableSizeAboveDefault", spec := "fnSetMaxTableSizeAboveDefault", apart := false }
def FnSetMaxTableSizeAboveDefaultSaid : Prop := fnSetMaxTableSizeAboveDefaultRow.holds Try.pinned (OpenSpec.ofChange fnSetMaxTableSizeAboveDefaultSpec)

/-- ITS FALSE NEIGHBOUR: 'it returns false'. Refute it at one input. -/
def fnSetMaxTableSizeAboveDefaultWrong : ChangeSpec := { name := "fnSetMaxTableSizeAboveDefault", fn := fun _ => fun
  | [d1, d2, d3, d4, d5, d6, d7, d8] => { results := [.lit (.bool false)], args := [d1, d2, d3, d4, d5, d6, d7, d8] }
  | _ => none }
def FnSetMaxTableSizeAboveDefaultWrongFalsely : Prop := fnSetMaxTableSizeAboveDefaultRow.holds Try.pinned (OpenSpec.ofChange fnSetMaxTableSizeAboveDefaultWrong)

end Rows
end Go.Proofs.Qxb6626459a
