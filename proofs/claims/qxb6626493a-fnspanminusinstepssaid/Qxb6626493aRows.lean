/-
  No cell of these rows narrows 'for every input' (looked for: loops, veiled, ifaces, maps, wideKeys, modest, calm, conditions, laid).
  DERIVED. THE GIVEN ROWS OF THIS SEAT. 2 by the template 'for every input the law returns true; each argument reads behind the call as it read before'; 0 by the template 'total and deterministic' (their statements: Qxb6626493aTotals.lean).
  GIVEN WITH THE SEED: the statements are not yours to turn. If you find one false, say at which input.
  Laid BY PROGRAM, IN A SANDBOX (cutbox-rows.mjs): the forced cells as the released guide's own fill.sh prints them over the translation 449225b021b38594… (all of the seat's roots in one cut). By AI agents, Wed Nov 11 2026. No macro, syntax, notation, axiom, sorry.
-/
import Derived.Test.Qxb6626493aChecked
import GoSem.Claim
import GoSem.ClaimJoined
import GoSem.ClaimMapViews
import Derived.JoinedTies
import Derived.KernelRfl
namespace Go.Proofs.Qxb6626493a
/- THE CELL 'sum', in the pinned program and in every row, IS THE sha256 OF THE DUMP (.gsa) THAT Qxb6626493aProg.lean LOADS. Nothing in Lean hashes anything: it is a label: what it is worth is what the hold of that sum in a sandbox is worth. -/
noncomputable def Try.pinned : Pinned := { name := "qxb6626493a", sum := "449225b021b385948128534a834e940898f8e3930ce42234df6651d28daebf57", checked := Try.checked }
namespace Rows
def none {H : Type} : Left H := { results := [], args := [] }

/-- 'zzlaws_root_b1.FnSpanMinusUndoneByAdding': WHATEVER THE INPUT: true; the input reads as it did. -/
def fnSpanMinusUndoneByAddingSpec : ChangeSpec := { name := "fnSpanMinusUndoneByAdding", fn := fun _ => fun
  | [d1, d2, d3, d4, d5] => { results := [.lit (.bool true)], args := [d1, d2, d3, d4, d5] }
  | _ => none }
def fnSpanMinusUndoneByAddingRow : OpenClaim := { program := "qxb6626493a", sum := "449225b021b385948128534a834e940898f8e3930ce42234df6651d28daebf57", func := "example.com/libvalve/libvalve/zzlaws_root_b1.FnSpanMinusUndoneByAdding", spec := "fnSpanMinusUndoneByAdding", apart := false }
def FnSpanMinusUndoneByAddingSaid : Prop := fnSpanMinusUndoneByAddingRow.holds Try.pinned (OpenSpec.ofChange fnSpanMinusUndoneByAddingSpec)

/-- ITS FALSE NEIGHBOUR: 'it returns false'. Refute it at one input. -/
def fnSpanMinusUndoneByAddingWrong : ChangeSpec := { name := "fnSpanMinusUndoneByAdding", fn := fun _ => fun
  | [d1, d2, d3, d4, d5] => { results := [.lit (.bool false)], args := [d1, d2, d3, d4, d5] }
  | _ => none }
def FnSpanMinusUndoneByAddingWrongFalsely : Prop := fnSpanMinusUndoneByAddingRow.holds Try.pinned (OpenSpec.ofChange fnSpanMinusUndoneByAddingWrong)

/-- 'zzlaws_root_b1.FnSpanMinusInSteps': WHATEVER THE INPUT: true; the input reads as it did. -/
def fnSpanMinusInStepsSpec : ChangeSpec := { name := "fnSpanMinusInSteps", fn := fun _ => fun
  | [d1, d2, d3, d4, d5, d6, d7] => { results := [.lit (.bool true)], args := [d1, d2, d3, d4, d5, d6, d7] }
  | _ => none }
def fnSpanMinusInStepsRow : OpenClaim := { program := "qxb6626493a", sum := "449225b021b385948128534a834e940898f8e3930ce42234df6651d28daebf57", func := "example.com/libvalve/libvalve/zzlaws_root_b1.FnSpanMinusInSteps", spec := "fnSpanMinusInSteps", apart := false }
def FnSpanMinusInStepsSaid : Prop := fnSpanMinusInStepsRow.holds Try.pinned (OpenSpec.ofChange fnSpanMinusInStepsSpec)

/-- ITS FALSE NEIGHBOUR: 'it returns false'. Refute it at one input. -/
def fnSpanMinusInStepsWrong : ChangeSpec := { name := "fnSpanMinusInSteps", fn := fun _ => fun
  | [d1, d2, d3, d4, d5, d6, d7] => { results := [.lit (.bool false)], args := [d1, d2, d3, d4, d5, d6, d7] }
  | _ => none }
def FnSpanMinusInStepsWrongFalsely : Prop := fnSpanMinusInStepsRow.holds Try.pinned (OpenSpec.ofChange fnSpanMinusInStepsWrong)

end Rows
end Go.Proofs.Qxb6626493a
