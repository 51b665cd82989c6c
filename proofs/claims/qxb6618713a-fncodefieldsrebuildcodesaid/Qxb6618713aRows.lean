/-
  No cell of these rows narrows 'for every input' (looked for: loops, veiled, ifaces, maps, wideKeys, modest, calm, conditions, laid).
  DERIVED. THE GIVEN ROWS OF THIS SEAT. 2 by the template 'for every input the law returns true; each argument reads behind the call as it read before'; 0 by the template 'total and deterministic' (their statements: Qxb6618713aTotals.lean).
  GIVEN WITH THE SEED: the statements are not yours to turn. If you find one false, say at which input.
  Laid BY PROGRAM, IN A SANDBOX (cutbox-rows.mjs): the forced cells as the released guide's own fill.sh prints them over the translation ad43eef54c0057f9… (all of the seat's roots in one cut). By AI agents, Wed Nov 11 2026. No macro, syntax, notation, axiom, sorry.
-/
import Derived.Test.Qxb6618713aChecked
import GoSem.Claim
import GoSem.ClaimJoined
import GoSem.ClaimMapViews
import Derived.JoinedTies
import Derived.KernelRfl
namespace Go.Proofs.Qxb6618713a
/- THE CELL 'sum', in the pinned program and in every row, IS THE sha256 OF THE DUMP (.gsa) THAT Qxb6618713aProg.lean LOADS. Nothing in Lean hashes anything: it is a label: what it is worth is what the hold of that sum in a sandbox is worth. -/
noncomputable def Try.pinned : Pinned := { name := "qxb6618713a", sum := "ad43eef54c0057f9289d688130ab695a9f1c4f5044bb598ed224339c84a40dc4", checked := Try.checked }
namespace Rows
def none {H : Type} : Left H := { results := [], args := [] }

/-- 'zzlaws_root_b1.FnCodeFieldsRebuildCode': WHATEVER THE INPUT: true; the input reads as it did. -/
def fnCodeFieldsRebuildCodeSpec : ChangeSpec := { name := "fnCodeFieldsRebuildCode", fn := fun _ => fun
  | [d] => { results := [.lit (.bool true)], args := [d] }
  | _ => none }
def fnCodeFieldsRebuildCodeRow : OpenClaim := { program := "qxb6618713a", sum := "ad43eef54c0057f9289d688130ab695a9f1c4f5044bb598ed224339c84a40dc4", func := "example.com/treestack/treestack/zzlaws_root_b1.FnCodeFieldsRebuildCode", spec := "fnCodeFieldsRebuildCode", apart := false }
def FnCodeFieldsRebuildCodeSaid : Prop := fnCodeFieldsRebuildCodeRow.holds Try.pinned (OpenSpec.ofChange fnCodeFieldsRebuildCodeSpec)

/-- ITS FALSE NEIGHBOUR: 'it returns false'. Refute it at one input. -/
def fnCodeFieldsRebuildCodeWrong : ChangeSpec := { name := "fnCodeFieldsRebuildCode", fn := fun _ => fun
  | [d] => { results := [.lit (.bool false)], args := [d] }
  | _ => none }
def FnCodeFieldsRebuildCodeWrongFalsely : Prop := fnCodeFieldsRebuildCodeRow.holds Try.pinned (OpenSpec.ofChange fnCodeFieldsRebuildCodeWrong)

/-- 'zzlaws_root_b1.FnCodeStepsCountFields': WHATEVER THE INPUT: true; the input reads as it did. -/
def fnCodeStepsCountFieldsSpec : ChangeSpec := { name := "fnCodeStepsCountFields", fn := fun _ => fun
  | [d1, d2] => { results := [.lit (.bool true)], args := [d1, d2] }
  | _ => none }
def fnCodeStepsCountFieldsRow : OpenClaim := { program := "qxb6618713a", sum := "ad43eef54c0057f9289d688130ab695a9f1c4f5044bb598ed224339c84a40dc4", func := "example.com/treestack/treestack/zzlaws_root_b1.FnCodeStepsCountFields", spec := "fnCodeStepsCountFields", apart := false }
def FnCodeStepsCountFieldsSaid : Prop := fnCodeStepsCountFieldsRow.holds Try.pinned (OpenSpec.ofChange fnCodeStepsCountFieldsSpec)

/-- ITS FALSE NEIGHBOUR: 'it returns false'. Refute it at one input. -/
def fnCodeStepsCountFieldsWrong : ChangeSpec := { name := "fnCodeStepsCountFields", fn := fun _ => fun
  | [d1, d2] => { results := [.lit (.bool false)], args := [d1, d2] }
  | _ => none }
def FnCodeStepsCountFieldsWrongFalsely : Prop := fnCodeStepsCountFieldsRow.holds Try.pinned (OpenSpec.ofChange fnCodeStepsCountFieldsWrong)

end Rows
end Go.Proofs.Qxb6618713a
