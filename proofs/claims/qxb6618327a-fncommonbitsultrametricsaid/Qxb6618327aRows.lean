/-
  No cell of these rows narrows 'for every input' (looked for: loops, veiled, ifaces, maps, wideKeys, modest, calm, conditions, laid).
  DERIVED. THE GIVEN ROWS OF THIS SEAT. 2 by the template 'for every input the law returns true; each argument reads behind the call as it read before'; 0 by the template 'total and deterministic' (their statements: Qxb6618327aTotals.lean).
  GIVEN WITH THE SEED: the statements are not yours to turn. If you find one false, say at which input.
  Laid BY PROGRAM, IN A SANDBOX (cutbox-rows.mjs): the forced cells as the released guide's own fill.sh prints them over the translation 07113e8433fb0558… (all of the seat's roots in one cut). By AI agents, Wed Nov 11 2026. No macro, syntax, notation, axiom, sorry.
-/
import Derived.Test.Qxb6618327aChecked
import GoSem.Claim
import GoSem.ClaimJoined
import GoSem.ClaimMapViews
import Derived.JoinedTies
import Derived.KernelRfl
namespace Go.Proofs.Qxb6618327a
/- THE CELL 'sum', in the pinned program and in every row, IS THE sha256 OF THE DUMP (.gsa) THAT Qxb6618327aProg.lean LOADS. Nothing in Lean hashes anything: it is a label: what it is worth is what the hold of that sum in a sandbox is worth. -/
noncomputable def Try.pinned : Pinned := { name := "qxb6618327a", sum := "07113e8433fb0558ba4d864e72cf8199440b6d97d45f54503f3042e7541f6c98", checked := Try.checked }
namespace Rows
def none {H : Type} : Left H := { results := [], args := [] }

/-- 'zzlaws_internal_dht_b1.FnCommonBitsIsLongestSharedPrefix': WHATEVER THE INPUT: true; the input reads as it did. -/
def fnCommonBitsIsLongestSharedPrefixSpec : ChangeSpec := { name := "fnCommonBitsIsLongestSharedPrefix", fn := fun _ => fun
  | [d1, d2] => { results := [.lit (.bool true)], args := [d1, d2] }
  | _ => none }
def fnCommonBitsIsLongestSharedPrefixRow : OpenClaim := { program := "qxb6618327a", sum := "07113e8433fb0558ba4d864e72cf8199440b6d97d45f54503f3042e7541f6c98", func := "example.com/spillway/spillway/zzlaws_internal_dht_b1.FnCommonBitsIsLongestSharedPrefix", spec := "fnCommonBitsIsLongestSharedPrefix", apart := false }
def FnCommonBitsIsLongestSharedPrefixSaid : Prop := fnCommonBitsIsLongestSharedPrefixRow.holds Try.pinned (OpenSpec.ofChange fnCommonBitsIsLongestSharedPrefixSpec)

/-- ITS FALSE NEIGHBOUR: 'it returns false'. Refute it at one input. -/
def fnCommonBitsIsLongestSharedPrefixWrong : ChangeSpec := { name := "fnCommonBitsIsLongestSharedPrefix", fn := fun _ => fun
  | [d1, d2] => { results := [.lit (.bool false)], args := [d1, d2] }
  | _ => none }
def FnCommonBitsIsLongestSharedPrefixWrongFalsely : Prop := fnCommonBitsIsLongestSharedPrefixRow.holds Try.pinned (OpenSpec.ofChange fnCommonBitsIsLongestSharedPrefixWrong)

/-- 'zzlaws_internal_dht_b1.FnCommonBitsUltrametric': WHATEVER THE INPUT: true; the input reads as it did. -/
def fnCommonBitsUltrametricSpec : ChangeSpec := { name := "fnCommonBitsUltrametric", fn := fun _ => fun
  | [d1, d2, d3] => { results := [.lit (.bool true)], args := [d1, d2, d3] }
  | _ => none }
def fnCommonBitsUltrametricRow : OpenClaim := { program := "qxb6618327a", sum := "07113e8433fb0558ba4d864e72cf8199440b6d97d45f54503f3042e7541f6c98", func := "example.com/spillway/spillway/zzlaws_internal_dht_b1.FnCommonBitsUltrametric", spec := "fnCommonBitsUltrametric", apart := false }
def FnCommonBitsUltrametricSaid : Prop := fnCommonBitsUltrametricRow.holds Try.pinned (OpenSpec.ofChange fnCommonBitsUltrametricSpec)

/-- ITS FALSE NEIGHBOUR: 'it returns false'. Refute it at one input. -/
def fnCommonBitsUltrametricWrong : ChangeSpec := { name := "fnCommonBitsUltrametric", fn := fun _ => fun
  | [d1, d2, d3] => { results := [.lit (.bool false)], args := [d1, d2, d3] }
  | _ => none }
def FnCommonBitsUltrametricWrongFalsely : Prop := fnCommonBitsUltrametricRow.holds Try.pinned (OpenSpec.ofChange fnCommonBitsUltrametricWrong)

end Rows
end Go.Proofs.Qxb6618327a
