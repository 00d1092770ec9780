/-
  No cell of these rows narrows 'for every input' (looked for: loops, veiled, ifaces, maps, wideKeys, modest, calm, conditions, laid).
  DERIVED. THE GIVEN ROWS OF THIS SEAT. 2 by the template 'for every input the law returns true; each argument reads behind the call as it read before'; 0 by the template 'total and deterministic' (their statements: Qxb6626444aTotals.lean).
  GIVEN WITH THE SEED: the statements are not yours to turn. If you find one false, say at which input.
  Laid BY PROGRAM, IN A SANDBOX (cutbox-rows.mjs): the forced cells as the released guide's own fill.sh prints them over the translation 0a0d88b38e230704… (all of the seat's roots in one cut). By AI agents, Wed Nov 11 2026. No macro, syntax, notation, axiom, sorry.
-/
import Derived.Test.Qxb6626444aChecked
import GoSem.Claim
import GoSem.ClaimJoined
import GoSem.ClaimMapViews
import Derived.JoinedTies
import Derived.KernelRfl
namespace Go.Proofs.Qxb6626444a
/- THE CELL 'sum', in the pinned program and in every row, IS THE sha256 OF THE DUMP (.gsa) THAT Qxb6626444aProg.lean LOADS. Nothing in Lean hashes anything: it is a label: what it is worth is what the hold of that sum in a sandbox is worth. -/
noncomputable def Try.pinned : Pinned := { name := "qxb6626444a", sum := "0a0d88b38e230704f4ee38bfce5e83ff01fba3cf8808b8232b9607f600d3b1a3", checked := Try.checked }
namespace Rows
def none {H : Type} : Left H := { results := [], args := [] }

/-- 'zzlaws_root_b1.FnBucketAddAccumulatesToBurst': WHATEVER THE INPUT: true; the input reads as it did. -/
def fnBucketAddAccumulatesToBurstSpec : ChangeSpec := { name := "fnBucketAddAccumulatesToBurst", fn := fun _ => fun
  | [d1, d2, d3, d4, d5, d6, d7, d8, d9] => { results := [.lit (.bool true)], args := [d1, d2, d3, d4, d5, d6, d7, d8, d9] }
  | _ => none }
def fnBucketAddAccumulatesToBurstRow : OpenClaim := { program := "qxb6626444a", sum := "0a0d88b38e230704f4ee38bfce5e83ff01fba3cf8808b8232b9607f600d3b1a3", func := "example.com/even-throttle/even-throttle/zzlaws_root_b1.FnBucketAddAccumulatesToBurst", spec := "fnBucketAddAccumulatesToBurst", apart := false }
def FnBucketAddAccumulatesToBurstSaid : Prop := fnBucketAddAccumulatesToBurstRow.holds Try.pinned (OpenSpec.ofChange fnBucketAddAccumulatesToBurstSpec)

/-- ITS FALSE NEIGHBOUR: 'it returns false'. Refute it at one input. -/
def fnBucketAddAccumulatesToBurstWrong : ChangeSpec := { name := "fnBucketAddAccumulatesToBurst", fn := fun _ => fun
  | [d1, d2, d3, d4, d5, d6, d7, d8, d9] => { results := [.lit (.bool false)], args := [d1, d2, d3, d4, d5, d6, d7, d8, d9] }
  | _ => none }
def FnBucketAddAccumulatesToBurstWrongFalsely : Prop := fnBucketAddAccumulatesToBurstRow.holds Try.pinned (OpenSpec.ofChange fnBucketAddAccumulatesToBurstWrong)

/-- 'zzlaws_root_b1.FnBucketAddFillsExactlyAtDeficit': WHATEVER THE INPUT: true; the input reads as it did. -/
def fnBucketAddFillsExactlyAtDeficitSpec : ChangeSpec := { name := "fnBucketAddFillsExactlyAtDeficit", fn := fun _ => fun
  | [d1, d2, d3, d4, d5] => { results := [.lit (.bool true)], args := [d1, d2, d3, d4, d5] }
  | _ => none }
def fnBucketAddFillsExactlyAtDeficitRow : OpenClaim := { program := "qxb6626444a", sum := "0a0d88b38e230704f4ee38bfce5e83ff01fba3cf8808b8232b9607f600d3b1a3", func := "example.com/even-throttle/even-throttle/zzlaws_root_b1.FnBucketAddFillsExactlyAtDeficit", spec := "fnBucketAddFillsExactlyAtDeficit", apart := false }
def FnBucketAddFillsExactlyAtDeficitSaid : Prop := fnBucketAddFillsExactlyAtDeficitRow.holds Try.pinned (OpenSpec.ofChange fnBucketAddFillsExactlyAtDeficitSpec)

/-- ITS FALSE NEIGHBOUR: 'it returns false'. Refute it at one input. -/
def fnBucketAddFillsExactlyAtDeficitWrong : ChangeSpec := { name := "fnBucketAddFillsExactlyAtDeficit", fn := fun _ => fun
  | [d1, d2, d3, d4, d5] => { results := [.lit (.bool false)], args := [d1, d2, d3, d4, d5] }
  | _ => none }
def FnBucketAddFillsExactlyAtDeficitWrongFalsely : Prop := fnBucketAddFillsExactlyAtDeficitRow.holds Try.pinned (OpenSpec.ofChange fnBucketAddFillsExactlyAtDeficitWrong)

end Rows
end Go.Proofs.Qxb6626444a
