/-
  No cell of these rows narrows 'for every input' (looked for: loops, veiled, ifaces, maps, wideKeys, modest, calm, conditions, laid).
  DERIVED. THE GIVEN ROWS OF THIS SEAT. 2 by the template 'for every input the law returns true; each argument reads behind the call as it read before'; 0 by the template 'total and deterministic' (their statements: Qxb6626308aTotals.lean).
  GIVEN WITH THE SEED: the statements are not yours to turn. If you find one false, say at which input.
  Laid BY PROGRAM, IN A SANDBOX (cutbox-rows.mjs): the forced cells as the released guide's own fill.sh prints them over the translation de6af229b60cb24b… (all of the seat's roots in one cut). By AI agents, Wed Nov 11 2026. No macro, syntax, notation, axiom, sorry.
-/
import Derived.Test.Qxb6626308aChecked
import GoSem.Claim
import GoSem.ClaimJoined
import GoSem.ClaimMapViews
import Derived.JoinedTies
import Derived.KernelRfl
namespace Go.Proofs.Qxb6626308a
/- THE CELL 'sum', in the pinned program and in every row, IS THE sha256 OF THE DUMP (.gsa) THAT Qxb6626308aProg.lean LOADS. Nothing in Lean hashes anything: it is a label: what it is worth is what the hold of that sum in a sandbox is worth. -/
noncomputable def Try.pinned : Pinned := { name := "qxb6626308a", sum := "de6af229b60cb24bd1b86f370d241bc589f54322a1356d72fd915b9f6b7c0588", checked := Try.checked }
namespace Rows
def none {H : Type} : Left H := { results := [], args := [] }

/-- 'zzlaws_ear_b1.FnTierRisesByThresholdsCrossed': WHATEVER THE INPUT: true; the input reads as it did. -/
def fnTierRisesByThresholdsCrossedSpec : ChangeSpec := { name := "fnTierRisesByThresholdsCrossed", fn := fun _ => fun
  | [d1, d2] => { results := [.lit (.bool true)], args := [d1, d2] }
  | _ => none }
def fnTierRisesByThresholdsCrossedRow : OpenClaim := { program := "qxb6626308a", sum := "de6af229b60cb24bd1b86f370d241bc589f54322a1356d72fd915b9f6b7c0588", func := "example.com/evidence-appraiser/evidence-appraiser/zzlaws_ear_b1.FnTierRisesByThresholdsCrossed", spec := "fnTierRisesByThresholdsCrossed", apart := false }
def FnTierRisesByThresholdsCrossedSaid : Prop := fnTierRisesByThresholdsCrossedRow.holds Try.pinned (OpenSpec.ofChange fnTierRisesByThresholdsCrossedSpec)

/-- ITS FALSE NEIGHBOUR: 'it returns false'. Refute it at one input. -/
def fnTierRisesByThresholdsCrossedWrong : ChangeSpec := { name := "fnTierRisesByThresholdsCrossed", fn := fun _ => fun
  | [d1, d2] => { results := [.lit (.bool false)], args := [d1, d2] }
  | _ => none }
def FnTierRisesByThresholdsCrossedWrongFalsely : Prop := fnTierRisesByThresholdsCrossedRow.holds Try.pinned (OpenSpec.ofChange fnTierRisesByThresholdsCrossedWrong)

/-- 'zzlaws_ear_b1.FnTierCensus': WHATEVER THE INPUT: true; the input reads as it did. -/
def fnTierCensusSpec : ChangeSpec := { name := "fnTierCensus", fn := fun _ => fun
  | [d] => { results := [.lit (.bool true)], args := [d] }
  | _ => none }
def fnTierCensusRow : OpenClaim := { program := "qxb6626308a", sum := "de6af229b60cb24bd1b86f370d241bc589f54322a1356d72fd915b9f6b7c0588", func := "example.com/evidence-appraiser/evidence-appraiser/zzlaws_ear_b1.FnTierCensus", spec := "fnTierCensus", apart := false }
def FnTierCensusSaid : Prop := fnTierCensusRow.holds Try.pinned (OpenSpec.ofChange fnTierCensusSpec)

/-- ITS FALSE NEIGHBOUR: 'it returns false'. Refute it at one input. -/
def fnTierCensusWrong : ChangeSpec := { name := "fnTierCensus", fn := fun _ => fun
  | [d] => { results := [.lit (.bool false)], args := [d] }
  | _ => none }
def FnTierCensusWrongFalsely : Prop := fnTierCensusRow.holds Try.pinned (OpenSpec.ofChange fnTierCensusWrong)

end Rows
end Go.Proofs.Qxb6626308a
