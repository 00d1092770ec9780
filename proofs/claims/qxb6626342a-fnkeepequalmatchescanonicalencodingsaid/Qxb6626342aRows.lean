/-
  No cell of these rows narrows 'for every input' (looked for: loops, veiled, ifaces, maps, wideKeys, modest, calm, conditions, laid).
  DERIVED. THE GIVEN ROWS OF THIS SEAT. 2 by the template 'for every input the law returns true; each argument reads behind the call as it read before'; 0 by the template 'total and deterministic' (their statements: Qxb6626342aTotals.lean).
  GIVEN WITH THE SEED: the statements are not yours to turn. If you find one false, say at which input.
  Laid BY PROGRAM, IN A SANDBOX (cutbox-rows.mjs): the forced cells as the released guide's own fill.sh prints them over the translation 92e112b38265163c… (all of the seat's roots in one cut). By AI agents, Wed Nov 11 2026. No macro, syntax, notation, axiom, sorry.
-/
import Derived.Test.Qxb6626342aChecked
import GoSem.Claim
import GoSem.ClaimJoined
import GoSem.ClaimMapViews
import Derived.JoinedTies
import Derived.KernelRfl
namespace Go.Proofs.Qxb6626342a
/- THE CELL 'sum', in the pinned program and in every row, IS THE sha256 OF THE DUMP (.gsa) THAT Qxb6626342aProg.lean LOADS. Nothing in Lean hashes anything: it is a label: what it is worth is what the hold of that sum in a sandbox is worth. -/
noncomputable def Try.pinned : Pinned := { name := "qxb6626342a", sum := "92e112b38265163cd1599ef7133e0422311480fa9df1a036213d47f043352140", checked := Try.checked }
namespace Rows
def none {H : Type} : Left H := { results := [], args := [] }

/-- 'zzlaws_internal_resource_b1.FnKeepEqualMatchesCanonicalEncoding': WHATEVER THE INPUT: true; the input reads as it did. -/
def fnKeepEqualMatchesCanonicalEncodingSpec : ChangeSpec := { name := "fnKeepEqualMatchesCanonicalEncoding", fn := fun _ => fun
  | [d1, d2, d3, d4] => { results := [.lit (.bool true)], args := [d1, d2, d3, d4] }
  | _ => none }
def fnKeepEqualMatchesCanonicalEncodingRow : OpenClaim := { program := "qxb6626342a", sum := "92e112b38265163cd1599ef7133e0422311480fa9df1a036213d47f043352140", func := "example.com/pulsekeeper/pulsekeeper/zzlaws_internal_resource_b1.FnKeepEqualMatchesCanonicalEncoding", spec := "fnKeepEqualMatchesCanonicalEncoding", apart := false }
def FnKeepEqualMatchesCanonicalEncodingSaid : Prop := fnKeepEqualMatchesCanonicalEncodingRow.holds Try.pinned (OpenSpec.ofChange fnKeepEqualMatchesCanonicalEncodingSpec)

/-- ITS FALSE NEIGHBOUR: 'it returns false'. Refute it at one input. -/
def fnKeepEqualMatchesCanonicalEncodingWrong : ChangeSpec := { name := "fnKeepEqualMatchesCanonicalEncoding", fn := fun _ => fun
  | [d1, d2, d3, d4] => { results := [.lit (.bool false)], args := [d1, d2, d3, d4] }
  | _ => none }
def FnKeepEqualMatchesCanonicalEncodingWrongFalsely : Prop := fnKeepEqualMatchesCanonicalEncodingRow.holds Try.pinned (OpenSpec.ofChange fnKeepEqualMatchesCanonicalEncodingWrong)

/-- 'zzlaws_internal_resource_b1.FnKeepEqualDetectsOneChange': WHATEVER THE INPUT: true; the input reads as it did. -/
def fnKeepEqualDetectsOneChangeSpec : ChangeSpec := { name := "fnKeepEqualDetectsOneChange", fn := fun _ => fun
  | [d1, d2, d3, d4, d5, d6] => { results := [.lit (.bool true)], args := [d1, d2, d3, d4, d5, d6] }
  | _ => none }
def fnKeepEqualDetectsOneChangeRow : OpenClaim := { program := "qxb6626342a", sum := "92e112b38265163cd1599ef7133e0422311480fa9df1a036213d47f043352140", func := "example.com/pulsekeeper/pulsekeeper/zzlaws_internal_resource_b1.FnKeepEqualDetectsOneChange", spec := "fnKeepEqualDetectsOneChange", apart := false }
def FnKeepEqualDetectsOneChangeSaid : Prop := fnKeepEqualDetectsOneChangeRow.holds Try.pinned (OpenSpec.ofChange fnKeepEqualDetectsOneChangeSpec)

/-- ITS FALSE NEIGHBOUR: 'it returns false'. Refute it at one input. -/
def fnKeepEqualDetectsOneChangeWrong : ChangeSpec := { name := "fnKeepEqualDetectsOneChange", fn := fun _ => fun
  | [d1, d2, d3, d4, d5, d6] => { results := [.lit (.bool false)], args := [d1, d2, d3, d4, d5, d6] }
  | _ => none }
def FnKeepEqualDetectsOneChangeWrongFalsely : Prop := fnKeepEqualDetectsOneChangeRow.holds Try.pinned (OpenSpec.ofChange fnKeepEqualDetectsOneChangeWrong)

end Rows
end Go.Proofs.Qxb6626342a
