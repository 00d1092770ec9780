/-
  No cell of these rows narrows 'for every input' (looked for: loops, veiled, ifaces, maps, wideKeys, modest, calm, conditions, laid).
  DERIVED. THE GIVEN ROWS OF THIS SEAT. 2 by the template 'for every input the law returns true; each argument reads behind the call as it read before'; 0 by the template 'total and deterministic' (their statements: Qxb6626242aTotals.lean).
  GIVEN WITH THE SEED: the statements are not yours to turn. If you find one false, say at which input.
  Laid BY PROGRAM, IN A SANDBOX (cutbox-rows.mjs): the forced cells as the released guide's own fill.sh prints them over the translation 279d70157c412975… (all of the seat's roots in one cut). By AI agents, Wed Nov 11 2026. No macro, syntax, notation, axiom, sorry.
-/
import Derived.Test.Qxb6626242aChecked
import GoSem.Claim
import GoSem.ClaimJoined
import GoSem.ClaimMapViews
import Derived.JoinedTies
import Derived.KernelRfl
namespace Go.Proofs.Qxb6626242a
/- THE CELL 'sum', in the pinned program and in every row, IS THE sha256 OF THE DUMP (.gsa) THAT Qxb6626242aProg.lean LOADS. Nothing in Lean hashes anything: it is a label: what it is worth is what the hold of that sum in a sandbox is worth. -/
noncomputable def Try.pinned : Pinned := { name := "qxb6626242a", sum := "279d70157c41297519a8504590603e52ece2ceb94751a9576ff27419c4021f0e", checked := Try.checked }
namespace Rows
def none {H : Type} : Left H := { results := [], args := [] }

/-- 'zzlaws_root_b1.FnWithinJoinAtAnyCut': WHATEVER THE INPUT: true; the input reads as it did. -/
def fnWithinJoinAtAnyCutSpec : ChangeSpec := { name := "fnWithinJoinAtAnyCut", fn := fun _ => fun
  | [d1, d2, d3, d4] => { results := [.lit (.bool true)], args := [d1, d2, d3, d4] }
  | _ => none }
def fnWithinJoinAtAnyCutRow : OpenClaim := { program := "qxb6626242a", sum := "279d70157c41297519a8504590603e52ece2ceb94751a9576ff27419c4021f0e", func := "example.com/well-formed-templates/well-formed-templates/zzlaws_root_b1.FnWithinJoinAtAnyCut", spec := "fnWithinJoinAtAnyCut", apart := false }
def FnWithinJoinAtAnyCutSaid : Prop := fnWithinJoinAtAnyCutRow.holds Try.pinned (OpenSpec.ofChange fnWithinJoinAtAnyCutSpec)

/-- ITS FALSE NEIGHBOUR: 'it returns false'. Refute it at one input. -/
def fnWithinJoinAtAnyCutWrong : ChangeSpec := { name := "fnWithinJoinAtAnyCut", fn := fun _ => fun
  | [d1, d2, d3, d4] => { results := [.lit (.bool false)], args := [d1, d2, d3, d4] }
  | _ => none }
def FnWithinJoinAtAnyCutWrongFalsely : Prop := fnWithinJoinAtAnyCutRow.holds Try.pinned (OpenSpec.ofChange fnWithinJoinAtAnyCutWrong)

/-- 'zzlaws_root_b1.FnWithinChainKeepsTotals': WHATEVER THE INPUT: true; the input reads as it did. -/
def fnWithinChainKeepsTotalsSpec : ChangeSpec := { name := "fnWithinChainKeepsTotals", fn := fun _ => fun
  | [d] => { results := [.lit (.bool true)], args := [d] }
  | _ => none }
def fnWithinChainKeepsTotalsRow : OpenClaim := { program := "qxb6626242a", sum := "279d70157c41297519a8504590603e52ece2ceb94751a9576ff27419c4021f0e", func := "example.com/well-formed-templates/well-formed-templates/zzlaws_root_b1.FnWithinChainKeepsTotals", spec := "fnWithinChainKeepsTotals", apart := false }
def FnWithinChainKeepsTotalsSaid : Prop := fnWithinChainKeepsTotalsRow.holds Try.pinned (OpenSpec.ofChange fnWithinChainKeepsTotalsSpec)

/-- ITS FALSE NEIGHBOUR: 'it returns false'. Refute it at one input. -/
def fnWithinChainKeepsTotalsWrong : ChangeSpec := { name := "fnWithinChainKeepsTotals", fn := fun _ => fun
  | [d] => { results := [.lit (.bool false)], args := [d] }
  | _ => none }
def FnWithinChainKeepsTotalsWrongFalsely : Prop := fnWithinChainKeepsTotalsRow.holds Try.pinned (OpenSpec.ofChange fnWithinChainKeepsTotalsWrong)

end Rows
end Go.Proofs.Qxb6626242a
