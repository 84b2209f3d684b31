/-
  No cell of these rows narrows 'for every input' (looked for: loops, veiled, ifaces, maps, wideKeys, modest, calm, conditions, laid).
  DERIVED. THE GIVEN ROWS OF THIS SEAT. 3 by the template 'for every input the law returns true; each argument reads behind the call as it read before'; 0 by the template 'total and deterministic' (their statements: Qxb6603638aTotals.lean).
  GIVEN WITH THE SEED: the statements are not yours to turn. If you find one false, say at which input.
  Laid BY PROGRAM, IN A SANDBOX (cutbox-rows.mjs): the forced cells as the released guide's own fill.sh prints them over the translation ad528d03662d0519… (all of the seat's roots in one cut). By AI agents, Wed Nov 11 2026. No macro, syntax, notation, axiom, sorry.
-/
import Derived.Test.Qxb6603638aChecked
import GoSem.Claim
import GoSem.ClaimJoined
import GoSem.ClaimMapViews
import Derived.JoinedTies
import Derived.KernelRfl
namespace Go.Proofs.Qxb6603638a
/- THE CELL 'sum', in the pinned program and in every row, IS THE sha256 OF THE DUMP (.gsa) THAT Qxb6603638aProg.lean LOADS. Nothing in Lean hashes anything: it is a label: what it is worth is what the hold of that sum in a sandbox is worth. -/
noncomputable def Try.pinned : Pinned := { name := "qxb6603638a", sum := "ad528d03662d0519409d43b4bbf5a17e6ddb018a112a6df5205269ef6028758d", checked := Try.checked }
namespace Rows
def none {H : Type} : Left H := { results := [], args := [] }

/-- 'zzlaws_pkg_routing_b1.FnBucketHasFindsEachAndAgreesWithWithout': WHATEVER THE INPUT: true; the input reads as it did. -/
def fnBucketHasFindsEachAndAgreesWithWithoutSpec : ChangeSpec := { name := "fnBucketHasFindsEachAndAgreesWithWithout", fn := fun _ => fun
  | [d1, d2] => { results := [.lit (.bool true)], args := [d1, d2] }
  | _ => none }
def fnBucketHasFindsEachAndAgreesWithWithoutRow : OpenClaim := { program := "qxb6603638a", sum := "ad528d03662d0519409d43b4bbf5a17e6ddb018a112a6df5205269ef6028758d", func := "example.com/peerline/peerline/zzlaws_pkg_routing_b1.FnBucketHasFindsEachAndAgreesWithWithout", spec := "fnBucketHasFindsEachAndAgreesWithWithout", apart := false }
def FnBucketHasFindsEachAndAgreesWithWithoutSaid : Prop := fnBucketHasFindsEachAndAgreesWithWithoutRow.holds Try.pinned (OpenSpec.ofChange fnBucketHasFindsEachAndAgreesWithWithoutSpec)

/-- ITS FALSE NEIGHBOUR: 'it returns false'. Refute it at one input. -/
def fnBucketHasFindsEachAndAgreesWithWithoutWrong : ChangeSpec := { name := "fnBucketHasFindsEachAndAgreesWithWithout", fn := fun _ => fun
  | [d1, d2] => { results := [.lit (.bool false)], args := [d1, d2] }
  | _ => none }
def FnBucketHasFindsEachAndAgreesWithWithoutWrongFalsely : Prop := fnBucketHasFindsEachAndAgreesWithWithoutRow.holds Try.pinned (OpenSpec.ofChange fnBucketHasFindsEachAndAgreesWithWithoutWrong)

/-- 'zzlaws_pkg_routing_b1.FnSwapScriptReverses': WHATEVER THE INPUT: true; the input reads as it did. -/
def fnSwapScriptReversesSpec : ChangeSpec := { name := "fnSwapScriptReverses", fn := fun _ => fun
  | [d] => { results := [.lit (.bool true)], args := [d] }
  | _ => none }
def fnSwapScriptReversesRow : OpenClaim := { program := "qxb6603638a", sum := "ad528d03662d0519409d43b4bbf5a17e6ddb018a112a6df5205269ef6028758d", func := "example.com/peerline/peerline/zzlaws_pkg_routing_b1.FnSwapScriptReverses", spec := "fnSwapScriptReverses", apart := false }
def FnSwapScriptReversesSaid : Prop := fnSwapScriptReversesRow.holds Try.pinned (OpenSpec.ofChange fnSwapScriptReversesSpec)

/-- ITS FALSE NEIGHBOUR: 'it returns false'. Refute it at one input. -/
def fnSwapScriptReversesWrong : ChangeSpec := { name := "fnSwapScriptReverses", fn := fun _ => fun
  | [d] => { results := [.lit (.bool false)], args := [d] }
  | _ => none }
def FnSwapScriptReversesWrongFalsely : Prop := fnSwapScriptReversesRow.holds Try.pinned (OpenSpec.ofChange fnSwapScriptReversesWrong)

/-- 'zzlaws_pkg_routing_b1.FnSwapChainMovesOneRank': WHATEVER THE INPUT: true; the input reads as it did. -/
def fnSwapChainMovesOneRankSpec : ChangeSpec := { name := "fnSwapChainMovesOneRank", fn := fun _ => fun
  | [d1, d2, d3] => { results := [.lit (.bool true)], args := [d1, d2, d3] }
  | _ => none }
def fnSwapChainMovesOneRankRow : OpenClaim := { program := "qxb6603638a", sum := "ad528d03662d0519409d43b4bbf5a17e6ddb018a112a6df5205269ef6028758d", func := "example.com/peerline/peerline/zzlaws_pkg_routing_b1.FnSwapChainMovesOneRank", spec := "fnSwapChainMovesOneRank", apart := false }
def FnSwapChainMovesOneRankSaid : Prop := fnSwapChainMovesOneRankRow.holds Try.pinned (OpenSpec.ofChange fnSwapChainMovesOneRankSpec)

/-- ITS FALSE NEIGHBOUR: 'it returns false'. Refute it at one input. -/
def fnSwapChainMovesOneRankWrong : ChangeSpec := { name := "fnSwapChainMovesOneRank", fn := fun _ => fun
  | [d1, d2, d3] => { results := [.lit (.bool false)], args := [d1, d2, d3] }
  | _ => none }
def FnSwapChainMovesOneRankWrongFalsely : Prop := fnSwapChainMovesOneRankRow.holds Try.pinned (OpenSpec.ofChange fnSwapChainMovesOneRankWrong)

end Rows
end Go.Proofs.Qxb6603638a
