/-
  No cell of these rows narrows 'for every input' (looked for: loops, veiled, ifaces, maps, wideKeys, modest, calm, conditions, laid).
  DERIVED. THE GIVEN ROWS OF THIS SEAT. 3 by the template 'for every input the law returns true; each argument reads behind the call as it read before'; 0 by the template 'total and deterministic' (their statements: Qxb6602950aTotals.lean).
  GIVEN WITH THE SEED: the statements are not yours to turn. If you find one false, say at which input.
  Laid BY PROGRAM, IN A SANDBOX (cutbox-rows.mjs): the forced cells as the released guide's own fill.sh prints them over the translation 237376d104c78904… (all of the seat's roots in one cut). By AI agents, Wed Nov 11 2026. No macro, syntax, notation, axiom, sorry.
-/
import Derived.Test.Qxb6602950aChecked
import GoSem.Claim
import GoSem.ClaimJoined
import GoSem.ClaimMapViews
import Derived.JoinedTies
import Derived.KernelRfl
namespace Go.Proofs.Qxb6602950a
/- THE CELL 'sum', in the pinned program and in every row, IS THE sha256 OF THE DUMP (.gsa) THAT Qxb6602950aProg.lean LOADS. Nothing in Lean hashes anything: it is a label: what it is worth is what the hold of that sum in a sandbox is worth. -/
noncomputable def Try.pinned : Pinned := { name := "qxb6602950a", sum := "237376d104c78904f787c7a2bdcdd7185bae5c17a4d4f73c8002f47fc6d15195", checked := Try.checked }
namespace Rows
def none {H : Type} : Left H := { results := [], args := [] }

/-- 'zzlaws_sched_b1.FnLevelsMatchSortedModel': WHATEVER THE INPUT: true; the input reads as it did. -/
def fnLevelsMatchSortedModelSpec : ChangeSpec := { name := "fnLevelsMatchSortedModel", fn := fun _ => fun
  | [d1, d2, d3] => { results := [.lit (.bool true)], args := [d1, d2, d3] }
  | _ => none }
def fnLevelsMatchSortedModelRow : OpenClaim := { program := "qxb6602950a", sum := "237376d104c78904f787c7a2bdcdd7185bae5c17a4d4f73c8002f47fc6d15195", func := "example.com/fairway/fairway/zzlaws_sched_b1.FnLevelsMatchSortedModel", spec := "fnLevelsMatchSortedModel", recurses := true, apart := false }
def FnLevelsMatchSortedModelSaid : Prop := fnLevelsMatchSortedModelRow.holds Try.pinned (OpenSpec.ofChange fnLevelsMatchSortedModelSpec)

/-- ITS FALSE NEIGHBOUR: 'it returns false'. Refute it at one input. -/
def fnLevelsMatchSortedModelWrong : ChangeSpec := { name := "fnLevelsMatchSortedModel", fn := fun _ => fun
  | [d1, d2, d3] => { results := [.lit (.bool false)], args := [d1, d2, d3] }
  | _ => none }
def FnLevelsMatchSortedModelWrongFalsely : Prop := fnLevelsMatchSortedModelRow.holds Try.pinned (OpenSpec.ofChange fnLevelsMatchSortedModelWrong)

/-- 'zzlaws_sched_b1.FnLevelsIgnoreOrderOfUsed': WHATEVER THE INPUT: true; the input reads as it did. -/
def fnLevelsIgnoreOrderOfUsedSpec : ChangeSpec := { name := "fnLevelsIgnoreOrderOfUsed", fn := fun _ => fun
  | [d1, d2] => { results := [.lit (.bool true)], args := [d1, d2] }
  | _ => none }
def fnLevelsIgnoreOrderOfUsedRow : OpenClaim := { program := "qxb6602950a", sum := "237376d104c78904f787c7a2bdcdd7185bae5c17a4d4f73c8002f47fc6d15195", func := "example.com/fairway/fairway/zzlaws_sched_b1.FnLevelsIgnoreOrderOfUsed", spec := "fnLevelsIgnoreOrderOfUsed", recurses := true, apart := false }
def FnLevelsIgnoreOrderOfUsedSaid : Prop := fnLevelsIgnoreOrderOfUsedRow.holds Try.pinned (OpenSpec.ofChange fnLevelsIgnoreOrderOfUsedSpec)

/-- ITS FALSE NEIGHBOUR: 'it returns false'. Refute it at one input. -/
def fnLevelsIgnoreOrderOfUsedWrong : ChangeSpec := { name := "fnLevelsIgnoreOrderOfUsed", fn := fun _ => fun
  | [d1, d2] => { results := [.lit (.bool false)], args := [d1, d2] }
  | _ => none }
def FnLevelsIgnoreOrderOfUsedWrongFalsely : Prop := fnLevelsIgnoreOrderOfUsedRow.holds Try.pinned (OpenSpec.ofChange fnLevelsIgnoreOrderOfUsedWrong)

/-- 'zzlaws_sched_b1.FnHashStateSeparatesOneWordChanges': WHATEVER THE INPUT: true; the input reads as it did. -/
def fnHashStateSeparatesOneWordChangesSpec : ChangeSpec := { name := "fnHashStateSeparatesOneWordChanges", fn := fun _ => fun
  | [d1, d2, d3, d4, d5, d6, d7, d8, d9, d10] => { results := [.lit (.bool true)], args := [d1, d2, d3, d4, d5, d6, d7, d8, d9, d10] }
  | _ => none }
def fnHashStateSeparatesOneWordChangesRow : OpenClaim := { program := "qxb6602950a", sum := "237376d104c78904f787c7a2bdcdd7185bae5c17a4d4f73c8002f47fc6d15195", func := "example.com/fairway/fairway/zzlaws_sched_b1.FnHashStateSeparatesOneWordChanges", spec := "fnHashStateSeparatesOneWordChanges", apart := false }
def FnHashStateSeparatesOneWordChangesSaid : Prop := fnHashStateSeparatesOneWordChangesRow.holds Try.pinned (OpenSpec.ofChange fnHashStateSeparatesOneWordChangesSpec)

/-- ITS FALSE NEIGHBOUR: 'it returns false'. Refute it at one input. -/
def fnHashStateSeparatesOneWordChangesWrong : ChangeSpec := { name := "fnHashStateSeparatesOneWordChanges", fn := fun _ => fun
  | [d1, d2, d3, d4, d5, d6, d7, d8, d9, d10] => { results := [.lit (.bool false)], args := [d1, d2, d3, d4, d5, d6, d7, d8, d9, d10] }
  | _ => none }
def FnHashStateSeparatesOneWordChangesWrongFalsely : Prop := fnHashStateSeparatesOneWordChangesRow.holds Try.pinned (OpenSpec.ofChange fnHashStateSeparatesOneWordChangesWrong)

end Rows
end Go.Proofs.Qxb6602950a
