/-
  DERIVED. GIVEN WITH THE SEED: THE CARDS: each row of Qxb6602950aDoorRows.lean that lists a variable, with what it lists TIED to the program's text (the seventh form; the later family's looks); each row that meets fmt, with fmt's text TOLD by the authors' own Lean function (tested against real Go, not proved from fmt's source: count such statements apart). THE CARD IS WHAT COUNTS. Prove the row's statement (the work); the ties are given (Qxb6602950aDoorTie.lean); close each card by the builder's one call (the guide's Derived/Test/ToyasCard.lean, 'card_holds'). Laid BY PROGRAM, IN A SANDBOX (cutbox-door.mjs). By AI agents, Wed Nov 11 2026. No macro, syntax, notation, axiom, sorry.
-/
import Derived.Test.Qxb6602950aDoorRows
import GoSem.ClaimSeven
namespace Go.Proofs.Qxb6602950aDoor
namespace Rows

/-- THE TIED CARD OF 'zzlaws_sched_b1.FnHoldsNotInComplementsIn'. -/
def fnHoldsNotInComplementsInCard : Claim7 := { stood := { row := fnHoldsNotInComplementsInRow, standIns := [], harness := (true, "756a2ec61bbc5e6939279f098f3ceb17a90c9a0db8e911e718641ba564c7dc7e"), looks := true }, kinds := [], alts := [], laidByText := true, laidKinds := [.data, .data, .data, .sentinel, .sentinel], laidTests := true, laidLooks := .later }
def FnHoldsNotInComplementsInCardSaid : Prop := Claim7.holds Tryd.pinned (.plain (OpenSpec.ofChange fnHoldsNotInComplementsInSpec)) fnHoldsNotInComplementsInCard

/-- THE TIED CARD OF 'zzlaws_sched_b1.FnHoldsMatchesCaseTable'. -/
def fnHoldsMatchesCaseTableCard : Claim7 := { stood := { row := fnHoldsMatchesCaseTableRow, standIns := [], harness := (true, "756a2ec61bbc5e6939279f098f3ceb17a90c9a0db8e911e718641ba564c7dc7e"), looks := true }, kinds := [], alts := [], laidByText := true, laidKinds := [.data, .data, .data, .sentinel, .sentinel], laidTests := true, laidLooks := .later }
def FnHoldsMatchesCaseTableCardSaid : Prop := Claim7.holds Tryd.pinned (.plain (OpenSpec.ofChange fnHoldsMatchesCaseTableSpec)) fnHoldsMatchesCaseTableCard

/-- THE TIED CARD OF 'zzlaws_sched_b1.FnHoldsGtLtStrictOrder'. -/
def fnHoldsGtLtStrictOrderCard : Claim7 := { stood := { row := fnHoldsGtLtStrictOrderRow, standIns := [], harness := (true, "756a2ec61bbc5e6939279f098f3ceb17a90c9a0db8e911e718641ba564c7dc7e"), looks := true }, kinds := [], alts := [], laidByText := true, laidKinds := [.data, .data, .data, .sentinel, .sentinel], laidTests := true, laidLooks := .later }
def FnHoldsGtLtStrictOrderCardSaid : Prop := Claim7.holds Tryd.pinned (.plain (OpenSpec.ofChange fnHoldsGtLtStrictOrderSpec)) fnHoldsGtLtStrictOrderCard
end Rows
end Go.Proofs.Qxb6602950aDoor
