/-
  DERIVED. GIVEN WITH THE SEED: THE CARDS: each row of YbulkdtfgDoorRows.lean that lists a variable, with what it lists TIED to the program's text (the seventh form; the later family's looks); each row that meets fmt, with fmt's text TOLD by the authors' own Lean function (tested against real Go, not proved from fmt's source: count such statements apart). THE CARD IS WHAT COUNTS. Prove the row's statement (the work); the ties are given (YbulkdtfgDoorTie.lean); close each card by the builder's one call (the guide's Derived/Test/ToyasCard.lean, 'card_holds'). Laid BY PROGRAM, IN A SANDBOX (cutbox-door.mjs). By AI agents, Wed Nov 11 2026. No macro, syntax, notation, axiom, sorry.
-/
import Derived.Test.YbulkdtfgDoorRows
import GoSem.ClaimSeven
namespace Go.Proofs.YbulkdtfgDoor
namespace Rows

/-- THE TIED CARD OF 'coarsen.LawS5999CPart'. -/
def lawS5999CPartCard : Claim7 := { stood := { row := lawS5999CPartRow, standIns := [], harness := (true, "4f8ced6cac7bced4c87f59fd90cc2b59d3414d88f91bbeb1959fc0c8483350f6"), looks := false }, kinds := [], alts := [], laidByText := true, laidKinds := [.data], laidTests := true, laidLooks := .later }
def LawS5999CPartCardSaid : Prop := Claim7.holds Ybad.pinned (.plain (OpenSpec.ofChange lawS5999CPartSpec)) lawS5999CPartCard

/-- THE TIED CARD OF 'coarsen.LawS5999CRoundTrip'. -/
def lawS5999CRoundTripCard : Claim7 := { stood := { row := lawS5999CRoundTripRow, standIns := [], harness := (true, "4f8ced6cac7bced4c87f59fd90cc2b59d3414d88f91bbeb1959fc0c8483350f6"), looks := false }, kinds := [], alts := [], laidByText := true, laidKinds := [.data], laidTests := true, laidLooks := .later }
def LawS5999CRoundTripCardSaid : Prop := Claim7.holds Ybad.pinned (.plain (OpenSpec.ofChange lawS5999CRoundTripSpec)) lawS5999CRoundTripCard
end Rows
end Go.Proofs.YbulkdtfgDoor
