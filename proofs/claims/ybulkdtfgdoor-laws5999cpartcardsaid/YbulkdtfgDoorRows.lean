/-
  NARROWER THAN 'FOR EVERY INPUT', by the rows' own cells (each row's printed sentence says how): LawS5999CPart: laid · LawS5999CRoundTrip: laid.
  DERIVED. THE GIVEN ROWS OF THIS SEAT. 2 by the template 'for every input the law returns true; each argument reads behind the call as it read before'; 0 by the template 'total and deterministic' (their statements: YbulkdtfgDoorTotals.lean).
  GIVEN WITH THE SEED: the statements are not yours to turn. If you find one false, say at which input.
  Laid BY PROGRAM, IN A SANDBOX (cutbox-rows.mjs): the forced cells as the released guide's own fill.sh prints them over the translation 819249ab86e12306… (all of the seat's roots in one cut). By AI agents, Wed Nov 11 2026. No macro, syntax, notation, axiom, sorry.
-/
import Derived.Test.YbulkdtfgDoorChecked
import GoSem.Claim
import GoSem.ClaimJoined
import GoSem.ClaimMapViews
import Derived.JoinedTies
import Derived.KernelRfl
namespace Go.Proofs.YbulkdtfgDoor
/- THE CELL 'sum', in the pinned program and in every row, IS THE sha256 OF THE DUMP (.gsa) THAT YbulkdtfgDoorProg.lean LOADS. Nothing in Lean hashes anything: it is a label: what it is worth is what the hold of that sum in a sandbox is worth. -/
noncomputable def Ybad.pinned : Pinned := { name := "ybulkdtfgdoor", sum := "819249ab86e123067a1299b50bd67cbae4d9535d764cbabf2aa97a64dc27d1b1", checked := Ybad.checked }
namespace Rows
def none {H : Type} : Left H := { results := [], args := [] }

/- WHAT THE LISTED PACKAGE-LEVEL VARIABLES READ AS WHEN THE CALL BEGINS. Each datum BY PROGRAM (the guide's laid-datum.mjs) off the statement by which the dump's own 'gosem.cut.vars' lays the variable. In a bare row this is a premise. The card (YbulkdtfgDoorCards.lean) ties it to the program's text. -/
def laid_example_com_coarsen_coarsen_combination {H : Type} : DataW H := .agg [.agg [.lit (.int .u8 0), .lit (.int .u8 1), .lit (.int .u8 2), .lit (.int .u8 3), .lit (.int .u8 4), .lit (.int .u8 5), .lit (.int .u8 6)], .agg [.lit (.int .u8 0), .lit (.int .u8 1), .lit (.int .u8 2), .lit (.int .u8 3), .lit (.int .u8 4), .lit (.int .u8 5), .lit (.int .u8 6)], .agg [.lit (.int .u8 0), .lit (.int .u8 2), .lit (.int .u8 2), .lit (.int .u8 4), .lit (.int .u8 4), .lit (.int .u8 5), .lit (.int .u8 5)], .agg [.lit (.int .u8 0), .lit (.int .u8 3), .lit (.int .u8 4), .lit (.int .u8 3), .lit (.int .u8 4), .lit (.int .u8 5), .lit (.int .u8 6)], .agg [.lit (.int .u8 0), .lit (.int .u8 4), .lit (.int .u8 4), .lit (.int .u8 4), .lit (.int .u8 4), .lit (.int .u8 5), .lit (.int .u8 5)], .agg [.lit (.int .u8 0), .lit (.int .u8 5), .lit (.int .u8 5), .lit (.int .u8 5), .lit (.int .u8 5), .lit (.int .u8 5), .lit (.int .u8 5)], .agg [.lit (.int .u8 0), .lit (.int .u8 6), .lit (.int .u8 5), .lit (.int .u8 6), .lit (.int .u8 5), .lit (.int .u8 5), .lit (.int .u8 6)]]

/-- 'coarsen.LawS5999CPart': WHATEVER THE INPUT: true; the input reads as it did. -/
def lawS5999CPartSpec : ChangeSpec := { name := "lawS5999CPart", vars := ["example.com/coarsen/coarsen.combination"], fn := fun _ => fun
  | [d1, d2, d3, d4, g1] => { results := [.lit (.bool true)], args := [d1, d2, d3, d4], vars := [g1] }
  | _ => none }
def lawS5999CPartRow : OpenClaim := { program := "ybulkdtfgdoor", sum := "819249ab86e123067a1299b50bd67cbae4d9535d764cbabf2aa97a64dc27d1b1", func := "example.com/coarsen/coarsen.LawS5999CPart", spec := "lawS5999CPart", inPlace := ["slices.overlaps[*example.com/coarsen/coarsen.request]"], unfollowed := true, recurses := true, named := ["example.com/coarsen/coarsen.combination"], apart := false, laid := [("example.com/coarsen/coarsen.combination", laid_example_com_coarsen_coarsen_combination)] }
def LawS5999CPartSaid : Prop := lawS5999CPartRow.holds Ybad.pinned (OpenSpec.ofChange lawS5999CPartSpec)

/-- ITS FALSE NEIGHBOUR: 'it returns false'. Refute it at one input. -/
def lawS5999CPartWrong : ChangeSpec := { name := "lawS5999CPart", vars := ["example.com/coarsen/coarsen.combination"], fn := fun _ => fun
  | [d1, d2, d3, d4, g1] => { results := [.lit (.bool false)], args := [d1, d2, d3, d4], vars := [g1] }
  | _ => none }
def LawS5999CPartWrongFalsely : Prop := lawS5999CPartRow.holds Ybad.pinned (OpenSpec.ofChange lawS5999CPartWrong)

/-- 'coarsen.LawS5999CRoundTrip': WHATEVER THE INPUT: true; the input reads as it did. -/
def lawS5999CRoundTripSpec : ChangeSpec := { name := "lawS5999CRoundTrip", vars := ["example.com/coarsen/coarsen.combination"], fn := fun _ => fun
  | [d1, d2, d3, d4, g1] => { results := [.lit (.bool true)], args := [d1, d2, d3, d4], vars := [g1] }
  | _ => none }
def lawS5999CRoundTripRow : OpenClaim := { program := "ybulkdtfgdoor", sum := "819249ab86e123067a1299b50bd67cbae4d9535d764cbabf2aa97a64dc27d1b1", func := "example.com/coarsen/coarsen.LawS5999CRoundTrip", spec := "lawS5999CRoundTrip", inPlace := ["slices.overlaps[*example.com/coarsen/coarsen.request]"], unfollowed := true, recurses := true, named := ["example.com/coarsen/coarsen.combination"], apart := false, laid := [("example.com/coarsen/coarsen.combination", laid_example_com_coarsen_coarsen_combination)] }
def LawS5999CRoundTripSaid : Prop := lawS5999CRoundTripRow.holds Ybad.pinned (OpenSpec.ofChange lawS5999CRoundTripSpec)

/-- ITS FALSE NEIGHBOUR: 'it returns false'. Refute it at one input. -/
def lawS5999CRoundTripWrong : ChangeSpec := { name := "lawS5999CRoundTrip", vars := ["example.com/coarsen/coarsen.combination"], fn := fun _ => fun
  | [d1, d2, d3, d4, g1] => { results := [.lit (.bool false)], args := [d1, d2, d3, d4], vars := [g1] }
  | _ => none }
def LawS5999CRoundTripWrongFalsely : Prop := lawS5999CRoundTripRow.holds Ybad.pinned (OpenSpec.ofChange lawS5999CRoundTripWrong)

end Rows
end Go.Proofs.YbulkdtfgDoor
