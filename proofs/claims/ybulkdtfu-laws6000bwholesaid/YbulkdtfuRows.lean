/-
  No cell of these rows narrows 'for every input' (looked for: loops, veiled, ifaces, maps, wideKeys, modest, calm, conditions, laid).
  DERIVED. THE GIVEN ROWS OF THIS SEAT. 2 by the template 'for every input the law returns true; each argument reads behind the call as it read before'; 0 by the template 'total and deterministic' (their statements: YbulkdtfuTotals.lean).
  GIVEN WITH THE SEED: the statements are not yours to turn. If you find one false, say at which input.
  Laid BY PROGRAM, IN A SANDBOX (cutbox-rows.mjs): the forced cells as the released guide's own fill.sh prints them over the translation 13e5dd7fb6841b68… (all of the seat's roots in one cut). By AI agents, Wed Nov 11 2026. No macro, syntax, notation, axiom, sorry.
-/
import Derived.Test.YbulkdtfuChecked
import GoSem.Claim
import GoSem.ClaimJoined
import GoSem.ClaimMapViews
import Derived.JoinedTies
import Derived.KernelRfl
namespace Go.Proofs.Ybulkdtfu
/- THE CELL 'sum', in the pinned program and in every row, IS THE sha256 OF THE DUMP (.gsa) THAT YbulkdtfuProg.lean LOADS. Nothing in Lean hashes anything: it is a label: what it is worth is what the hold of that sum in a sandbox is worth. -/
noncomputable def Yba.pinned : Pinned := { name := "ybulkdtfu", sum := "13e5dd7fb6841b68b6442f47bb5acef8268e86e7f8b6da34dc5b1cf73d6586ad", checked := Yba.checked }
namespace Rows
def none {H : Type} : Left H := { results := [], args := [] }

/-- 'redir.LawS6000AWhole': WHATEVER THE INPUT: true; the input reads as it did. -/
def lawS6000AWholeSpec : ChangeSpec := { name := "lawS6000AWhole", fn := fun _ => fun
  | [d1, d2] => { results := [.lit (.bool true)], args := [d1, d2] }
  | _ => none }
def lawS6000AWholeRow : OpenClaim := { program := "ybulkdtfu", sum := "13e5dd7fb6841b68b6442f47bb5acef8268e86e7f8b6da34dc5b1cf73d6586ad", func := "example.com/fairhash/fairhash/pkg/redir.LawS6000AWhole", spec := "lawS6000AWhole", inPlace := ["math.Float64bits"], apart := false }
def LawS6000AWholeSaid : Prop := lawS6000AWholeRow.holds Yba.pinned (OpenSpec.ofChange lawS6000AWholeSpec)

/-- ITS FALSE NEIGHBOUR: 'it returns false'. Refute it at one input. -/
def lawS6000AWholeWrong : ChangeSpec := { name := "lawS6000AWhole", fn := fun _ => fun
  | [d1, d2] => { results := [.lit (.bool false)], args := [d1, d2] }
  | _ => none }
def LawS6000AWholeWrongFalsely : Prop := lawS6000AWholeRow.holds Yba.pinned (OpenSpec.ofChange lawS6000AWholeWrong)

/-- 'alloc.LawS6000BWhole': WHATEVER THE INPUT: true; the input reads as it did. -/
def lawS6000BWholeSpec : ChangeSpec := { name := "lawS6000BWhole", fn := fun _ => fun
  | [d1, d2, d3, d4, d5, d6, d7, d8] => { results := [.lit (.bool true)], args := [d1, d2, d3, d4, d5, d6, d7, d8] }
  | _ => none }
def lawS6000BWholeRow : OpenClaim := { program := "ybulkdtfu", sum := "13e5dd7fb6841b68b6442f47bb5acef8268e86e7f8b6da34dc5b1cf73d6586ad", func := "example.com/fairhash/fairhash/pkg/alloc.LawS6000BWhole", spec := "lawS6000BWhole", inPlace := ["math/bits.Add64"], recurses := true, apart := false }
def LawS6000BWholeSaid : Prop := lawS6000BWholeRow.holds Yba.pinned (OpenSpec.ofChange lawS6000BWholeSpec)

/-- ITS FALSE NEIGHBOUR: 'it returns false'. Refute it at one input. -/
def lawS6000BWholeWrong : ChangeSpec := { name := "lawS6000BWhole", fn := fun _ => fun
  | [d1, d2, d3, d4, d5, d6, d7, d8] => { results := [.lit (.bool false)], args := [d1, d2, d3, d4, d5, d6, d7, d8] }
  | _ => none }
def LawS6000BWholeWrongFalsely : Prop := lawS6000BWholeRow.holds Yba.pinned (OpenSpec.ofChange lawS6000BWholeWrong)

end Rows
end Go.Proofs.Ybulkdtfu
