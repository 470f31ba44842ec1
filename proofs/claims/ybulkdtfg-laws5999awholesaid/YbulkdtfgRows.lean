/-
  No cell of these rows narrows 'for every input' (looked for: loops, veiled, ifaces, maps, wideKeys, modest, calm, conditions, laid).
  DERIVED. THE GIVEN ROWS OF THIS SEAT. 1 by the template 'for every input the law returns true; each argument reads behind the call as it read before'; 0 by the template 'total and deterministic' (their statements: YbulkdtfgTotals.lean).
  GIVEN WITH THE SEED: the statements are not yours to turn. If you find one false, say at which input.
  Laid BY PROGRAM, IN A SANDBOX (cutbox-rows.mjs): the forced cells as the released guide's own fill.sh prints them over the translation 095970a4a107d6b4… (all of the seat's roots in one cut). By AI agents, Wed Nov 11 2026. No macro, syntax, notation, axiom, sorry.
-/
import Derived.Test.YbulkdtfgChecked
import GoSem.Claim
import GoSem.ClaimJoined
import GoSem.ClaimMapViews
import Derived.JoinedTies
import Derived.KernelRfl
namespace Go.Proofs.Ybulkdtfg
/- THE CELL 'sum', in the pinned program and in every row, IS THE sha256 OF THE DUMP (.gsa) THAT YbulkdtfgProg.lean LOADS. Nothing in Lean hashes anything: it is a label: what it is worth is what the hold of that sum in a sandbox is worth. -/
noncomputable def Yba.pinned : Pinned := { name := "ybulkdtfg", sum := "095970a4a107d6b4f6c8ad67d959af670d6dbaf5ada8f2ee7211af5c61ab11f2", checked := Yba.checked }
namespace Rows
def none {H : Type} : Left H := { results := [], args := [] }

/-- 'coarsen.LawS5999AWhole': WHATEVER THE INPUT: true; the input reads as it did. -/
def lawS5999AWholeSpec : ChangeSpec := { name := "lawS5999AWhole", fn := fun _ => fun
  | [d1, d2] => { results := [.lit (.bool true)], args := [d1, d2] }
  | _ => none }
def lawS5999AWholeRow : OpenClaim := { program := "ybulkdtfg", sum := "095970a4a107d6b4f6c8ad67d959af670d6dbaf5ada8f2ee7211af5c61ab11f2", func := "example.com/coarsen/coarsen.LawS5999AWhole", spec := "lawS5999AWhole", apart := false }
def LawS5999AWholeSaid : Prop := lawS5999AWholeRow.holds Yba.pinned (OpenSpec.ofChange lawS5999AWholeSpec)

/-- ITS FALSE NEIGHBOUR: 'it returns false'. Refute it at one input. -/
def lawS5999AWholeWrong : ChangeSpec := { name := "lawS5999AWhole", fn := fun _ => fun
  | [d1, d2] => { results := [.lit (.bool false)], args := [d1, d2] }
  | _ => none }
def LawS5999AWholeWrongFalsely : Prop := lawS5999AWholeRow.holds Yba.pinned (OpenSpec.ofChange lawS5999AWholeWrong)

end Rows
end Go.Proofs.Ybulkdtfg
