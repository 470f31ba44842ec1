/- The lock table's zero value (3,220 cells), behind a name: what the road reads of it. -/
import Derived.Test.YbulkdtfgDoorRows
import Derived.WalkKit
import Derived.WalkSpells
import Derived.WalkLawsBesides
import Derived.BigQuiet
import Derived.Deep.QuietTactic
import Derived.LaidEqlPtr
import Derived.KernelRfl
namespace Go.Proofs.YbulkdtfgDoor
open Go.RowKit

/-- What the road reads of the zero lock table's cells Z. -/
structure ZeroTab (Z : Array Value) : Prop where
  zero : Ybad.t57.zero = some (.agg Z)
  size : Z.size = 3220
  seq : Z[3209]? = some (.int .u64 0)
  ready : Z[3210]? = some (.slice none 0 0)
  draining : Z[3211]? = some (.bool false)
  stats : Z[3212]? = some (.int .i64 0) ∧ Z[3213]? = some (.int .i64 0) ∧ Z[3214]? = some (.int .i64 0) ∧ Z[3215]? = some (.int .i64 0) ∧ Z[3216]? = some (.int .i64 0) ∧ Z[3217]? = some (.int .i64 0) ∧ Z[3218]? = some (.int .i64 0)
  observe : Z[3219]? = some .nilFunc

def isAggB : Value → Bool
  | .agg _ => true
  | _ => false

theorem z57a : Ybad.t57.zero.map isAggB = some true := by kernel_rfl
theorem z57size : Ybad.t57.zero.map (fun v => v.cells.size) = some 3220 := by kernel_rfl
theorem z3209 : Ybad.t57.zero.map (fun v => v.cells[3209]?) = some (some (.int .u64 0)) := by kernel_rfl
theorem z3210 : Ybad.t57.zero.map (fun v => v.cells[3210]?) = some (some (.slice none 0 0)) := by kernel_rfl
theorem z3211 : Ybad.t57.zero.map (fun v => v.cells[3211]?) = some (some (.bool false)) := by kernel_rfl
theorem z3212 : Ybad.t57.zero.map (fun v => v.cells[3212]?) = some (some (.int .i64 0)) := by kernel_rfl
theorem z3213 : Ybad.t57.zero.map (fun v => v.cells[3213]?) = some (some (.int .i64 0)) := by kernel_rfl
theorem z3214 : Ybad.t57.zero.map (fun v => v.cells[3214]?) = some (some (.int .i64 0)) := by kernel_rfl
theorem z3215 : Ybad.t57.zero.map (fun v => v.cells[3215]?) = some (some (.int .i64 0)) := by kernel_rfl
theorem z3216 : Ybad.t57.zero.map (fun v => v.cells[3216]?) = some (some (.int .i64 0)) := by kernel_rfl
theorem z3217 : Ybad.t57.zero.map (fun v => v.cells[3217]?) = some (some (.int .i64 0)) := by kernel_rfl
theorem z3218 : Ybad.t57.zero.map (fun v => v.cells[3218]?) = some (some (.int .i64 0)) := by kernel_rfl
theorem z3219 : Ybad.t57.zero.map (fun v => v.cells[3219]?) = some (some .nilFunc) := by kernel_rfl

theorem zeroTab_is : ∃ Z, ZeroTab Z := by
  obtain ⟨v, hv, ha⟩ := Option.map_eq_some_iff.1 z57a
  have get : ∀ {α : Type} {f : Value → α} {a : α}, Ybad.t57.zero.map f = some a → f v = a := fun {α f a} h => by
    rw [hv] at h
    exact Option.some.inj h
  cases v with
  | agg Z => exact ⟨Z, hv, get z57size, get z3209, get z3210, get z3211, ⟨get z3212, get z3213, get z3214, get z3215, get z3216, get z3217, get z3218⟩, get z3219⟩
  | _ => cases ha

/-- The lock table as the law builds it. -/
def tab (Z : Array Value) (r : Int) : Array Value := Z.setIfInBounds 3208 (.int .i64 r)
theorem tab_reserved {Z : Array Value} (h : ZeroTab Z) (r : Int) : (tab Z r)[3208]? = some (.int .i64 r) := by
  rw [tab, Array.getElem?_setIfInBounds, if_pos rfl, if_pos (by rw [h.size]; decide)]
theorem tab_else (Z : Array Value) (r : Int) {i : Nat} (h : 3208 ≠ i) : (tab Z r)[i]? = Z[i]? := by
  rw [tab, Array.getElem?_setIfInBounds, if_neg h]

set_option maxRecDepth 100000 in
theorem run_build57 {Z : Array Value} (h : ZeroTab Z) (r : Int) (w : World) : (Instr.build 57 #[(4, .int .i64 r)]).run Ybad.prog w = .ok (.agg (tab Z r)) w := by
  have hz : (zeroValue 57).run Ybad.prog w = .ok (.agg Z) w := by
    simp [zeroValue, Ybad.typeInfo57, h.zero]
  simp only [Instr.build, Sem.run_bind, hz, Result.andThen, run_underlying Ybad.underlying57]
  simp [Ybad.sizeOf44, Ybad.sizeOf46, Ybad.sizeOf22, Ybad.sizeOf50, Ybad.sizeOf3, Ybad.sizeOf52, Ybad.sizeOf4, Ybad.sizeOf54, Ybad.sizeOf55, Instr.fill, Value.cells, h.size, tab]
theorem run_box57 {Z : Array Value} (r : Int) (w : World) : (Instr.box 57 (.agg (tab Z r))).run Ybad.prog w = .ok (.pointer (some ⟨w.heap.size, 0, none⟩)) (w.alloc (.cells (tab Z r) 57)) := by
  simp [Instr.box, newVar, newRow, Value.cells]
end Go.Proofs.YbulkdtfgDoor
