/- From the rows' condition on the listed table to the one cell that the road reads. -/
import Derived.Test.YbulkdtfgDoorTrip
import Derived.Test.YbulkdtfgDoorCards
import Derived.Test.YbulkdtfgDoorTie
import Derived.ProofKit
import Derived.LaidMore
import Derived.OpenShut
import Derived.OpenVars
import Derived.Stop.Joined
import Derived.SevenTiedAt
namespace Go.Proofs.YbulkdtfgDoor
open Go.ChangeShapes Go.WideShapes Go.ChangeAt Go.RowKit

theorem own : ownKnob Ybad.prog.godebug = none := by kernel_rfl
theorem laidOut : laidOutB Ybad.prog = true := by kernel_rfl
theorem gComb : Rows.lawS5999CPartRow.laid.map (fun x => Ybad.prog.globalNamed x.1) = [some 0] := by kernel_rfl
theorem tComb : (Ybad.prog.globals[0]?).map (·.type) = some 119 := by kernel_rfl
theorem rowed : varsRowed Ybad.prog Rows.lawS5999CPartSpec.vars = true := by kernel_rfl

theorem door_met (os : Os) (args : Array Value) : laidMetH Ybad.prog Rows.lawS5999CPartRow.laid ((World.doorLaid Ybad.prog 400 os).forCall (fun _ _ => 0) ⟨#[], args, []⟩).memory :=
  laidMetH_of_parts3 (fuel := 8) (laidMet_of_run' 8 (by kernel_rfl) (by kernel_rfl)) (by kernel_rfl) (by kernel_rfl)

set_option maxRecDepth 100000 in
theorem of_laid {W : World} (h : laidMetH Ybad.prog Rows.lawS5999CPartRow.laid W) : W.cell? ⟨0, 0, none⟩ = some (.int .u8 0) := by
  rw [MakeChecks.laidMetH_plain _ _ _ (by kernel_rfl)] at h
  obtain ⟨ps, ⟨g0, t0, cs0, f0, p0, q0, hg0, ht0, hv0, hd0, _⟩, _⟩ := h
  have hg : g0 = 0 := by
    have := gComb
    simp only [Rows.lawS5999CPartRow, List.map_cons, List.map_nil, List.cons.injEq, and_true] at this
    exact Option.some.inj (hg0.symm.trans this)
  subst hg
  obtain rfl := Option.some.inj (tComb.symm.trans ht0)
  have hcell := World.var?_cell hg0 hv0 0
  have c118 : Ybad.prog.cellsOf 118 = 7 := by kernel_rfl
  have c72 : Ybad.prog.cellsOf 72 = 1 := by kernel_rfl
  obtain ⟨xs, m1, rfl, hx1, hlen, hn, hel⟩ := DataW.trod_array Ybad.underlying119 hd0
  have e0 := hel 0 (by decide)
  have hx2 := (Prod.mk.injEq .. ▸ hx1).1
  cases xs with
  | nil => simp at hn
  | cons x0 xr =>
    unfold Rows.laid_example_com_coarsen_coarsen_combination at hx2
    simp only [List.map_cons, DataW.agg.injEq, List.cons.injEq] at hx2
    have hx0 := hx2.1
    obtain ⟨ys, m2, rfl, hy1, _, hny, hely⟩ := DataW.trod_array (x := x0) Ybad.underlying118 e0
    have e1 := hely 0 (by decide)
    cases ys with
    | nil => simp at hny
    | cons y0 yr =>
      rw [hy1] at hx0
      simp only [List.map_cons, DataW.agg.injEq, List.cons.injEq] at hx0
      obtain ⟨k, e2, e3, _⟩ := DataW.trod_int (x := y0) Ybad.underlying72 e1
      have hk : k = 0 := by
        rw [e3] at hx0
        have := hx0.1
        simpa using this.symm
      subst hk
      simp only [c72, c118] at e2
      obtain ⟨l⟩ := cs0
      cases l with
      | nil => simp at e2
      | cons c r =>
        simp at e2
        subst e2
        simpa using hcell
end Go.Proofs.YbulkdtfgDoor
