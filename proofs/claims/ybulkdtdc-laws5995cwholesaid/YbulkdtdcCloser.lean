/- The closer's own Close: it counts the call, and notes what it saw. -/
import Derived.Test.YbulkdtdcSync
namespace Go.Proofs.Ybulkdtdc
open Go.RowKit

/-- A closer's block, before (d = false) and behind (d = true) its one call. S: the server's block; T: the counter's. -/
def clo (S T : Nat) (f d : Bool) : Obj := .cells #[.int .i64 (if d then 1 else 0), .int .i64 (if d then 1 else 0), .bool d, .bool f, .pointer (some ⟨S, 0, none⟩), .pointer (some ⟨T, 0, none⟩)] 56 (0, 0)

theorem cell_of_heap {w : World} {b o : Nat} {cs : Array Value} {t : TypeId} {fz : Nat × Nat} (h : w.heap[b]? = some (.cells cs t fz)) : w.cell? ⟨b, o, none⟩ = cs[o]? := by
  simp [World.cell?, h]
theorem frozen_of_heap {w : World} {b o : Nat} {cs : Array Value} {t : TypeId} (h : w.heap[b]? = some (.cells cs t (0, 0))) : w.frozen? ⟨b, o, none⟩ = false := by
  simp [World.frozen?, h]
theorem heap_setCell_at {w : World} {b o : Nat} {cs : Array Value} {t : TypeId} {fz : Nat × Nat} (v : Value) (h : w.heap[b]? = some (.cells cs t fz)) :
    (w.setCell ⟨b, o, none⟩ v).heap[b]? = some (.cells (cs.setIfInBounds o v) t fz) := by
  simp only [World.setCell, Array.getElem?_modify, h]
  simp
theorem heap_setCell_off {w : World} {a : Addr} {k : Nat} (v : Value) (h : k ≠ a.block) : (w.setCell a v).heap[k]? = w.heap[k]? := Below.heap_setCell w a v k h
theorem heap_alloc_old {w : World} {k : Nat} (o : Obj) (h : k < w.heap.size) : (w.alloc o).heap[k]? = w.heap[k]? := Below.heap_alloc w o k h

set_option maxRecDepth 100000 in
set_option maxHeartbeats 800000 in
theorem close57_ok (cb sb tb : Nat) (x1 x2 : Value) (w : World) (_hne : cb ≠ sb) (hnt : cb ≠ tb)
    (c0 : w.cell? ⟨cb, 0, none⟩ = some (.int .i64 0)) (c1 : w.cell? ⟨cb, 1, none⟩ = some x1) (c2 : w.cell? ⟨cb, 2, none⟩ = some x2) (c3 : w.cell? ⟨cb, 3, none⟩ = some (.bool false))
    (c4 : w.cell? ⟨cb, 4, none⟩ = some (.pointer (some ⟨sb, 0, none⟩))) (c5 : w.cell? ⟨cb, 5, none⟩ = some (.pointer (some ⟨tb, 0, none⟩)))
    (f0 : w.frozen? ⟨cb, 0, none⟩ = false) (f1 : w.frozen? ⟨cb, 1, none⟩ = false) (f2 : w.frozen? ⟨cb, 2, none⟩ = false)
    (ct : w.cell? ⟨tb, 0, none⟩ = some (.int .i64 1)) (cs : w.cell? ⟨sb, 11, none⟩ = some (.bool true)) :
    Calls Yba.prog 57 #[.pointer (some ⟨cb, 0, none⟩)] w fun e w' => e = .returned .nilIface ∧ w' = ((w.setCell ⟨cb, 0, none⟩ (.int .i64 1)).setCell ⟨cb, 1, none⟩ (.int .i64 1)).setCell ⟨cb, 2, none⟩ (.bool true) := by
  go_enter Yba.func57, Yba.ntmps57
  go_wp2
  go_ret
  exact ⟨rfl, rfl⟩

set_option maxRecDepth 100000 in
set_option maxHeartbeats 800000 in
theorem close57_fail (cb sb tb : Nat) (x1 x2 : Value) (w : World) (_hne : cb ≠ sb) (hnt : cb ≠ tb)
    (c0 : w.cell? ⟨cb, 0, none⟩ = some (.int .i64 0)) (c1 : w.cell? ⟨cb, 1, none⟩ = some x1) (c2 : w.cell? ⟨cb, 2, none⟩ = some x2) (c3 : w.cell? ⟨cb, 3, none⟩ = some (.bool true))
    (c4 : w.cell? ⟨cb, 4, none⟩ = some (.pointer (some ⟨sb, 0, none⟩))) (c5 : w.cell? ⟨cb, 5, none⟩ = some (.pointer (some ⟨tb, 0, none⟩)))
    (f0 : w.frozen? ⟨cb, 0, none⟩ = false) (f1 : w.frozen? ⟨cb, 1, none⟩ = false) (f2 : w.frozen? ⟨cb, 2, none⟩ = false)
    (ct : w.cell? ⟨tb, 0, none⟩ = some (.int .i64 1)) (cs : w.cell? ⟨sb, 11, none⟩ = some (.bool true)) :
    Calls Yba.prog 57 #[.pointer (some ⟨cb, 0, none⟩)] w fun e w' => ∃ o, e = .returned (.iface 153 (.pointer (some ⟨w.heap.size, 0, none⟩))) ∧ w' = (((w.setCell ⟨cb, 0, none⟩ (.int .i64 1)).setCell ⟨cb, 1, none⟩ (.int .i64 1)).setCell ⟨cb, 2, none⟩ (.bool true)).alloc o := by
  go_enter Yba.func57, Yba.ntmps57
  go_wp2
  go_ret
  exact ⟨_, rfl, rfl⟩

/-- What one call of a closer does to the world: its own block turns, new blocks may be laid, nothing else. -/
structure Closed (cb : Nat) (w w' : World) : Prop where
  os : w'.os = w.os
  tape : w'.tape = w.tape
  output : w'.output = w.output
  size : w.heap.size ≤ w'.heap.size
  block : ∀ k, k < w.heap.size → k ≠ cb → w'.heap[k]? = w.heap[k]?

theorem close57 (cb sb tb : Nat) (f : Bool) (w : World) (fz : Nat × Nat) (ss : Array Value) (hne : cb ≠ sb) (hnt : cb ≠ tb)
    (hb : w.heap[cb]? = some (clo sb tb f false)) (ht : w.heap[tb]? = some (.cells #[.int .i64 1] 3 fz)) (hs : w.heap[sb]? = some (.cells ss 51 fz)) (hss : ss[11]? = some (.bool true)) :
    Calls Yba.prog 57 #[.pointer (some ⟨cb, 0, none⟩)] w fun e w' => (∃ v, e = .returned v) ∧ Closed cb w w' ∧ w'.heap[cb]? = some (clo sb tb f true) := by
  have hb' := hb
  unfold clo at hb'
  have ct : w.cell? ⟨tb, 0, none⟩ = some (.int .i64 1) := by rw [cell_of_heap ht]; rfl
  have cs : w.cell? ⟨sb, 11, none⟩ = some (.bool true) := by rw [cell_of_heap hs]; exact hss
  have key : ∀ w', w' = ((w.setCell ⟨cb, 0, none⟩ (.int .i64 1)).setCell ⟨cb, 1, none⟩ (.int .i64 1)).setCell ⟨cb, 2, none⟩ (.bool true) → Closed cb w w' ∧ w'.heap.size = w.heap.size ∧ w'.heap[cb]? = some (clo sb tb f true) := by
    rintro w' rfl
    refine ⟨⟨rfl, rfl, rfl, by simp [World.setCell], fun k _ hk => ?_⟩, by simp [World.setCell], ?_⟩
    · rw [heap_setCell_off _ hk, heap_setCell_off _ hk, heap_setCell_off _ hk]
    · rw [heap_setCell_at _ (heap_setCell_at _ (heap_setCell_at _ hb'))]
      rfl
  have hlt : cb < w.heap.size := (Array.getElem?_eq_some_iff.1 hb).1
  cases f with
  | false =>
    refine (close57_ok cb sb tb _ _ w hne hnt (by rw [cell_of_heap hb']; rfl) (by rw [cell_of_heap hb']; rfl) (by rw [cell_of_heap hb']; rfl) (by rw [cell_of_heap hb']; rfl) (by rw [cell_of_heap hb']; rfl) (by rw [cell_of_heap hb']; rfl)
      (frozen_of_heap hb') (frozen_of_heap hb') (frozen_of_heap hb') ct cs).mono ?_
    rintro e w' ⟨rfl, hw⟩
    obtain ⟨h1, _, h3⟩ := key w' hw
    exact ⟨⟨_, rfl⟩, h1, h3⟩
  | true =>
    refine (close57_fail cb sb tb _ _ w hne hnt (by rw [cell_of_heap hb']; rfl) (by rw [cell_of_heap hb']; rfl) (by rw [cell_of_heap hb']; rfl) (by rw [cell_of_heap hb']; rfl) (by rw [cell_of_heap hb']; rfl) (by rw [cell_of_heap hb']; rfl)
      (frozen_of_heap hb') (frozen_of_heap hb') (frozen_of_heap hb') ct cs).mono ?_
    rintro e w' ⟨o, rfl, hw⟩
    obtain ⟨h1, h2, h3⟩ := key _ rfl
    subst hw
    refine ⟨⟨_, rfl⟩, ⟨h1.os, h1.tape, h1.output, by simp [h2], fun k hk hk' => ?_⟩, ?_⟩
    · rw [heap_alloc_old _ (by omega)]; exact h1.block k hk hk'
    · rw [heap_alloc_old _ (by omega)]; exact h3
end Go.Proofs.Ybulkdtdc
