/- need, queue. -/
import Derived.Test.YbulkdtfgDoorParts
namespace Go.Proofs.YbulkdtfgDoor
open Go.RowKit

set_option maxRecDepth 100000 in
set_option maxHeartbeats 400000 in
theorem combine20 (w : World) (h0 : w.cell? ⟨0, 0, none⟩ = some (.int .u8 0)) :
    Calls Ybad.prog 20 #[.int .u8 0, .int .u8 0] w fun e w' => e = .returned (.int .u8 0) ∧ w' = w := by
  go_enter Ybad.func20, Ybad.ntmps20
  go_wp2
  go_ret
  exact ⟨rfl, rfl⟩

set_option maxRecDepth 100000 in
set_option maxHeartbeats 400000 in
theorem plan14 (T : Nat) (w : World) (h0 : w.cell? ⟨0, 0, none⟩ = some (.int .u8 0)) (hop : w.heap[T + 1]? = some (.cells (opO T) 90 (0, 0))) :
    Calls Ybad.prog 14 #[.pointer (some ⟨T + 1, 0, none⟩), .pointer none] w fun e w' => e = .returned (.tuple #[.int .u8 0, .int .u8 0]) ∧ w' = w := by
  have c3 : w.cell? ⟨T + 1, 3, none⟩ = some (.bool false) := by rw [cell_of_heap hop]; rfl
  have c4 : w.cell? ⟨T + 1, 4, none⟩ = some (.int .u8 0) := by rw [cell_of_heap hop]; rfl
  go_enter Ybad.func14, Ybad.ntmps14
  go_wp2_with (first | (go_at_call 20; refine (combine20 _ h0).mono ?_; rintro e w' ⟨rfl, rfl⟩))
  go_ret2
  exact ⟨rfl, rfl⟩

theorem drewN_two (w : World) (a b : Nat) : (w.drewN a).drewN b = w.drewN (a + b) := by simp [World.drewN, Nat.add_assoc]

theorem look_nilmap (w : World) : (Instr.lookup 65 (.map none) (.string ⟨#[]⟩) false).run Ybad.prog w = .ok (.pointer none) w := by kernel_rfl

set_option maxRecDepth 100000 in
set_option maxHeartbeats 400000 in
theorem need9 (T : Nat) (wt : Value) (w : World) (h0 : w.cell? ⟨0, 0, none⟩ = some (.int .u8 0)) (hop : w.heap[T + 1]? = some (.cells (opO T) 90 (0, 0))) (htx : w.heap[T]? = some (.cells (txnO wt) 69 (0, 0))) :
    Calls Ybad.prog 9 #[.pointer (some ⟨T + 1, 0, none⟩)] w fun e w' => e = .returned (.int .i64 0) ∧ ∃ k, w' = w.drewN k := by
  have c0 : w.cell? ⟨T + 1, 0, none⟩ = some (.pointer (some ⟨T, 0, none⟩)) := by rw [cell_of_heap hop]; rfl
  have c1 : w.cell? ⟨T + 1, 1, none⟩ = some (.string ⟨#[]⟩) := by rw [cell_of_heap hop]; rfl
  have t2 : w.cell? ⟨T, 2, none⟩ = some (.map none) := by rw [cell_of_heap htx]; rfl
  have hpl := fun k => plan14 T (w.drewN k) h0 hop
  go_enter Ybad.func9, Ybad.ntmps9
  have hlk := look_nilmap
  go_wp2
  go_quiet (fail)
  go_wp2_with fail
  refine (hpl _).mono ?_
  rintro e w' ⟨rfl, rfl⟩
  go_wp2_with fail
  go_quiet (fail)
  go_wp2_with fail
  go_ret
  exact ⟨rfl, _, drewN_two _ _ _⟩

/-- A store that puts back what was there. -/
theorem setCell_same {w : World} {b o : Nat} {cs : Array Value} {t : TypeId} {fz : Nat × Nat} {u : Value} (hb : w.heap[b]? = some (.cells cs t fz)) (h : cs[o]? = some u) : w.setCell ⟨b, o, none⟩ u = w := by
  have hh : (w.setCell ⟨b, o, none⟩ u).heap = w.heap := by
    apply Array.ext_getElem?
    intro k
    by_cases hk : k = b
    · subst hk
      rw [heap_setCell_at u hb, hb]
      congr 2
      apply Array.ext_getElem?
      intro j
      rw [Array.getElem?_setIfInBounds]
      by_cases hj : o = j
      · subst hj
        obtain ⟨hlt, he⟩ := Array.getElem?_eq_some_iff.1 h
        rw [if_pos rfl, if_pos hlt, h]
      · rw [if_neg hj]
    · exact Below.heap_setCell _ _ _ _ hk
  calc w.setCell ⟨b, o, none⟩ u = { w with heap := (w.setCell ⟨b, o, none⟩ u).heap } := rfl
    _ = w := by rw [hh]

/-- What the law's world holds. -/
structure St (L T : Nat) (lt : Array Value) (wt q : Value) (seq mo : Int) (cv : Bool) (room : Int) (w : World) : Prop where
  gl : w.cell? ⟨0, 0, none⟩ = some (.int .u8 0)
  lk : w.heap[L]? = some (.cells lt 57 (0, 0))
  tx : w.heap[T]? = some (.cells (txnO wt) 69 (0, 0))
  op : w.heap[T + 1]? = some (.cells (opO T) 90 (0, 0))
  tb : w.heap[T + 2]? = some (.cells (tblO q) 87 (0, 0))
  rq : w.heap[T + 3]? = some (.cells (reqO T seq mo cv room) 75 (0, 0))
  lo : 0 < L ∧ L < T

theorem St.drew {L T : Nat} {lt : Array Value} {wt q : Value} {seq mo : Int} {cv : Bool} {room : Int} {w : World} (h : St L T lt wt q seq mo cv room w) : St L T lt wt q seq mo cv room w.drew := ⟨h.gl, h.lk, h.tx, h.op, h.tb, h.rq, h.lo⟩

set_option maxRecDepth 100000 in
set_option maxHeartbeats 400000 in
theorem queue6 {Z : Array Value} (hZ : ZeroTab Z) (L T : Nat) (r seq mo : Int) (cv : Bool) (w : World) (hmo : 1 ≤ mo) (hmo3 : mo ≤ 3) (hr : -9223372036854775808 ≤ r ∧ r ≤ 9223372036854775807)
    (h : St L T (tab Z r) (.pointer none) (.pointer none) seq mo cv 0 w) :
    Calls Ybad.prog 6 #[.pointer (some ⟨L, 0, none⟩), .pointer (some ⟨T + 3, 0, none⟩)] w fun e w' => e = .returned (.tuple #[]) ∧ ∃ Q g c, St L T (tab Z r) (.pointer (some ⟨T + 3, 0, none⟩)) (.pointer (some ⟨Q, 0, none⟩)) seq mo cv 0 w' ∧ w.heap.size ≤ Q ∧ w.heap.size ≤ g ∧ 1 ≤ c ∧
      w'.heap[Q]? = some (.cells (waitO g c mo) 96 (0, 0)) ∧ w'.cell? ⟨g, 0, none⟩ = some (.pointer (some ⟨T + 3, 0, none⟩)) ∧ Kept (fun k => k = L ∨ (T ≤ k ∧ k ≤ T + 3)) w w' := by
  have r8 : w.cell? ⟨T + 3, 8, none⟩ = some (.pointer (some ⟨T + 2, 2, none⟩)) := by rw [cell_of_heap h.rq]; rfl
  have henq := enqueue8 T seq mo cv w hmo hmo3 h.tb h.rq
  go_enter Ybad.func6, Ybad.ntmps6
  go_wp2_with fail
  refine henq.mono ?_
  rintro e w1 ⟨rfl, Q, g, c, hq⟩
  have hlo := h.lo
  have hsz : T + 3 < w.heap.size := (Array.getElem?_eq_some_iff.1 h.rq).1
  have tx1 : w1.heap[T]? = some (.cells (txnO (.pointer none)) 69 (0, 0)) := (hq.kept.block _ (by omega) (by omega)).trans h.tx
  have op1 : w1.heap[T + 1]? = some (.cells (opO T) 90 (0, 0)) := (hq.kept.block _ (by omega) (by omega)).trans h.op
  have rq1 : w1.heap[T + 3]? = some (.cells (reqO T seq mo cv 0) 75 (0, 0)) := (hq.kept.block _ (by omega) (by omega)).trans h.rq
  have lk1 : w1.heap[L]? = some (.cells (tab Z r) 57 (0, 0)) := (hq.kept.block _ (by omega) (by omega)).trans h.lk
  have gl1 : w1.cell? ⟨0, 0, none⟩ = some (.int .u8 0) := by rw [World.cell?_of_block (w := w) (hq.kept.block 0 (by omega) (by omega))]; exact h.gl
  have b0 : w1.cell? ⟨T + 3, 0, none⟩ = some (.pointer (some ⟨T + 1, 0, none⟩)) := by rw [cell_of_heap rq1]; rfl
  have b10 : w1.cell? ⟨T + 3, 10, none⟩ = some (.int .i64 0) := by rw [cell_of_heap rq1]; rfl
  have zb : ∀ k, w1.frozen? ⟨T + 3, k, none⟩ = false := fun k => frozen_of_heap rq1
  have o0 : w1.cell? ⟨T + 1, 0, none⟩ = some (.pointer (some ⟨T, 0, none⟩)) := by rw [cell_of_heap op1]; rfl
  have t4 : w1.cell? ⟨T, 4, none⟩ = some (.pointer none) := by rw [cell_of_heap tx1]; rfl
  have zt : ∀ k, w1.frozen? ⟨T, k, none⟩ = false := fun k => frozen_of_heap tx1
  have l3208 : w1.cell? ⟨L, 3208, none⟩ = some (.int .i64 r) := by rw [cell_of_heap lk1]; exact tab_reserved hZ r
  have zl : ∀ k, w1.frozen? ⟨L, k, none⟩ = false := fun k => frozen_of_heap lk1
  have hneed := need9 T (.pointer (some ⟨T + 3, 0, none⟩)) (w1.setCell ⟨T, 4, none⟩ (.pointer (some ⟨T + 3, 0, none⟩))) (by rw [World.cell?_of_block (w := w1) (heap_setCell_off _ (by simp; omega))]; exact gl1) (by rw [heap_setCell_off _ (by simp)]; exact op1) (by rw [heap_setCell_at _ tx1]; rfl)
  clear henq r8
  go_wp2_with fail
  refine hneed.mono ?_
  rintro e w2 ⟨rfl, kd, rfl⟩
  go_wp2_with fail
  obtain ⟨W3, hW3⟩ : ∃ W3, W3 = ((w1.setCell ⟨T, 4, none⟩ (.pointer (some ⟨T + 3, 0, none⟩))).drewN kd).setCell ⟨T + 3, 10, none⟩ (.int .i64 0) := ⟨_, rfl⟩
  rw [← hW3]
  have hK1 : Kept (fun k => k = L ∨ (T ≤ k ∧ k ≤ T + 3)) w w1 := hq.kept.mono (fun k hk => by omega)
  have hK3 : Kept (fun k => k = L ∨ (T ≤ k ∧ k ≤ T + 3)) w W3 := by
    rw [hW3]; exact ((hK1.setCell ⟨T, 4, none⟩ _ (Or.inl (by simp))).drewN kd).setCell ⟨T + 3, 10, none⟩ _ (Or.inl (by simp))
  have hold3 : ∀ k, k ≠ T → k ≠ T + 3 → W3.heap[k]? = w1.heap[k]? := fun k h1 h2 => by
    rw [hW3, heap_setCell_off _ (by simpa using h2)]
    exact heap_setCell_off _ (by simpa using h1)
  have tx3 : W3.heap[T]? = some (.cells (txnO (.pointer (some ⟨T + 3, 0, none⟩))) 69 (0, 0)) := by
    rw [hW3, heap_setCell_off _ (by simp)]
    show (w1.setCell ⟨T, 4, none⟩ (.pointer (some ⟨T + 3, 0, none⟩))).heap[T]? = _
    rw [heap_setCell_at _ tx1]; rfl
  have rq3 : W3.heap[T + 3]? = some (.cells (reqO T seq mo cv 0) 75 (0, 0)) := by
    rw [hW3]
    have h1 : ((w1.setCell ⟨T, 4, none⟩ (.pointer (some ⟨T + 3, 0, none⟩))).drewN kd).heap[T + 3]? = some (.cells (reqO T seq mo cv 0) 75 (0, 0)) := (heap_setCell_off _ (by simp)).trans rq1
    rw [heap_setCell_at _ h1]; rfl
  have lk3 : W3.heap[L]? = some (.cells (tab Z r) 57 (0, 0)) := (hold3 L (by omega) (by omega)).trans lk1
  have l3 : W3.cell? ⟨L, 3208, none⟩ = some (.int .i64 r) := by rw [cell_of_heap lk3]; exact tab_reserved hZ r
  have z3 : W3.frozen? ⟨L, 3208, none⟩ = false := frozen_of_heap lk3
  have b3 : W3.cell? ⟨T + 3, 10, none⟩ = some (.int .i64 0) := by rw [cell_of_heap rq3]; rfl
  have hfin : St L T (tab Z r) (.pointer (some ⟨T + 3, 0, none⟩)) (.pointer (some ⟨Q, 0, none⟩)) seq mo cv 0 W3 :=
    ⟨by rw [World.cell?_of_block (w := w1) (hold3 0 (by omega) (by omega))]; exact gl1, lk3, tx3, (hold3 _ (by omega) (by omega)).trans op1, (hold3 _ (by omega) (by omega)).trans hq.tb, rq3, hlo⟩
  have hq3 : W3.heap[Q]? = some (.cells (waitO g c mo) 96 (0, 0)) := (hold3 Q (by have := hq.new; omega) (by have := hq.new; omega)).trans hq.q
  have hg3 : W3.cell? ⟨g, 0, none⟩ = some (.pointer (some ⟨T + 3, 0, none⟩)) := by
    rw [World.cell?_of_block (w := w1) (hold3 g (by have := hq.newg; simp; omega) (by have := hq.newg; simp; omega))]; exact hq.g0
  have hsame : W3.setCell ⟨L, 3208, none⟩ (.int .i64 r) = W3 := setCell_same lk3 (tab_reserved hZ r)
  have hn1 := hq.new
  have hn2 := hq.newg
  have hc1 := hq.c1
  obtain ⟨hr1, hr2⟩ := hr
  clear hW3 hq tx1 op1 rq1 lk1 gl1 b0 b10 zb o0 t4 zt l3208 zl hneed hK1 hold3 tx3 rq3 lk3 h
  go_region
  go_end0
  exact ⟨rfl, Q, g, c, hfin.drew, hn1, hn2, hc1, hq3, hg3, hK3.drew⟩
end Go.Proofs.YbulkdtfgDoor
