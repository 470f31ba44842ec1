/- dequeue, unqueue, and the second law's own walk. -/
import Derived.Test.YbulkdtfgDoorPart
namespace Go.Proofs.YbulkdtfgDoor
open Go.RowKit

theorem eq60 (w : World) (a : Addr) : (binOp .eql 60 (.pointer (some a)) (.pointer (some a))).run Ybad.prog w = .ok (.bool true) w := by
  obtain ⟨j, hj, _⟩ := Option.map_eq_some_iff.1 (show (Ybad.prog.info? 75).map (fun i => i.size) = some 11 by kernel_rfl)
  exact run_eql_ptr_same w a Ybad.underlying60 hj

set_option maxRecDepth 100000 in
set_option maxHeartbeats 400000 in
theorem dequeue10 (T Q g c : Nat) (seq mo : Int) (cv : Bool) (w : World) (hmo : 1 ≤ mo) (hmo3 : mo ≤ 3) (hc : 1 ≤ c) (hTQ : T + 3 < Q) (hgQ : g ≠ Q)
    (htb : w.heap[T + 2]? = some (.cells (tblO (.pointer (some ⟨Q, 0, none⟩))) 87 (0, 0))) (hrq : w.heap[T + 3]? = some (.cells (reqO T seq mo cv 0) 75 (0, 0)))
    (hq : w.heap[Q]? = some (.cells (waitO g c mo) 96 (0, 0))) (hg : w.cell? ⟨g, 0, none⟩ = some (.pointer (some ⟨T + 3, 0, none⟩))) :
    Calls Ybad.prog 10 #[.pointer (some ⟨T + 2, 2, none⟩), .pointer (some ⟨T + 3, 0, none⟩)] w fun e w' => e = .returned (.tuple #[]) ∧ Kept (fun k => k = T + 2 ∨ k = Q) w w' := by
  have c5 : w.cell? ⟨T + 2, 5, none⟩ = some (.pointer (some ⟨Q, 0, none⟩)) := by rw [cell_of_heap htb]; rfl
  obtain ⟨X, hX⟩ : ∃ X, w.heap.size = X := ⟨_, rfl⟩
  obtain ⟨W1, hW1⟩ : ∃ W1, W1 = w.alloc (.cells #[.pointer (some ⟨T + 3, 0, none⟩)] 60) := ⟨_, rfl⟩
  have hQl : Q < w.heap.size := (Array.getElem?_eq_some_iff.1 hq).1
  have hgl : g < w.heap.size := World.block_lt_of_cell? _ _ hg
  have hold : ∀ k, k < w.heap.size → W1.heap[k]? = w.heap[k]? := fun k hk => by rw [hW1]; exact heap_alloc_old _ hk
  have htb1 := (hold (T + 2) (by omega)).trans htb
  have hrq1 := (hold (T + 3) (by omega)).trans hrq
  have hq1 := (hold Q hQl).trans hq
  have d5 : W1.cell? ⟨T + 2, 5, none⟩ = some (.pointer (some ⟨Q, 0, none⟩)) := by rw [cell_of_heap htb1]; rfl
  have y5 : W1.frozen? ⟨T + 2, 5, none⟩ = false := frozen_of_heap htb1
  have r4 : W1.cell? ⟨T + 3, 4, none⟩ = some (.int .u8 mo) := by rw [cell_of_heap hrq1]; rfl
  have g0 : W1.cell? ⟨g, 0, none⟩ = some (.pointer (some ⟨T + 3, 0, none⟩)) := by rw [World.cell?_of_block (w := w) (hold g hgl)]; exact hg
  have x0 : W1.cell? ⟨X, 0, none⟩ = some (.pointer (some ⟨T + 3, 0, none⟩)) := by
    have h1 : W1.heap[X]? = some (.cells #[.pointer (some ⟨T + 3, 0, none⟩)] 60) := by rw [hW1]; exact heap_new _ hX
    rw [cell_of_heap h1]; rfl
  have hk1 : Kept (fun k => k = T + 2 ∨ k = Q) w W1 := by rw [hW1]; exact (Kept.refl _ w).alloc _
  have zq : ∀ k, W1.frozen? ⟨Q, k, none⟩ = false := fun k => frozen_of_heap hq1
  have q0 : W1.cell? ⟨Q, 0, none⟩ = some (.slice (some ⟨g, 0, none⟩) 1 c) := by
    rw [cell_of_heap hq1, waitO, Array.getElem?_setIfInBounds, if_neg (by omega)]; rfl
  have qm : W1.cell? ⟨Q, 1 + mo.toNat, none⟩ = some (.int .i64 1) := by
    rw [cell_of_heap hq1, waitO, Array.getElem?_setIfInBounds, if_pos rfl, if_pos (by simp; omega)]
  have he60 := eq60
  have hcI : (1 : Int) ≤ (c : Int) := by omega
  have n1 : ¬ X = Q := by omega
  have n2 : ¬ g = Q := hgQ
  have n3 : ¬ T + 3 = Q := by omega
  have n4 : ¬ T + 2 = Q := by omega
  have hW1r := hW1.symm
  clear htb hrq hq hg c5 htb1 hrq1 hq1 hold hW1
  have h123 : mo = 1 ∨ mo = 2 ∨ mo = 3 := by omega
  rcases Nat.eq_or_lt_of_le hc with hc' | hc'
  · subst hc'
    rcases h123 with rfl | rfl | rfl
    · have qm' : W1.cell? ⟨Q, 2, none⟩ = some (.int .i64 1) := qm
      clear qm
      go_enter Ybad.func10, Ybad.ntmps10
      go_wp2_with fail
      go_quiet (fail)
      go_wp2_with fail
      go_region
      go_wp2_with fail
      go_end0
      exact ⟨rfl, ((((hk1.drewN _).setCell ⟨Q, 0, none⟩ _ (Or.inl (Or.inr rfl))).setCell ⟨Q, 2, none⟩ _ (Or.inl (Or.inr rfl))).setCell ⟨T + 2, 5, none⟩ _ (Or.inl (Or.inl rfl))).drew⟩
    · have qm' : W1.cell? ⟨Q, 3, none⟩ = some (.int .i64 1) := qm
      clear qm
      go_enter Ybad.func10, Ybad.ntmps10
      go_wp2_with fail
      go_quiet (fail)
      go_wp2_with fail
      go_region
      go_wp2_with fail
      go_end0
      exact ⟨rfl, ((((hk1.drewN _).setCell ⟨Q, 0, none⟩ _ (Or.inl (Or.inr rfl))).setCell ⟨Q, 3, none⟩ _ (Or.inl (Or.inr rfl))).setCell ⟨T + 2, 5, none⟩ _ (Or.inl (Or.inl rfl))).drew⟩
    · have qm' : W1.cell? ⟨Q, 4, none⟩ = some (.int .i64 1) := qm
      clear qm
      go_enter Ybad.func10, Ybad.ntmps10
      go_wp2_with fail
      go_quiet (fail)
      go_wp2_with fail
      go_region
      go_wp2_with fail
      go_end0
      exact ⟨rfl, ((((hk1.drewN _).setCell ⟨Q, 0, none⟩ _ (Or.inl (Or.inr rfl))).setCell ⟨Q, 4, none⟩ _ (Or.inl (Or.inr rfl))).setCell ⟨T + 2, 5, none⟩ _ (Or.inl (Or.inl rfl))).drew⟩
  · have hc2 : ¬ c = 1 := by omega
    have hc3 : ¬ c - 1 = 0 := by omega
    rcases h123 with rfl | rfl | rfl
    · have qm' : W1.cell? ⟨Q, 2, none⟩ = some (.int .i64 1) := qm
      clear qm
      go_enter Ybad.func10, Ybad.ntmps10
      go_wp2_with fail
      go_quiet (fail)
      go_wp2_with fail
      go_region
      go_wp2_with fail
      go_end0
      exact ⟨rfl, ((((hk1.drewN _).setCell ⟨Q, 0, none⟩ _ (Or.inl (Or.inr rfl))).setCell ⟨Q, 2, none⟩ _ (Or.inl (Or.inr rfl))).setCell ⟨T + 2, 5, none⟩ _ (Or.inl (Or.inl rfl))).drew⟩
    · have qm' : W1.cell? ⟨Q, 3, none⟩ = some (.int .i64 1) := qm
      clear qm
      go_enter Ybad.func10, Ybad.ntmps10
      go_wp2_with fail
      go_quiet (fail)
      go_wp2_with fail
      go_region
      go_wp2_with fail
      go_end0
      exact ⟨rfl, ((((hk1.drewN _).setCell ⟨Q, 0, none⟩ _ (Or.inl (Or.inr rfl))).setCell ⟨Q, 3, none⟩ _ (Or.inl (Or.inr rfl))).setCell ⟨T + 2, 5, none⟩ _ (Or.inl (Or.inl rfl))).drew⟩
    · have qm' : W1.cell? ⟨Q, 4, none⟩ = some (.int .i64 1) := qm
      clear qm
      go_enter Ybad.func10, Ybad.ntmps10
      go_wp2_with fail
      go_quiet (fail)
      go_wp2_with fail
      go_region
      go_wp2_with fail
      go_end0
      exact ⟨rfl, ((((hk1.drewN _).setCell ⟨Q, 0, none⟩ _ (Or.inl (Or.inr rfl))).setCell ⟨Q, 4, none⟩ _ (Or.inl (Or.inr rfl))).setCell ⟨T + 2, 5, none⟩ _ (Or.inl (Or.inl rfl))).drew⟩

set_option maxRecDepth 100000 in
set_option maxHeartbeats 400000 in
theorem unqueue7 {Z : Array Value} (hZ : ZeroTab Z) (L T Q g c : Nat) (r seq mo : Int) (cv : Bool) (w : World) (hmo : 1 ≤ mo) (hmo3 : mo ≤ 3) (hr1 : -9223372036854775808 ≤ r) (hr2 : r ≤ 9223372036854775807) (hc : 1 ≤ c) (hTQ : T + 3 < Q)
    (h : St L T (tab Z r) (.pointer (some ⟨T + 3, 0, none⟩)) (.pointer (some ⟨Q, 0, none⟩)) seq mo cv 0 w) (hq : w.heap[Q]? = some (.cells (waitO g c mo) 96 (0, 0))) (hg : w.cell? ⟨g, 0, none⟩ = some (.pointer (some ⟨T + 3, 0, none⟩))) :
    Calls Ybad.prog 7 #[.pointer (some ⟨L, 0, none⟩), .pointer (some ⟨T + 3, 0, none⟩)] w fun e w' => e = .returned (.tuple #[]) ∧ w'.heap[T]? = some (.cells (txnO (.pointer none)) 69 (0, 0)) ∧ w'.heap[L]? = some (.cells (tab Z r) 57 (0, 0)) ∧ Kept (fun k => L ≤ k) w w' := by
  have r8 : w.cell? ⟨T + 3, 8, none⟩ = some (.pointer (some ⟨T + 2, 2, none⟩)) := by rw [cell_of_heap h.rq]; rfl
  have hgQ : g ≠ Q := fun e => by
    subst e
    rw [cell_of_heap hq, waitO, Array.getElem?_setIfInBounds, if_neg (by omega)] at hg
    cases hg
  have hdeq := dequeue10 T Q g c seq mo cv w hmo hmo3 hc hTQ hgQ h.tb h.rq hq hg
  go_enter Ybad.func7, Ybad.ntmps7
  go_wp2_with fail
  refine hdeq.mono ?_
  rintro e w1 ⟨rfl, hk1⟩
  have hlo := h.lo
  have hsz : T + 3 < w.heap.size := (Array.getElem?_eq_some_iff.1 h.rq).1
  have tx1 : w1.heap[T]? = some (.cells (txnO (.pointer (some ⟨T + 3, 0, none⟩))) 69 (0, 0)) := (hk1.block _ (by omega) (by omega)).trans h.tx
  have op1 : w1.heap[T + 1]? = some (.cells (opO T) 90 (0, 0)) := (hk1.block _ (by omega) (by omega)).trans h.op
  have rq1 : w1.heap[T + 3]? = some (.cells (reqO T seq mo cv 0) 75 (0, 0)) := (hk1.block _ (by omega) (by omega)).trans h.rq
  have lk1 : w1.heap[L]? = some (.cells (tab Z r) 57 (0, 0)) := (hk1.block _ (by omega) (by omega)).trans h.lk
  have b0 : w1.cell? ⟨T + 3, 0, none⟩ = some (.pointer (some ⟨T + 1, 0, none⟩)) := by rw [cell_of_heap rq1]; rfl
  have o0 : w1.cell? ⟨T + 1, 0, none⟩ = some (.pointer (some ⟨T, 0, none⟩)) := by rw [cell_of_heap op1]; rfl
  have t4 : w1.cell? ⟨T, 4, none⟩ = some (.pointer (some ⟨T + 3, 0, none⟩)) := by rw [cell_of_heap tx1]; rfl
  have zt : ∀ k, w1.frozen? ⟨T, k, none⟩ = false := fun k => frozen_of_heap tx1
  obtain ⟨W3, hW3⟩ : ∃ W3, W3 = w1.setCell ⟨T, 4, none⟩ (.pointer none) := ⟨_, rfl⟩
  have hold3 : ∀ k, k ≠ T → W3.heap[k]? = w1.heap[k]? := fun k h1 => by rw [hW3]; exact heap_setCell_off _ (by simpa using h1)
  have tx3 : W3.heap[T]? = some (.cells (txnO (.pointer none)) 69 (0, 0)) := by rw [hW3, heap_setCell_at _ tx1]; rfl
  have lk3 : W3.heap[L]? = some (.cells (tab Z r) 57 (0, 0)) := (hold3 L (by omega)).trans lk1
  have l3 : W3.cell? ⟨L, 3208, none⟩ = some (.int .i64 r) := by rw [cell_of_heap lk3]; exact tab_reserved hZ r
  have z3 : W3.frozen? ⟨L, 3208, none⟩ = false := frozen_of_heap lk3
  have b3 : W3.cell? ⟨T + 3, 10, none⟩ = some (.int .i64 0) := by rw [cell_of_heap ((hold3 _ (by omega)).trans rq1)]; rfl
  have hsame : W3.setCell ⟨L, 3208, none⟩ (.int .i64 r) = W3 := setCell_same lk3 (tab_reserved hZ r)
  have hk3 : Kept (fun k => L ≤ k) w W3 := by
    rw [hW3]; exact (hk1.mono (may' := fun k => L ≤ k) (fun k hk => by omega)).setCell ⟨T, 4, none⟩ _ (Or.inl (by simp; omega))
  have hW3r := hW3.symm
  clear hdeq r8 h hq hg hW3 hk1 lk1 tx1 op1 rq1 hold3
  go_wp2_with fail
  go_region
  go_end0
  exact ⟨rfl, tx3, lk3, hk3.drew⟩

set_option maxRecDepth 100000 in
set_option maxHeartbeats 400000 in
theorem trip4 (r seq m : Int) (cv : Bool) (w : World) (hm0 : 0 ≤ m) (hm : m ≤ 255) (hr : -9223372036854775808 ≤ r ∧ r ≤ 9223372036854775807) (h0 : w.cell? ⟨0, 0, none⟩ = some (.int .u8 0)) :
    Calls Ybad.prog 4 #[.int .i64 r, .int .u64 seq, .int .u8 m, .bool cv] w fun e w' => e = .returned (.bool true) ∧ Below w.heap.size w w' := by
  obtain ⟨Z, hZ⟩ := zeroTab_is
  obtain ⟨L, hL⟩ : ∃ L, w.heap.size = L := ⟨_, rfl⟩
  have hp : 0 < L := by rw [← hL]; exact Nat.lt_of_le_of_lt (Nat.zero_le _) (World.block_lt_of_cell? _ _ h0)
  have hz57 := zero57_run hZ
  have hZs := hZ.size
  obtain ⟨hs1, hbel⟩ := St.start (Z := Z) hL h0 hp r seq (1 + m % 3) cv
  obtain ⟨W0, hW0⟩ : ∃ W0, W0 = w.alloc (.cells (Z.setIfInBounds 3208 (.int .i64 r)) 57) := ⟨_, rfl⟩
  have hW0' : W0 = w.alloc (.cells (tab Z r) 57) := hW0
  rw [← hW0'] at hs1 hbel
  clear hW0'
  have hL0 : W0.heap.size = L + 1 := by rw [hW0]; simp [hL]
  have hc5 := creq5 seq m cv W0 hm0 hm
  rw [hL0] at hc5
  obtain ⟨T, hT⟩ : ∃ T, T = L + 1 := ⟨_, rfl⟩
  rw [← hT] at hc5 hs1 hbel
  have hmo1 : 1 ≤ 1 + m % 3 := by omega
  have hmo3 : 1 + m % 3 ≤ 3 := by omega
  obtain ⟨hr1, hr2⟩ := hr
  go_enter Ybad.func4, Ybad.ntmps4
  go_wp2_with fail
  rw [← hW0]
  refine hc5.mono ?_
  rintro e w1 ⟨rfl, hw1⟩
  rw [← hw1] at hs1 hbel
  clear hw1 hc5 hW0 hz57 hT hL0
  go_wp2_with fail
  refine (queue6 hZ L T r seq (1 + m % 3) cv w1 hmo1 hmo3 ⟨hr1, hr2⟩ hs1).mono ?_
  rintro e w2 ⟨rfl, Q, g, c, hs2, hn1, hn2, hc1, hq2, hg2, hk2⟩
  have hlo := hs2.lo
  have hT4 : T + 3 < w1.heap.size := (Array.getElem?_eq_some_iff.1 hs1.rq).1
  have hbel2 : Below L w w2 := hbel.trans ⟨hk2.os, hk2.tape, hk2.output, hk2.size, fun k hk => hk2.block k (by omega) (by omega)⟩
  have hLw2 : L < w2.heap.size := (Array.getElem?_eq_some_iff.1 hs2.lk).1
  have hun := unqueue7 hZ L T Q g c r seq (1 + m % 3) cv w2 hmo1 hmo3 hr1 hr2 hc1 (by omega) hs2 hq2 hg2
  clear hs1 hs2 hq2 hg2 hk2 hbel hZs
  go_wp2_with fail
  refine hun.mono ?_
  rintro e w3 ⟨rfl, tx3, lk3, hk3⟩
  have x4 : w3.cell? ⟨T, 4, none⟩ = some (.pointer none) := by rw [cell_of_heap tx3]; rfl
  have l8 : w3.cell? ⟨L, 3208, none⟩ = some (.int .i64 r) := by rw [cell_of_heap lk3]; exact tab_reserved hZ r
  have hbel3 : Below L w w3 := hbel2.trans ⟨hk3.os, hk3.tape, hk3.output, hk3.size, fun k hk => hk3.block k (by omega) (by omega)⟩
  clear hun tx3 lk3 hk3
  go_wp2_with fail
  go_ret
  exact ⟨rfl, by rw [hL]; exact hbel3⟩
end Go.Proofs.YbulkdtfgDoor
