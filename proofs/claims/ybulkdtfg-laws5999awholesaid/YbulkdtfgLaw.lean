/- The law's own walk. -/
import Derived.Test.YbulkdtfgParts
import Derived.Deep.OwnRows
import Derived.Deep.LoopGhost
namespace Go.Proofs.Ybulkdtfg
open Go.RowKit Go.Deep

/-- The row of c cells when k pointers have been laid. -/
def rowAt (N c k : Nat) : Array Value := Array.ofFn (n := c) fun i => if i.val < k then .pointer (some ⟨N + 1 + i.val, 0, none⟩) else .pointer none
theorem rowAt_size (N c k : Nat) : (rowAt N c k).size = c := by simp [rowAt]
theorem rowAt_get? (N c k i : Nat) : (rowAt N c k)[i]? = if i < c then some (if i < k then .pointer (some ⟨N + 1 + i, 0, none⟩) else .pointer none) else none := by
  simp [rowAt, Array.getElem?_ofFn]
theorem rowAt_zero (N c : Nat) : madeCells #[.pointer none] c = rowAt N c 0 := by
  apply Array.ext
  · simp [madeCells, rowAt]
  · intro i h1 h2
    simp [madeCells, rowAt, Nat.mod_one]
theorem rowAt_succ (N c k : Nat) (hk : k < c) : (rowAt N c k).setIfInBounds k (.pointer (some ⟨N + 1 + k, 0, none⟩)) = rowAt N c (k + 1) := by
  apply Array.ext_getElem?
  intro i
  rw [Array.getElem?_setIfInBounds, rowAt_get?, rowAt_get?, rowAt_size]
  by_cases h : k = i
  · subst h
    rw [if_pos rfl, if_pos hk, if_pos hk, if_pos (by omega)]
  · rw [if_neg h]
    by_cases him : i < c
    · rw [if_pos him, if_pos him]
      by_cases h' : i < k
      · rw [if_pos h', if_pos (by omega)]
      · rw [if_neg h', if_neg (by omega)]
    · rw [if_neg him, if_neg him]

theorem cell_of_heap {w : World} {b o : Nat} {cs : Array Value} {t : TypeId} {fz : Nat × Nat} (h : w.heap[b]? = some (.cells cs t fz)) : w.cell? ⟨b, o, none⟩ = cs[o]? := by
  simp [World.cell?, h]
theorem frozen_of_heap {w : World} {b o : Nat} {cs : Array Value} {t : TypeId} (h : w.heap[b]? = some (.cells cs t (0, 0))) : w.frozen? ⟨b, o, none⟩ = false := by
  simp [World.frozen?, h]
theorem heap_new {w : World} {n : Nat} (o : Obj) (h : w.heap.size = n) : (w.alloc o).heap[n]? = some o := by
  subst h
  show (w.heap.push o)[w.heap.size]? = some o
  simp

/-- The loop under way. -/
structure Lay (N c k : Nat) (w wr : World) : Prop where
  sz : wr.heap.size = N + 1 + k
  row : wr.heap[N]? = some (.cells (rowAt N c k) 24 (0, 0))
  bel : Below N w wr

theorem lay_start (N c : Nat) (w : World) (hN : w.heap.size = N) : Lay N c 0 w (w.alloc (.cells (madeCells #[.pointer none] c) 24)) :=
  ⟨by simp [hN], by rw [heap_new _ hN, rowAt_zero N], (Below.refl _ _).alloc (by omega) _⟩

theorem lay_step {N c k : Nat} {w wr : World} (o : Obj) (hk : k < c) (h : Lay N c k w wr) : Lay N c (k + 1) w ((wr.alloc o).setCell ⟨N, k, none⟩ (.pointer (some ⟨N + 1 + k, 0, none⟩))) := by
  have hs := h.sz
  refine ⟨?_, ?_, ?_⟩
  · simp [World.setCell, hs]; omega
  · rw [heap_setCell_at _ ((Below.heap_alloc _ _ _ (by omega)).trans h.row), rowAt_succ _ _ _ hk]
  · exact (h.bel.alloc (by omega) o).setCell (by simp) _

/-- The pointers in the row; T behind them. -/
def pf (N m : Nat) (T : Addr) (i : Nat) : Addr := if i < m then ⟨N + 1 + i, 0, none⟩ else T

theorem pf_old (N m : Nat) (T : Addr) {i : Nat} (h : i < m) : pf N m T i = ⟨N + 1 + i, 0, none⟩ := by simp [pf, h]
theorem pf_new (N m : Nat) (T : Addr) : pf N m T m = T := by simp [pf]

theorem row_owned {N c m : Nat} {w wr : World} (T : Addr) (hm : m ≤ c) (hc : c ≤ 1000) (h : Lay N c m w wr) : wr.ownsRow N 24 1 (.slice (some ⟨N, 0, none⟩) m c) m (ptrs (pf N m T) m) := by
  refine ⟨by rw [ptrs_length, Nat.mul_one], Or.inr ⟨N, c, _, rfl, Nat.le_refl _, h.row, hm, by unfold maxLen; omega, by rw [rowAt_size, Nat.mul_one], ?_⟩⟩
  apply List.ext_getElem?
  intro i
  by_cases hi : i < m
  · rw [Nat.mul_one, List.getElem?_take_of_lt hi, Array.getElem?_toList, rowAt_get?, if_pos (by omega), if_pos hi, ptrs_get _ _ _ hi, pf_old _ _ _ hi]
  · rw [List.getElem?_eq_none (by simp; omega), List.getElem?_eq_none (by rw [ptrs_length]; omega)]

theorem below_draws {N : Nat} {w w' : World} (h : Below N w w') (q : Nat) : Below N w (w'.drewN q) := h.trans ⟨rfl, rfl, rfl, Nat.le_refl _, fun _ _ => rfl⟩

set_option maxRecDepth 100000 in
set_option maxHeartbeats 800000 in
theorem law_main (x r : Int) (m d : Nat) (w : World) (_hx0 : 0 ≤ x) (_hx : x ≤ 255) (hr0 : 0 ≤ r) (hr : r ≤ 255) (hm : wrap64 (128 + wrap64 (IntKind.i8.wrap x)) = (m : Int)) (hmb : m ≤ 255) (hd : r % 4 = (d : Int)) (_hdb : d ≤ 3) :
    Calls Yba.prog 3 #[.int .u8 x, .int .u8 r] w fun e w' => e = .returned (.bool true) ∧ Below w.heap.size w w' := by
  obtain ⟨i0, hi, hz0, hz1, hz2⟩ := info_parts info24
  have hmk : ∀ w : World, (Instr.makeSlice 23 (.int .i64 (m : Int)) (.int .i64 ((m : Int) + (d : Int)))).run Yba.prog w = .ok (.slice (some ⟨w.heap.size, 0, none⟩) m (m + d)) (w.alloc (.cells (madeCells #[.pointer none] (m + d)) 24)) := fun w => by
    have := run_make (P := Yba.prog) w 23 24 i0 (.pointer none) Yba.underlying23 hi hz0 .i64 .i64 (m : Int) ((m : Int) + (d : Int)) (by omega) (by omega) (by rw [hz2]; omega) (by omega)
    rw [this, hz1]
    have h2 : ((m : Int) + (d : Int)).toNat = m + d := by omega
    rw [h2, Int.toNat_natCast, Nat.mul_one]
    rfl
  have hls := lay_start w.heap.size (m + d) w rfl
  clear hi hz0 hz1 hz2
  go_enter Yba.func3, Yba.ntmps3
  go_wp2
  generalize hN : w.heap.size = N at *
  go_loopw [7] (fun i wr => ∃ k : Nat, k ≤ m ∧ i = .int .i64 k ∧ Lay N (m + d) k w wr) (fun i _ => m - (intOf i).toNat)
  case atStart => exact ⟨0, Nat.zero_le _, rfl, hls⟩
  case round =>
    obtain ⟨k, hk, rfl, hlay⟩ := hrel
    by_cases hlt : k < m
    · have hsz := hlay.sz
      have a3 : ∀ o, (wr.alloc o).cell? ⟨N, k, none⟩ = some (.pointer none) := fun o => by
        rw [World.cell?_of_block (w := wr) (Below.heap_alloc wr o _ (by simp; omega)), cell_of_heap hlay.row, rowAt_get?, if_pos (by omega), if_neg (by omega)]
      have z3 : ∀ o, (wr.alloc o).frozen? ⟨N, k, none⟩ = false := fun o => by
        rw [World.frozen?_of_block (w := wr) (Below.heap_alloc wr o _ (by simp; omega))]; exact frozen_of_heap hlay.row
      have hst := fun o => lay_step (k := k) o (by omega) hlay
      clear hls
      go_wp2
      go_roundw
      case rel => exact ⟨k + 1, by omega, by go_num, hst _⟩
      case measure => simp [intOf]; omega
    · obtain rfl : k = m := by omega
      have hcl := clone4 N k (k + d) (fun i => ⟨N + 1 + i, 0, none⟩) wr (by omega) (fun i hi => by rw [cell_of_heap hlay.row, rowAt_get?, if_pos (by omega), if_pos hi])
      clear hls hmk
      go_wp2_with fail
      refine hcl.mono ?_
      rintro e w1 ⟨gb, cb, rfl, hgb, hcb, hgb1, hb1⟩
      have hS : ∃ S, S = w1.heap.size := ⟨_, rfl⟩
      obtain ⟨S, hS⟩ := hS
      have hsz := hlay.sz
      have hg1 : wr.grownBy w1 none := ⟨hb1.os, hb1.tape, hb1.output, hb1.size, fun j hj _ => hb1.block j hj⟩
      have hsz1 := hb1.size
      obtain ⟨W2, hW2⟩ : ∃ W2, W2 = (w1.alloc (.cells #[.pointer none, .pointer none, .map none, .slice (some ⟨N, 0, none⟩) k (k + d)] 42)).alloc (.cells #[.pointer none, .int .u8 0, .pointer none, .pointer none] 34) := ⟨_, rfl⟩
      have hz2 : W2.heap.size = S + 1 + 1 := by rw [hW2, hS]; simp
      have hold : ∀ j, j < S → W2.heap[j]? = w1.heap[j]? := fun j hj => by
        rw [hW2, Below.heap_alloc _ _ _ (by simp; omega), Below.heap_alloc _ _ _ (by omega)]
      have hs2 : W2.heap[S]? = some (.cells #[.pointer none, .pointer none, .map none, .slice (some ⟨N, 0, none⟩) k (k + d)] 42 (0, 0)) := by
        rw [hW2, Below.heap_alloc _ _ _ (by simp; omega)]; exact heap_new _ hS.symm
      have ht2 : W2.heap[S + 1]? = some (.cells #[.pointer none, .int .u8 0, .pointer none, .pointer none] 34 (0, 0)) := by
        rw [hW2]; exact heap_new _ (by simp [hS])
      have hown : W2.ownsRow N 24 1 (.slice (some ⟨N, 0, none⟩) k (k + d)) k (ptrs (pf N k ⟨S + 1, 0, none⟩) k) := by
        rw [hW2]; exact (((row_owned ⟨S + 1, 0, none⟩ (by omega) (by omega) hlay).kept hg1 (Or.inr (by simp [Value.ownBlock]))).alloc _).alloc _
      have hbel2 : Below N w W2 := by
        rw [hW2]; exact ((hlay.bel.trans (hb1.mono (by omega))).alloc (by omega) _).alloc (by simp; omega) _
      have hrow2 : ∀ i, i < k → W2.cell? ⟨N, i, none⟩ = some (.pointer (some ⟨N + 1 + i, 0, none⟩)) := fun i hi => by
        rw [World.cell?_of_block (w := wr) ((hold N (by omega)).trans (hb1.block N (by omega))), cell_of_heap hlay.row, rowAt_get?, if_pos (by omega), if_pos hi]
      have hbef2 : ∀ i, i < k → W2.cell? ⟨gb, i, none⟩ = some (.pointer (some ⟨N + 1 + i, 0, none⟩)) := fun i hi => by
        rw [World.cell?_of_block (w := w1) (hold gb (by omega))]; exact hcb i hi
      have hmap : ∀ (w : World) (r : Option Nat), (binOp .neq 40 (.map r) (.map none)).run Yba.prog w = .ok (.bool (!r.isNone)) w := fun w r => run_neq_map_nil w _ _ _ r Yba.underlying40
      go_wp2_with fail
      rw [← hW2, ← hS]
      have hgbS : gb < S := by omega
      clear hW2 hS hlay hcb hcl hb1 hg1 hold
      by_cases h128 : k = 128
      · have q1 : ((k : Int) == 128) = true := by simp; omega
        have q2 : ((k : Int) != 128) = false := by simp; omega
        have c0 : W2.cell? ⟨S, 0, none⟩ = some (.pointer none) := by rw [cell_of_heap hs2]; rfl
        have c1 : W2.cell? ⟨S, 1, none⟩ = some (.pointer none) := by rw [cell_of_heap hs2]; rfl
        have c2 : W2.cell? ⟨S, 2, none⟩ = some (.map none) := by rw [cell_of_heap hs2]; rfl
        have c3 : W2.cell? ⟨S, 3, none⟩ = some (.slice (some ⟨N, 0, none⟩) k (k + d)) := by rw [cell_of_heap hs2]; rfl
        have t3 : W2.cell? ⟨S + 1, 3, none⟩ = some (.pointer none) := by rw [cell_of_heap ht2]; rfl
        have heq := equal6 N gb k (k + d) cb (fun i => ⟨N + 1 + i, 0, none⟩) W2 (by omega) hrow2 hbef2
        have HK : Hid (k = 128) := h128
        clear h128
        refine (keep5_full S (S + 1) k _ _ W2 q1 c3).mono ?_
        rintro e w3 ⟨rfl, rfl⟩
        go_wp2_with fail
        refine heq.mono ?_
        rintro e w4 ⟨rfl, q, rfl⟩
        go_wp2_with fail
        go_ret
        exact ⟨rfl, by rw [hN]; exact below_draws hbel2 q⟩
      · have q1 : ((k : Int) == 128) = false := by simp; omega
        have q2 : ((k : Int) != 128) = true := by simp; omega
        refine (keep5 N S (S + 1) k (k + d) N (pf N k ⟨S + 1, 0, none⟩) W2 (by omega) q1 (by omega) (by omega) (pf_new _ _ _) hs2 ht2 hown).mono ?_
        rintro e w3 ⟨g', cap', rfl, hown3, hs3, hk3⟩
        have c0 : w3.cell? ⟨S, 0, none⟩ = some (.pointer none) := by rw [cell_of_heap hs3]; rfl
        have c1 : w3.cell? ⟨S, 1, none⟩ = some (.pointer none) := by rw [cell_of_heap hs3]; rfl
        have c2 : w3.cell? ⟨S, 2, none⟩ = some (.map none) := by rw [cell_of_heap hs3]; rfl
        have c3 : w3.cell? ⟨S, 3, none⟩ = some (.slice (some ⟨g', 0, none⟩) (k + 1) cap') := by rw [cell_of_heap hs3]; rfl
        have t3 : w3.cell? ⟨S + 1, 3, none⟩ = some (.pointer none) := by rw [cell_of_heap ((hk3.block (S + 1) (by omega) (by omega) (by omega)).trans ht2)]; rfl
        have hcap : k + 1 ≤ cap' := by
          rcases hown3.2 with ⟨h, _⟩ | ⟨_, _, _, h, _, _, h2, _⟩
          · simp at h
          · simp at h; omega
        have hnew : w3.cell? ⟨g', k, none⟩ = some (.pointer (some ⟨S + 1, 0, none⟩)) := by
          rw [hown3.cellAt k (by omega), ptrs_get _ _ _ (by omega), pf_new]
        have hrow3 : ∀ i, i < k → w3.cell? ⟨g', i, none⟩ = some (.pointer (some ⟨N + 1 + i, 0, none⟩)) := fun i hi => by
          rw [hown3.cellAt i (by omega), ptrs_get _ _ _ (by omega), pf_old _ _ _ hi]
        have hbef3 : ∀ i, i < k → w3.cell? ⟨gb, i, none⟩ = some (.pointer (some ⟨N + 1 + i, 0, none⟩)) := fun i hi => by
          rw [World.cell?_of_block (w := W2) (hk3.block gb (by omega) (by omega) (by omega))]; exact hbef2 i hi
        have hbel3 : Below N w w3 := hbel2.trans ⟨hk3.os, hk3.tape, hk3.output, hk3.size, fun j hj => hk3.block j (by omega) (by omega) (by omega)⟩
        have heq := equal6 g' gb k cap' cb (fun i => ⟨N + 1 + i, 0, none⟩) w3 (by omega) hrow3 hbef3
        have hnq := neq_same
        have hl1 : (((k + 1 : Nat) : Int) != (k : Int) + 1) = false := by simp
        have hi1 : (k : Int) < ((k + 1 : Nat) : Int) := by omega
        have hcap' : (k : Int) ≤ (cap' : Int) := by omega
        clear hown3 hs3 hk3 hbef2 hrow2 hown hs2 ht2 hrow3 hbef3 hbel2
        go_wp2_with fail
        refine heq.mono ?_
        rintro e w4 ⟨rfl, q, rfl⟩
        go_wp2_with fail
        go_ret
        exact ⟨rfl, by rw [hN]; exact below_draws hbel3 q⟩
end Go.Proofs.Ybulkdtfg
