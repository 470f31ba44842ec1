/- The contracts of the law's helper, of enqueue, need, queue. -/
import Derived.Test.YbulkdtfgDoorBig
namespace Go.Proofs.YbulkdtfgDoor
open Go.RowKit

/-- The transaction's cells; wt: its field 'wait'. -/
def txnO (wt : Value) : Array Value := #[.string ⟨#[116]⟩, .pointer none, .map none, .int .i64 0, wt, .bool false, .bool false, .map none, .int .i64 0, .map none, .pointer none]
/-- The op's. T: the transaction's block. -/
def opO (T : Nat) : Array Value := #[.pointer (some ⟨T, 0, none⟩), .string ⟨#[]⟩, .int .i64 0, .bool false, .int .u8 0, .int .u8 0, .nilFunc]
/-- The table's; q: its lock's field 'waiting'. -/
def tblO (q : Value) : Array Value := #[.string ⟨#[]⟩, .pointer none, .pointer none, .int .u8 0, .pointer none, q, .pointer none, .pointer none, .pointer none, .pointer none, .pointer none, .pointer none, .pointer none, .pointer none, .pointer none, .pointer none, .pointer none, .pointer none, .pointer none, .pointer none, .pointer none, .pointer none]
/-- The request's. mo: its mode. -/
def reqO (T : Nat) (seq mo : Int) (cv : Bool) (room : Int) : Array Value := #[.pointer (some ⟨T + 1, 0, none⟩), .string ⟨#[97]⟩, .int .i64 0, .bool false, .int .u8 mo, .bool cv, .int .u64 seq, .pointer (some ⟨T + 2, 0, none⟩), .pointer (some ⟨T + 2, 2, none⟩), .bool false, .int .i64 room]

theorem cell_of_heap {w : World} {b o : Nat} {cs : Array Value} {t : TypeId} {fz : Nat × Nat} (h : w.heap[b]? = some (.cells cs t fz)) : w.cell? ⟨b, o, none⟩ = cs[o]? := by
  simp [World.cell?, h]
theorem frozen_of_heap {w : World} {b o : Nat} {cs : Array Value} {t : TypeId} (h : w.heap[b]? = some (.cells cs t (0, 0))) : w.frozen? ⟨b, o, none⟩ = false := by
  simp [World.frozen?, h]
theorem heap_new {w : World} {n : Nat} (o : Obj) (h : w.heap.size = n) : (w.alloc o).heap[n]? = some o := by
  subst h
  show (w.heap.push o)[w.heap.size]? = some o
  simp
theorem heap_setCell_at {w : World} {b o : Nat} {cs : Array Value} {t : TypeId} {fz : Nat × Nat} (v : Value) (h : w.heap[b]? = some (.cells cs t fz)) :
    (w.setCell ⟨b, o, none⟩ v).heap[b]? = some (.cells (cs.setIfInBounds o v) t fz) := by
  simp only [World.setCell, Array.getElem?_modify, h]
  simp
theorem heap_setCell_off {w : World} {a : Addr} {k : Nat} (v : Value) (h : k ≠ a.block) : (w.setCell a v).heap[k]? = w.heap[k]? := Below.heap_setCell w a v k h
theorem heap_alloc_old {w : World} {k : Nat} (o : Obj) (h : k < w.heap.size) : (w.alloc o).heap[k]? = w.heap[k]? := Below.heap_alloc w o k h

/-- Of the blocks that were there none but those in 'may' has turned. -/
structure Kept (may : Nat → Prop) (w w' : World) : Prop where
  os : w'.os = w.os
  tape : w'.tape = w.tape
  output : w'.output = w.output
  size : w.heap.size ≤ w'.heap.size
  block : ∀ k, k < w.heap.size → ¬ may k → w'.heap[k]? = w.heap[k]?

theorem Kept.refl (may : Nat → Prop) (w : World) : Kept may w w := ⟨rfl, rfl, rfl, Nat.le_refl _, fun _ _ _ => rfl⟩
theorem Kept.trans {may : Nat → Prop} {a b c : World} (h : Kept may a b) (k : Kept may b c) : Kept may a c :=
  ⟨k.os.trans h.os, k.tape.trans h.tape, k.output.trans h.output, Nat.le_trans h.size k.size, fun i hi hn => (k.block i (Nat.lt_of_lt_of_le hi h.size) hn).trans (h.block i hi hn)⟩
theorem Kept.mono {may may' : Nat → Prop} {a b : World} (h : Kept may a b) (hm : ∀ k, may k → may' k) : Kept may' a b :=
  ⟨h.os, h.tape, h.output, h.size, fun k hk hn => h.block k hk (fun e => hn (hm k e))⟩
/-- A store into a block that may turn, or that is new. -/
theorem Kept.setCell {may : Nat → Prop} {w w' : World} (h : Kept may w w') (a : Addr) (v : Value) (ha : may a.block ∨ w.heap.size ≤ a.block) : Kept may w (w'.setCell a v) :=
  ⟨h.os, h.tape, h.output, by rw [show (w'.setCell a v).heap.size = w'.heap.size by simp [World.setCell]]; exact h.size, fun k hk hn => by
    rw [heap_setCell_off v (fun e => by
      rcases ha with ha | ha
      · exact hn (e ▸ ha)
      · omega)]
    exact h.block k hk hn⟩
theorem Kept.alloc {may : Nat → Prop} {w w' : World} (h : Kept may w w') (o : Obj) : Kept may w (w'.alloc o) :=
  ⟨h.os, h.tape, h.output, by simp; have := h.size; omega, fun k hk hn => by
    rw [heap_alloc_old o (Nat.lt_of_lt_of_le hk h.size)]; exact h.block k hk hn⟩
theorem Kept.drewN {may : Nat → Prop} {w w' : World} (h : Kept may w w') (n : Nat) : Kept may w (w'.drewN n) := ⟨h.os, h.tape, h.output, h.size, h.block⟩
theorem Kept.drew {may : Nat → Prop} {w w' : World} (h : Kept may w w') : Kept may w w'.drew := ⟨h.os, h.tape, h.output, h.size, h.block⟩

set_option maxRecDepth 100000 in
set_option maxHeartbeats 400000 in
theorem creq5 (seq m : Int) (cv : Bool) (w : World) (hm0 : 0 ≤ m) (hm : m ≤ 255) :
    Calls Ybad.prog 5 #[.int .u64 seq, .int .u8 m, .bool cv] w fun e w' => e = .returned (.tuple #[.pointer (some ⟨w.heap.size, 0, none⟩), .pointer (some ⟨w.heap.size + 1, 0, none⟩), .pointer (some ⟨w.heap.size + 2, 0, none⟩), .pointer (some ⟨w.heap.size + 3, 0, none⟩)]) ∧
      w' = (((w.alloc (.cells (txnO (.pointer none)) 69)).alloc (.cells (opO w.heap.size) 90)).alloc (.cells (tblO (.pointer none)) 87)).alloc (.cells (reqO w.heap.size seq (1 + m % 3) cv 0) 75) := by
  go_enter Ybad.func5, Ybad.ntmps5
  go_wp2
  refine bodyPost_ret (v := .tuple #[.pointer (some ⟨w.heap.size, 0, none⟩), .pointer (some ⟨w.heap.size + 1, 0, none⟩), .pointer (some ⟨w.heap.size + 2, 0, none⟩), .pointer (some ⟨w.heap.size + 3, 0, none⟩)]) (by simp [results, Ybad.results5, go_sem]) rfl ⟨rfl, rfl⟩

/-- slices.BinarySearchFunc at a nil slice. -/
theorem bsearch11 (q : Addr) (f : Value) (w : World) :
    Calls Ybad.prog 11 #[.slice none 0 0, .pointer (some q), f] w fun e w' => e = .returned (.tuple #[.int .i64 0, .bool false]) ∧ w' = w := by
  go_enter Ybad.func11, Ybad.ntmps11
  go_wp2
  refine wp_loop_rounds 1 ?_
  rw [rounds_succ]
  go_wp2
  go_ret2
  exact ⟨rfl, rfl⟩

theorem info60 : (Ybad.prog.info? 60).map (fun i => (i.zero, i.size, i.bytes)) = some (some (.pointer none), 1, 8) := by kernel_rfl

set_option maxRecDepth 100000 in
set_option maxHeartbeats 400000 in
/-- slices.Insert of one pointer into a nil slice: a new row that holds it. -/
theorem insert13 (R : Nat) (p : Addr) (w : World) (hc : w.cell? ⟨R, 0, none⟩ = some (.pointer (some p))) :
    Calls Ybad.prog 13 #[.slice none 0 0, .int .i64 0, .slice (some ⟨R, 0, none⟩) 1 1] w fun e w' => ∃ g c cur, e = .returned (.slice (some ⟨g, 0, none⟩) 1 c) ∧ w.heap.size ≤ g ∧ 1 ≤ c ∧ w'.heap[g]? = some (.cells cur 60 (0, 0)) ∧ cur[0]? = some (.pointer (some p)) ∧ Kept (fun _ => False) w w' := by
  obtain ⟨i0, hi, hz0, hz1, hz2⟩ := info_parts info60
  have hown0 := World.ownsRow_nil w w.heap.size 60 1
  have hcn : ∀ j u, [Value.pointer (some p)][j]? = some u → w.cell? ((⟨R, 0, none⟩ : Addr).add j) = some u := by
    intro j u hu
    match j, hu with
    | 0, hu =>
      simp at hu
      subst hu
      simpa [Addr.add] using hc
  have one1 : ∀ u ∈ [Value.pointer (some p)], u.oneCell' = true := fun u hu => by
    simp at hu
    subst hu
    rfl
  go_enter Ybad.func13, Ybad.ntmps13
  go_wp2_with (first
    | (at_builtin; refine wpList_append_own _ rfl (.tmp 23) (.tmp 24) 51 rfl w.heap.size 60 i0 (.pointer none) 1 8 Ybad.underlying51 hi hz0 hz1 hz2 rfl (by decide) (.slice none 0 0) 0 [] rfl hown0 ⟨R, 0, none⟩ 1 1 [.pointer (some p)] rfl rfl hcn one1 (by unfold maxLen; omega) (by omega) (Nat.le_refl _) ?_; intro v' w1 hown1 hg1 hv1))
  have hk : Kept (fun _ => False) w w1 := ⟨hg1.os, hg1.tape, hg1.output, hg1.size, fun k hk _ => hg1.block k hk (by simp [Value.ownBlock])⟩
  have hex : ∃ g c cur, v' = .slice (some ⟨g, 0, none⟩) 1 c ∧ w.heap.size ≤ g ∧ 1 ≤ c ∧ w1.heap[g]? = some (.cells cur 60 (0, 0)) ∧ cur[0]? = some (.pointer (some p)) := by
    rcases hown1.2 with ⟨_, h0⟩ | ⟨g, c, cur, h1, h2, h3, h4, _, h6, h7⟩
    · omega
    · refine ⟨g, c, cur, h1, h2, by omega, h3, ?_⟩
      have h0 : (cur.toList.take ((0 + 1) * 1))[0]? = some (.pointer (some p)) := by rw [h7]; rfl
      rw [List.getElem?_take_of_lt (by omega), Array.getElem?_toList] at h0
      exact h0
  obtain ⟨g, c, cur, rfl, h2, h3, h4, h5⟩ := hex
  go_ret
  exact ⟨g, c, rfl, h2, h3, cur, h4, h5, hk⟩

/-- The queue's cells: the row of requests, and the counts: one request of mode mo. -/
def waitO (g c : Nat) (mo : Int) : Array Value := (#[.slice (some ⟨g, 0, none⟩) 1 c, .int .i64 0, .int .i64 0, .int .i64 0, .int .i64 0, .int .i64 0, .int .i64 0, .int .i64 0] : Array Value).setIfInBounds (1 + mo.toNat) (.int .i64 1)

/-- What enqueue leaves: a queue Q that holds the one request, in a row g. -/
structure Queued (T Q g c : Nat) (mo : Int) (w w' : World) : Prop where
  new : w.heap.size ≤ Q
  newg : w.heap.size ≤ g
  q : w'.heap[Q]? = some (.cells (waitO g c mo) 96 (0, 0))
  g0 : w'.cell? ⟨g, 0, none⟩ = some (.pointer (some ⟨T + 3, 0, none⟩))
  c1 : 1 ≤ c
  tb : w'.heap[T + 2]? = some (.cells (tblO (.pointer (some ⟨Q, 0, none⟩))) 87 (0, 0))
  kept : Kept (fun k => k = T + 2) w w'

theorem Queued.drew {T Q g c : Nat} {mo : Int} {w w' : World} (h : Queued T Q g c mo w w') : Queued T Q g c mo w w'.drew := ⟨h.new, h.newg, h.q, h.g0, h.c1, h.tb, h.kept.drew⟩

set_option maxRecDepth 100000 in
set_option maxHeartbeats 400000 in
theorem enqueue8 (T : Nat) (seq mo : Int) (cv : Bool) (w : World) (hmo : 1 ≤ mo) (hmo3 : mo ≤ 3)
    (htb : w.heap[T + 2]? = some (.cells (tblO (.pointer none)) 87 (0, 0))) (hrq : w.heap[T + 3]? = some (.cells (reqO T seq mo cv 0) 75 (0, 0))) :
    Calls Ybad.prog 8 #[.pointer (some ⟨T + 2, 2, none⟩), .pointer (some ⟨T + 3, 0, none⟩)] w fun e w' => e = .returned (.tuple #[]) ∧ ∃ Q g c, Queued T Q g c mo w w' := by
  have c5 : w.cell? ⟨T + 2, 5, none⟩ = some (.pointer none) := by rw [cell_of_heap htb]; rfl
  have z5 : w.frozen? ⟨T + 2, 5, none⟩ = false := frozen_of_heap htb
  have hlt : T + 2 < w.heap.size := (Array.getElem?_eq_some_iff.1 htb).1
  have hlt3 : T + 3 < w.heap.size := (Array.getElem?_eq_some_iff.1 hrq).1
  have a5 : ∀ o, (w.alloc o).cell? ⟨T + 2, 5, none⟩ = some (.pointer none) := fun o => by
    rw [World.cell?_of_block (w := w) (heap_alloc_old o hlt)]; exact c5
  have y5 : ∀ o, (w.alloc o).frozen? ⟨T + 2, 5, none⟩ = false := fun o => by
    rw [World.frozen?_of_block (w := w) (heap_alloc_old o hlt)]; exact z5
  obtain ⟨W2, hW2⟩ : ∃ W2, W2 = ((w.setCell ⟨T + 2, 5, none⟩ (.pointer (some ⟨w.heap.size, 0, none⟩))).alloc (.cells #[.slice none 0 0, .int .i64 0, .int .i64 0, .int .i64 0, .int .i64 0, .int .i64 0, .int .i64 0, .int .i64 0] 96)).alloc (.cells #[.pointer (some ⟨T + 3, 0, none⟩)] 60) := ⟨_, rfl⟩
  have hss : (w.setCell ⟨T + 2, 5, none⟩ (.pointer (some ⟨w.heap.size, 0, none⟩))).heap.size = w.heap.size := by simp [World.setCell]
  have hz2 : W2.heap.size = w.heap.size + 2 := by rw [hW2]; simp [hss]
  have hR : W2.cell? ⟨w.heap.size + 1, 0, none⟩ = some (.pointer (some ⟨T + 3, 0, none⟩)) := by
    have h := heap_new (w := (w.setCell ⟨T + 2, 5, none⟩ (.pointer (some ⟨w.heap.size, 0, none⟩))).alloc (.cells #[.slice none 0 0, .int .i64 0, .int .i64 0, .int .i64 0, .int .i64 0, .int .i64 0, .int .i64 0, .int .i64 0] 96)) (n := w.heap.size + 1) (.cells #[.pointer (some ⟨T + 3, 0, none⟩)] 60) (by simp [hss])
    rw [← hW2] at h
    rw [cell_of_heap h]; rfl
  have hQ : W2.heap[w.heap.size]? = some (.cells #[.slice none 0 0, .int .i64 0, .int .i64 0, .int .i64 0, .int .i64 0, .int .i64 0, .int .i64 0, .int .i64 0] 96 (0, 0)) := by
    rw [hW2, heap_alloc_old _ (by simp [hss])]; exact heap_new _ hss
  have hT2 : W2.heap[T + 2]? = some (.cells (tblO (.pointer (some ⟨w.heap.size, 0, none⟩))) 87 (0, 0)) := by
    rw [hW2, heap_alloc_old _ (by simp [hss]; omega), heap_alloc_old _ (by rw [hss]; exact hlt), heap_setCell_at _ htb]; rfl
  have hK2 : Kept (fun k => k = T + 2) w W2 := by
    rw [hW2]; exact (((Kept.refl (fun k => k = T + 2) w).setCell ⟨T + 2, 5, none⟩ _ (Or.inl rfl)).alloc _).alloc _
  have hrq2 : W2.heap[T + 3]? = some (.cells (reqO T seq mo cv 0) 75 (0, 0)) := (hK2.block _ hlt3 (by simp)).trans hrq
  have hins := insert13 (w.heap.size + 1) ⟨T + 3, 0, none⟩ W2 hR
  go_enter Ybad.func8, Ybad.ntmps8
  go_wp2_with (first
    | (go_at_call 11; refine (bsearch11 _ _ _).mono ?_; rintro e w' ⟨rfl, rfl⟩))
  rw [← hW2]
  refine hins.mono ?_
  rintro e w3 ⟨g, c, cur, rfl, hg, hc1, hgc, hcur, hk3⟩
  have hQ3 : w3.heap[w.heap.size]? = some (.cells #[.slice none 0 0, .int .i64 0, .int .i64 0, .int .i64 0, .int .i64 0, .int .i64 0, .int .i64 0, .int .i64 0] 96 (0, 0)) := (hk3.block _ (by omega) (fun h => h)).trans hQ
  have hrq3 : w3.heap[T + 3]? = some (.cells (reqO T seq mo cv 0) 75 (0, 0)) := (hk3.block _ (by omega) (fun h => h)).trans hrq2
  have hT3 : w3.heap[T + 2]? = some (.cells (tblO (.pointer (some ⟨w.heap.size, 0, none⟩))) 87 (0, 0)) := (hk3.block _ (by omega) (fun h => h)).trans hT2
  have hK3 : Kept (fun k => k = T + 2) w w3 := hK2.trans (hk3.mono (fun _ h => h.elim))
  have r4 : w3.cell? ⟨T + 3, 4, none⟩ = some (.int .u8 mo) := by rw [cell_of_heap hrq3]; rfl
  have q0 : w3.cell? ⟨w.heap.size, 0, none⟩ = some (.slice none 0 0) := by rw [cell_of_heap hQ3]; rfl
  have q1 : w3.cell? ⟨w.heap.size, 1, none⟩ = some (.int .i64 0) := by rw [cell_of_heap hQ3]; rfl
  have q2 : w3.cell? ⟨w.heap.size, 2, none⟩ = some (.int .i64 0) := by rw [cell_of_heap hQ3]; rfl
  have q3 : w3.cell? ⟨w.heap.size, 3, none⟩ = some (.int .i64 0) := by rw [cell_of_heap hQ3]; rfl
  have q4 : w3.cell? ⟨w.heap.size, 4, none⟩ = some (.int .i64 0) := by rw [cell_of_heap hQ3]; rfl
  have zq : ∀ k, w3.frozen? ⟨w.heap.size, k, none⟩ = false := fun k => frozen_of_heap hQ3
  have hg0 : w3.cell? ⟨g, 0, none⟩ = some (.pointer (some ⟨T + 3, 0, none⟩)) := by rw [cell_of_heap hgc]; exact hcur
  have hfin : ∀ j : Nat, j = mo.toNat → Queued T w.heap.size g c mo w ((w3.setCell ⟨w.heap.size, 0, none⟩ (.slice (some ⟨g, 0, none⟩) 1 c)).setCell ⟨w.heap.size, 1 + j, none⟩ (.int .i64 1)) := fun j hj => by
    subst hj
    refine ⟨Nat.le_refl _, by omega, ?_, ?_, hc1, ?_, ?_⟩
    · rw [heap_setCell_at _ (heap_setCell_at _ hQ3)]; rfl
    · rw [World.cell?_of_block (w := w3) (by rw [heap_setCell_off _ (by simp; omega), heap_setCell_off _ (by simp; omega)])]; exact hg0
    · rw [heap_setCell_off _ (by simp; omega), heap_setCell_off _ (by simp; omega)]; exact hT3
    · exact (hK3.setCell _ _ (Or.inr (Nat.le_refl _))).setCell _ _ (Or.inr (Nat.le_refl _))
  have hne : ¬ T + 3 = w.heap.size := by omega
  clear hK3 hT3 hQ3 hrq3 hgc hcur hk3 hg0 hQ hT2 hK2 hrq2 hins hR hW2 hz2 hss htb hrq c5 z5 a5 y5
  have h123 : mo = 1 ∨ mo = 2 ∨ mo = 3 := by omega
  rcases h123 with rfl | rfl | rfl
  · have hf := hfin 1 rfl
    go_wp2_with fail
    go_region
    go_end0
    exact ⟨rfl, _, g, c, hf.drew⟩
  · have hf := hfin 2 rfl
    go_wp2_with fail
    go_region
    go_end0
    exact ⟨rfl, _, g, c, hf.drew⟩
  · have hf := hfin 3 rfl
    go_wp2_with fail
    go_region
    go_end0
    exact ⟨rfl, _, g, c, hf.drew⟩
end Go.Proofs.YbulkdtfgDoor
