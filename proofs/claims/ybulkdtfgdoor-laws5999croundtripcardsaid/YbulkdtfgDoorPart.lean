/- The first law's own walk. -/
import Derived.Test.YbulkdtfgDoorQueue
namespace Go.Proofs.YbulkdtfgDoor
open Go.RowKit

/-- '!=' of a pointer and itself. -/
theorem neq_same {tp te : TypeId} {n : Nat} (hp : Ybad.prog.underlying tp = some (.pointer te)) (hte : (Ybad.prog.info? te).map (fun i => i.size) = some n) (w : World) (a : Addr) : (binOp .neq tp (.pointer (some a)) (.pointer (some a))).run Ybad.prog w = .ok (.bool false) w := by
  obtain ⟨j, hj, _⟩ := Option.map_eq_some_iff.1 hte
  have h : ∀ d : Nat, (Op.equalIn (d + 1) tp (.pointer (some a)) (.pointer (some a))).run Ybad.prog w = .ok true w := fun d => by
    simp [Op.equalIn, run_underlying hp, sizeOf, typeInfo, hj, run_sameAddr_same]
  simp only [binOp]
  simp [Op.equal, Op.maxDepth, h 9999]
theorem neq60 (w : World) (a : Addr) : (binOp .neq 60 (.pointer (some a)) (.pointer (some a))).run Ybad.prog w = .ok (.bool false) w := neq_same (n := 11) Ybad.underlying60 (by kernel_rfl) w a
theorem neq59 (w : World) (a : Addr) : (binOp .neq 59 (.pointer (some a)) (.pointer (some a))).run Ybad.prog w = .ok (.bool false) w := neq_same (n := 7) Ybad.underlying59 (by kernel_rfl) w a
theorem neq32 (w : World) (a : Addr) : (binOp .neq 32 (.pointer (some a)) (.pointer (some a))).run Ybad.prog w = .ok (.bool false) w := neq_same (n := 22) Ybad.underlying32 (by kernel_rfl) w a
theorem neq73 (w : World) (a : Addr) : (binOp .neq 73 (.pointer (some a)) (.pointer (some a))).run Ybad.prog w = .ok (.bool false) w := neq_same (n := 4) Ybad.underlying73 (by kernel_rfl) w a
theorem neq58 (w : World) (a : Addr) : (binOp .neq 58 (.pointer (some a)) (.pointer (some a))).run Ybad.prog w = .ok (.bool false) w := neq_same (n := 11) Ybad.underlying58 (by kernel_rfl) w a
theorem neq71 (w : World) : (binOp .neq 71 (.agg #[.string ⟨#[97]⟩, .int .i64 0, .bool false]) (.agg #[.string ⟨#[97]⟩, .int .i64 0, .bool false])).run Ybad.prog w = .ok (.bool false) w := by kernel_rfl
theorem neq54 (w : World) : (binOp .neq 54 (.agg #[.int .i64 0, .int .i64 0, .int .i64 0, .int .i64 0, .int .i64 0, .int .i64 0, .int .i64 0]) (.agg #[.int .i64 0, .int .i64 0, .int .i64 0, .int .i64 0, .int .i64 0, .int .i64 0, .int .i64 0])).run Ybad.prog w = .ok (.bool false) w := by kernel_rfl
theorem neq55 (w : World) : (binOp .neq 55 .nilFunc .nilFunc).run Ybad.prog w = .ok (.bool false) w := by kernel_rfl

theorem St.start {Z : Array Value} {w : World} {L : Nat} (hL : w.heap.size = L) (h0 : w.cell? ⟨0, 0, none⟩ = some (.int .u8 0)) (hp : 0 < L) (r seq mo : Int) (cv : Bool) :
    St L (L + 1) (tab Z r) (.pointer none) (.pointer none) seq mo cv 0 (((((w.alloc (.cells (tab Z r) 57)).alloc (.cells (txnO (.pointer none)) 69)).alloc (.cells (opO (L + 1)) 90)).alloc (.cells (tblO (.pointer none)) 87)).alloc (.cells (reqO (L + 1) seq mo cv 0) 75)) ∧
    Below L w (((((w.alloc (.cells (tab Z r) 57)).alloc (.cells (txnO (.pointer none)) 69)).alloc (.cells (opO (L + 1)) 90)).alloc (.cells (tblO (.pointer none)) 87)).alloc (.cells (reqO (L + 1) seq mo cv 0) 75)) := by
  subst hL
  refine ⟨⟨?_, ?_, ?_, ?_, ?_, ?_, hp, by omega⟩, ?_⟩
  · rw [World.cell?_of_block (w := w) (by rw [heap_alloc_old _ (by simp <;> omega), heap_alloc_old _ (by simp <;> omega), heap_alloc_old _ (by simp <;> omega), heap_alloc_old _ (by simp <;> omega), heap_alloc_old _ (by simp <;> omega)])]; exact h0
  · rw [heap_alloc_old _ (by simp; omega), heap_alloc_old _ (by simp; omega), heap_alloc_old _ (by simp; omega), heap_alloc_old _ (by simp)]; exact heap_new _ rfl
  · rw [heap_alloc_old _ (by simp <;> omega), heap_alloc_old _ (by simp <;> omega), heap_alloc_old _ (by simp)]; exact heap_new _ (by simp)
  · rw [heap_alloc_old _ (by simp <;> omega), heap_alloc_old _ (by simp)]; exact heap_new _ (by simp)
  · rw [heap_alloc_old _ (by simp)]; exact heap_new _ (by simp)
  · exact heap_new _ (by simp)
  · exact (((((Below.refl _ _).alloc (Nat.le_refl _) _).alloc (by simp) _).alloc (by simp; omega) _).alloc (by simp; omega) _).alloc (by simp; omega) _

theorem zero57_run {Z : Array Value} (h : ZeroTab Z) (w : World) : (zeroValue 57).run Ybad.prog w = .ok (.agg Z) w := by
  simp [zeroValue, Ybad.typeInfo57, h.zero]

theorem below_draws {N : Nat} {w w' : World} (h : Below N w w') (q : Nat) : Below N w (w'.drewN q) := h.trans ⟨rfl, rfl, rfl, Nat.le_refl _, fun _ _ => rfl⟩

set_option maxRecDepth 100000 in
set_option maxHeartbeats 400000 in
theorem part3 (r seq m : Int) (cv : Bool) (w : World) (hm0 : 0 ≤ m) (hm : m ≤ 255) (hr : -9223372036854775808 ≤ r ∧ r ≤ 9223372036854775807) (h0 : w.cell? ⟨0, 0, none⟩ = some (.int .u8 0)) :
    Calls Ybad.prog 3 #[.int .i64 r, .int .u64 seq, .int .u8 m, .bool cv] w fun e w' => e = .returned (.bool true) ∧ Below w.heap.size w w' := by
  obtain ⟨Z, hZ⟩ := zeroTab_is
  obtain ⟨L, hL⟩ : ∃ L, w.heap.size = L := ⟨_, rfl⟩
  have hp : 0 < L := by rw [← hL]; exact Nat.lt_of_le_of_lt (Nat.zero_le _) (World.block_lt_of_cell? _ _ h0)
  have hz57 := zero57_run hZ
  have hZs := hZ.size
  obtain ⟨hs1, hbel⟩ := St.start (Z := Z) hL h0 hp r seq (1 + m % 3) cv
  obtain ⟨W0, hW0⟩ : ∃ W0, W0 = w.alloc (.cells (Z.setIfInBounds 3208 (.int .i64 r)) 57) := ⟨_, rfl⟩
  have hW0' : W0 = w.alloc (.cells (tab Z r) 57) := hW0
  rw [← hW0'] at hs1 hbel
  clear hW0'
  have hL0 : W0.heap.size = L + 1 := by rw [hW0]; simp [hL]
  have hc5 := creq5 seq m cv W0 hm0 hm
  rw [hL0] at hc5
  obtain ⟨T, hT⟩ : ∃ T, T = L + 1 := ⟨_, rfl⟩
  rw [← hT] at hc5 hs1 hbel
  have hmo1 : 1 ≤ 1 + m % 3 := by omega
  have hmo3 : 1 + m % 3 ≤ 3 := by omega
  obtain ⟨hr1, hr2⟩ := hr
  have h60 := neq60
  have h59 := neq59
  have h32 := neq32
  have h73 := neq73
  have h58 := neq58
  have h71 := neq71
  have h54 := neq54
  have h55 := neq55
  go_enter Ybad.func3, Ybad.ntmps3
  go_wp2_with fail
  rw [← hW0]
  refine hc5.mono ?_
  rintro e w1 ⟨rfl, hw1⟩
  rw [← hw1] at hs1 hbel
  clear hw1 hc5 hW0 hz57 hT hL0
  go_wp2_with fail
  refine (queue6 hZ L T r seq (1 + m % 3) cv w1 hmo1 hmo3 ⟨hr1, hr2⟩ hs1).mono ?_
  rintro e w2 ⟨rfl, Q, g, c, hs2, hn1, hn2, hc1, hq2, hg2, hk2⟩
  have hlo := hs2.lo
  have hT4 : T + 3 < w1.heap.size := (Array.getElem?_eq_some_iff.1 hs1.rq).1
  have hbel2 : Below L w w2 := hbel.trans ⟨hk2.os, hk2.tape, hk2.output, hk2.size, fun k hk => hk2.block k (by omega) (by omega)⟩
  have x4 : w2.cell? ⟨T, 4, none⟩ = some (.pointer (some ⟨T + 3, 0, none⟩)) := by rw [cell_of_heap hs2.tx]; rfl
  have x3 : w2.cell? ⟨T, 3, none⟩ = some (.int .i64 0) := by rw [cell_of_heap hs2.tx]; rfl
  have x5 : w2.cell? ⟨T, 5, none⟩ = some (.bool false) := by rw [cell_of_heap hs2.tx]; rfl
  have x6 : w2.cell? ⟨T, 6, none⟩ = some (.bool false) := by rw [cell_of_heap hs2.tx]; rfl
  have o0 : w2.cell? ⟨T + 1, 0, none⟩ = some (.pointer (some ⟨T, 0, none⟩)) := by rw [cell_of_heap hs2.op]; rfl
  have b0 : w2.cell? ⟨T + 3, 0, none⟩ = some (.pointer (some ⟨T + 1, 0, none⟩)) := by rw [cell_of_heap hs2.rq]; rfl
  have b1 : w2.cell? ⟨T + 3, 1, none⟩ = some (.string ⟨#[97]⟩) := by rw [cell_of_heap hs2.rq]; rfl
  have b2 : w2.cell? ⟨T + 3, 2, none⟩ = some (.int .i64 0) := by rw [cell_of_heap hs2.rq]; rfl
  have b3 : w2.cell? ⟨T + 3, 3, none⟩ = some (.bool false) := by rw [cell_of_heap hs2.rq]; rfl
  have b4 : w2.cell? ⟨T + 3, 4, none⟩ = some (.int .u8 (1 + m % 3)) := by rw [cell_of_heap hs2.rq]; rfl
  have b5 : w2.cell? ⟨T + 3, 5, none⟩ = some (.bool cv) := by rw [cell_of_heap hs2.rq]; rfl
  have b6 : w2.cell? ⟨T + 3, 6, none⟩ = some (.int .u64 seq) := by rw [cell_of_heap hs2.rq]; rfl
  have b7 : w2.cell? ⟨T + 3, 7, none⟩ = some (.pointer (some ⟨T + 2, 0, none⟩)) := by rw [cell_of_heap hs2.rq]; rfl
  have b8 : w2.cell? ⟨T + 3, 8, none⟩ = some (.pointer (some ⟨T + 2, 2, none⟩)) := by rw [cell_of_heap hs2.rq]; rfl
  have b9 : w2.cell? ⟨T + 3, 9, none⟩ = some (.bool false) := by rw [cell_of_heap hs2.rq]; rfl
  have b10 : w2.cell? ⟨T + 3, 10, none⟩ = some (.int .i64 0) := by rw [cell_of_heap hs2.rq]; rfl
  have l8 : w2.cell? ⟨L, 3208, none⟩ = some (.int .i64 r) := by rw [cell_of_heap hs2.lk]; exact tab_reserved hZ r
  have lz : ∀ i : Nat, 3208 ≠ i → w2.cell? ⟨L, i, none⟩ = Z[i]? := fun i hi => by rw [cell_of_heap hs2.lk]; exact tab_else Z r hi
  have l9 := (lz 3209 (by decide)).trans hZ.seq
  have l10 := (lz 3210 (by decide)).trans hZ.ready
  have l11 := (lz 3211 (by decide)).trans hZ.draining
  have l12 := (lz 3212 (by decide)).trans hZ.stats.1
  have l13 := (lz 3213 (by decide)).trans hZ.stats.2.1
  have l14 := (lz 3214 (by decide)).trans hZ.stats.2.2.1
  have l15 := (lz 3215 (by decide)).trans hZ.stats.2.2.2.1
  have l16 := (lz 3216 (by decide)).trans hZ.stats.2.2.2.2.1
  have l17 := (lz 3217 (by decide)).trans hZ.stats.2.2.2.2.2.1
  have l18 := (lz 3218 (by decide)).trans hZ.stats.2.2.2.2.2.2
  have l19 := (lz 3219 (by decide)).trans hZ.observe
  clear lz hs1 hs2 hq2 hg2 hk2 hbel hZ hZs
  go_wp2_with fail
  go_quiet (fail)
  go_wp2_with fail
  go_quiet (fail)
  go_wp2_with fail
  go_ret
  exact ⟨rfl, by rw [hL]; exact below_draws hbel2 _⟩
end Go.Proofs.YbulkdtfgDoor
