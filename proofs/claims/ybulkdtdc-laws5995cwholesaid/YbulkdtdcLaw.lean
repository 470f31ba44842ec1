/- The law's own walk. -/
import Derived.Test.YbulkdtdcClose
import Derived.Deep.OwnRows
import Derived.Deep.LoopGhost
import Derived.Deep.Light
namespace Go.Proofs.Ybulkdtdc
open Go.RowKit Go.Deep
open Go.ChangeMaps (setBlock)

/-- The row of pointers when k closers have been laid. -/
def csAt (N m k : Nat) : Array Value := Array.ofFn (n := m) fun i => if i.val < k then .pointer (some ⟨N + 4 + i.val, 0, none⟩) else .pointer none

theorem csAt_get (N m k i : Nat) (hi : i < m) (hk : i < k) : (csAt N m k)[i]? = some (.pointer (some ⟨N + 4 + i, 0, none⟩)) := by
  simp [csAt, hi, hk]
theorem csAt_zero (N m : Nat) : madeCells #[.pointer none] m = csAt N m 0 := by
  apply Array.ext
  · simp [madeCells, csAt]
  · intro i h1 h2
    simp [madeCells, csAt, Nat.mod_one]
theorem csAt_get? (N m k i : Nat) : (csAt N m k)[i]? = if i < m then some (if i < k then .pointer (some ⟨N + 4 + i, 0, none⟩) else .pointer none) else none := by
  simp [csAt, Array.getElem?_ofFn]
theorem csAt_succ (N m k : Nat) (hk : k < m) : (csAt N m k).setIfInBounds k (.pointer (some ⟨N + 4 + k, 0, none⟩)) = csAt N m (k + 1) := by
  apply Array.ext_getElem?
  intro i
  have hs : (csAt N m k).size = m := by simp [csAt]
  rw [Array.getElem?_setIfInBounds, csAt_get?, csAt_get?, hs]
  by_cases h : k = i
  · subst h
    rw [if_pos rfl, if_pos hk, if_pos hk, if_pos (by omega)]
  · rw [if_neg h]
    by_cases him : i < m
    · rw [if_pos him, if_pos him]
      by_cases h' : i < k
      · rw [if_pos h', if_pos (by omega)]
      · rw [if_neg h', if_neg (by omega)]
    · rw [if_neg him, if_neg him]

theorem info53' : (Yba.prog.info? 53).map (fun i => (i.zero, i.size, i.bytes)) = some (some (.pointer none), 1, 8) := by kernel_rfl

section
variable {ops : Array Oper} {rest : List Oper} {o : Oper} {a : Act} {Q : Exit → Act → World → Prop}
theorem wpList_put_raw {w : World} (hg : o.guard = none) (m x v : Operand) (hop : o.op = Op.mapUpdate 26 m x v) (M C n : Nat)
    (hm : a.eval m = .map (some M)) (hx : a.eval x = .iface 53 (.pointer (some ⟨C + n, 0, none⟩))) (hv : a.eval v = .agg #[]) (hM : w.heap[M]? = some (.map (ents C n) n)) (hi : ∀ j, j ≤ n → HasRow w (C + j))
    (hK : wpList Yba.prog ops Q rest (a.put o.dst undef) (setBlock w M (.map (ents C (n + 1)) (n + 1)))) :
    wpList Yba.prog ops Q (o :: rest) a w := by
  refine wpList_plain hg fun K' hK' => ?_
  have hrun := run_put w M C n hM hi
  unfold keyAt at hrun
  unfold Oper.wp
  simp [execOp, hop, hm, hx, hv, hrun, Result.andThen]
  exact hK' _ _ hK
theorem wpList_len_raw {w : World} (hg : o.guard = none) (m : Operand) (hop : o.op = Op.call { callee := Callee.builtin Builtin.len, args := #[m], argTypes := #[26] }) (M C n : Nat)
    (hm : a.eval m = .map (some M)) (hM : w.heap[M]? = some (.map (ents C n) n))
    (hK : wpList Yba.prog ops Q rest (a.put o.dst (.int .i64 n)) w) :
    wpList Yba.prog ops Q (o :: rest) a w := by
  refine wpList_plain hg fun K' hK' => ?_
  have hrun : (Builtin.len_ #[26] o.type #[.map (some M)]).run Yba.prog w = .ok (.int .i64 n) w := by
    simp [Builtin.len_, run_underlying Yba.underlying26, MapKept.run_getObj_map hM, Result.andThen, ents_size, goInt]
  unfold Oper.wp
  simp [execOp, hop, resolve, invoke, builtin, hm, hrun, Result.andThen]
  exact hK' _ _ hK
end

theorem Keeps.below {N : Nat} {w w' : World} (h : Keeps N w w') : Below N w w' := ⟨h.os, h.tape, h.output, h.size, fun k hk => h.block k (Or.inl hk)⟩

/-- The first loop under way: k closers laid. -/
structure Lay (N m k : Nat) (f : Nat → Bool) (mb to : Int) (ns pc : Bool) (wr : World) : Prop where
  st : St N k f (fun _ => false) mb to ns 0 0 pc wr
  sz : wr.heap.size = N + 4 + k
  cs : wr.heap[N + 3]? = some (.cells (csAt N m k) 53 (0, 0))


theorem lay_start (N m : Nat) (mb to : Int) (ns pc : Bool) (f : Nat → Bool) (w : World) (hN : w.heap.size = N) :
    Lay N m 0 f mb to ns pc ((((w.alloc (.cells #[.int .i64 0] 3)).alloc (.map #[] 0)).alloc (.cells (srv N mb to ns 0 pc) 51)).alloc (.cells (madeCells #[.pointer none] m) 53)) ∧
      Below N w ((((w.alloc (.cells #[.int .i64 0] 3)).alloc (.map #[] 0)).alloc (.cells (srv N mb to ns 0 pc) 51)).alloc (.cells (madeCells #[.pointer none] m) 53)) := by
  subst hN
  refine ⟨⟨⟨?_, ?_, ?_, fun i hi => absurd hi (Nat.not_lt_zero _), ?_⟩, ?_, ?_⟩, ?_⟩
  · rw [heap_alloc_old _ (by simp; omega), heap_alloc_old _ (by simp; omega), heap_alloc_old _ (by simp)]
    exact (MapKept.heap_alloc w _).1
  · rw [heap_alloc_old _ (by simp), heap_alloc_old _ (by simp)]
    have := (MapKept.heap_alloc (w.alloc (.cells #[.int .i64 0] 3)) (.map #[] 0)).1
    simpa [ents] using this
  · rw [heap_alloc_old _ (by simp)]
    have := (MapKept.heap_alloc ((w.alloc (.cells #[.int .i64 0] 3)).alloc (.map #[] 0)) (.cells (srv w.heap.size mb to ns 0 pc) 51)).1
    simpa using this
  · simp
  · simp
  · have := (MapKept.heap_alloc (((w.alloc (.cells #[.int .i64 0] 3)).alloc (.map #[] 0)).alloc (.cells (srv w.heap.size mb to ns 0 pc) 51)) (.cells (madeCells #[.pointer none] m) 53)).1
    rw [csAt_zero w.heap.size m] at this
    simpa [csAt_zero w.heap.size m] using this
  · exact ((((Below.refl _ _).alloc (Nat.le_refl _) _).alloc (by simp) _).alloc (by simp; omega) _).alloc (by simp; omega) _

set_option maxRecDepth 100000 in
set_option maxHeartbeats 800000 in
theorem law3_big (n : Int) (a : Option Addr) (len cap : Nat) (mb to : Int) (ns pc : Bool) (w : World) (h : 4096 < n) :
    Calls Yba.prog 3 #[.int .u16 n, .slice a len cap, .int .i64 mb, .int .i64 to, .bool ns, .bool pc] w fun e w' => e = .returned (.bool true) ∧ w' = w := by
  go_enter Yba.func3, Yba.ntmps3
  go_wp2
  go_ret
  exact ⟨rfl, rfl⟩

set_option maxRecDepth 100000 in
set_option maxHeartbeats 800000 in
theorem law3_long (n : Int) (a : Option Addr) (len cap : Nat) (mb to : Int) (ns pc : Bool) (w : World) (h : ¬ 4096 < n) (hl : (1048576 : Int) < len) :
    Calls Yba.prog 3 #[.int .u16 n, .slice a len cap, .int .i64 mb, .int .i64 to, .bool ns, .bool pc] w fun e w' => e = .returned (.bool true) ∧ w' = w := by
  go_enter Yba.func3, Yba.ntmps3
  go_wp2
  go_ret
  exact ⟨rfl, rfl⟩

theorem heap_new {w : World} {n : Nat} (o : Obj) (h : w.heap.size = n) : (w.alloc o).heap[n]? = some o := by
  subst h
  exact (MapKept.heap_alloc w o).1

/-- The world behind a round's box and its store, ahead of the map's. -/
theorem lay_map {N m k : Nat} {g : Nat → Bool} {mb to : Int} {ns pc f : Bool} {wr : World} (h : Lay N m k g mb to ns pc wr) :
    ((wr.alloc (clo (N + 2) N f false)).setCell ⟨N + 3, k, none⟩ (.pointer (some ⟨N + 4 + k, 0, none⟩))).heap[N + 1]? = some (.map (ents (N + 4) k) k) ∧
      ∀ j, j ≤ k → HasRow ((wr.alloc (clo (N + 2) N f false)).setCell ⟨N + 3, k, none⟩ (.pointer (some ⟨N + 4 + k, 0, none⟩))) (N + 4 + j) := by
  have hs := h.sz
  refine ⟨?_, fun j hj => ?_⟩
  · rw [heap_setCell_off _ (by simp), heap_alloc_old _ (by omega)]; exact h.st.mp
  · rcases Nat.lt_or_ge j k with hlt | hge
    · exact ⟨_, _, by rw [heap_setCell_off _ (by simp; omega), heap_alloc_old _ (by omega)]; exact h.st.cl j hlt⟩
    · obtain rfl : j = k := by omega
      exact ⟨_, _, by rw [heap_setCell_off _ (by simp; omega), heap_new _ hs]; rfl⟩

theorem lay_step {N m k : Nat} {f : Nat → Bool} {mb to : Int} {ns pc : Bool} {wr : World} (hlt : k < m) (h : Lay N m k f mb to ns pc wr) :
    Lay N m (k + 1) f mb to ns pc (setBlock ((wr.alloc (clo (N + 2) N (f k) false)).setCell ⟨N + 3, k, none⟩ (.pointer (some ⟨N + 4 + k, 0, none⟩))) (N + 1) (.map (ents (N + 4) (k + 1)) (k + 1))) ∧
      Below N wr (setBlock ((wr.alloc (clo (N + 2) N (f k) false)).setCell ⟨N + 3, k, none⟩ (.pointer (some ⟨N + 4 + k, 0, none⟩))) (N + 1) (.map (ents (N + 4) (k + 1)) (k + 1))) := by
  have hs := h.sz
  have hm := (lay_map (f := f k) h).1
  have hset := MapKept.heap_set (o' := .map (ents (N + 4) (k + 1)) (k + 1)) hm
  have hsz : (setBlock ((wr.alloc (clo (N + 2) N (f k) false)).setCell ⟨N + 3, k, none⟩ (.pointer (some ⟨N + 4 + k, 0, none⟩))) (N + 1) (.map (ents (N + 4) (k + 1)) (k + 1))).heap.size = N + 4 + (k + 1) := by
    simp [setBlock, World.setCell, hs]; omega
  have hold : ∀ b, b ≠ N + 1 → b ≠ N + 3 → b < N + 4 + k → (setBlock ((wr.alloc (clo (N + 2) N (f k) false)).setCell ⟨N + 3, k, none⟩ (.pointer (some ⟨N + 4 + k, 0, none⟩))) (N + 1) (.map (ents (N + 4) (k + 1)) (k + 1))).heap[b]? = wr.heap[b]? := fun b h1 h2 h3 =>
    (hset.2 b h1).trans (by rw [heap_setCell_off _ (by simp; omega), heap_alloc_old _ (by omega)])
  refine ⟨⟨⟨?_, hset.1, ?_, ?_, ?_⟩, hsz, ?_⟩, ⟨rfl, rfl, rfl, by rw [hsz, hs]; omega, fun b hb => hold b (by omega) (by omega) (by omega)⟩⟩
  · exact (hold _ (by omega) (by omega) (by omega)).trans h.st.tb
  · exact (hold _ (by omega) (by omega) (by omega)).trans h.st.sv
  · intro i hi
    rcases Nat.lt_or_ge i k with hlt' | hge
    · exact (hold _ (by omega) (by omega) (by omega)).trans (h.st.cl i hlt')
    · obtain rfl : i = k := by omega
      refine (hset.2 _ (by omega)).trans ?_
      rw [heap_setCell_off _ (by simp; omega), heap_new _ hs]
  · rw [hsz]; omega
  · refine (hset.2 _ (by omega)).trans ?_
    rw [heap_setCell_at _ ((heap_alloc_old _ (by omega)).trans h.cs), csAt_succ _ _ _ hlt]

/-- The last loop: all has been done. -/
structure Fini (N m : Nat) (f : Nat → Bool) (mb to : Int) (ns : Bool) (w wr : World) : Prop where
  st : St N m f (fun _ => true) mb to ns 1 0 true wr
  cs : wr.heap[N + 3]? = some (.cells (csAt N m m) 53 (0, 0))
  bel : Below N w wr

theorem Fini.alloc {N m : Nat} {f : Nat → Bool} {mb to : Int} {ns : Bool} {w wr : World} (h : Fini N m f mb to ns w wr) (o : Obj) : Fini N m f mb to ns w (wr.alloc o) := by
  have hs := h.st.sz
  exact ⟨⟨(heap_alloc_old o (by omega)).trans h.st.tb, (heap_alloc_old o (by omega)).trans h.st.mp, (heap_alloc_old o (by omega)).trans h.st.sv, fun i hi => (heap_alloc_old o (by omega)).trans (h.st.cl i hi), by simp; omega⟩,
    (heap_alloc_old o (by omega)).trans h.cs, h.bel.alloc (by omega) o⟩

/-- What the walk is told of the slice of bools: where it has an element, it leads to cells that hold bools. -/
def IsBools (w : World) (a : Option Addr) (len : Nat) (B : Nat → Bool) : Prop :=
  0 < len → ∃ b off, a = some ⟨b, off, none⟩ ∧ b < w.heap.size ∧ ∀ i, i < len → w.cell? ⟨b, off + i, none⟩ = some (.bool (B i))

def failOf (len : Nat) (B : Nat → Bool) (i : Nat) : Bool := if 0 < len then B (i % len) else false

set_option maxRecDepth 100000 in
set_option maxHeartbeats 800000 in
theorem law3_main (m : Nat) (a : Option Addr) (len cap : Nat) (mb to : Int) (ns pc : Bool) (B : Nat → Bool) (w : World) (hm : (m : Int) ≤ 4096) (hl : (len : Int) ≤ 1048576) (hB : IsBools w a len B) :
    Calls Yba.prog 3 #[.int .u16 m, .slice a len cap, .int .i64 mb, .int .i64 to, .bool ns, .bool pc] w fun e w' => e = .returned (.bool true) ∧ Below w.heap.size w w' := by
  have hmm := @run_makeMap Yba.prog
  have hmf : ∀ (fn : Fn) (first cap : Array Value) (w : World), (Instr.makeFunc fn first cap).run Yba.prog w = .ok (.func fn first cap) w := fun _ _ _ _ => rfl
  have hmk := run_make_row' (P := Yba.prog) 52 53 (.pointer none) 8 Yba.underlying52 info53' rfl .i64 .i64 m (by omega) (by omega)
  have hls := lay_start w.heap.size m mb to ns pc (failOf len B) w rfl
  go_enter Yba.func3, Yba.ntmps3
  go_wp2
  rw [show w.heap.size + 1 + 1 + 1 = w.heap.size + 3 from rfl, show w.heap.size + 1 + 1 = w.heap.size + 2 from rfl]
  generalize hN : w.heap.size = N at *
  go_loopw [16] (fun i wr => ∃ k : Nat, k ≤ m ∧ i = .int .i64 k ∧ Lay N m k (failOf len B) mb to ns pc wr ∧ Below N w wr) (fun i _ => m - (intOf i).toNat)
  case atStart => exact ⟨0, Nat.zero_le _, rfl, hls.1, hls.2⟩
  case round =>
    obtain ⟨k, hk, rfl, hlay, hbel⟩ := hrel
    by_cases hlt : k < m
    · have hsv := hlay.st.sv
      have c12 : wr.cell? ⟨N + 2, 12, none⟩ = some (.map (some (N + 1))) := by rw [cell_of_heap hsv]; rfl
      have hsz := hlay.sz
      have a12 : ∀ o, (wr.alloc o).cell? ⟨N + 2, 12, none⟩ = some (.map (some (N + 1))) := fun o => by
        rw [← c12]; exact World.cell?_of_block (w := wr) (heap_alloc_old o (by simp; omega))
      have a3 : ∀ o, (wr.alloc o).cell? ⟨N + 3, k, none⟩ = some (.pointer none) := fun o => by
        rw [World.cell?_of_block (w := wr) (heap_alloc_old o (by simp; omega)), cell_of_heap hlay.cs, csAt_get?, if_pos hlt, if_neg (by omega)]
      have z3 : ∀ o, (wr.alloc o).frozen? ⟨N + 3, k, none⟩ = false := fun o => by
        rw [World.frozen?_of_block (w := wr) (heap_alloc_old o (by simp; omega))]; exact frozen_of_heap hlay.cs
      clear hls
      rcases Nat.eq_zero_or_pos len with h0 | h0
      · have hz : (0 < len) = False := by simp; omega
        have hf : failOf len B k = false := by simp [failOf, h0]
        have hst := lay_step (f := failOf len B) hlt hlay
        rw [hf] at hst
        have hms := lay_map (f := false) hlay
        have HF : Hid (len = 0) := h0
        clear h0 hf hB
        go_wp2_with (first | (at_mapUpdate; refine wpList_put_raw rfl _ _ _ rfl (N + 1) (N + 4) k rfl rfl rfl hms.1 hms.2 ?_))
        go_roundw
        case rel => exact ⟨k + 1, by omega, by go_num, hst.1, hbel.trans hst.2⟩
        case measure => simp [intOf]; omega
      · obtain ⟨b, off, rfl, hbw, hcl⟩ := hB h0
        have hp : (0 : Int) < (len : Int) := by omega
        have hf : failOf len B k = B (k % len) := by simp [failOf, h0]
        have hq : (k : Int) % (len : Int) < len := Int.emod_lt_of_pos _ hp
        have hq0 : 0 ≤ (k : Int) % (len : Int) := Int.emod_nonneg _ (by omega)
        have hcw : wr.cell? ⟨b, off + k % len, none⟩ = some (.bool (B (k % len))) := by
          rw [hbel.cell (by simpa [hN] using hbw)]; exact hcl (k % len) (Nat.mod_lt _ h0)
        have hst := lay_step (f := failOf len B) hlt hlay
        rw [hf] at hst
        have hms := lay_map (f := B (k % len)) hlay
        clear hf hB hcl
        go_wp2_with (first | (at_mapUpdate; refine wpList_put_raw rfl _ _ _ rfl (N + 1) (N + 4) k rfl rfl rfl hms.1 hms.2 ?_))
        go_roundw
        case rel => exact ⟨k + 1, by omega, by go_num, hst.1, hbel.trans hst.2⟩
        case measure => simp [intOf]; omega
    · obtain rfl : k = m := by omega
      clear hls hB
      have hcs := hlay.cs
      have hc5 := close5 N k (failOf len B) mb to ns pc wr hlay.st
      clear hmm hmf hmk
      go_wp2_with fail
      refine hc5.mono ?_
      rintro e w1 ⟨rfl, hst1, hk1⟩
      have d0 : w1.cell? ⟨N, 0, none⟩ = some (.int .i64 1) := by rw [cell_of_heap hst1.tb]; rfl
      have s0 : w1.cell? ⟨N + 2, 0, none⟩ = some (.int .i64 mb) := by rw [cell_of_heap hst1.sv]; rfl
      have s1 : w1.cell? ⟨N + 2, 1, none⟩ = some (.int .i64 to) := by rw [cell_of_heap hst1.sv]; rfl
      have s2 : w1.cell? ⟨N + 2, 2, none⟩ = some (.pointer none) := by rw [cell_of_heap hst1.sv]; rfl
      have s3 : w1.cell? ⟨N + 2, 3, none⟩ = some (.bool ns) := by rw [cell_of_heap hst1.sv]; rfl
      have s11 : w1.cell? ⟨N + 2, 11, none⟩ = some (.bool true) := by rw [cell_of_heap hst1.sv]; rfl
      have s12 : w1.cell? ⟨N + 2, 12, none⟩ = some (.map (some (N + 1))) := by rw [cell_of_heap hst1.sv]; rfl
      have hbel1 : Below N w w1 := hbel.trans hk1.below
      have hcs1 : w1.heap[N + 3]? = some (.cells (csAt N k k) 53 (0, 0)) := (hk1.block _ (Or.inr rfl)).trans hcs
      have hmp1 := hst1.mp
      clear hc5 hlay hbel hk1 hcs
      go_wp2_with (first | (at_len; refine wpList_len_raw rfl _ rfl (N + 1) (N + 4) k rfl hmp1 ?_))
      have hfin : Fini N k (failOf len B) mb to ns w w1 := ⟨hst1, hcs1, hbel1⟩
      clear hst1 d0 s0 s1 s2 s3 s11 s12 hbel1 hcs1 hmp1
      go_loopw [20] (fun i wq => ∃ j : Nat, j ≤ k ∧ i = .int .i64 j ∧ Fini N k (failOf len B) mb to ns w wq) (fun i _ => k - (intOf i).toNat)
      case atStart => exact ⟨0, Nat.zero_le _, rfl, hfin⟩
      case round =>
        obtain ⟨j, hj, rfl, hfi⟩ := hrel
        clear hfin
        by_cases hjk : j < k
        · have t12 : wr.cell? ⟨N + 2, 12, none⟩ = some (.map (some (N + 1))) := by rw [cell_of_heap hfi.st.sv]; rfl
          have t3 : wr.cell? ⟨N + 3, j, none⟩ = some (.pointer (some ⟨N + 4 + j, 0, none⟩)) := by rw [cell_of_heap hfi.cs, csAt_get _ _ _ _ hjk hjk]
          have hlook := run_look wr (N + 1) (N + 4) k j hfi.st.mp (fun i hi => ⟨_, _, hfi.st.cl i hi⟩) hjk
          unfold keyAt at hlook
          have hcj := hfi.st.cl j hjk
          have hlt4 : N + 4 + j < wr.heap.size := (Array.getElem?_eq_some_iff.1 hcj).1
          have q0 : ∀ o, (wr.alloc o).cell? ⟨N + 4 + j, 0, none⟩ = some (.int .i64 1) := fun o => by rw [World.cell?_of_block (w := wr) (heap_alloc_old o hlt4), cell_of_heap hcj]; rfl
          have q1 : ∀ o, (wr.alloc o).cell? ⟨N + 4 + j, 1, none⟩ = some (.int .i64 1) := fun o => by rw [World.cell?_of_block (w := wr) (heap_alloc_old o hlt4), cell_of_heap hcj]; rfl
          have q2 : ∀ o, (wr.alloc o).cell? ⟨N + 4 + j, 2, none⟩ = some (.bool true) := fun o => by rw [World.cell?_of_block (w := wr) (heap_alloc_old o hlt4), cell_of_heap hcj]; rfl
          have hnext := hfi.alloc
          clear hcj hlt4
          go_wp2_with fail
          exact ⟨⟨j + 1, by omega, by go_num, hnext _⟩, by simp [intOf]; omega⟩
        · have e9 : wr.cell? ⟨N + 2, 9, none⟩ = some (.int .i32 0) := by rw [cell_of_heap hfi.st.sv]; rfl
          have y9 : wr.frozen? ⟨N + 2, 9, none⟩ = false := frozen_of_heap hfi.st.sv
          have e9' : (wr.setCell ⟨N + 2, 9, none⟩ (.int .i32 1)).cell? ⟨N + 2, 9, none⟩ = some (.int .i32 1) := World.cell?_setCell_same wr _ _ e9
          have y9' : (wr.setCell ⟨N + 2, 9, none⟩ (.int .i32 1)).frozen? ⟨N + 2, 9, none⟩ = false := by simp [y9]
          have hend : Below N w ((wr.setCell ⟨N + 2, 9, none⟩ (.int .i32 1)).setCell ⟨N + 2, 9, none⟩ (.int .i32 0)) := (hfi.bel.setCell (by simp) _).setCell (by simp) _
          go_wp2_with fail
          refine (try6 ⟨N + 2, 9, none⟩ _ e9 y9).mono ?_
          rintro e w2 ⟨rfl, rfl⟩
          go_wp2_with fail
          refine (unlock7 ⟨N + 2, 9, none⟩ _ e9' y9').mono ?_
          rintro e w3 ⟨rfl, rfl⟩
          go_wp2_with fail
          go_ret
          exact ⟨rfl, by rw [hN]; exact hend⟩
end Go.Proofs.Ybulkdtdc
