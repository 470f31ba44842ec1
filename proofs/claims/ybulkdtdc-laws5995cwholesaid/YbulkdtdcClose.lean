/- The server's Close, over a map of n closers, each of which is called once, in whatever order. -/
import Derived.Test.YbulkdtdcMap
namespace Go.Proofs.Ybulkdtdc
open Go.RowKit
open Go.ChangeMaps (setBlock)

/-- The server's cells. N: the counter's block. -/
def srv (N : Nat) (mb to : Int) (ns : Bool) (mu : Int) (cd : Bool) : Array Value := #[.int .i64 mb, .int .i64 to, .pointer none, .bool ns, .nilIface, .nilIface, .pointer none, .nilIface, .func (.func 4) #[] #[.pointer (some ⟨N, 0, none⟩)], .int .i32 mu, .int .u32 0, .bool cd, .map (some (N + 1)), .int .u64 0, .int .u32 0]

/-- What the call's own blocks hold. f i: closer i fails; d i: closer i has been called; k: the counter. -/
structure St (N n : Nat) (f d : Nat → Bool) (mb to : Int) (ns : Bool) (k mu : Int) (cd : Bool) (wr : World) : Prop where
  tb : wr.heap[N]? = some (.cells #[.int .i64 k] 3 (0, 0))
  mp : wr.heap[N + 1]? = some (.map (ents (N + 4) n) n)
  sv : wr.heap[N + 2]? = some (.cells (srv N mb to ns mu cd) 51 (0, 0))
  cl : ∀ i, i < n → wr.heap[N + 4 + i]? = some (clo (N + 2) N (f i) (d i))
  sz : N + 4 + n ≤ wr.heap.size

/-- What stays. -/
structure Keeps (N : Nat) (w w' : World) : Prop where
  os : w'.os = w.os
  tape : w'.tape = w.tape
  output : w'.output = w.output
  size : w.heap.size ≤ w'.heap.size
  block : ∀ k, (k < N ∨ k = N + 3) → w'.heap[k]? = w.heap[k]?

theorem Keeps.refl (N : Nat) (w : World) : Keeps N w w := ⟨rfl, rfl, rfl, Nat.le_refl _, fun _ _ => rfl⟩
theorem Keeps.trans {N : Nat} {a b c : World} (h : Keeps N a b) (k : Keeps N b c) : Keeps N a c :=
  ⟨k.os.trans h.os, k.tape.trans h.tape, k.output.trans h.output, Nat.le_trans h.size k.size, fun i hi => (k.block i hi).trans (h.block i hi)⟩
theorem Keeps.setCell {N : Nat} {w w' : World} (h : Keeps N w w') {a : Addr} (v : Value) (h1 : N ≤ a.block) (h2 : a.block ≠ N + 3) : Keeps N w (w'.setCell a v) :=
  h.trans ⟨rfl, rfl, rfl, by simp [World.setCell], fun k hk => heap_setCell_off v (by omega)⟩

/-- Has closer i come? (A name of its own, so that the walk leaves it as it is.) -/
def inSeen (seen : Array Nat) (i : Nat) : Bool := seen.contains i

theorem inSeen_push (seen : Array Nat) (i j : Nat) : inSeen (seen.push i) j = (inSeen seen j || decide (j = i)) := by
  unfold inSeen
  rw [contains_push]
  by_cases h : j = i <;> simp [h]

/-- The loop of Close under way: the iterator's block is r; 'seen': who has been called. -/
structure Going (N n : Nat) (f : Nat → Bool) (mb to : Int) (ns : Bool) (r : Nat) (seen : Array Nat) (wr : World) : Prop where
  st : St N n f (inSeen seen) mb to ns 1 1 true wr
  it : ∃ c0, n ≤ c0 ∧ wr.heap[r]? = some (.mapIter (some (N + 1)) n seen c0)
  lo : N + 4 + n ≤ r

def leftIn (N n r : Nat) (wr : World) : Nat :=
  match wr.heap[r]? with
  | some (.mapIter _ _ seen _) => (leftOf (ents (N + 4) n) seen).size
  | _ => 0

theorem leftIn_of {N n r : Nat} {wr : World} {m : Option Nat} {s c : Nat} {seen : Array Nat} (h : wr.heap[r]? = some (.mapIter m s seen c)) : leftIn N n r wr = (leftOf (ents (N + 4) n) seen).size := by
  simp [leftIn, h]

section
variable {ops : Array Oper} {rest : List Oper} {o : Oper} {a : Act} {Q : Exit → Act → World → Prop}

theorem wpList_range_raw {w : World} (hg : o.guard = none) (m : Operand) (t : TypeId) (hop : o.op = Op.range t m) {k e : TypeId} (ht : Yba.prog.underlying t = some (.map k e)) (b : Nat) {es : Array MapEntry} {clock : Nat}
    (hm : a.eval m = .map (some b)) (hb : w.heap[b]? = some (.map es clock)) (r : Nat) (hr : w.heap.size = r)
    (hK : wpList Yba.prog ops Q rest (a.put o.dst (.pointer (some ⟨r, 0, none⟩))) (w.alloc (.mapIter (some b) clock #[] clock))) :
    wpList Yba.prog ops Q (o :: rest) a w := by
  refine wpList_plain hg fun K' hK' => ?_
  have hrun := run_range_map (P := Yba.prog) w t k e b es clock ht hb
  unfold Oper.wp
  rw [hr] at hrun
  simp [execOp, hop, hm, hrun, Result.andThen]
  exact hK' _ _ hK

theorem wpList_next_raw {w : World} (hg : o.guard = none) (it : Operand) (hop : o.op = Op.next it false) {N n : Nat} {f : Nat → Bool} {mb to : Int} {ns : Bool} {r : Nat} {seen : Array Nat}
    (hit : a.eval it = .pointer (some ⟨r, 0, none⟩)) (h : Going N n f mb to ns r seen w)
    (hDone : (∀ i, i < n → inSeen seen i = true) → wpList Yba.prog ops Q rest (a.put o.dst (.tuple #[.bool false])) w)
    (hMore : ∀ (i : Nat) (w1 : World), i < n → inSeen seen i = false → St N n f (inSeen seen) mb to ns 1 1 true w1 → Keeps N w w1 → w1.heap.size = w.heap.size → w1.heap[r]? = some (.mapIter (some (N + 1)) n (seen.push i) n) →
      (Instr.entry (.pointer (some ⟨r, 0, none⟩))).run Yba.prog w1 = .ok (.tuple #[.iface 53 (.pointer (some ⟨N + 4 + i, 0, none⟩)), .agg #[]]) w1 → leftIn N n r w1 < leftIn N n r w →
      wpList Yba.prog ops Q rest (a.put o.dst (.tuple #[.bool true, .iface 53 (.pointer (some ⟨N + 4 + i, 0, none⟩)), .agg #[]])) w1) :
    wpList Yba.prog ops Q (o :: rest) a w := by
  refine wpList_plain hg fun K' hK' => ?_
  unfold Oper.wp
  obtain ⟨hst, ⟨c0, hc0, hr⟩, hlo⟩ := h
  have hborn : ∀ x ∈ (ents (N + 4) n).toList, ∃ i, i < n ∧ x = entAt (N + 4) i := by
    intro x hx
    rw [ents_toList] at hx
    obtain ⟨i, hi, rfl⟩ := List.mem_map.1 hx
    exact ⟨i, List.mem_range.1 hi, rfl⟩
  have hnd : ((ents (N + 4) n).toList.map (·.born)).Nodup := by
    rw [ents_toList, List.map_map]
    have : ((fun x : MapEntry => x.born) ∘ entAt (N + 4)) = id := rfl
    rw [this, List.map_id]
    exact List.nodup_range
  rcases run_next_at (P := Yba.prog) w o.type r (N + 1) n c0 seen (ents (N + 4) n) n hr hst.mp (fun x hx => by obtain ⟨i, hi, rfl⟩ := hborn x hx; exact hi) hc0 with ⟨h0, hrun⟩ | ⟨e, he, w1, hal, hrun⟩
  · simp [execOp, hop, hit, hrun, Result.andThen]
    refine hK' _ _ (hDone fun i hi => ?_)
    have := all_seen (ents (N + 4) n) seen h0 (entAt (N + 4) i) (by rw [ents_toList]; exact List.mem_map.2 ⟨i, List.mem_range.2 hi, rfl⟩)
    simpa [entAt, inSeen] using this
  · obtain ⟨hem, hes⟩ := mem_left he
    have hsh := left_shrinks (ents (N + 4) n) seen e he
    obtain ⟨i, hi, rfl⟩ := hborn e hem
    have hr1 : w1.heap[r]? = some (.mapIter (some (N + 1)) n seen c0) := by rcases hal with rfl | rfl <;> exact hr
    have hset := MapKept.heap_set (o' := .mapIter (some (N + 1)) n (seen.push i) n) hr1
    have hw1 : ∀ k : Nat, w1.heap[k]? = w.heap[k]? := fun k => by rcases hal with rfl | rfl <;> rfl
    have hk : ∀ k, k ≠ r → (setBlock w1 r (.mapIter (some (N + 1)) n (seen.push i) n)).heap[k]? = w.heap[k]? := fun k hk => (hset.2 k hk).trans (hw1 k)
    have hk4 : ∀ k, k < N + 4 + n → (setBlock w1 r (.mapIter (some (N + 1)) n (seen.push i) n)).heap[k]? = w.heap[k]? := fun k hk' => hk k (by omega)
    have hs1 : (setBlock w1 r (.mapIter (some (N + 1)) n (seen.push i) n)).heap.size = w.heap.size := by rcases hal with rfl | rfl <;> simp [setBlock]
    have hst1 : St N n f (inSeen seen) mb to ns 1 1 true (setBlock w1 r (.mapIter (some (N + 1)) n (seen.push i) n)) :=
      ⟨(hk4 _ (by omega)).trans hst.tb, (hk4 _ (by omega)).trans hst.mp, (hk4 _ (by omega)).trans hst.sv, fun j hj => (hk4 _ (by omega)).trans (hst.cl j hj), by rw [hs1]; exact hst.sz⟩
    have hen := run_entry_at (P := Yba.prog) _ r (N + 1) n seen (ents (N + 4) n) n (entAt (N + 4) i) hset.1 hst1.mp hem hnd
    simp [execOp, hop, hit, hrun, Result.andThen]
    refine hK' _ _ (hMore i _ hi (by simpa [entAt, inSeen] using hes) hst1 ⟨?_, ?_, ?_, ?_, fun k hk' => hk4 k (by omega)⟩ ?_ hset.1 hen ?_)
    · rcases hal with rfl | rfl <;> rfl
    · rcases hal with rfl | rfl <;> rfl
    · rcases hal with rfl | rfl <;> rfl
    · rcases hal with rfl | rfl <;> simp [setBlock]
    · rcases hal with rfl | rfl <;> simp [setBlock]
    · have h1 : leftIn N n r (setBlock w1 r (.mapIter (some (N + 1)) n (seen.push i) n)) = _ := leftIn_of hset.1
      have h2 : leftIn N n r w = _ := leftIn_of hr
      rw [h2]
      exact h1 ▸ hsh
end

theorem cell_same {w : World} {b o : Nat} {u v : Value} (h : w.cell? ⟨b, o, none⟩ = some u) : (w.setCell ⟨b, o, none⟩ v).cell? ⟨b, o, none⟩ = some v := World.cell?_setCell_same w _ _ h

theorem heap_setCell_old {w : World} {a : Addr} {v : Value} : (w.setCell a v).heap.size = w.heap.size := by simp [World.setCell]

theorem start_going {N n : Nat} {f : Nat → Bool} {mb to : Int} {ns cd : Bool} {w : World} (hst : St N n f (fun _ => false) mb to ns 0 0 cd w) :
    Going N n f mb to ns w.heap.size #[] ((((w.setCell ⟨N, 0, none⟩ (.int .i64 1)).setCell ⟨N + 2, 9, none⟩ (.int .i32 1)).setCell ⟨N + 2, 11, none⟩ (.bool true)).alloc (.mapIter (some (N + 1)) n #[] n)) ∧
      Keeps N w ((((w.setCell ⟨N, 0, none⟩ (.int .i64 1)).setCell ⟨N + 2, 9, none⟩ (.int .i32 1)).setCell ⟨N + 2, 11, none⟩ (.bool true)).alloc (.mapIter (some (N + 1)) n #[] n)) := by
  have hs : (((w.setCell ⟨N, 0, none⟩ (.int .i64 1)).setCell ⟨N + 2, 9, none⟩ (.int .i32 1)).setCell ⟨N + 2, 11, none⟩ (.bool true)).heap.size = w.heap.size := by rw [heap_setCell_old, heap_setCell_old, heap_setCell_old]
  have h2 := hst.sz
  refine ⟨⟨⟨?_, ?_, ?_, ?_, ?_⟩, ⟨n, Nat.le_refl _, ?_⟩, h2⟩, ⟨rfl, rfl, rfl, ?_, ?_⟩⟩
  · rw [heap_alloc_old _ (by omega), heap_setCell_off _ (by simp), heap_setCell_off _ (by simp), heap_setCell_at _ hst.tb]; rfl
  · rw [heap_alloc_old _ (by omega), heap_setCell_off _ (by simp), heap_setCell_off _ (by simp), heap_setCell_off _ (by simp)]; exact hst.mp
  · rw [heap_alloc_old _ (by omega), heap_setCell_at _ (heap_setCell_at _ ((heap_setCell_off _ (by simp)).trans hst.sv))]; rfl
  · intro i hi
    rw [heap_alloc_old _ (by omega), heap_setCell_off _ (by simp; omega), heap_setCell_off _ (by simp; omega), heap_setCell_off _ (by simp; omega), hst.cl i hi]; simp [inSeen]
  · simp [hs]; omega
  · show (Array.push _ _)[w.heap.size]? = _
    rw [← hs, Array.getElem?_push, if_pos rfl]
  · simp [hs]
  · intro k hk
    rw [heap_alloc_old _ (by omega), heap_setCell_off _ (by simp; omega), heap_setCell_off _ (by simp; omega), heap_setCell_off _ (by simp; omega)]

theorem round_going {N n r i : Nat} {f : Nat → Bool} {mb to : Int} {ns : Bool} {seen : Array Nat} {w wr w1 w2 : World} (hr : r < wr.heap.size) (hlo : N + 4 + n ≤ r) (hkp : Keeps N w wr) (hi : i < n) (hst1 : St N n f (inSeen seen) mb to ns 1 1 true w1) (hk1 : Keeps N wr w1) (hsz1 : w1.heap.size = wr.heap.size)
    (hit1 : w1.heap[r]? = some (.mapIter (some (N + 1)) n (seen.push i) n)) (hlt : leftIn N n r w1 < leftIn N n r wr) (hcd : Closed (N + 4 + i) w1 w2) (hcb : w2.heap[N + 4 + i]? = some (clo (N + 2) N (f i) true)) :
    Going N n f mb to ns r (seen.push i) w2 ∧ Keeps N w w2 ∧ leftIn N n r w2 < leftIn N n r wr := by
  have hsz := hst1.sz
  have hit2 : w2.heap[r]? = some (.mapIter (some (N + 1)) n (seen.push i) n) := (hcd.block r (by omega) (by omega)).trans hit1
  refine ⟨⟨⟨?_, ?_, ?_, ?_, ?_⟩, ⟨n, Nat.le_refl _, hit2⟩, hlo⟩, hkp.trans (hk1.trans ⟨hcd.os, hcd.tape, hcd.output, hcd.size, fun k hk => hcd.block k (by omega) (by omega)⟩), ?_⟩
  · exact (hcd.block _ (by omega) (by omega)).trans hst1.tb
  · exact (hcd.block _ (by omega) (by omega)).trans hst1.mp
  · exact (hcd.block _ (by omega) (by omega)).trans hst1.sv
  · intro j hj
    rw [inSeen_push]
    by_cases hji : j = i
    · subst hji
      rw [hcb]
      simp
    · rw [hcd.block _ (by omega) (by omega), hst1.cl j hj]
      simp [hji]
  · have := hcd.size; omega
  · rw [leftIn_of hit2]
    rw [leftIn_of hit1] at hlt
    exact hlt

theorem end_going {N n r : Nat} {f : Nat → Bool} {mb to : Int} {ns : Bool} {seen : Array Nat} {w wr : World} (hgo : Going N n f mb to ns r seen wr) (hall : ∀ i, i < n → inSeen seen i = true) (hkp : Keeps N w wr) :
    St N n f (fun _ => true) mb to ns 1 0 true (wr.setCell ⟨N + 2, 9, none⟩ (.int .i32 0)) ∧ Keeps N w (wr.setCell ⟨N + 2, 9, none⟩ (.int .i32 0)) := by
  refine ⟨⟨?_, ?_, ?_, ?_, ?_⟩, hkp.setCell _ (by simp) (by simp)⟩
  · rw [heap_setCell_off _ (by simp)]; exact hgo.st.tb
  · rw [heap_setCell_off _ (by simp)]; exact hgo.st.mp
  · rw [heap_setCell_at _ hgo.st.sv]; rfl
  · intro i hi
    rw [heap_setCell_off _ (by simp; omega), hgo.st.cl i hi, hall i hi]
  · rw [heap_setCell_old]; exact hgo.st.sz

theorem method_close (a : Addr) (w : World) : (method 386 53 (.pointer (some a)) "Close").run Yba.prog w = .ok (57, .pointer (some a)) w := by kernel_rfl

set_option maxRecDepth 100000 in
set_option maxHeartbeats 800000 in
theorem close5 (N n : Nat) (f : Nat → Bool) (mb to : Int) (ns cd : Bool) (w : World) (hst : St N n f (fun _ => false) mb to ns 0 0 cd w) :
    Calls Yba.prog 5 #[.pointer (some ⟨N + 2, 0, none⟩)] w fun e w' => e = .returned .nilIface ∧ St N n f (fun _ => true) mb to ns 1 0 true w' ∧ Keeps N w w' := by
  have c0 : w.cell? ⟨N, 0, none⟩ = some (.int .i64 0) := by rw [cell_of_heap hst.tb]; rfl
  have z0 : w.frozen? ⟨N, 0, none⟩ = false := frozen_of_heap hst.tb
  have c8 : w.cell? ⟨N + 2, 8, none⟩ = some (.func (.func 4) #[] #[.pointer (some ⟨N, 0, none⟩)]) := by rw [cell_of_heap hst.sv]; rfl
  have c9 : w.cell? ⟨N + 2, 9, none⟩ = some (.int .i32 0) := by rw [cell_of_heap hst.sv]; rfl
  have c11 : w.cell? ⟨N + 2, 11, none⟩ = some (.bool cd) := by rw [cell_of_heap hst.sv]; rfl
  have c12 : w.cell? ⟨N + 2, 12, none⟩ = some (.map (some (N + 1))) := by rw [cell_of_heap hst.sv]; rfl
  have z9 : w.frozen? ⟨N + 2, 9, none⟩ = false := frozen_of_heap hst.sv
  have z11 : w.frozen? ⟨N + 2, 11, none⟩ = false := frozen_of_heap hst.sv
  have hm0 : ∀ v1 v2 v3, (((w.setCell ⟨N, 0, none⟩ v1).setCell ⟨N + 2, 9, none⟩ v2).setCell ⟨N + 2, 11, none⟩ v3).heap[N + 1]? = some (.map (ents (N + 4) n) n) := fun v1 v2 v3 => by
    rw [heap_setCell_off _ (by simp), heap_setCell_off _ (by simp), heap_setCell_off _ (by simp)]; exact hst.mp
  have hstart : Going N n f mb to ns w.heap.size #[] ((((w.setCell ⟨N, 0, none⟩ (.int .i64 1)).setCell ⟨N + 2, 9, none⟩ (.int .i32 1)).setCell ⟨N + 2, 11, none⟩ (.bool true)).alloc (.mapIter (some (N + 1)) n #[] n)) ∧
      Keeps N w ((((w.setCell ⟨N, 0, none⟩ (.int .i64 1)).setCell ⟨N + 2, 9, none⟩ (.int .i32 1)).setCell ⟨N + 2, 11, none⟩ (.bool true)).alloc (.mapIter (some (N + 1)) n #[] n)) := start_going hst
  have hmeth := method_close
  go_enter Yba.func5, Yba.ntmps5
  go_wp2_with (first | go_in)
  go_end0
  go_wp2_with (first | (go_at_call 8; refine (lock8 ⟨N + 2, 9, none⟩ _ ?_ ?_).mono ?_))
  · rw [World.cell?_setCell_other _ _ _ _ (by simp)]; exact c9
  · simp [z9]
  rintro e w' ⟨rfl, rfl⟩
  go_wp2_with (first | (at_range; refine wpList_range_raw rfl _ 26 rfl Yba.underlying26 (N + 1) rfl (hm0 _ _ _) w.heap.size (by rw [heap_setCell_old, heap_setCell_old, heap_setCell_old]) ?_))
  go_frame
  go_loopw [3] (fun _ wr => ∃ seen, Going N n f mb to ns w.heap.size seen wr ∧ Keeps N w wr) (fun _ wr => leftIn N n w.heap.size wr)
  case atStart => exact ⟨#[], hstart.1, hstart.2⟩
  case round =>
    obtain ⟨seen, hgo, hkp⟩ := hrel
    go_wp2_with (first
      | (at_next; refine wpList_next_raw rfl _ rfl rfl hgo ?_ ?_))
    · intro hall
      have hsv := hgo.st.sv
      have d9 : wr.cell? ⟨N + 2, 9, none⟩ = some (.int .i32 1) := by rw [cell_of_heap hsv]; rfl
      have y9 : wr.frozen? ⟨N + 2, 9, none⟩ = false := frozen_of_heap hsv
      have d13 : (wr.setCell ⟨N + 2, 9, none⟩ (.int .i32 0)).cell? ⟨N + 2, 13, none⟩ = some (.int .u64 0) := by
        rw [World.cell?_setCell_other _ _ _ _ (by simp), cell_of_heap hsv]; rfl
      have hend := end_going hgo hall hkp
      go_wp2_with (first
        | (go_at_call 7; refine (unlock7 ⟨N + 2, 9, none⟩ _ d9 y9).mono ?_; rintro e w' ⟨rfl, rfl⟩)
        | (go_at_call 9; refine (wait9 (N + 2) 13 _ d13).mono ?_; rintro e w' ⟨rfl, rfl⟩))
      go_ret
      exact ⟨rfl, hend⟩
    · intro i w1 hi hns hst1 hk1 hsz1 hit1 hen hlt
      have hcl := hst1.cl i hi
      rw [hns] at hcl
      have hc57 := close57 (N + 4 + i) (N + 2) N (f i) w1 (0, 0) _ (by omega) (by omega) hcl hst1.tb hst1.sv rfl
      go_wp2_with (first | (go_at_call 57; refine hc57.mono ?_; rintro e w2 ⟨⟨v, rfl⟩, hcd, hcb⟩))
      obtain ⟨c0', _, hitr⟩ := hgo.it
      obtain ⟨g1, g2, g3⟩ := round_going (Array.getElem?_eq_some_iff.1 hitr).1 hgo.lo hkp hi hst1 hk1 hsz1 hit1 hlt hcd hcb
      exact ⟨⟨_, g1, g2⟩, g3⟩
end Go.Proofs.Ybulkdtdc
