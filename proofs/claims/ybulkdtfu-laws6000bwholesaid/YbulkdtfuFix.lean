/- The walks of fix, priority, the rotations. -/
import Derived.Test.YbulkdtfuAdmits
import Derived.Deep.RegionWith
namespace Go.Proofs.Ybulkdtfu
open Go.RowKit

/-- Of the blocks that were there none but those in 'may' has turned. -/
structure Kept (may : Nat → Prop) (w w' : World) : Prop where
  os : w'.os = w.os
  tape : w'.tape = w.tape
  output : w'.output = w.output
  size : w.heap.size ≤ w'.heap.size
  block : ∀ k, k < w.heap.size → ¬ may k → w'.heap[k]? = w.heap[k]?

theorem Kept.refl (may : Nat → Prop) (w : World) : Kept may w w := ⟨rfl, rfl, rfl, Nat.le_refl _, fun _ _ _ => rfl⟩
theorem Kept.trans {may : Nat → Prop} {a b c : World} (h : Kept may a b) (k : Kept may b c) : Kept may a c :=
  ⟨k.os.trans h.os, k.tape.trans h.tape, k.output.trans h.output, Nat.le_trans h.size k.size, fun i hi hn => (k.block i (Nat.lt_of_lt_of_le hi h.size) hn).trans (h.block i hi hn)⟩
theorem Kept.mono {may may' : Nat → Prop} {a b : World} (h : Kept may a b) (hm : ∀ k, k < a.heap.size → may k → may' k) : Kept may' a b :=
  ⟨h.os, h.tape, h.output, h.size, fun k hk hn => h.block k hk (fun e => hn (hm k hk e))⟩
theorem Kept.setCell {may : Nat → Prop} {w w' : World} (h : Kept may w w') (a : Addr) (v : Value) (ha : may a.block ∨ w.heap.size ≤ a.block) : Kept may w (w'.setCell a v) :=
  ⟨h.os, h.tape, h.output, by rw [show (w'.setCell a v).heap.size = w'.heap.size by simp [World.setCell]]; exact h.size, fun k hk hn => by
    rw [heap_setCell_off v (fun e => by
      rcases ha with ha | ha
      · exact hn (e ▸ ha)
      · omega)]
    exact h.block k hk hn⟩
theorem Kept.grow {may : Nat → Prop} {w w' w'' : World} (h : Kept may w w') (g : Grows w' w'') : Kept may w w'' :=
  ⟨g.os.trans h.os, g.tape.trans h.tape, g.output.trans h.output, Nat.le_trans h.size g.size, fun k hk hn => (g.block k (Nat.lt_of_lt_of_le hk h.size)).trans (h.block k hk hn)⟩
theorem Kept.heap {may : Nat → Prop} {w w' : World} (h : Kept may w w') {b : Nat} {o : Obj} (hb : w.heap[b]? = some o) (hn : ¬ may b) : w'.heap[b]? = some o := by
  rw [h.block b (Array.getElem?_eq_some_iff.1 hb).1 hn, hb]
theorem Kept.isT {may : Nat → Prop} {w w' : World} (k : Kept may w w') {sl sc : Int} {h : Nat} {p : Option Addr} {xs : List (Nat × Int × Int)} (ht : IsT sl sc w h p xs) (hn : ∀ x ∈ xs, ¬ may x.1) : IsT sl sc w' h p xs :=
  IsT.same (fun x hx => k.block x.1 (IsT.block ht x hx) (hn x hx)) ht

theorem Kept.put4 {w w' : World} {b : Nat} (h : Kept (fun k => k = b) w w') (x0 x1 x2 x3 : Value) : Kept (fun k => k = b) w ((((w'.setCell ⟨b, 5, none⟩ x0).setCell ⟨b, 6, none⟩ x1).setCell ⟨b, 7, none⟩ x2).setCell ⟨b, 8, none⟩ x3) := by
  have h1 := Kept.setCell h ⟨b, 5, none⟩ x0 (.inl rfl)
  have h2 := Kept.setCell h1 ⟨b, 6, none⟩ x1 (.inl rfl)
  have h3 := Kept.setCell h2 ⟨b, 7, none⟩ x2 (.inl rfl)
  exact Kept.setCell h3 ⟨b, 8, none⟩ x3 (.inl rfl)

theorem put_all {w : World} {b : Nat} {a c q : Int} {l r : Option Addr} {s0 s1 s2 x0 x1 x2 : Int} {s3 x3 : Bool} (h : w.heap[b]? = some (.cells (nodeO a c q l r s0 s1 s2 s3) 54 (0, 0))) :
    ((((w.setCell ⟨b, 5, none⟩ (.int .i64 x0)).setCell ⟨b, 6, none⟩ (.int .u64 x1)).setCell ⟨b, 7, none⟩ (.int .u64 x2)).setCell ⟨b, 8, none⟩ (.bool x3)).heap[b]? = some (.cells (nodeO a c q l r x0 x1 x2 x3) 54 (0, 0)) := by
  rw [heap_setCell_at _ (heap_setCell_at _ (heap_setCell_at _ (heap_setCell_at _ h)))]
  rfl

set_option maxRecDepth 100000 in
set_option maxHeartbeats 800000 in
theorem fix17_raw (L b : Nat) (root l r : Option Addr) (sl sc room seed a c q s0 s1 s2 lb lp rb rp : Int) (s3 ls rs : Bool) (w : World) (hL : w.heap[L]? = some (.cells (ledO root sl sc room seed) 43 (0, 0)))
    (hn : w.heap[b]? = some (.cells (nodeO a c q l r s0 s1 s2 s3) 54 (0, 0))) (hf : Fits sl sc lb lp a c rb rp)
    (il : ∀ w', Grows w w' → Gives 28 #[.pointer l] w' (.agg #[.int .i64 lb, .int .u64 (hiI lp), .int .u64 (loI lp), .bool ls]))
    (ir : ∀ w', Grows w w' → Gives 28 #[.pointer r] w' (.agg #[.int .i64 rb, .int .u64 (hiI rp), .int .u64 (loI rp), .bool rs])) :
    Calls Yba.prog 17 #[.pointer (some ⟨L, 0, none⟩), .pointer (some ⟨b, 0, none⟩)] w fun e w' => e = .returned (.tuple #[]) ∧
      w'.heap[b]? = some (.cells (nodeO a c q l r (lb + (c + rb)) (hiI (jPeak sl sc lp ls a (c + rb) rp rs)) (loI (jPeak sl sc lp ls a (c + rb) rp rs)) true) 54 (0, 0)) ∧ Kept (fun k => k = b) w w' := by
  have hj : ∀ w', Grows w w' → Gives 27 #[.pointer (some ⟨L, 0, none⟩), .agg #[.int .i64 lb, .int .u64 (hiI lp), .int .u64 (loI lp), .bool ls], .pointer (some ⟨b, 0, none⟩), .agg #[.int .i64 rb, .int .u64 (hiI rp), .int .u64 (loI rp), .bool rs]] w'
      (.agg #[.int .i64 (lb + (c + rb)), .int .u64 (hiI (jPeak sl sc lp ls a (c + rb) rp rs)), .int .u64 (loI (jPeak sl sc lp ls a (c + rb) rp rs)), .bool true]) :=
    fun w' g => join27 L b root l r sl sc room seed a c q s0 s1 s2 lb lp rb rp s3 ls rs w' (g.heap hL) (g.heap hn) hf
  generalize jPeak sl sc lp ls a (c + rb) rp rs = jp at *
  generalize lb + (c + rb) = jb at *
  have hN := hn
  unfold nodeO at hn
  unfold ledO at hL
  have cN : ∀ (g : Gro w) o, g.x.cell? ⟨b, o, none⟩ = _ := fun g o => cell_of_heap (g.h.heap hn) o
  have hne : Nonempty (Gro w) := ⟨⟨w, Grows.refl w⟩⟩
  unfold Gives at *
  go_enter Yba.func17, Yba.ntmps17
  go_wp2
  refine wp_region_grow _ 14 (by kernel_rfl) (by kernel_rfl) (by kernel_rfl) ?_
  simp only [List.take_succ_cons, List.take_zero, List.drop_succ_cons, List.drop_zero]
  repeat (go_big_quiet_step (first
    | (go_at_call_of 28 l; exact Gro.call _ (il _ (Gro.h _)))
    | (go_at_call_of 28 r; exact Gro.call _ (ir _ (Gro.h _)))
    | (go_at_call 27; exact Gro.call _ (hj _ (Gro.h _)))))
  refine wpQuiet_nil ?_
  rintro _ ⟨g, rfl⟩
  have c1 := cell_of_heap (g.h.heap hn)
  have z1 := frozen_of_heap (g.h.heap hn)
  have P1 := put_all (x0 := jb) (x1 := hiI jp) (x2 := loI jp) (x3 := true) (g.h.heap hN)
  have K0 : Kept (fun k => k = b) w g.x := (Kept.refl _ w).grow g.h
  have K1 := K0.put4 (.int .i64 jb) (.int .u64 (hiI jp)) (.int .u64 (loI jp)) (.bool true)
  clear cN hne
  go_wp2
  go_end0
  exact ⟨rfl, P1, K1⟩

theorem fix17 (L b : Nat) (root l r : Option Addr) (sl sc room seed a c q s0 s1 s2 : Int) (s3 : Bool) (h : Nat) (ls rs : List (Nat × Int × Int)) (w : World) (hL : w.heap[L]? = some (.cells (ledO root sl sc room seed) 43 (0, 0)))
    (hn : w.heap[b]? = some (.cells (nodeO a c q l r s0 s1 s2 s3) 54 (0, 0))) (hl : IsT sl sc w h l ls) (hr : IsT sl sc w h r rs) (hb : Bnd sl sc (pl ls ++ (a, c) :: pl rs)) (nl : ∀ x ∈ ls, x.1 ≠ b) (nr : ∀ x ∈ rs, x.1 ≠ b) :
    Calls Yba.prog 17 #[.pointer (some ⟨L, 0, none⟩), .pointer (some ⟨b, 0, none⟩)] w fun e w' => e = .returned (.tuple #[]) ∧ IsT sl sc w' (h + 1) (some ⟨b, 0, none⟩) (ls ++ (b, a, c) :: rs) ∧
      w'.heap[b]? = some (.cells (nodeO a c q l r (spB (pl (ls ++ (b, a, c) :: rs))) (hiI (spP sl sc (pl (ls ++ (b, a, c) :: rs)))) (loI (spP sl sc (pl (ls ++ (b, a, c) :: rs)))) true) 54 (0, 0)) ∧ Kept (fun k => k = b) w w' := by
  refine (fix17_raw L b root l r sl sc room seed a c q s0 s1 s2 _ _ _ _ s3 _ _ w hL hn hb.fits (fun w' g => whole28 w' (hl.grow g)) (fun w' g => whole28 w' (hr.grow g))).mono ?_
  rintro e w' ⟨he, hN, hK⟩
  have hj := join_law hb
  rw [hj.1, hj.2, ← pl_parts ls rs b a c] at hN
  exact ⟨he, .inr ⟨b, a, c, q, l, r, ls, rs, rfl, rfl, hN, hK.isT hl nl, hK.isT hr nr⟩, hN, hK⟩

set_option maxRecDepth 100000 in
set_option maxHeartbeats 400000 in
theorem priority16 (L : Nat) (root : Option Addr) (sl sc room seed t : Int) (w : World) (hL : w.heap[L]? = some (.cells (ledO root sl sc room seed) 43 (0, 0))) :
    Calls Yba.prog 16 #[.pointer (some ⟨L, 0, none⟩), .int .i64 t] w fun e w' => ∃ q : Int, e = .returned (.int .u64 q) ∧ w' = w := by
  unfold ledO at hL
  have cL := cell_of_heap hL
  go_enter Yba.func16, Yba.ntmps16
  go_wp2
  go_ret
  exact ⟨_, rfl, rfl⟩
end Go.Proofs.Ybulkdtfu
