/- The contracts of whole and join. -/
import Derived.Test.YbulkdtfuWide
import Derived.WalkSmall
namespace Go.Proofs.Ybulkdtfu
open Go.RowKit

/-- A node's cells. -/
def nodeO (a b p : Int) (l r : Option Addr) (s0 s1 s2 : Int) (s3 : Bool) : Array Value := #[.int .i64 a, .int .i64 b, .int .u64 p, .pointer l, .pointer r, .int .i64 s0, .int .u64 s1, .int .u64 s2, .bool s3]
/-- The ledger's. -/
def ledO (root : Option Addr) (sl sc room seed : Int) : Array Value := #[.pointer root, .int .u64 0, .int .i64 0, .pointer none, .int .i64 0, .int .u64 sl, .int .u64 sc, .int .u64 (hiI room), .int .u64 (loI room), .int .u64 seed]

set_option maxRecDepth 100000 in
set_option maxHeartbeats 400000 in
theorem whole28_nil (w : World) :
    Calls Yba.prog 28 #[.pointer none] w fun e w' => e = .returned (.agg #[.int .i64 0, .int .u64 (hiI 0), .int .u64 (loI 0), .bool false]) ∧ Grows w w' := by
  go_enter Yba.func28, Yba.ntmps28
  go_wp2
  simp [bodyPost, results, Yba.results28, go_sem]
  exact ⟨by decide, (Grows.refl _).alloc _⟩

set_option maxRecDepth 100000 in
set_option maxHeartbeats 400000 in
theorem whole28_some (b : Nat) (a by' p : Int) (l r : Option Addr) (s0 s1 s2 : Int) (s3 : Bool) (w : World) (h : w.heap[b]? = some (.cells (nodeO a by' p l r s0 s1 s2 s3) 54 (0, 0))) :
    Calls Yba.prog 28 #[.pointer (some ⟨b, 0, none⟩)] w fun e w' => e = .returned (.agg #[.int .i64 s0, .int .u64 s1, .int .u64 s2, .bool s3]) ∧ Grows w w' := by
  unfold nodeO at h
  have c : ∀ ob o, (w.alloc ob).cell? ⟨b, o, none⟩ = _ := fun ob o => cell_of_heap (((Grows.refl w).alloc ob).heap h) o
  go_enter Yba.func28, Yba.ntmps28
  go_wp2
  simp [bodyPost, results, Yba.results28, go_sem]
  exact (Grows.refl _).alloc _

/-- What join gives: the bytes; the peak. -/
def jPeak (sl sc : Int) (lp : Int) (ls : Bool) (a aft : Int) (rp : Int) (rs : Bool) : Int :=
  let p1 := sl * a + sc * aft
  let p2 := if rs then mx p1 rp else p1
  if ls then mx p2 (lp + sc * aft) else p2

/-- The numbers of a join that do not wrap. -/
structure Fits (sl sc lb lp a b rb rp : Int) : Prop where
  wsl : Word sl
  wsc : Word sc
  a0 : 0 ≤ a
  a1 : a < 9223372036854775808
  aft0 : 0 ≤ b + rb
  aft1 : b + rb < 9223372036854775808
  all0 : 0 ≤ lb + (b + rb)
  all1 : lb + (b + rb) < 9223372036854775808
  lp0 : 0 ≤ lp
  rp0 : 0 ≤ rp
  p1 : sl * a + sc * (b + rb) < 340282366920938463463374607431768211456
  p2 : lp + sc * (b + rb) < 340282366920938463463374607431768211456

/-- Inside join: the boxes, the result, the span under way. -/
structure JS (lb lp rb rp al p : Int) (ls rs : Bool) (w W : World) : Prop where
  gr : Grows w W
  bl : W.heap[w.heap.size]? = some (.cells #[.int .i64 lb, .int .u64 (hiI lp), .int .u64 (loI lp), .bool ls] 52 (0, 0))
  br : W.heap[w.heap.size + 1]? = some (.cells #[.int .i64 rb, .int .u64 (hiI rp), .int .u64 (loI rp), .bool rs] 52 (0, 0))
  bz : W.heap[w.heap.size + 1 + 1]? = some (.cells #[.int .i64 0, .int .u64 0, .int .u64 0, .bool false] 52 (0, 0))
  bs : W.heap[w.heap.size + 1 + 1 + 1]? = some (.cells #[.int .i64 al, .int .u64 (hiI p), .int .u64 (loI p), .bool true] 52 (0, 0))

theorem JS.grow {lb lp rb rp al p : Int} {ls rs : Bool} {w W W' : World} (h : JS lb lp rb rp al p ls rs w W) (g : Grows W W') : JS lb lp rb rp al p ls rs w W' :=
  ⟨h.gr.trans g, g.heap h.bl, g.heap h.br, g.heap h.bz, g.heap h.bs⟩

theorem JS.put {lb lp rb rp al p : Int} {ls rs : Bool} {w W : World} (h : JS lb lp rb rp al p ls rs w W) (q : Int) :
    JS lb lp rb rp al q ls rs w ((W.setCell ⟨w.heap.size + 1 + 1 + 1, 1, none⟩ (.int .u64 (hiI q))).setCell ⟨w.heap.size + 1 + 1 + 1, 2, none⟩ (.int .u64 (loI q))) := by
  refine ⟨(h.gr.setCell (by simp; omega) _).setCell (by simp; omega) _, ?_, ?_, ?_, ?_⟩
  · rw [heap_setCell_off _ (by simp; omega), heap_setCell_off _ (by simp; omega)]; exact h.bl
  · rw [heap_setCell_off _ (by simp), heap_setCell_off _ (by simp)]; exact h.br
  · rw [heap_setCell_off _ (by simp), heap_setCell_off _ (by simp)]; exact h.bz
  · rw [heap_setCell_at _ (heap_setCell_at _ h.bs)]; rfl

theorem put_span {w : World} {b : Nat} {v0 v1 v2 v3 : Value} {t : TypeId} {x0 x1 x2 x3 : Value} (h : w.heap[b]? = some (.cells #[v0, v1, v2, v3] t (0, 0))) :
    ((((w.setCell ⟨b, 0, none⟩ x0).setCell ⟨b, 1, none⟩ x1).setCell ⟨b, 2, none⟩ x2).setCell ⟨b, 3, none⟩ x3).heap[b]? = some (.cells #[x0, x1, x2, x3] t (0, 0)) := by
  rw [heap_setCell_at _ (heap_setCell_at _ (heap_setCell_at _ (heap_setCell_at _ h)))]
  rfl

theorem JS.start (lb lp rb rp al : Int) (ls rs : Bool) (w : World) (n : Nat) :
    JS lb lp rb rp al 0 ls rs w (((((w.alloc (.cells #[.int .i64 lb, .int .u64 (hiI lp), .int .u64 (loI lp), .bool ls] 52)).alloc (.cells #[.int .i64 rb, .int .u64 (hiI rp), .int .u64 (loI rp), .bool rs] 52)).alloc (.cells #[.int .i64 0, .int .u64 0, .int .u64 0, .bool false] 52)).drewN n).alloc (.cells #[.int .i64 al, .int .u64 0, .int .u64 0, .bool true] 52)) := by
  obtain ⟨n1, n2, n3⟩ := three_new w (.cells #[.int .i64 lb, .int .u64 (hiI lp), .int .u64 (loI lp), .bool ls] 52) (.cells #[.int .i64 rb, .int .u64 (hiI rp), .int .u64 (loI rp), .bool rs] 52) (.cells #[.int .i64 0, .int .u64 0, .int .u64 0, .bool false] 52)
  obtain ⟨W, hW⟩ : ∃ W, W = ((w.alloc (.cells #[.int .i64 lb, .int .u64 (hiI lp), .int .u64 (loI lp), .bool ls] 52)).alloc (.cells #[.int .i64 rb, .int .u64 (hiI rp), .int .u64 (loI rp), .bool rs] 52)).alloc (.cells #[.int .i64 0, .int .u64 0, .int .u64 0, .bool false] 52) := ⟨_, rfl⟩
  have hs : W.heap.size = w.heap.size + 1 + 1 + 1 := by rw [hW]; simp
  have hg : Grows w W := hW ▸ ((((Grows.refl w).alloc _).alloc _).alloc _)
  rw [← hW] at n1 n2 n3 ⊢
  have g2 : Grows W ((W.drewN n).alloc (.cells #[.int .i64 al, .int .u64 0, .int .u64 0, .bool true] 52)) := Grows.alloc (w := W.drewN n) (below_drewN (Below.refl _ _) n) _
  exact ⟨hg.trans g2, g2.heap n1, g2.heap n2, g2.heap n3, heap_new _ (by simpa using hs)⟩

set_option maxRecDepth 100000 in
set_option maxHeartbeats 1600000 in
theorem join27_ff (L nb : Nat) (root l r : Option Addr) (sl sc room seed a b p s0 s1 s2 lb lp rb rp : Int) (s3 : Bool) (w : World) (hL : w.heap[L]? = some (.cells (ledO root sl sc room seed) 43 (0, 0)))
    (hn : w.heap[nb]? = some (.cells (nodeO a b p l r s0 s1 s2 s3) 54 (0, 0))) (hf : Fits sl sc lb lp a b rb rp) :
    Calls Yba.prog 27 #[.pointer (some ⟨L, 0, none⟩), .agg #[.int .i64 lb, .int .u64 (hiI lp), .int .u64 (loI lp), .bool false], .pointer (some ⟨nb, 0, none⟩), .agg #[.int .i64 rb, .int .u64 (hiI rp), .int .u64 (loI rp), .bool false]] w fun e w' =>
      e = .returned (.agg #[.int .i64 (lb + (b + rb)), .int .u64 (hiI (jPeak sl sc lp false a (b + rb) rp false)), .int .u64 (loI (jPeak sl sc lp false a (b + rb) rp false)), .bool true]) ∧ Grows w w' := by
  obtain ⟨h1, h2, h3, h4, h5, h6, h7, h8, h9, h10, h11, h12⟩ := hf
  unfold nodeO at hn
  unfold ledO at hL
  have cn : ∀ o1 o2 o3 o, (((w.alloc o1).alloc o2).alloc o3).cell? ⟨nb, o, none⟩ = _ := fun o1 o2 o3 o => cell_of_heap ((((Grows.refl w).alloc o1).alloc o2).alloc o3 |>.heap hn) o
  have waft : IntKind.i64.wrap (b + rb) = b + rb := IntWalk.i64_in _ (by omega)
  generalize haft : b + rb = aft at *
  have wa : IntKind.u64.wrap a = a := by rw [IntKind.wrap_u64]; omega
  have wf : IntKind.u64.wrap aft = aft := by rw [IntKind.wrap_u64]; omega
  have ha : Word a := ⟨h3, by omega⟩
  have hft : Word aft := ⟨h5, by omega⟩
  have q1 : 0 ≤ sl * a := Int.mul_nonneg h1.1 h3
  have q2 : 0 ≤ sc * aft := Int.mul_nonneg h2.1 h5
  go_enter Yba.func27, Yba.ntmps27
  go_wp2
  go_quiet (fail)
  go_wp2
  have J := JS.start lb lp rb rp (lb + aft) false false w nq
  generalize hW : (((((w.alloc (.cells #[.int .i64 lb, .int .u64 (hiI lp), .int .u64 (loI lp), .bool false] 52)).alloc (.cells #[.int .i64 rb, .int .u64 (hiI rp), .int .u64 (loI rp), .bool false] 52)).alloc (.cells #[.int .i64 0, .int .u64 0, .int .u64 0, .bool false] 52)).drewN nq).alloc (.cells #[.int .i64 (lb + aft), .int .u64 0, .int .u64 0, .bool true] 52)) = W at J ⊢
  clear hW cn
  have cL : ∀ (g : Gro W) o, g.x.cell? ⟨L, o, none⟩ = _ := fun g o => cell_of_heap ((J.gr.trans g.h).heap hL) o
  have cN : ∀ (g : Gro W) o, g.x.cell? ⟨nb, o, none⟩ = _ := fun g o => cell_of_heap ((J.gr.trans g.h).heap hn) o
  refine wp_region_grow _ 18 (by kernel_rfl) (by kernel_rfl) (by kernel_rfl) ?_
  simp only [List.take_succ_cons, List.take_zero, List.drop_succ_cons, List.drop_zero]
  have hne : Nonempty (Gro W) := ⟨⟨W, Grows.refl W⟩⟩
  repeat (go_big_quiet_step (first
    | (go_at_call 21; exact Gro.call _ (product21 _ _ (by assumption) (by assumption) _))
    | (go_at_call 23; exact Gro.call _ (plus23 _ _ (by assumption) (by assumption) (by assumption) _))))
  refine wpQuiet_nil ?_
  rintro _ ⟨g, rfl⟩
  have J1 := J.grow g.h
  have c3 := cell_of_heap J1.bs
  have z3 := frozen_of_heap J1.bs
  have c2 := cell_of_heap J1.bz
  have z2 := frozen_of_heap J1.bz
  have c1 := cell_of_heap J1.br
  have c0 := cell_of_heap J1.bl
  have J2 := J1.put (sl * a + sc * aft)
  clear cL cN hne
  go_wp2
  simp [bodyPost, results, Yba.results27, go_sem, c2]
  refine ⟨by simp [jPeak], ?_⟩
  exact ((((J2.gr.setCell (by simp; omega) _).setCell (by simp; omega) _).setCell (by simp; omega) _).setCell (by simp; omega) _)

set_option maxRecDepth 100000 in
set_option maxHeartbeats 1600000 in
theorem join27_ft (L nb : Nat) (root l r : Option Addr) (sl sc room seed a b p s0 s1 s2 lb lp rb rp : Int) (s3 : Bool) (w : World) (hL : w.heap[L]? = some (.cells (ledO root sl sc room seed) 43 (0, 0)))
    (hn : w.heap[nb]? = some (.cells (nodeO a b p l r s0 s1 s2 s3) 54 (0, 0))) (hf : Fits sl sc lb lp a b rb rp) :
    Calls Yba.prog 27 #[.pointer (some ⟨L, 0, none⟩), .agg #[.int .i64 lb, .int .u64 (hiI lp), .int .u64 (loI lp), .bool false], .pointer (some ⟨nb, 0, none⟩), .agg #[.int .i64 rb, .int .u64 (hiI rp), .int .u64 (loI rp), .bool true]] w fun e w' =>
      e = .returned (.agg #[.int .i64 (lb + (b + rb)), .int .u64 (hiI (jPeak sl sc lp false a (b + rb) rp true)), .int .u64 (loI (jPeak sl sc lp false a (b + rb) rp true)), .bool true]) ∧ Grows w w' := by
  obtain ⟨h1, h2, h3, h4, h5, h6, h7, h8, h9, h10, h11, h12⟩ := hf
  unfold nodeO at hn
  unfold ledO at hL
  have cn : ∀ o1 o2 o3 o, (((w.alloc o1).alloc o2).alloc o3).cell? ⟨nb, o, none⟩ = _ := fun o1 o2 o3 o => cell_of_heap ((((Grows.refl w).alloc o1).alloc o2).alloc o3 |>.heap hn) o
  have waft : IntKind.i64.wrap (b + rb) = b + rb := IntWalk.i64_in _ (by omega)
  generalize haft : b + rb = aft at *
  have wa : IntKind.u64.wrap a = a := by rw [IntKind.wrap_u64]; omega
  have wf : IntKind.u64.wrap aft = aft := by rw [IntKind.wrap_u64]; omega
  have ha : Word a := ⟨h3, by omega⟩
  have hft : Word aft := ⟨h5, by omega⟩
  have q1 : 0 ≤ sl * a := Int.mul_nonneg h1.1 h3
  have q2 : 0 ≤ sc * aft := Int.mul_nonneg h2.1 h5
  go_enter Yba.func27, Yba.ntmps27
  go_wp2
  go_quiet (fail)
  go_wp2
  have J := JS.start lb lp rb rp (lb + aft) false true w nq
  generalize hW : (((((w.alloc (.cells #[.int .i64 lb, .int .u64 (hiI lp), .int .u64 (loI lp), .bool false] 52)).alloc (.cells #[.int .i64 rb, .int .u64 (hiI rp), .int .u64 (loI rp), .bool true] 52)).alloc (.cells #[.int .i64 0, .int .u64 0, .int .u64 0, .bool false] 52)).drewN nq).alloc (.cells #[.int .i64 (lb + aft), .int .u64 0, .int .u64 0, .bool true] 52)) = W at J ⊢
  clear hW cn
  have cL : ∀ (g : Gro W) o, g.x.cell? ⟨L, o, none⟩ = _ := fun g o => cell_of_heap ((J.gr.trans g.h).heap hL) o
  have cN : ∀ (g : Gro W) o, g.x.cell? ⟨nb, o, none⟩ = _ := fun g o => cell_of_heap ((J.gr.trans g.h).heap hn) o
  refine wp_region_grow _ 18 (by kernel_rfl) (by kernel_rfl) (by kernel_rfl) ?_
  simp only [List.take_succ_cons, List.take_zero, List.drop_succ_cons, List.drop_zero]
  have hne : Nonempty (Gro W) := ⟨⟨W, Grows.refl W⟩⟩
  repeat (go_big_quiet_step (first
    | (go_at_call 21; exact Gro.call _ (product21 _ _ (by assumption) (by assumption) _))
    | (go_at_call 23; exact Gro.call _ (plus23 _ _ (by assumption) (by assumption) (by assumption) _))))
  refine wpQuiet_nil ?_
  rintro _ ⟨g, rfl⟩
  have J1 := J.grow g.h
  have c3 := cell_of_heap J1.bs
  have z3 := frozen_of_heap J1.bs
  have c2 := cell_of_heap J1.bz
  have z2 := frozen_of_heap J1.bz
  have c1 := cell_of_heap J1.br
  have c0 := cell_of_heap J1.bl
  have J2 := J1.put (sl * a + sc * aft)
  clear cL cN hne
  go_wp2_with (go_at_call 30; refine (larger30 _ _ _).mono ?_; rintro e w3 ⟨rfl, hg3⟩; have J3 := J2.grow hg3; have d3 := cell_of_heap J3.bs; have x3 := frozen_of_heap J3.bs; have d2 := cell_of_heap J3.bz; have x2 := frozen_of_heap J3.bz; have d0 := cell_of_heap J3.bl; have J4 := J3.put (mx (sl * a + sc * aft) rp))
  simp [bodyPost, results, Yba.results27, go_sem, d2]
  refine ⟨by simp [jPeak], ?_⟩
  exact ((((J4.gr.setCell (by simp; omega) _).setCell (by simp; omega) _).setCell (by simp; omega) _).setCell (by simp; omega) _)

set_option maxRecDepth 100000 in
set_option maxHeartbeats 1600000 in
theorem join27_tf (L nb : Nat) (root l r : Option Addr) (sl sc room seed a b p s0 s1 s2 lb lp rb rp : Int) (s3 : Bool) (w : World) (hL : w.heap[L]? = some (.cells (ledO root sl sc room seed) 43 (0, 0)))
    (hn : w.heap[nb]? = some (.cells (nodeO a b p l r s0 s1 s2 s3) 54 (0, 0))) (hf : Fits sl sc lb lp a b rb rp) :
    Calls Yba.prog 27 #[.pointer (some ⟨L, 0, none⟩), .agg #[.int .i64 lb, .int .u64 (hiI lp), .int .u64 (loI lp), .bool true], .pointer (some ⟨nb, 0, none⟩), .agg #[.int .i64 rb, .int .u64 (hiI rp), .int .u64 (loI rp), .bool false]] w fun e w' =>
      e = .returned (.agg #[.int .i64 (lb + (b + rb)), .int .u64 (hiI (jPeak sl sc lp true a (b + rb) rp false)), .int .u64 (loI (jPeak sl sc lp true a (b + rb) rp false)), .bool true]) ∧ Grows w w' := by
  obtain ⟨h1, h2, h3, h4, h5, h6, h7, h8, h9, h10, h11, h12⟩ := hf
  unfold nodeO at hn
  unfold ledO at hL
  have cn : ∀ o1 o2 o3 o, (((w.alloc o1).alloc o2).alloc o3).cell? ⟨nb, o, none⟩ = _ := fun o1 o2 o3 o => cell_of_heap ((((Grows.refl w).alloc o1).alloc o2).alloc o3 |>.heap hn) o
  have waft : IntKind.i64.wrap (b + rb) = b + rb := IntWalk.i64_in _ (by omega)
  generalize haft : b + rb = aft at *
  have wa : IntKind.u64.wrap a = a := by rw [IntKind.wrap_u64]; omega
  have wf : IntKind.u64.wrap aft = aft := by rw [IntKind.wrap_u64]; omega
  have ha : Word a := ⟨h3, by omega⟩
  have hft : Word aft := ⟨h5, by omega⟩
  have q1 : 0 ≤ sl * a := Int.mul_nonneg h1.1 h3
  have q2 : 0 ≤ sc * aft := Int.mul_nonneg h2.1 h5
  go_enter Yba.func27, Yba.ntmps27
  go_wp2
  go_quiet (fail)
  go_wp2
  have J := JS.start lb lp rb rp (lb + aft) true false w nq
  generalize hW : (((((w.alloc (.cells #[.int .i64 lb, .int .u64 (hiI lp), .int .u64 (loI lp), .bool true] 52)).alloc (.cells #[.int .i64 rb, .int .u64 (hiI rp), .int .u64 (loI rp), .bool false] 52)).alloc (.cells #[.int .i64 0, .int .u64 0, .int .u64 0, .bool false] 52)).drewN nq).alloc (.cells #[.int .i64 (lb + aft), .int .u64 0, .int .u64 0, .bool true] 52)) = W at J ⊢
  clear hW cn
  have cL : ∀ (g : Gro W) o, g.x.cell? ⟨L, o, none⟩ = _ := fun g o => cell_of_heap ((J.gr.trans g.h).heap hL) o
  have cN : ∀ (g : Gro W) o, g.x.cell? ⟨nb, o, none⟩ = _ := fun g o => cell_of_heap ((J.gr.trans g.h).heap hn) o
  refine wp_region_grow _ 18 (by kernel_rfl) (by kernel_rfl) (by kernel_rfl) ?_
  simp only [List.take_succ_cons, List.take_zero, List.drop_succ_cons, List.drop_zero]
  have hne : Nonempty (Gro W) := ⟨⟨W, Grows.refl W⟩⟩
  repeat (go_big_quiet_step (first
    | (go_at_call 21; exact Gro.call _ (product21 _ _ (by assumption) (by assumption) _))
    | (go_at_call 23; exact Gro.call _ (plus23 _ _ (by assumption) (by assumption) (by assumption) _))))
  refine wpQuiet_nil ?_
  rintro _ ⟨g, rfl⟩
  have J1 := J.grow g.h
  have c3 := cell_of_heap J1.bs
  have z3 := frozen_of_heap J1.bs
  have c2 := cell_of_heap J1.bz
  have z2 := frozen_of_heap J1.bz
  have c1 := cell_of_heap J1.br
  have c0 := cell_of_heap J1.bl
  have J2 := J1.put (sl * a + sc * aft)
  clear cL cN hne
  go_wp2
  generalize hW2 : ((g.x.setCell ⟨w.heap.size + 1 + 1 + 1, 1, none⟩ (.int .u64 (hiI (sl * a + sc * aft)))).setCell ⟨w.heap.size + 1 + 1 + 1, 2, none⟩ (.int .u64 (loI (sl * a + sc * aft)))) = W2 at J2 ⊢
  clear hW2 c3 z3 c2 z2 c1 c0
  have dL : ∀ (g : Gro W2) o, g.x.cell? ⟨L, o, none⟩ = _ := fun g o => cell_of_heap ((J2.gr.trans g.h).heap hL) o
  have dl : ∀ (g : Gro W2) o, g.x.cell? ⟨w.heap.size, o, none⟩ = _ := fun g o => cell_of_heap (g.h.heap J2.bl) o
  have ds : ∀ (g : Gro W2) o, g.x.cell? ⟨w.heap.size + 1 + 1 + 1, o, none⟩ = _ := fun g o => cell_of_heap (g.h.heap J2.bs) o
  have hne2 : Nonempty (Gro W2) := ⟨⟨W2, Grows.refl W2⟩⟩
  refine wp_region_grow _ 13 (by kernel_rfl) (by kernel_rfl) (by kernel_rfl) ?_
  simp only [List.take_succ_cons, List.take_zero, List.drop_succ_cons, List.drop_zero]
  repeat (go_big_quiet_step (first
    | (go_at_call 21; exact Gro.call _ (product21 _ _ (by assumption) (by assumption) _))
    | (go_at_call 23; exact Gro.call _ (plus23 _ _ (by assumption) (by assumption) (by assumption) _))
    | (go_at_call 30; exact Gro.call _ (larger30 _ _ _))))
  refine wpQuiet_nil ?_
  rintro _ ⟨g2, rfl⟩
  have J5 := J2.grow g2.h
  have e3 := cell_of_heap J5.bs
  have y3 := frozen_of_heap J5.bs
  have e2 := cell_of_heap J5.bz
  have y2 := frozen_of_heap J5.bz
  clear dL dl ds hne2
  have J6 := J5.put (mx (sl * a + sc * aft) (lp + sc * aft))
  go_wp2
  simp [bodyPost, results, Yba.results27, go_sem, e2]
  refine ⟨by simp [jPeak], ?_⟩
  exact ((((J6.gr.setCell (by simp; omega) _).setCell (by simp; omega) _).setCell (by simp; omega) _).setCell (by simp; omega) _)

set_option maxRecDepth 100000 in
set_option maxHeartbeats 1600000 in
theorem join27_tt (L nb : Nat) (root l r : Option Addr) (sl sc room seed a b p s0 s1 s2 lb lp rb rp : Int) (s3 : Bool) (w : World) (hL : w.heap[L]? = some (.cells (ledO root sl sc room seed) 43 (0, 0)))
    (hn : w.heap[nb]? = some (.cells (nodeO a b p l r s0 s1 s2 s3) 54 (0, 0))) (hf : Fits sl sc lb lp a b rb rp) :
    Calls Yba.prog 27 #[.pointer (some ⟨L, 0, none⟩), .agg #[.int .i64 lb, .int .u64 (hiI lp), .int .u64 (loI lp), .bool true], .pointer (some ⟨nb, 0, none⟩), .agg #[.int .i64 rb, .int .u64 (hiI rp), .int .u64 (loI rp), .bool true]] w fun e w' =>
      e = .returned (.agg #[.int .i64 (lb + (b + rb)), .int .u64 (hiI (jPeak sl sc lp true a (b + rb) rp true)), .int .u64 (loI (jPeak sl sc lp true a (b + rb) rp true)), .bool true]) ∧ Grows w w' := by
  obtain ⟨h1, h2, h3, h4, h5, h6, h7, h8, h9, h10, h11, h12⟩ := hf
  unfold nodeO at hn
  unfold ledO at hL
  have cn : ∀ o1 o2 o3 o, (((w.alloc o1).alloc o2).alloc o3).cell? ⟨nb, o, none⟩ = _ := fun o1 o2 o3 o => cell_of_heap ((((Grows.refl w).alloc o1).alloc o2).alloc o3 |>.heap hn) o
  have waft : IntKind.i64.wrap (b + rb) = b + rb := IntWalk.i64_in _ (by omega)
  generalize haft : b + rb = aft at *
  have wa : IntKind.u64.wrap a = a := by rw [IntKind.wrap_u64]; omega
  have wf : IntKind.u64.wrap aft = aft := by rw [IntKind.wrap_u64]; omega
  have ha : Word a := ⟨h3, by omega⟩
  have hft : Word aft := ⟨h5, by omega⟩
  have q1 : 0 ≤ sl * a := Int.mul_nonneg h1.1 h3
  have q2 : 0 ≤ sc * aft := Int.mul_nonneg h2.1 h5
  go_enter Yba.func27, Yba.ntmps27
  go_wp2
  go_quiet (fail)
  go_wp2
  have J := JS.start lb lp rb rp (lb + aft) true true w nq
  generalize hW : (((((w.alloc (.cells #[.int .i64 lb, .int .u64 (hiI lp), .int .u64 (loI lp), .bool true] 52)).alloc (.cells #[.int .i64 rb, .int .u64 (hiI rp), .int .u64 (loI rp), .bool true] 52)).alloc (.cells #[.int .i64 0, .int .u64 0, .int .u64 0, .bool false] 52)).drewN nq).alloc (.cells #[.int .i64 (lb + aft), .int .u64 0, .int .u64 0, .bool true] 52)) = W at J ⊢
  clear hW cn
  have cL : ∀ (g : Gro W) o, g.x.cell? ⟨L, o, none⟩ = _ := fun g o => cell_of_heap ((J.gr.trans g.h).heap hL) o
  have cN : ∀ (g : Gro W) o, g.x.cell? ⟨nb, o, none⟩ = _ := fun g o => cell_of_heap ((J.gr.trans g.h).heap hn) o
  refine wp_region_grow _ 18 (by kernel_rfl) (by kernel_rfl) (by kernel_rfl) ?_
  simp only [List.take_succ_cons, List.take_zero, List.drop_succ_cons, List.drop_zero]
  have hne : Nonempty (Gro W) := ⟨⟨W, Grows.refl W⟩⟩
  repeat (go_big_quiet_step (first
    | (go_at_call 21; exact Gro.call _ (product21 _ _ (by assumption) (by assumption) _))
    | (go_at_call 23; exact Gro.call _ (plus23 _ _ (by assumption) (by assumption) (by assumption) _))))
  refine wpQuiet_nil ?_
  rintro _ ⟨g, rfl⟩
  have J1 := J.grow g.h
  have c3 := cell_of_heap J1.bs
  have z3 := frozen_of_heap J1.bs
  have c2 := cell_of_heap J1.bz
  have z2 := frozen_of_heap J1.bz
  have c1 := cell_of_heap J1.br
  have c0 := cell_of_heap J1.bl
  have J2 := J1.put (sl * a + sc * aft)
  clear cL cN hne
  go_wp2_with (go_at_call 30; refine (larger30 _ _ _).mono ?_; rintro e w3 ⟨rfl, hg3⟩; have J3 := J2.grow hg3; have d3 := cell_of_heap J3.bs; have x3 := frozen_of_heap J3.bs; have d2 := cell_of_heap J3.bz; have x2 := frozen_of_heap J3.bz; have d0 := cell_of_heap J3.bl; have J4 := J3.put (mx (sl * a + sc * aft) rp))
  generalize hW4 : ((w3.setCell ⟨w.heap.size + 1 + 1 + 1, 1, none⟩ (.int .u64 (hiI (mx (sl * a + sc * aft) rp)))).setCell ⟨w.heap.size + 1 + 1 + 1, 2, none⟩ (.int .u64 (loI (mx (sl * a + sc * aft) rp)))) = W4 at J4 ⊢
  clear hW4 c3 z3 c2 z2 c1 c0 d3 x3 d2 x2 d0
  have dL : ∀ (g : Gro W4) o, g.x.cell? ⟨L, o, none⟩ = _ := fun g o => cell_of_heap ((J4.gr.trans g.h).heap hL) o
  have dl : ∀ (g : Gro W4) o, g.x.cell? ⟨w.heap.size, o, none⟩ = _ := fun g o => cell_of_heap (g.h.heap J4.bl) o
  have ds : ∀ (g : Gro W4) o, g.x.cell? ⟨w.heap.size + 1 + 1 + 1, o, none⟩ = _ := fun g o => cell_of_heap (g.h.heap J4.bs) o
  have hne2 : Nonempty (Gro W4) := ⟨⟨W4, Grows.refl W4⟩⟩
  refine wp_region_grow _ 13 (by kernel_rfl) (by kernel_rfl) (by kernel_rfl) ?_
  simp only [List.take_succ_cons, List.take_zero, List.drop_succ_cons, List.drop_zero]
  repeat (go_big_quiet_step (first
    | (go_at_call 21; exact Gro.call _ (product21 _ _ (by assumption) (by assumption) _))
    | (go_at_call 23; exact Gro.call _ (plus23 _ _ (by assumption) (by assumption) (by assumption) _))
    | (go_at_call 30; exact Gro.call _ (larger30 _ _ _))))
  refine wpQuiet_nil ?_
  rintro _ ⟨g2, rfl⟩
  have J5 := J4.grow g2.h
  have e3 := cell_of_heap J5.bs
  have y3 := frozen_of_heap J5.bs
  have e2 := cell_of_heap J5.bz
  have y2 := frozen_of_heap J5.bz
  clear dL dl ds hne2
  have J6 := J5.put (mx (mx (sl * a + sc * aft) rp) (lp + sc * aft))
  go_wp2
  simp [bodyPost, results, Yba.results27, go_sem, e2]
  refine ⟨by simp [jPeak], ?_⟩
  exact ((((J6.gr.setCell (by simp; omega) _).setCell (by simp; omega) _).setCell (by simp; omega) _).setCell (by simp; omega) _)

theorem join27 (L nb : Nat) (root l r : Option Addr) (sl sc room seed a b p s0 s1 s2 lb lp rb rp : Int) (s3 ls rs : Bool) (w : World) (hL : w.heap[L]? = some (.cells (ledO root sl sc room seed) 43 (0, 0)))
    (hn : w.heap[nb]? = some (.cells (nodeO a b p l r s0 s1 s2 s3) 54 (0, 0))) (hf : Fits sl sc lb lp a b rb rp) :
    Calls Yba.prog 27 #[.pointer (some ⟨L, 0, none⟩), .agg #[.int .i64 lb, .int .u64 (hiI lp), .int .u64 (loI lp), .bool ls], .pointer (some ⟨nb, 0, none⟩), .agg #[.int .i64 rb, .int .u64 (hiI rp), .int .u64 (loI rp), .bool rs]] w fun e w' =>
      e = .returned (.agg #[.int .i64 (lb + (b + rb)), .int .u64 (hiI (jPeak sl sc lp ls a (b + rb) rp rs)), .int .u64 (loI (jPeak sl sc lp ls a (b + rb) rp rs)), .bool true]) ∧ Grows w w' := by
  cases ls <;> cases rs
  · exact join27_ff L nb root l r sl sc room seed a b p s0 s1 s2 lb lp rb rp s3 w hL hn hf
  · exact join27_ft L nb root l r sl sc room seed a b p s0 s1 s2 lb lp rb rp s3 w hL hn hf
  · exact join27_tf L nb root l r sl sc room seed a b p s0 s1 s2 lb lp rb rp s3 w hL hn hf
  · exact join27_tt L nb root l r sl sc room seed a b p s0 s1 s2 lb lp rb rp s3 w hL hn hf
end Go.Proofs.Ybulkdtfu
