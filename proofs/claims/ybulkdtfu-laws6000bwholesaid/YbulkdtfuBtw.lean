/- The walk of upTo and of between. -/
import Derived.Test.YbulkdtfuTree
import Derived.Deep.LoopGhost
namespace Go.Proofs.Ybulkdtfu
open Go.RowKit

set_option maxRecDepth 100000 in
set_option maxHeartbeats 400000 in
theorem upTo29_nil (q : Value) (t : Int) (w : World) :
    Calls Yba.prog 29 #[q, .pointer none, .int .i64 t] w fun e w' => e = .returned (.agg #[.int .i64 0, .int .u64 (hiI 0), .int .u64 (loI 0), .bool false]) ∧ Grows w w' := by
  go_enter Yba.func29, Yba.ntmps29
  go_wp2
  simp [bodyPost, results, Yba.results29, go_sem]
  exact ⟨by decide, (Grows.refl _).alloc _⟩

set_option maxRecDepth 100000 in
set_option maxHeartbeats 800000 in
theorem upTo29_go (L b : Nat) (l r : Option Addr) (a c q s0 s1 s2 t v0 v1 v2 : Int) (s3 v3 : Bool) (w : World)
    (hn : w.heap[b]? = some (.cells (nodeO a c q l r s0 s1 s2 s3) 54 (0, 0))) (hle : t < a)
    (ih : ∀ w', Grows w w' → Gives 29 #[.pointer (some ⟨L, 0, none⟩), .pointer l, .int .i64 t] w' (.agg #[.int .i64 v0, .int .u64 v1, .int .u64 v2, .bool v3])) :
    Gives 29 #[.pointer (some ⟨L, 0, none⟩), .pointer (some ⟨b, 0, none⟩), .int .i64 t] w (.agg #[.int .i64 v0, .int .u64 v1, .int .u64 v2, .bool v3]) := by
  unfold nodeO at hn
  have cn : ∀ ob o, (w.alloc ob).cell? ⟨b, o, none⟩ = _ := fun ob o => cell_of_heap (((Grows.refl w).alloc ob).heap hn) o
  obtain ⟨W, hW⟩ : ∃ W, W = w.alloc (.cells #[.int .i64 0, .int .u64 0, .int .u64 0, .bool false] 52) := ⟨_, rfl⟩
  have g1 : Grows w W := hW ▸ ((Grows.refl w).alloc _)
  have n1 : W.heap[w.heap.size]? = _ := hW ▸ heap_new (w := w) (.cells #[.int .i64 0, .int .u64 0, .int .u64 0, .bool false] 52) rfl
  unfold Gives at *
  go_enter Yba.func29, Yba.ntmps29
  go_wp2_with (go_at_call 29; rw [← hW]; refine (ih W g1).mono ?_; rintro e w' ⟨rfl, hg⟩; have c1 := cell_of_heap (hg.heap n1); have z1 := frozen_of_heap (hg.heap n1))
  simp [bodyPost, results, Yba.results29, go_sem, c1]
  exact ((((g1.trans hg).setCell (by simp) _).setCell (by simp) _).setCell (by simp) _).setCell (by simp) _

set_option maxRecDepth 100000 in
set_option maxHeartbeats 800000 in
theorem upTo29_join (L b : Nat) (root l r : Option Addr) (sl sc room seed a c q s0 s1 s2 t lb lp rb rp : Int) (s3 ls rs : Bool) (w : World) (hL : w.heap[L]? = some (.cells (ledO root sl sc room seed) 43 (0, 0)))
    (hn : w.heap[b]? = some (.cells (nodeO a c q l r s0 s1 s2 s3) 54 (0, 0))) (hle : ¬ t < a) (hf : Fits sl sc lb lp a c rb rp)
    (ih : ∀ w', Grows w w' → Gives 29 #[.pointer (some ⟨L, 0, none⟩), .pointer r, .int .i64 t] w' (.agg #[.int .i64 rb, .int .u64 (hiI rp), .int .u64 (loI rp), .bool rs]))
    (iw : ∀ w', Grows w w' → Gives 28 #[.pointer l] w' (.agg #[.int .i64 lb, .int .u64 (hiI lp), .int .u64 (loI lp), .bool ls])) :
    Gives 29 #[.pointer (some ⟨L, 0, none⟩), .pointer (some ⟨b, 0, none⟩), .int .i64 t] w
      (.agg #[.int .i64 (lb + (c + rb)), .int .u64 (hiI (jPeak sl sc lp ls a (c + rb) rp rs)), .int .u64 (loI (jPeak sl sc lp ls a (c + rb) rp rs)), .bool true]) := by
  have hj : ∀ w', Grows w w' → Gives 27 #[.pointer (some ⟨L, 0, none⟩), .agg #[.int .i64 lb, .int .u64 (hiI lp), .int .u64 (loI lp), .bool ls], .pointer (some ⟨b, 0, none⟩), .agg #[.int .i64 rb, .int .u64 (hiI rp), .int .u64 (loI rp), .bool rs]] w'
      (.agg #[.int .i64 (lb + (c + rb)), .int .u64 (hiI (jPeak sl sc lp ls a (c + rb) rp rs)), .int .u64 (loI (jPeak sl sc lp ls a (c + rb) rp rs)), .bool true]) :=
    fun w' g => join27 L b root l r sl sc room seed a c q s0 s1 s2 lb lp rb rp s3 ls rs w' (g.heap hL) (g.heap hn) hf
  generalize jPeak sl sc lp ls a (c + rb) rp rs = jp at *
  generalize lb + (c + rb) = jb at *
  unfold nodeO at hn
  unfold ledO at hL
  have cn : ∀ ob o, (w.alloc ob).cell? ⟨b, o, none⟩ = _ := fun ob o => cell_of_heap (((Grows.refl w).alloc ob).heap hn) o
  unfold Gives at *
  go_enter Yba.func29, Yba.ntmps29
  go_wp2
  obtain ⟨W, hW⟩ : ∃ W, W = w.alloc (.cells #[.int .i64 0, .int .u64 0, .int .u64 0, .bool false] 52) := ⟨_, rfl⟩
  have g1 : Grows w W := hW ▸ ((Grows.refl w).alloc _)
  have n1 : W.heap[w.heap.size]? = _ := hW ▸ heap_new (w := w) (.cells #[.int .i64 0, .int .u64 0, .int .u64 0, .bool false] 52) rfl
  rw [← hW]
  clear hW cn
  have cN : ∀ (g : Gro W) o, g.x.cell? ⟨b, o, none⟩ = _ := fun g o => cell_of_heap ((g1.trans g.h).heap hn) o
  have hne : Nonempty (Gro W) := ⟨⟨W, Grows.refl W⟩⟩
  refine wp_region_grow _ 15 (by kernel_rfl) (by kernel_rfl) (by kernel_rfl) ?_
  simp only [List.take_succ_cons, List.take_zero, List.drop_succ_cons, List.drop_zero]
  repeat (go_big_quiet_step (first
    | (go_at_call 29; exact Gro.call _ (ih _ (g1.trans (Gro.h _))))
    | (go_at_call 28; exact Gro.call _ (iw _ (g1.trans (Gro.h _))))
    | (go_at_call 27; exact Gro.call _ (hj _ (g1.trans (Gro.h _))))))
  refine wpQuiet_nil ?_
  rintro _ ⟨g, rfl⟩
  have c1 := cell_of_heap (g.h.heap n1)
  have z1 := frozen_of_heap (g.h.heap n1)
  clear cN hne
  go_wp2
  simp [bodyPost, results, Yba.results29, go_sem, c1]
  exact ((((g1.trans g.h).setCell (by simp) _).setCell (by simp) _).setCell (by simp) _).setCell (by simp) _

theorem upTo29 (L : Nat) (root : Option Addr) (sl sc room seed t : Int) : ∀ (h : Nat) (p : Option Addr) (xs : List (Nat × Int × Int)) (w : World), w.heap[L]? = some (.cells (ledO root sl sc room seed) 43 (0, 0)) →
    IsT sl sc w h p xs → Sorted (pl xs) → Bnd sl sc (pl xs) →
    Gives 29 #[.pointer (some ⟨L, 0, none⟩), .pointer p, .int .i64 t] w (.agg #[.int .i64 (spB (upt t (pl xs))), .int .u64 (hiI (spP sl sc (upt t (pl xs)))), .int .u64 (loI (spP sl sc (upt t (pl xs)))), .bool (spS (upt t (pl xs)))]) := by
  intro h
  induction h with
  | zero =>
    intro p xs w hL ht hs hb
    obtain ⟨rfl, rfl⟩ := ht
    exact upTo29_nil _ t w
  | succ h ih =>
    intro p xs w hL ht hs hb
    rcases ht with ⟨rfl, rfl⟩ | ⟨b, a, c, q, l, r, ls, rs, rfl, rfl, h3, h4, h5⟩
    · exact upTo29_nil _ t w
    · rw [pl_parts] at hs hb h3 ⊢
      obtain ⟨sL, sR, _, _⟩ := sorted_parts hs
      by_cases hle : t < a
      · rw [upt_gt hs hle]
        exact upTo29_go L b l r a c q _ _ _ t _ _ _ _ _ w h3 hle (fun w' g => ih l ls w' (g.heap hL) (h4.grow g) sL hb.left)
      · rw [upt_le hs hle]
        have hb2 : Bnd sl sc (pl ls ++ (a, c) :: upt t (pl rs)) := by
          rw [← upt_le hs hle]
          exact hb.filter _
        have hj := join_law hb2
        have hs2 : spS (pl ls ++ (a, c) :: upt t (pl rs)) = true := by cases pl ls <;> rfl
        rw [← hj.1, ← hj.2, hs2]
        exact upTo29_join L b root l r sl sc room seed a c q _ _ _ t _ _ _ _ _ _ _ w hL h3 hle hb2.fits (fun w' g => ih r rs w' (g.heap hL) (h5.grow g) sR hb.right.tail) (fun w' g => whole28 w' (h4.grow g))

/-- What holds at the loop's head in between. -/
structure BtR (sl sc s t : Int) (xs : List (Nat × Int × Int)) (W : World) (k : Nat) (pa : Option Addr) (ys : List (Nat × Int × Int)) : Prop where
  tree : IsT sl sc W k pa ys
  sorted : Sorted (pl ys)
  bnd : Bnd sl sc (pl ys)
  same : btw s t (pl ys) = btw s t (pl xs)

set_option maxRecDepth 100000 in
set_option maxHeartbeats 1600000 in
theorem between25 (L : Nat) (root : Option Addr) (sl sc room seed s t : Int) (h : Nat) (p : Option Addr) (xs : List (Nat × Int × Int)) (w : World) (hL : w.heap[L]? = some (.cells (ledO root sl sc room seed) 43 (0, 0)))
    (ht : IsT sl sc w h p xs) (hs : Sorted (pl xs)) (hb : Bnd sl sc (pl xs)) :
    Gives 25 #[.pointer (some ⟨L, 0, none⟩), .pointer p, .int .i64 s, .int .i64 t] w (.agg #[.int .i64 (spB (btw s t (pl xs))), .int .u64 (hiI (spP sl sc (btw s t (pl xs)))), .int .u64 (loI (spP sl sc (btw s t (pl xs)))), .bool (spS (btw s t (pl xs)))]) := by
  obtain ⟨W, hW⟩ : ∃ W, w.alloc (.cells #[.int .i64 0, .int .u64 0, .int .u64 0, .bool false] 52) = W := ⟨_, rfl⟩
  have g1 : Grows w W := hW ▸ ((Grows.refl w).alloc _)
  have n1 : W.heap[w.heap.size]? = _ := hW ▸ heap_new (w := w) (.cells #[.int .i64 0, .int .u64 0, .int .u64 0, .bool false] 52) rfl
  have R0 : BtR sl sc s t xs W h p xs := ⟨ht.grow g1, hs, hb, rfl⟩
  have hL2 := g1.heap hL
  clear ht hs hb hL
  unfold Gives
  go_enter Yba.func25, Yba.ntmps25
  go_wp2
  go_loopg [1] h (fun k v wr => wr = W ∧ ∃ pa ys, v = .pointer pa ∧ BtR sl sc s t xs W k pa ys)
  case atStart => exact ⟨rfl, p, xs, rfl, R0⟩
  case round =>
    obtain ⟨rfl, pa, ys, rfl, R⟩ := hrel
    clear hW R0
    have c1 := cell_of_heap n1
    have z1 := frozen_of_heap n1
    have nilCase : pa = none → ys = [] → Hid (btw s t (pl xs) = []) := fun _ hy => by
      unfold Hid
      rw [← R.same, hy]
      rfl
    have parts : ∀ (b : Nat) (a c q : Int) (l r : Option Addr) (ls rs : List (Nat × Int × Int)), ys = ls ++ (b, a, c) :: rs → Hid (Sorted (pl ls ++ (a, c) :: pl rs) ∧ Bnd sl sc (pl ls ++ (a, c) :: pl rs) ∧ btw s t (pl ls ++ (a, c) :: pl rs) = btw s t (pl xs)) := fun b a c q l r ls rs hy => by
      have h1 := R.sorted
      have h2 := R.bnd
      have h3 := R.same
      rw [hy, pl_parts] at h1 h2 h3
      exact ⟨h1, h2, h3⟩
    have tr : (pa = none ∧ ys = []) ∨ ∃ (k b : Nat) (a c q : Int) (l r : Option Addr) (ls rs : List (Nat × Int × Int)), gk = k + 1 ∧ pa = some ⟨b, 0, none⟩ ∧ ys = ls ++ (b, a, c) :: rs ∧
        wr.heap[b]? = some (.cells (nodeO a c q l r (spB (pl ys)) (hiI (spP sl sc (pl ys))) (loI (spP sl sc (pl ys))) true) 54 (0, 0)) ∧ IsT sl sc wr k l ls ∧ IsT sl sc wr k r rs := by
      cases gk with
      | zero => exact .inl R.tree
      | succ k =>
        rcases R.tree with h | ⟨b, a, c, q, l, r, ls, rs, h⟩
        · exact .inl h
        · exact .inr ⟨k, b, a, c, q, l, r, ls, rs, rfl, h⟩
    rcases tr with ⟨rfl, hy⟩ | ⟨k, b, a, c, q, l, r, ls, rs, hk, rfl, hy, h3, h4, h5⟩
    · have hx := nilCase rfl hy
      clear nilCase parts R hy
      go_wp2
      simp [bodyPost, results, Yba.results25, go_sem, c1]
      rw [hx.out]
      exact ⟨⟨rfl, (show (0 : Int) = hiI 0 by decide), (show (0 : Int) = loI 0 by decide), rfl⟩, (((g1.setCell (by simp) _).setCell (by simp) _).setCell (by simp) _).setCell (by simp) _⟩
    · have hp := parts b a c q l r ls rs hy
      clear nilCase parts R
      have hyH : Hid (ys = ls ++ (b, a, c) :: rs) := hy
      have hkH : Hid (gk = k + 1) := hk
      clear hy hk
      generalize spB (pl ys) = s0 at h3
      generalize hiI (spP sl sc (pl ys)) = s1 at h3
      generalize loI (spP sl sc (pl ys)) = s2 at h3
      have hN := h3
      unfold nodeO at h3
      have cn := cell_of_heap h3
      by_cases hlo : a ≤ s
      · go_wp2
        go_roundg k
        case measure => have := hkH.out; omega
        case rel =>
          obtain ⟨i1, i2, i3⟩ := hp
          exact ⟨rfl, r, rs, rfl, h5, (sorted_parts i1).2.1, i2.right.tail, by rw [← i3, btw_lo i1 hlo]⟩
      · by_cases hhi : t < a
        · go_wp2
          go_roundg k
          case measure => have := hkH.out; omega
          case rel =>
            obtain ⟨i1, i2, i3⟩ := hp
            exact ⟨rfl, l, ls, rfl, h4, (sorted_parts i1).1, i2.left, by rw [← i3, btw_hi i1 hhi]⟩
        · go_wp2
          have hab : Hid (btw s t (pl xs) = aft s (pl ls) ++ (a, c) :: upt t (pl rs)) := by
            obtain ⟨i1, i2, i3⟩ := hp
            unfold Hid
            rw [← i3, btw_in i1 (by simp; omega) (by simp; omega)]
          have hb2 : Bnd sl sc (aft s (pl ls) ++ (a, c) :: upt t (pl rs)) := by
            obtain ⟨i1, i2, i3⟩ := hp
            rw [← btw_in i1 (by simp; omega) (by simp; omega)]
            exact i2.filter _
          have ia : ∀ w', Grows wr w' → Gives 22 #[.pointer (some ⟨L, 0, none⟩), .pointer l, .int .i64 s] w' _ := fun w' g => after22 L root sl sc room seed s k l ls w' (g.heap hL2) (h4.grow g) (sorted_parts hp.out.1).1 hp.out.2.1.left
          have iu : ∀ w', Grows wr w' → Gives 29 #[.pointer (some ⟨L, 0, none⟩), .pointer r, .int .i64 t] w' _ := fun w' g => upTo29 L root sl sc room seed t k r rs w' (g.heap hL2) (h5.grow g) (sorted_parts hp.out.1).2.1 hp.out.2.1.right.tail
          have ij : ∀ w', Grows wr w' → Gives 27 _ w' _ := fun w' g => join27 L b root l r sl sc room seed a c q s0 s1 s2 _ _ _ _ true (spS (aft s (pl ls))) (spS (upt t (pl rs))) w' (g.heap hL2) (g.heap hN) hb2.fits
          rw [(join_law hb2).1, (join_law hb2).2] at ij
          have hs2 : Hid (spS (aft s (pl ls) ++ (a, c) :: upt t (pl rs)) = true) := by
            unfold Hid
            cases aft s (pl ls) <;> rfl
          clear hb2 hp cn
          have cN : ∀ (g : Gro wr) o, g.x.cell? ⟨b, o, none⟩ = _ := fun g o => cell_of_heap (g.h.heap h3) o
          have hne : Nonempty (Gro wr) := ⟨⟨wr, Grows.refl wr⟩⟩
          refine wp_region_grow _ 17 (by kernel_rfl) (by kernel_rfl) (by kernel_rfl) ?_
          simp only [List.take_succ_cons, List.take_zero, List.drop_succ_cons, List.drop_zero]
          repeat (go_big_quiet_step (first
            | (go_at_call 22; exact Gro.call _ (ia _ (Gro.h _)))
            | (go_at_call 29; exact Gro.call _ (iu _ (Gro.h _)))
            | (go_at_call 27; exact Gro.call _ (ij _ (Gro.h _)))))
          refine wpQuiet_nil ?_
          rintro _ ⟨g, rfl⟩
          have d1 := cell_of_heap (g.h.heap n1)
          have y1 := frozen_of_heap (g.h.heap n1)
          clear cN hne
          go_wp2
          simp [bodyPost, results, Yba.results25, go_sem, d1]
          rw [hab.out, hs2.out]
          exact ⟨⟨rfl, rfl, rfl, rfl⟩, ((((g1.trans g.h).setCell (by simp) _).setCell (by simp) _).setCell (by simp) _).setCell (by simp) _⟩
end Go.Proofs.Ybulkdtfu
