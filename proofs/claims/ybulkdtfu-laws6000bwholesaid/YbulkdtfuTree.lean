/- The tree in memory; the walks of after, upTo, between. -/
import Derived.Test.YbulkdtfuPlain
namespace Go.Proofs.Ybulkdtfu
open Go.RowKit

/-- The times and bytes alone. -/
def pl (xs : List (Nat × Int × Int)) : List (Int × Int) := xs.map (·.2)
theorem pl_append (xs ys : List (Nat × Int × Int)) : pl (xs ++ ys) = pl xs ++ pl ys := by simp [pl]
theorem pl_cons (x : Nat × Int × Int) (ys : List (Nat × Int × Int)) : pl (x :: ys) = x.2 :: pl ys := rfl
theorem pl_parts (ls rs : List (Nat × Int × Int)) (b : Nat) (a c : Int) : pl (ls ++ (b, a, c) :: rs) = pl ls ++ (a, c) :: pl rs := by simp [pl]

/-- Below p lies a tree of height at most h whose nodes in order are xs (each: its block, its time, its bytes), each with the span of its subtree. -/
def IsT (sl sc : Int) (w : World) : Nat → Option Addr → List (Nat × Int × Int) → Prop
  | 0, p, xs => p = none ∧ xs = []
  | h + 1, p, xs => (p = none ∧ xs = []) ∨ ∃ (b : Nat) (a c q : Int) (l r : Option Addr) (ls rs : List (Nat × Int × Int)), p = some ⟨b, 0, none⟩ ∧ xs = ls ++ (b, a, c) :: rs ∧
      w.heap[b]? = some (.cells (nodeO a c q l r (spB (pl xs)) (hiI (spP sl sc (pl xs))) (loI (spP sl sc (pl xs))) true) 54 (0, 0)) ∧ IsT sl sc w h l ls ∧ IsT sl sc w h r rs

theorem IsT.nil {sl sc : Int} {w : World} : ∀ {h : Nat} {xs : List (Nat × Int × Int)}, IsT sl sc w h none xs → xs = []
  | 0, _, h => h.2
  | _ + 1, _, h => by
    rcases h with h | ⟨b, a, c, q, l, r, ls, rs, h, _⟩
    · exact h.2
    · cases h

theorem IsT.block {sl sc : Int} {w : World} : ∀ {h : Nat} {p : Option Addr} {xs : List (Nat × Int × Int)}, IsT sl sc w h p xs → ∀ x ∈ xs, x.1 < w.heap.size
  | 0, _, _, h, x, hx => by rw [h.2] at hx; cases hx
  | _ + 1, _, _, h, x, hx => by
    rcases h with h | ⟨b, a, c, q, l, r, ls, rs, h1, h2, h3, h4, h5⟩
    · rw [h.2] at hx; cases hx
    · subst h2
      simp only [List.mem_append, List.mem_cons] at hx
      rcases hx with hx | rfl | hx
      · exact IsT.block h4 x hx
      · exact (Array.getElem?_eq_some_iff.1 h3).1
      · exact IsT.block h5 x hx

/-- Where the tree's own blocks are as they were, it stands. -/
theorem IsT.same {sl sc : Int} {w w' : World} : ∀ {h : Nat} {p : Option Addr} {xs : List (Nat × Int × Int)}, (∀ x ∈ xs, w'.heap[x.1]? = w.heap[x.1]?) → IsT sl sc w h p xs → IsT sl sc w' h p xs
  | 0, _, _, _, h => h
  | _ + 1, _, _, he, h => by
    rcases h with h | ⟨b, a, c, q, l, r, ls, rs, h1, h2, h3, h4, h5⟩
    · exact .inl h
    · refine .inr ⟨b, a, c, q, l, r, ls, rs, h1, h2, ?_, IsT.same (fun x hx => he x (by simp [h2, hx])) h4, IsT.same (fun x hx => he x (by simp [h2, hx])) h5⟩
      have := he (b, a, c) (by simp [h2])
      simp only at this
      rw [this]
      exact h3

theorem IsT.grow {sl sc : Int} {w w' : World} {h : Nat} {p : Option Addr} {xs : List (Nat × Int × Int)} (ht : IsT sl sc w h p xs) (g : Grows w w') : IsT sl sc w' h p xs :=
  IsT.same (fun x hx => g.block x.1 (IsT.block ht x hx)) ht

theorem IsT.succ {sl sc : Int} {w : World} : ∀ {h : Nat} {p : Option Addr} {xs : List (Nat × Int × Int)}, IsT sl sc w h p xs → IsT sl sc w (h + 1) p xs
  | 0, _, _, h => .inl h
  | _ + 1, _, _, h => by
    rcases h with h | ⟨b, a, c, q, l, r, ls, rs, h1, h2, h3, h4, h5⟩
    · exact .inl h
    · exact .inr ⟨b, a, c, q, l, r, ls, rs, h1, h2, h3, IsT.succ h4, IsT.succ h5⟩

theorem whole28 {sl sc : Int} {h : Nat} {p : Option Addr} {xs : List (Nat × Int × Int)} (w : World) (ht : IsT sl sc w h p xs) :
    Calls Yba.prog 28 #[.pointer p] w fun e w' => e = .returned (.agg #[.int .i64 (spB (pl xs)), .int .u64 (hiI (spP sl sc (pl xs))), .int .u64 (loI (spP sl sc (pl xs))), .bool (spS (pl xs))]) ∧ Grows w w' := by
  cases h with
  | zero =>
    obtain ⟨rfl, rfl⟩ := ht
    exact whole28_nil w
  | succ h =>
    rcases ht with ⟨rfl, rfl⟩ | ⟨b, a, c, q, l, r, ls, rs, rfl, rfl, h3, h4, h5⟩
    · exact whole28_nil w
    · have hs : spS (pl (ls ++ (b, a, c) :: rs)) = true := by
        rw [pl_parts]
        cases pl ls <;> rfl
      rw [hs]
      exact whole28_some b a c q l r _ _ _ _ w h3

set_option maxRecDepth 100000 in
set_option maxHeartbeats 400000 in
theorem after22_nil (q : Value) (t : Int) (w : World) :
    Calls Yba.prog 22 #[q, .pointer none, .int .i64 t] w fun e w' => e = .returned (.agg #[.int .i64 0, .int .u64 (hiI 0), .int .u64 (loI 0), .bool false]) ∧ Grows w w' := by
  go_enter Yba.func22, Yba.ntmps22
  go_wp2
  simp [bodyPost, results, Yba.results22, go_sem]
  exact ⟨by decide, (Grows.refl _).alloc _⟩

/-- A call that gives a value and lets the world grow. -/
def Gives (f : FuncId) (args : Array Value) (w : World) (v : Value) : Prop := Calls Yba.prog f args w fun e w' => e = .returned v ∧ Grows w w'

set_option maxRecDepth 100000 in
set_option maxHeartbeats 800000 in
theorem after22_go (L b : Nat) (l r : Option Addr) (a c q s0 s1 s2 t v0 v1 v2 : Int) (s3 v3 : Bool) (w : World)
    (hn : w.heap[b]? = some (.cells (nodeO a c q l r s0 s1 s2 s3) 54 (0, 0))) (hle : a ≤ t)
    (ih : ∀ w', Grows w w' → Gives 22 #[.pointer (some ⟨L, 0, none⟩), .pointer r, .int .i64 t] w' (.agg #[.int .i64 v0, .int .u64 v1, .int .u64 v2, .bool v3])) :
    Gives 22 #[.pointer (some ⟨L, 0, none⟩), .pointer (some ⟨b, 0, none⟩), .int .i64 t] w (.agg #[.int .i64 v0, .int .u64 v1, .int .u64 v2, .bool v3]) := by
  unfold nodeO at hn
  have cn : ∀ ob o, (w.alloc ob).cell? ⟨b, o, none⟩ = _ := fun ob o => cell_of_heap (((Grows.refl w).alloc ob).heap hn) o
  obtain ⟨W, hW⟩ : ∃ W, W = w.alloc (.cells #[.int .i64 0, .int .u64 0, .int .u64 0, .bool false] 52) := ⟨_, rfl⟩
  have g1 : Grows w W := hW ▸ ((Grows.refl w).alloc _)
  have n1 : W.heap[w.heap.size]? = _ := hW ▸ heap_new (w := w) (.cells #[.int .i64 0, .int .u64 0, .int .u64 0, .bool false] 52) rfl
  unfold Gives at *
  go_enter Yba.func22, Yba.ntmps22
  go_wp2_with (go_at_call 22; rw [← hW]; refine (ih W g1).mono ?_; rintro e w' ⟨rfl, hg⟩; have c1 := cell_of_heap (hg.heap n1); have z1 := frozen_of_heap (hg.heap n1))
  simp [bodyPost, results, Yba.results22, go_sem, c1]
  exact ((((g1.trans hg).setCell (by simp) _).setCell (by simp) _).setCell (by simp) _).setCell (by simp) _

set_option maxRecDepth 100000 in
set_option maxHeartbeats 800000 in
theorem after22_join (L b : Nat) (root l r : Option Addr) (sl sc room seed a c q s0 s1 s2 t lb lp rb rp : Int) (s3 ls rs : Bool) (w : World) (hL : w.heap[L]? = some (.cells (ledO root sl sc room seed) 43 (0, 0)))
    (hn : w.heap[b]? = some (.cells (nodeO a c q l r s0 s1 s2 s3) 54 (0, 0))) (hle : ¬ a ≤ t) (hf : Fits sl sc lb lp a c rb rp)
    (ih : ∀ w', Grows w w' → Gives 22 #[.pointer (some ⟨L, 0, none⟩), .pointer l, .int .i64 t] w' (.agg #[.int .i64 lb, .int .u64 (hiI lp), .int .u64 (loI lp), .bool ls]))
    (iw : ∀ w', Grows w w' → Gives 28 #[.pointer r] w' (.agg #[.int .i64 rb, .int .u64 (hiI rp), .int .u64 (loI rp), .bool rs])) :
    Gives 22 #[.pointer (some ⟨L, 0, none⟩), .pointer (some ⟨b, 0, none⟩), .int .i64 t] w
      (.agg #[.int .i64 (lb + (c + rb)), .int .u64 (hiI (jPeak sl sc lp ls a (c + rb) rp rs)), .int .u64 (loI (jPeak sl sc lp ls a (c + rb) rp rs)), .bool true]) := by
  have hj : ∀ w', Grows w w' → Gives 27 #[.pointer (some ⟨L, 0, none⟩), .agg #[.int .i64 lb, .int .u64 (hiI lp), .int .u64 (loI lp), .bool ls], .pointer (some ⟨b, 0, none⟩), .agg #[.int .i64 rb, .int .u64 (hiI rp), .int .u64 (loI rp), .bool rs]] w'
      (.agg #[.int .i64 (lb + (c + rb)), .int .u64 (hiI (jPeak sl sc lp ls a (c + rb) rp rs)), .int .u64 (loI (jPeak sl sc lp ls a (c + rb) rp rs)), .bool true]) :=
    fun w' g => join27 L b root l r sl sc room seed a c q s0 s1 s2 lb lp rb rp s3 ls rs w' (g.heap hL) (g.heap hn) hf
  generalize jPeak sl sc lp ls a (c + rb) rp rs = jp at *
  generalize lb + (c + rb) = jb at *
  unfold nodeO at hn
  unfold ledO at hL
  have cn : ∀ ob o, (w.alloc ob).cell? ⟨b, o, none⟩ = _ := fun ob o => cell_of_heap (((Grows.refl w).alloc ob).heap hn) o
  unfold Gives at *
  go_enter Yba.func22, Yba.ntmps22
  go_wp2
  obtain ⟨W, hW⟩ : ∃ W, W = w.alloc (.cells #[.int .i64 0, .int .u64 0, .int .u64 0, .bool false] 52) := ⟨_, rfl⟩
  have g1 : Grows w W := hW ▸ ((Grows.refl w).alloc _)
  have n1 : W.heap[w.heap.size]? = _ := hW ▸ heap_new (w := w) (.cells #[.int .i64 0, .int .u64 0, .int .u64 0, .bool false] 52) rfl
  rw [← hW]
  clear hW cn
  have cN : ∀ (g : Gro W) o, g.x.cell? ⟨b, o, none⟩ = _ := fun g o => cell_of_heap ((g1.trans g.h).heap hn) o
  have hne : Nonempty (Gro W) := ⟨⟨W, Grows.refl W⟩⟩
  refine wp_region_grow _ 15 (by kernel_rfl) (by kernel_rfl) (by kernel_rfl) ?_
  simp only [List.take_succ_cons, List.take_zero, List.drop_succ_cons, List.drop_zero]
  repeat (go_big_quiet_step (first
    | (go_at_call 22; exact Gro.call _ (ih _ (g1.trans (Gro.h _))))
    | (go_at_call 28; exact Gro.call _ (iw _ (g1.trans (Gro.h _))))
    | (go_at_call 27; exact Gro.call _ (hj _ (g1.trans (Gro.h _))))))
  refine wpQuiet_nil ?_
  rintro _ ⟨g, rfl⟩
  have c1 := cell_of_heap (g.h.heap n1)
  have z1 := frozen_of_heap (g.h.heap n1)
  clear cN hne
  go_wp2
  simp [bodyPost, results, Yba.results22, go_sem, c1]
  exact ((((g1.trans g.h).setCell (by simp) _).setCell (by simp) _).setCell (by simp) _).setCell (by simp) _

theorem after22 (L : Nat) (root : Option Addr) (sl sc room seed t : Int) : ∀ (h : Nat) (p : Option Addr) (xs : List (Nat × Int × Int)) (w : World), w.heap[L]? = some (.cells (ledO root sl sc room seed) 43 (0, 0)) →
    IsT sl sc w h p xs → Sorted (pl xs) → Bnd sl sc (pl xs) →
    Gives 22 #[.pointer (some ⟨L, 0, none⟩), .pointer p, .int .i64 t] w (.agg #[.int .i64 (spB (aft t (pl xs))), .int .u64 (hiI (spP sl sc (aft t (pl xs)))), .int .u64 (loI (spP sl sc (aft t (pl xs)))), .bool (spS (aft t (pl xs)))]) := by
  intro h
  induction h with
  | zero =>
    intro p xs w hL ht hs hb
    obtain ⟨rfl, rfl⟩ := ht
    exact after22_nil _ t w
  | succ h ih =>
    intro p xs w hL ht hs hb
    rcases ht with ⟨rfl, rfl⟩ | ⟨b, a, c, q, l, r, ls, rs, rfl, rfl, h3, h4, h5⟩
    · exact after22_nil _ t w
    · rw [pl_parts] at hs hb h3 ⊢
      obtain ⟨sL, sR, _, _⟩ := sorted_parts hs
      by_cases hle : a ≤ t
      · rw [aft_le hs hle]
        exact after22_go L b l r a c q _ _ _ t _ _ _ _ _ w h3 hle (fun w' g => ih r rs w' (g.heap hL) (h5.grow g) sR hb.right.tail)
      · rw [aft_gt hs hle]
        have hb2 : Bnd sl sc (aft t (pl ls) ++ (a, c) :: pl rs) := by
          rw [← aft_gt hs hle]
          exact hb.filter _
        have hj := join_law hb2
        have hs2 : spS (aft t (pl ls) ++ (a, c) :: pl rs) = true := by cases aft t (pl ls) <;> rfl
        rw [← hj.1, ← hj.2, hs2]
        exact after22_join L b root l r sl sc room seed a c q _ _ _ t _ _ _ _ _ _ _ w hL h3 hle hb2.fits (fun w' g => ih l ls w' (g.heap hL) (h4.grow g) sL hb.left) (fun w' g => whole28 w' (h5.grow g))
end Go.Proofs.Ybulkdtfu
