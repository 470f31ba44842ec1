/- The 128-bit numbers of LawS6000B: a class of worlds that have grown; the contracts of Mul64, Add64, product, plus, less, larger and of the law's own. -/
import Derived.Test.YbulkdtfuRows
import Derived.Test.YbulkdtfuRegion
import Derived.WalkKit
import Derived.WalkSpells
import Derived.WalkLawsBesides
import Derived.BigQuiet
import Derived.Deep.QuietTactic
import Derived.LaidEqlPtr
import Derived.KernelRfl
import Derived.Deep.OwnRows
import Derived.Laws.Externs
import Derived.Shelf.Bits.Mul64
namespace Go.Proofs.Ybulkdtfu
open Go.RowKit

/-- The world has grown: no block that was there has turned. -/
def Grows (w w' : World) : Prop := Below w.heap.size w w'
theorem Grows.refl (w : World) : Grows w w := Below.refl _ _
theorem Grows.trans {a b c : World} (h : Grows a b) (k : Grows b c) : Grows a c := Below.trans h (Below.mono k h.size)
theorem Grows.alloc {a w : World} (h : Grows a w) (o : Obj) : Grows a (w.alloc o) := Below.alloc h h.size o
theorem Grows.drew {a w : World} (h : Grows a w) : Grows a w.drew := Below.drew h
theorem Grows.setCell {a w : World} (h : Grows a w) {p : Addr} (hp : a.heap.size ≤ p.block) (u : Value) : Grows a (w.setCell p u) := Below.setCell h hp u
theorem Grows.heap {w w' : World} (h : Grows w w') {b : Nat} {o : Obj} (hb : w.heap[b]? = some o) : w'.heap[b]? = some o := by
  rw [h.block b (Array.getElem?_eq_some_iff.1 hb).1, hb]

/-- A world that has grown from w. -/
structure Gro (w : World) where
  x : World
  h : Grows w x

theorem Gro.call {w : World} (g : Gro w) {P : Program} {f : FuncId} {args : Array Value} {v : Value} (h : Calls P f args g.x fun e w' => e = .returned v ∧ Grows g.x w') :
    Calls P f args g.x fun e w'' => e = .returned v ∧ ∃ g' : Gro w, w'' = g'.x :=
  h.mono fun _ w' ⟨he, hg⟩ => ⟨he, ⟨w', g.h.trans hg⟩, rfl⟩

theorem wp_region_grow {P : Program} {Q : Exit → Act → World → Prop} {id : Nat} {a : Act} {w : World} (l : List Oper) (n : Nat) (hm : P.follows .mixedOrders = true) (hT : tailB .any l.toArray n = true) (hB : Region.lexB .any (l.take n).toArray = true)
    (h : wpQuiet P (l.take n).toArray (fun w' => ∃ g : Gro w, w' = g.x) (fun a' => ∀ w', (∃ g : Gro w, w' = g.x) → wpList P l.toArray Q (l.drop n) a' w') (l.take n) a) : (Code.region id l.toArray true).wp P Q a w :=
  wp_region_head l n hm hT hB ⟨⟨w.drew, (Grows.refl w).drew⟩, rfl⟩ h

theorem wp_region_grow0 {P : Program} {Q : Exit → Act → World → Prop} {id : Nat} {a : Act} {w : World} (l : List Oper) (hm : P.follows .mixedOrders = true) (hB : Region.lexB .any l.toArray = true)
    (h : wpQuiet P l.toArray (fun w' => ∃ g : Gro w, w' = g.x) (fun a' => ∀ w', (∃ g : Gro w, w' = g.x) → Q .normal a' w') l a) : (Code.region id l.toArray true).wp P Q a w :=
  wp_region_quiet (C := fun w' => ∃ g : Gro w, w' = g.x) hm hB ⟨⟨w.drew, (Grows.refl w).drew⟩, rfl⟩ h

theorem cell_of_heap {w : World} {b : Nat} {cs : Array Value} {t : TypeId} {fz : Nat × Nat} (h : w.heap[b]? = some (.cells cs t fz)) (o : Nat) : w.cell? ⟨b, o, none⟩ = cs[o]? := by
  simp [World.cell?, h]
theorem frozen_of_heap {w : World} {b : Nat} {cs : Array Value} {t : TypeId} (h : w.heap[b]? = some (.cells cs t (0, 0))) (o : Nat) : w.frozen? ⟨b, o, none⟩ = false := by
  simp [World.frozen?, h]
theorem heap_new {w : World} {n : Nat} (o : Obj) (h : w.heap.size = n) : (w.alloc o).heap[n]? = some o := by
  subst h
  show (w.heap.push o)[w.heap.size]? = some o
  simp
theorem heap_setCell_at {w : World} {b o : Nat} {cs : Array Value} {t : TypeId} {fz : Nat × Nat} (v : Value) (h : w.heap[b]? = some (.cells cs t fz)) :
    (w.setCell ⟨b, o, none⟩ v).heap[b]? = some (.cells (cs.setIfInBounds o v) t fz) := by
  simp only [World.setCell, Array.getElem?_modify, h]
  simp
theorem heap_setCell_off {w : World} {a : Addr} {k : Nat} (v : Value) (h : k ≠ a.block) : (w.setCell a v).heap[k]? = w.heap[k]? := Below.heap_setCell w a v k h
theorem heap_alloc_old {w : World} {k : Nat} (o : Obj) (h : k < w.heap.size) : (w.alloc o).heap[k]? = w.heap[k]? := Below.heap_alloc w o k h

/-- The blocks that three makings leave. -/
theorem three_new (w : World) (o1 o2 o3 : Obj) : (((w.alloc o1).alloc o2).alloc o3).heap[w.heap.size]? = some o1 ∧ (((w.alloc o1).alloc o2).alloc o3).heap[w.heap.size + 1]? = some o2 ∧ (((w.alloc o1).alloc o2).alloc o3).heap[w.heap.size + 1 + 1]? = some o3 := by
  refine ⟨?_, ?_, heap_new _ (by simp)⟩
  · rw [heap_alloc_old _ (by simp; omega), heap_alloc_old _ (by simp), heap_new _ rfl]
  · rw [heap_alloc_old _ (by simp), heap_new _ (by simp)]

/-- The two words of a number of 128 bits. -/
def hiI (x : Int) : Int := x / 18446744073709551616
def loI (x : Int) : Int := x % 18446744073709551616
/-- The larger (under a name of its own, so that no rule of the walk turns it). -/
def mx (x y : Int) : Int := max x y
/-- A word. -/
def Word (x : Int) : Prop := 0 ≤ x ∧ x < 18446744073709551616

theorem hiI_nonneg {x : Int} (h : 0 ≤ x) : 0 ≤ hiI x := by unfold hiI; omega
theorem loI_nonneg (x : Int) : 0 ≤ loI x := by unfold loI; omega
theorem loI_lt (x : Int) : loI x < 18446744073709551616 := by unfold loI; omega

theorem add26 (x y c : Int) (hx : 0 ≤ x) (hy : 0 ≤ y) (hc0 : 0 ≤ c) (hc : c ≤ 1) (w : World) : (callFunc 26 #[.int .u64 x, .int .u64 y, .int .u64 c]).run Yba.prog w =
    .ok (.value (.tuple #[.int .u64 ((x + y + c) % 18446744073709551616), .int .u64 ((x + y + c) / 18446744073709551616)])) w := by
  rw [run_callFunc_extern Yba.func26 (by kernel_rfl) (by kernel_rfl) (by kernel_rfl) (e := add64Entry) (by kernel_rfl), run_add64 x y c hx hy hc0 hc]
  rfl
theorem add26_0 (x y : Int) (hx : 0 ≤ x) (hy : 0 ≤ y) (w : World) : (callFunc 26 #[.int .u64 x, .int .u64 y, .int .u64 0]).run Yba.prog w =
    .ok (.value (.tuple #[.int .u64 ((x + y) % 18446744073709551616), .int .u64 ((x + y) / 18446744073709551616)])) w := by
  simpa using add26 x y 0 hx hy (Int.le_refl 0) (by decide) w

set_option maxHeartbeats 1000000 in
/-- math/bits.Mul64 (after the guide's shelf). -/
theorem mulN9 (x y : Nat) (hx : x < 18446744073709551616) (hy : y < 18446744073709551616) (w : World) :
    Calls Yba.prog 9 #[.int .u64 x, .int .u64 y] w fun e w' => e = .returned (.tuple #[.int .u64 ((x * y / 18446744073709551616 : Nat) : Int), .int .u64 ((x * y % 18446744073709551616 : Nat) : Int)]) ∧ w' = w := by
  obtain ⟨bd, bt, bw, hhi⟩ := Lib.mul64_hi x y hx hy
  have ba := Lib.half_mul_le (a := x / 4294967296) (b := y / 4294967296) (by omega) (by omega)
  have bb := Lib.half_mul_le (a := x / 4294967296) (b := y % 4294967296) (by omega) (by omega)
  have bc := Lib.half_mul_le (a := x % 4294967296) (b := y / 4294967296) (by omega) (by omega)
  have ba' : x / 4294967296 * (y / 4294967296) < 18446744073709551616 := by omega
  have bb' : x / 4294967296 * (y % 4294967296) < 18446744073709551616 := by omega
  have bc' : x % 4294967296 * (y / 4294967296) < 18446744073709551616 := by omega
  have bh1 : x / 4294967296 * (y / 4294967296) + (x / 4294967296 * (y % 4294967296) + x % 4294967296 * (y % 4294967296) / 4294967296) / 4294967296 < 18446744073709551616 := by omega
  have bh : x / 4294967296 * (y / 4294967296) + (x / 4294967296 * (y % 4294967296) + x % 4294967296 * (y % 4294967296) / 4294967296) / 4294967296 + ((x / 4294967296 * (y % 4294967296) + x % 4294967296 * (y % 4294967296) / 4294967296) % 4294967296 + x % 4294967296 * (y / 4294967296)) / 4294967296 < 18446744073709551616 := by omega
  go_enter Yba.func9, Yba.ntmps9
  go_wp2
  simp only [Mul64.maskN x hx, Mul64.maskN y hy, Mul64.divN, Mul64.mulN, Mul64.addN, Mul64.wrapN _ bd, Mul64.wrapN _ bb', Mul64.wrapN _ bt, Mul64.maskN _ bt, Mul64.wrapN _ bc', Mul64.wrapN _ bw, Mul64.wrapN _ ba', Mul64.wrapN _ bh1, Mul64.wrapN _ bh, Mul64.wrapM (x * y)]
  rw [hhi]
  go_ret2
  exact ⟨rfl, rfl⟩

theorem mul9 (x y : Int) (hx : Word x) (hy : Word y) (w : World) :
    Calls Yba.prog 9 #[.int .u64 x, .int .u64 y] w fun e w' => e = .returned (.tuple #[.int .u64 (hiI (x * y)), .int .u64 (loI (x * y))]) ∧ w' = w := by
  obtain ⟨x, rfl⟩ := Int.eq_ofNat_of_zero_le hx.1
  obtain ⟨y, rfl⟩ := Int.eq_ofNat_of_zero_le hy.1
  refine (mulN9 x y (by have := hx.2; omega) (by have := hy.2; omega) w).mono ?_
  rintro e w' ⟨rfl, rfl⟩
  exact ⟨by simp [hiI, loI], rfl⟩

set_option maxRecDepth 100000 in
set_option maxHeartbeats 400000 in
theorem product21 (x y : Int) (hx : Word x) (hy : Word y) (w : World) :
    Calls Yba.prog 21 #[.int .u64 x, .int .u64 y] w fun e w' => e = .returned (.agg #[.int .u64 (hiI (x * y)), .int .u64 (loI (x * y))]) ∧ Grows w w' := by
  go_enter Yba.func21, Yba.ntmps21
  go_wp2_with (go_at_call 9; refine (mul9 x y hx hy _).mono ?_; rintro e w' ⟨rfl, rfl⟩)
  simp [bodyPost, results, Yba.results21, go_sem]
  exact (Grows.refl _).alloc _

set_option maxRecDepth 100000 in
set_option maxHeartbeats 400000 in
theorem zmul13 (x y : Int) (hx : Word x) (hy : Word y) (w : World) :
    Calls Yba.prog 13 #[.int .u64 x, .int .u64 y] w fun e w' => e = .returned (.agg #[.int .u64 (hiI (x * y)), .int .u64 (loI (x * y))]) ∧ Grows w w' := by
  go_enter Yba.func13, Yba.ntmps13
  go_wp2_with (go_at_call 9; refine (mul9 x y hx hy _).mono ?_; rintro e w' ⟨rfl, rfl⟩)
  simp [bodyPost, results, Yba.results13, go_sem]
  exact (Grows.refl _).alloc _

theorem sum_words {x y : Int} (h : x + y < 340282366920938463463374607431768211456) (hx : 0 ≤ x) (hy : 0 ≤ y) : (hiI x + hiI y + (loI x + loI y) / 18446744073709551616) % 18446744073709551616 = hiI (x + y) ∧ (loI x + loI y) % 18446744073709551616 = loI (x + y) := by
  unfold hiI loI
  omega

set_option maxRecDepth 100000 in
set_option maxHeartbeats 400000 in
theorem plus23 (x y : Int) (hx : 0 ≤ x) (hy : 0 ≤ y) (h : x + y < 340282366920938463463374607431768211456) (w : World) :
    Calls Yba.prog 23 #[.agg #[.int .u64 (hiI x), .int .u64 (loI x)], .agg #[.int .u64 (hiI y), .int .u64 (loI y)]] w fun e w' => e = .returned (.agg #[.int .u64 (hiI (x + y)), .int .u64 (loI (x + y))]) ∧ Grows w w' := by
  obtain ⟨e1, e2⟩ := sum_words h hx hy
  have hax := hiI_nonneg hx
  have hay := hiI_nonneg hy
  have hlx := loI_nonneg x
  have hly := loI_nonneg y
  have hlx' := loI_lt x
  have hly' := loI_lt y
  rw [← e1, ← e2]
  generalize hiI x = a at *
  generalize hiI y = b at *
  generalize loI x = c at *
  generalize loI y = d at *
  have k0 : 0 ≤ (c + d) / 18446744073709551616 := by omega
  have k1 : (c + d) / 18446744073709551616 ≤ 1 := by omega
  clear e1 e2
  have f0 := add26_0 c d hlx hly
  have f1 := add26 a b ((c + d) / 18446744073709551616) hax hay k0 k1
  go_enter Yba.func23, Yba.ntmps23
  go_wp2
  simp [bodyPost, results, Yba.results23, go_sem]
  exact (((Grows.refl _).alloc _).alloc _).alloc _

set_option maxRecDepth 100000 in
set_option maxHeartbeats 400000 in
theorem zadd14 (x y : Int) (hx : 0 ≤ x) (hy : 0 ≤ y) (h : x + y < 340282366920938463463374607431768211456) (w : World) :
    Calls Yba.prog 14 #[.agg #[.int .u64 (hiI x), .int .u64 (loI x)], .agg #[.int .u64 (hiI y), .int .u64 (loI y)]] w fun e w' => e = .returned (.agg #[.int .u64 (hiI (x + y)), .int .u64 (loI (x + y))]) ∧ Grows w w' := by
  obtain ⟨e1, e2⟩ := sum_words h hx hy
  have hax := hiI_nonneg hx
  have hay := hiI_nonneg hy
  have hlx := loI_nonneg x
  have hly := loI_nonneg y
  have hlx' := loI_lt x
  have hly' := loI_lt y
  rw [← e1, ← e2]
  generalize hiI x = a at *
  generalize hiI y = b at *
  generalize loI x = c at *
  generalize loI y = d at *
  have k0 : 0 ≤ (c + d) / 18446744073709551616 := by omega
  have k1 : (c + d) / 18446744073709551616 ≤ 1 := by omega
  clear e1 e2
  have f0 := add26_0 c d hlx hly
  have f1 := add26 a b ((c + d) / 18446744073709551616) hax hay k0 k1
  go_enter Yba.func14, Yba.ntmps14
  go_wp2
  simp [bodyPost, results, Yba.results14, go_sem]
  exact (((Grows.refl _).alloc _).alloc _).alloc _

theorem lt_words (x y : Int) : decide (x < y) = (decide (hiI x < hiI y) || (decide (hiI x = hiI y) && decide (loI x < loI y))) := by
  have hx : x = 18446744073709551616 * hiI x + loI x := by unfold hiI loI; omega
  have hy : y = 18446744073709551616 * hiI y + loI y := by unfold hiI loI; omega
  have h1 := loI_nonneg x
  have h2 := loI_nonneg y
  have h3 := loI_lt x
  have h4 := loI_lt y
  rw [Bool.eq_iff_iff]
  simp only [decide_eq_true_eq, Bool.or_eq_true, Bool.and_eq_true]
  omega

set_option maxRecDepth 100000 in
set_option maxHeartbeats 400000 in
theorem less24 (x y : Int) (w : World) :
    Calls Yba.prog 24 #[.agg #[.int .u64 (hiI x), .int .u64 (loI x)], .agg #[.int .u64 (hiI y), .int .u64 (loI y)]] w fun e w' => e = .returned (.bool (decide (x < y))) ∧ Grows w w' := by
  rw [lt_words]
  generalize hiI x = a
  generalize hiI y = b
  generalize loI x = c
  generalize loI y = d
  by_cases hab : a < b
  · go_enter Yba.func24, Yba.ntmps24
    go_wp2
    go_ret
    exact ⟨by simp [hab], ((Grows.refl _).alloc _).alloc _⟩
  · by_cases he : a = b
    · go_enter Yba.func24, Yba.ntmps24
      go_wp2
      go_ret
      exact ⟨by simp, ((Grows.refl _).alloc _).alloc _⟩
    · go_enter Yba.func24, Yba.ntmps24
      go_wp2
      go_ret
      exact ⟨by simp [hab], ((Grows.refl _).alloc _).alloc _⟩

set_option maxRecDepth 100000 in
set_option maxHeartbeats 400000 in
theorem zless15 (x y : Int) (w : World) :
    Calls Yba.prog 15 #[.agg #[.int .u64 (hiI x), .int .u64 (loI x)], .agg #[.int .u64 (hiI y), .int .u64 (loI y)]] w fun e w' => e = .returned (.bool (decide (x < y))) ∧ Grows w w' := by
  rw [lt_words]
  generalize hiI x = a
  generalize hiI y = b
  generalize loI x = c
  generalize loI y = d
  by_cases he : a = b
  · go_enter Yba.func15, Yba.ntmps15
    go_wp2
    go_ret
    exact ⟨by simp [he], ((Grows.refl _).alloc _).alloc _⟩
  · go_enter Yba.func15, Yba.ntmps15
    go_wp2
    go_ret
    exact ⟨by simp [he], ((Grows.refl _).alloc _).alloc _⟩

set_option maxRecDepth 100000 in
set_option maxHeartbeats 400000 in
theorem larger30 (x y : Int) (w : World) :
    Calls Yba.prog 30 #[.agg #[.int .u64 (hiI x), .int .u64 (loI x)], .agg #[.int .u64 (hiI y), .int .u64 (loI y)]] w fun e w' => e = .returned (.agg #[.int .u64 (hiI (mx x y)), .int .u64 (loI (mx x y))]) ∧ Grows w w' := by
  have hl := less24 x y
  by_cases h : x < y
  · have hm : mx x y = y := by unfold mx; omega
    simp only [h, decide_true] at hl
    rw [hm]
    clear hm h
    generalize hiI x = a at *
    generalize hiI y = b at *
    generalize loI x = c at *
    generalize loI y = d at *
    obtain ⟨W, hW⟩ : ∃ W, W = ((w.alloc (.cells #[.int .u64 a, .int .u64 c] 37)).alloc (.cells #[.int .u64 b, .int .u64 d] 37)).alloc (.cells #[.int .u64 0, .int .u64 0] 37) := ⟨_, rfl⟩
    have hn := three_new w (.cells #[.int .u64 a, .int .u64 c] 37) (.cells #[.int .u64 b, .int .u64 d] 37) (.cells #[.int .u64 0, .int .u64 0] 37)
    have hgW : Grows w W := hW ▸ ((((Grows.refl w).alloc _).alloc _).alloc _)
    rw [← hW] at hn
    obtain ⟨n1, n2, n3⟩ := hn
    go_enter Yba.func30, Yba.ntmps30
    go_wp2_with (go_at_call 24; rw [← hW]; refine (hl W).mono ?_; rintro e w' ⟨rfl, hg⟩; have c2 := cell_of_heap (hg.heap n2); have c3 := cell_of_heap (hg.heap n3); have z3 := frozen_of_heap (hg.heap n3))
    simp [bodyPost, results, Yba.results30, go_sem, c3]
    exact ((hgW.trans hg).setCell (by simp; omega) _).setCell (by simp; omega) _
  · have hm : mx x y = x := by unfold mx; omega
    simp only [h, decide_false] at hl
    rw [hm]
    clear hm h
    generalize hiI x = a at *
    generalize hiI y = b at *
    generalize loI x = c at *
    generalize loI y = d at *
    obtain ⟨W, hW⟩ : ∃ W, W = ((w.alloc (.cells #[.int .u64 a, .int .u64 c] 37)).alloc (.cells #[.int .u64 b, .int .u64 d] 37)).alloc (.cells #[.int .u64 0, .int .u64 0] 37) := ⟨_, rfl⟩
    have hn := three_new w (.cells #[.int .u64 a, .int .u64 c] 37) (.cells #[.int .u64 b, .int .u64 d] 37) (.cells #[.int .u64 0, .int .u64 0] 37)
    have hgW : Grows w W := hW ▸ ((((Grows.refl w).alloc _).alloc _).alloc _)
    rw [← hW] at hn
    obtain ⟨n1, n2, n3⟩ := hn
    go_enter Yba.func30, Yba.ntmps30
    go_wp2_with (go_at_call 24; rw [← hW]; refine (hl W).mono ?_; rintro e w' ⟨rfl, hg⟩; have c2 := cell_of_heap (hg.heap n1); have c3 := cell_of_heap (hg.heap n3); have z3 := frozen_of_heap (hg.heap n3))
    simp [bodyPost, results, Yba.results30, go_sem, c3]
    exact ((hgW.trans hg).setCell (by simp; omega) _).setCell (by simp; omega) _
end Go.Proofs.Ybulkdtfu
