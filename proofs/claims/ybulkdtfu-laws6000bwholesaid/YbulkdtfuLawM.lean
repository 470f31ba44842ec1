/- The law's memory: the ledger, the two rows, the tree. -/
import Derived.Test.YbulkdtfuFlat
import Derived.Test.YbulkdtfuLawP
namespace Go.Proofs.Ybulkdtfu
open Go.RowKit

/-- What the building loop holds: rows filled up to kr, the tree of the first kt. -/
structure LS (sl sc room sd : Int) (n : Nat) (A D : Nat → Int) (w : World) (kr kt : Nat) (W : World) (root : Option Addr) (xs : List (Nat × Int × Int)) : Prop where
  led : W.heap[w.heap.size]? = some (.cells (ledO root sl sc room sd) 43 (0, 0))
  ats : W.rowIs (w.heap.size + 1) 2 n (fun i => .int .i64 (if i < kr then A i else 0))
  ds : W.rowIs (w.heap.size + 1 + 1) 2 n (fun i => .int .i64 (if i < kr then D i else 0))
  tree : IsT sl sc W kt root xs
  list : pl xs = insAll A D kt
  nodup : (xs.map (·.1)).Nodup
  new : ∀ x ∈ xs, w.heap.size + 1 + 1 + 1 ≤ x.1
  bel : Below w.heap.size w W

theorem LS.grow {sl sc room sd : Int} {n : Nat} {A D : Nat → Int} {w : World} {kr kt : Nat} {W W' : World} {root : Option Addr} {xs : List (Nat × Int × Int)} (h : LS sl sc room sd n A D w kr kt W root xs) (g : Grows W W') : LS sl sc room sd n A D w kr kt W' root xs :=
  ⟨g.heap h.led, h.ats.of_block (g.block _ h.ats.lt), h.ds.of_block (g.block _ h.ds.lt), h.tree.grow g, h.list, h.nodup, h.new, h.bel.trans (Below.mono g h.bel.size)⟩

theorem LS.stores {sl sc room sd : Int} {n : Nat} {A D : Nat → Int} {w : World} {k : Nat} {W : World} {root : Option Addr} {xs : List (Nat × Int × Int)} (h : LS sl sc room sd n A D w k k W root xs) :
    LS sl sc room sd n A D w (k + 1) k ((W.setCell ⟨w.heap.size + 1, k, none⟩ (.int .i64 (A k))).setCell ⟨w.heap.size + 1 + 1, k, none⟩ (.int .i64 (D k))) root xs := by
  have hb : ∀ j, j ≠ w.heap.size + 1 → j ≠ w.heap.size + 1 + 1 → ((W.setCell ⟨w.heap.size + 1, k, none⟩ (.int .i64 (A k))).setCell ⟨w.heap.size + 1 + 1, k, none⟩ (.int .i64 (D k))).heap[j]? = W.heap[j]? := fun j h1 h2 => by
    rw [heap_setCell_off _ h2, heap_setCell_off _ h1]
  refine ⟨by rw [hb _ (by omega) (by omega)]; exact h.led, ?_, ?_, IsT.same (fun x hx => by have := h.new x hx; exact hb _ (by omega) (by omega)) h.tree, h.list, h.nodup, h.new, ?_⟩
  · refine ((h.ats.set k (.int .i64 (A k))).setOther (by simp) _).congr (fun i _ => ?_)
    by_cases hik : i = k
    · subst hik; simp
    · rw [if_neg hik]
      by_cases hlt : i < k
      · rw [if_pos hlt, if_pos (by omega)]
      · rw [if_neg hlt, if_neg (by omega)]
  · refine ((h.ds.setOther (by simp) (.int .i64 (A k))).set k (.int .i64 (D k))).congr (fun i _ => ?_)
    by_cases hik : i = k
    · subst hik; simp
    · rw [if_neg hik]
      by_cases hlt : i < k
      · rw [if_pos hlt, if_pos (by omega)]
      · rw [if_neg hlt, if_neg (by omega)]
  · exact (h.bel.setCell (by simp) _).setCell (by simp; omega) _

theorem LS.change {sl sc room sd : Int} {n : Nat} {A D : Nat → Int} {w : World} {k : Nat} {W : World} {root : Option Addr} {xs : List (Nat × Int × Int)} (h : LS sl sc room sd n A D w (k + 1) k W root xs) (H : Hol n A D) (hk : k < n) (hsl0 : 0 ≤ sl) (hsl1 : sl ≤ 1099511627776) (hsc0 : 0 ≤ sc) (hsc1 : sc ≤ 1125899906842624) :
    Calls Yba.prog 10 #[.pointer (some ⟨w.heap.size, 0, none⟩), .pointer root, .int .i64 (A k), .int .i64 (D k)] W fun e w' => ∃ b' xs', e = .returned (.pointer (some ⟨b', 0, none⟩)) ∧ w'.heap[w.heap.size]? = some (.cells (ledO root sl sc room sd) 43 (0, 0)) ∧
      LS sl sc room sd n A D w (k + 1) (k + 1) (w'.setCell ⟨w.heap.size, 0, none⟩ (.pointer (some ⟨b', 0, none⟩))) (some ⟨b', 0, none⟩) xs' := by
  have hB := (insAll_bnd H hsl0 hsl1 hsc0 hsc1 k (by omega))
  have hB1 := (insAll_bnd H hsl0 hsl1 hsc0 hsc1 (k + 1) (by omega)).1
  have hx : ∀ x ∈ xs, x.1 ≠ w.heap.size := fun x hx e => by have := h.new x hx; omega
  refine (change10 w.heap.size root sl sc room sd (A k) (D k) (H.d k hk).1 k root xs W h.led h.tree (by rw [h.list]; exact hB.2) h.nodup hx (fun y hy => by rw [h.list] at hy; exact (hB.1.each y hy).2.2) (by rw [h.list]; exact hB1)).mono ?_
  rintro e w' ⟨b', xs', rfl, C⟩
  have hnot : ∀ j, j < w.heap.size + 1 + 1 + 1 → j < W.heap.size → w'.heap[j]? = W.heap[j]? := fun j hj hjs => C.kept.block j hjs (fun ⟨y, hy, e⟩ => by have := h.new y hy; omega)
  have hled : w'.heap[w.heap.size]? = _ := (hnot _ (by omega) (Array.getElem?_eq_some_iff.1 h.led).1).trans h.led
  have hsz := h.bel.size
  have hds := h.ds.lt
  refine ⟨b', xs', rfl, hled, ?_⟩
  have hoff : ∀ j, j ≠ w.heap.size → (w'.setCell ⟨w.heap.size, 0, none⟩ (.pointer (some ⟨b', 0, none⟩))).heap[j]? = w'.heap[j]? := fun j hj => heap_setCell_off _ hj
  have hnew : ∀ x ∈ xs', w.heap.size + 1 + 1 + 1 ≤ x.1 := fun x hx' => by
    rcases C.blocks x hx' with ⟨y, hy, e⟩ | hge
    · have := h.new y hy; omega
    · omega
  refine ⟨?_, ?_, ?_, IsT.same (fun x hx' => hoff _ (by have := hnew x hx'; omega)) C.tree, by rw [C.list, h.list]; rfl, C.nodup, hnew, ?_⟩
  · rw [heap_setCell_at _ hled]; rfl
  · exact h.ats.of_block (by rw [hoff _ (by omega)]; exact hnot _ (by omega) (by omega))
  · exact h.ds.of_block (by rw [hoff _ (by omega)]; exact hnot _ (by omega) (by omega))
  · refine Below.setCell (h.bel.trans ⟨C.kept.os, C.kept.tape, C.kept.output, C.kept.size, fun j hj => hnot j (by omega) (by omega)⟩) (Nat.le_refl _) _

theorem LS.start (sl sc room sd : Int) (n : Nat) (A D : Nat → Int) (w : World) :
    LS sl sc room sd n A D w 0 0 (((w.alloc (.cells (ledO none sl sc room sd) 43)).alloc (.cells (madeCells #[.int .i64 0] n) 2)).alloc (.cells (madeCells #[.int .i64 0] n) 2)) none [] := by
  have g1 : Grows (w.alloc (.cells (ledO none sl sc room sd) 43)) ((w.alloc (.cells (ledO none sl sc room sd) 43)).alloc (.cells (madeCells #[.int .i64 0] n) 2)) := (Grows.refl _).alloc _
  have g2 : Grows ((w.alloc (.cells (ledO none sl sc room sd) 43)).alloc (.cells (madeCells #[.int .i64 0] n) 2)) (((w.alloc (.cells (ledO none sl sc room sd) 43)).alloc (.cells (madeCells #[.int .i64 0] n) 2)).alloc (.cells (madeCells #[.int .i64 0] n) 2)) := (Grows.refl _).alloc _
  have s1 : (w.alloc (.cells (ledO none sl sc room sd) 43)).heap.size = w.heap.size + 1 := by simp
  have s2 : ((w.alloc (.cells (ledO none sl sc room sd) 43)).alloc (.cells (madeCells #[.int .i64 0] n) 2)).heap.size = w.heap.size + 1 + 1 := by simp
  have r1 := World.rowIs_made (w.alloc (.cells (ledO none sl sc room sd) 43)) (.int .i64 0) n 2
  have r2 := World.rowIs_made ((w.alloc (.cells (ledO none sl sc room sd) 43)).alloc (.cells (madeCells #[.int .i64 0] n) 2)) (.int .i64 0) n 2
  rw [s1] at r1
  rw [s2] at r2
  refine ⟨g2.heap (g1.heap (heap_new _ rfl)), (r1.of_block (g2.block _ r1.lt)).congr (fun i _ => by simp), r2.congr (fun i _ => by simp), ⟨rfl, rfl⟩, rfl, by simp, fun x hx => (by cases hx), ?_⟩
  exact ((((Grows.refl w).alloc _).alloc _).alloc _)

/-! ### The records of flat -/
def recOf (b : Nat) (a c q : Int) (l r : Option Addr) (s0 s1 s2 : Int) (s3 : Bool) : List Value := [.pointer (some ⟨b, 0, none⟩), .int .i64 a, .int .i64 c, .int .u64 q, .pointer l, .pointer r, .int .i64 s0, .int .u64 s1, .int .u64 s2, .bool s3]
def Recs (k : Nat) (vs : List Value) : Prop := vs.length = k * 10 ∧ ∀ i, i < k → ∃ (b : Nat) (a c q : Int) (l r : Option Addr) (s0 s1 s2 : Int) (s3 : Bool), (vs.drop (i * 10)).take 10 = recOf b a c q l r s0 s1 s2 s3

theorem Recs.append {k1 k2 : Nat} {v1 v2 : List Value} (h1 : Recs k1 v1) (h2 : Recs k2 v2) : Recs (k1 + k2) (v1 ++ v2) := by
  refine ⟨by rw [List.length_append, h1.1, h2.1]; omega, fun i hi => ?_⟩
  by_cases hlt : i < k1
  · obtain ⟨b, a, c, q, l, r, s0, s1, s2, s3, e⟩ := h1.2 i hlt
    refine ⟨b, a, c, q, l, r, s0, s1, s2, s3, ?_⟩
    rw [List.drop_append_of_le_length (by rw [h1.1]; omega), List.take_append_of_le_length (by rw [List.length_drop, h1.1]; omega)]
    exact e
  · obtain ⟨b, a, c, q, l, r, s0, s1, s2, s3, e⟩ := h2.2 (i - k1) (by omega)
    refine ⟨b, a, c, q, l, r, s0, s1, s2, s3, ?_⟩
    have e1 : i * 10 = v1.length + (i - k1) * 10 := by rw [h1.1]; omega
    rw [e1, List.drop_append, List.drop_eq_nil_of_le (by omega), List.nil_append, Nat.add_sub_cancel_left]
    exact e

theorem FlatIs.recs {B : Nat} {w : World} : ∀ {h : Nat} {p : Option Addr} {k : Nat} {vs : List Value}, FlatIs B w h p k vs → Recs k vs
  | 0, _, _, _, h => by
    obtain ⟨_, rfl, rfl⟩ := h
    exact ⟨rfl, fun i hi => by omega⟩
  | _ + 1, _, _, _, h => by
    rcases h with ⟨_, rfl, rfl⟩ | ⟨b, a, c, q, l, r, s0, s1, s2, s3, k1, k2, v1, v2, h1, h2, h3, h4, h5, rfl, rfl⟩
    · exact ⟨rfl, fun i hi => by omega⟩
    · have h0 : Recs 1 (recOf b a c q l r s0 s1 s2 s3) := ⟨rfl, fun i hi => by
        obtain rfl : i = 0 := by omega
        exact ⟨b, a, c, q, l, r, s0, s1, s2, s3, rfl⟩⟩
      exact (h0.append (FlatIs.recs h4)).append (FlatIs.recs h5)

theorem FlatIs.more {B B' : Nat} {w : World} (hb : B ≤ B') : ∀ {h : Nat} {p : Option Addr} {k : Nat} {vs : List Value}, FlatIs B w h p k vs → FlatIs B' w h p k vs
  | 0, _, _, _, h => h
  | _ + 1, _, _, _, h => by
    rcases h with h | ⟨b, a, c, q, l, r, s0, s1, s2, s3, k1, k2, v1, v2, h1, h2, h3, h4, h5, h6⟩
    · exact .inl h
    · exact .inr ⟨b, a, c, q, l, r, s0, s1, s2, s3, k1, k2, v1, v2, h1, by omega, h3, FlatIs.more hb h4, FlatIs.more hb h5, h6⟩

/-- A row of records, as the law's loop reads it. -/
theorem row_read {w : World} {B : Nat} {v : Value} {m : Nat} {vs : List Value} (h : w.ownsRow B 56 10 v m vs) : ∃ p cap, v = .slice p m cap ∧ ∀ i, i < m → ∃ g, p = some ⟨g, 0, none⟩ ∧ ∀ j, j < 10 → w.cell? ⟨g, i * 10 + j, none⟩ = ((vs.drop (i * 10)).take 10)[j]? := by
  rcases h.2 with ⟨rfl, rfl⟩ | ⟨g, cap, cur, rfl, h2, h3, h4, h5, h6, h7⟩
  · exact ⟨none, 0, rfl, fun i hi => by omega⟩
  · refine ⟨_, cap, rfl, fun i hi => ⟨g, rfl, fun j hj => ?_⟩⟩
    rw [cell_of_heap h3, List.getElem?_take_of_lt hj, List.getElem?_drop, ← h7, List.getElem?_take_of_lt (by omega), Array.getElem?_toList]
end Go.Proofs.Ybulkdtfu
