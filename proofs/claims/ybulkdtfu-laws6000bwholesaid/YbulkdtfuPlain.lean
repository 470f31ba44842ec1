/- The plain side: spans of lists of (time, bytes). -/
import Derived.Test.YbulkdtfuSpan
namespace Go.Proofs.Ybulkdtfu

def spB : List (Int × Int) → Int
  | [] => 0
  | x :: r => x.2 + spB r
def spP (sl sc : Int) : List (Int × Int) → Int
  | [] => 0
  | x :: r => max (sl * x.1 + sc * (x.2 + spB r)) (spP sl sc r)
def spS : List (Int × Int) → Bool
  | [] => false
  | _ :: _ => true

theorem spB_append (xs ys : List (Int × Int)) : spB (xs ++ ys) = spB xs + spB ys := by
  induction xs with
  | nil => simp [spB]
  | cons x r ih => simp only [List.cons_append, spB, ih]; omega

/-- The bounds within which nothing wraps. -/
structure Bnd (sl sc : Int) (ys : List (Int × Int)) : Prop where
  sl0 : 0 ≤ sl
  sl1 : sl ≤ 1099511627776
  sc0 : 0 ≤ sc
  sc1 : sc ≤ 1125899906842624
  each : ∀ y ∈ ys, 0 ≤ y.1 ∧ y.1 ≤ 2199023255552 ∧ 0 ≤ y.2
  sum : spB ys ≤ 17592186044416

theorem spB_nonneg {ys : List (Int × Int)} (h : ∀ y ∈ ys, 0 ≤ y.1 ∧ y.1 ≤ 2199023255552 ∧ 0 ≤ y.2) : 0 ≤ spB ys := by
  induction ys with
  | nil => simp [spB]
  | cons x r ih =>
    have h1 := h x (by simp)
    have h2 := ih (fun y hy => h y (by simp [hy]))
    simp only [spB]
    omega

theorem Bnd.left {sl sc : Int} {xs ys : List (Int × Int)} (h : Bnd sl sc (xs ++ ys)) : Bnd sl sc xs := by
  have hy : 0 ≤ spB ys := spB_nonneg (fun y hy => h.each y (by simp [hy]))
  have hs := h.sum
  rw [spB_append] at hs
  exact ⟨h.sl0, h.sl1, h.sc0, h.sc1, fun y hy => h.each y (by simp [hy]), by omega⟩
theorem Bnd.right {sl sc : Int} {xs ys : List (Int × Int)} (h : Bnd sl sc (xs ++ ys)) : Bnd sl sc ys := by
  have hx : 0 ≤ spB xs := spB_nonneg (fun y hy => h.each y (by simp [hy]))
  have hs := h.sum
  rw [spB_append] at hs
  exact ⟨h.sl0, h.sl1, h.sc0, h.sc1, fun y hy => h.each y (by simp [hy]), by omega⟩
theorem Bnd.tail {sl sc : Int} {x : Int × Int} {ys : List (Int × Int)} (h : Bnd sl sc (x :: ys)) : Bnd sl sc ys := Bnd.right (xs := [x]) h

theorem spB_filter {ys : List (Int × Int)} (h : ∀ y ∈ ys, 0 ≤ y.1 ∧ y.1 ≤ 2199023255552 ∧ 0 ≤ y.2) (f : Int × Int → Bool) : spB (ys.filter f) ≤ spB ys := by
  induction ys with
  | nil => simp [spB]
  | cons x r ih =>
    have h1 := h x (by simp)
    have h2 := ih (fun y hy => h y (by simp [hy]))
    simp only [List.filter_cons]
    split <;> simp only [spB] <;> omega
theorem Bnd.filter {sl sc : Int} {ys : List (Int × Int)} (h : Bnd sl sc ys) (f : Int × Int → Bool) : Bnd sl sc (ys.filter f) :=
  ⟨h.sl0, h.sl1, h.sc0, h.sc1, fun y hy => h.each y (List.mem_filter.1 hy).1, Int.le_trans (spB_filter h.each f) h.sum⟩

theorem spP_nonneg {sl sc : Int} {ys : List (Int × Int)} (h : Bnd sl sc ys) : 0 ≤ spP sl sc ys := by
  induction ys with
  | nil => simp [spP]
  | cons x r ih =>
    have := ih h.tail
    simp only [spP]
    omega

theorem mul_bound {x y X Y : Int} (hx : 0 ≤ x) (hX : x ≤ X) (hy : 0 ≤ y) (hY : y ≤ Y) : 0 ≤ x * y ∧ x * y ≤ X * Y :=
  ⟨Int.mul_nonneg hx hy, Int.mul_le_mul hX hY hy (Int.le_trans hx hX)⟩

theorem spP_le {sl sc : Int} {ys : List (Int × Int)} (h : Bnd sl sc ys) : spP sl sc ys ≤ 1099511627776 * 2199023255552 + 1125899906842624 * 17592186044416 := by
  induction ys with
  | nil => simp [spP]
  | cons x r ih =>
    have h1 := ih h.tail
    have h2 := h.each x (by simp)
    have h3 := spB_nonneg h.each
    have h4 := h.sum
    simp only [spB] at h3 h4
    have a := (mul_bound h.sl0 h.sl1 h2.1 h2.2.1).2
    have b := (mul_bound h.sc0 h.sc1 h3 h4).2
    simp only [spP]
    omega

theorem Bnd.fits {sl sc a b : Int} {ls rs : List (Int × Int)} (h : Bnd sl sc (ls ++ (a, b) :: rs)) : Fits sl sc (spB ls) (spP sl sc ls) a b (spB rs) (spP sl sc rs) := by
  have hl := h.left
  have hr := h.right.tail
  have e := h.each (a, b) (by simp)
  have l0 := spB_nonneg hl.each
  have r0 := spB_nonneg hr.each
  have hs := h.sum
  rw [spB_append] at hs
  simp only [spB] at hs
  simp only at e
  have p1 := mul_bound h.sl0 h.sl1 e.1 e.2.1
  have p2 := mul_bound h.sc0 h.sc1 (y := b + spB rs) (Y := 17592186044416) (by omega) (by omega)
  have q1 := spP_nonneg hl
  have q2 := spP_nonneg hr
  have q3 := spP_le hl
  exact ⟨⟨h.sl0, by have := h.sl1; omega⟩, ⟨h.sc0, by have := h.sc1; omega⟩, e.1, by omega, by omega, by omega, by omega, by omega, q1, q2, by omega, by omega⟩

theorem spP_append {sl sc : Int} {ls rs : List (Int × Int)} (h : Bnd sl sc (ls ++ rs)) (hne : ls ≠ []) : spP sl sc (ls ++ rs) = max (spP sl sc ls + sc * spB rs) (spP sl sc rs) := by
  induction ls with
  | nil => exact absurd rfl hne
  | cons x r ih =>
    have hb := h.tail
    have e := h.each x (by simp)
    have hx := h.left.each
    have r0 := spB_nonneg (ys := r) (fun y hy => hx y (by simp [hy]))
    have a := (mul_bound h.sl0 h.sl1 e.1 e.2.1).1
    have s0 := Int.mul_nonneg h.sc0 (show 0 ≤ x.2 + spB r by omega)
    have t0 := spP_nonneg h.right
    simp only [List.cons_append, spP, spB_append]
    have dist : sc * (x.2 + (spB r + spB rs)) = sc * (x.2 + spB r) + sc * spB rs := by
      rw [← Int.mul_add]
      congr 1
      omega
    rw [dist]
    by_cases hr : r = []
    · subst hr
      simp only [List.nil_append, spP]
      omega
    · rw [ih hb hr]
      omega

/-- join gives the span of the whole. -/
theorem join_law {sl sc a b : Int} {ls rs : List (Int × Int)} (h : Bnd sl sc (ls ++ (a, b) :: rs)) : jPeak sl sc (spP sl sc ls) (spS ls) a (b + spB rs) (spP sl sc rs) (spS rs) = spP sl sc (ls ++ (a, b) :: rs) ∧
    spB ls + (b + spB rs) = spB (ls ++ (a, b) :: rs) := by
  refine ⟨?_, by rw [spB_append]; rfl⟩
  have e := h.each (a, b) (by simp)
  simp only at e
  have hr := h.right.tail
  have r0 := spB_nonneg hr.each
  have p1 := (mul_bound h.sl0 h.sl1 e.1 e.2.1).1
  have p2 := Int.mul_nonneg h.sc0 (show 0 ≤ b + spB rs by omega)
  have hR : spP sl sc ((a, b) :: rs) = if spS rs then mx (sl * a + sc * (b + spB rs)) (spP sl sc rs) else sl * a + sc * (b + spB rs) := by
    cases rs with
    | nil =>
      simp only [spB, Int.add_zero] at p2
      simp only [spP, spS, spB, Int.add_zero, Bool.false_eq_true, if_false]
      omega
    | cons y ys => simp only [spP, spS, mx]; rfl
  cases ls with
  | nil =>
    simp only [List.nil_append, hR, jPeak, spS]
    rfl
  | cons x l =>
    rw [spP_append h (by simp), hR]
    simp only [jPeak, spS, mx, spB]
    simp only [if_true]
    omega

/-! ### Times in order -/
def Sorted (ys : List (Int × Int)) : Prop := ys.Pairwise fun x y => x.1 < y.1

theorem sorted_parts {ls rs : List (Int × Int)} {n : Int × Int} (h : Sorted (ls ++ n :: rs)) : Sorted ls ∧ Sorted rs ∧ (∀ y ∈ ls, y.1 < n.1) ∧ (∀ y ∈ rs, n.1 < y.1) := by
  unfold Sorted at *
  rw [List.pairwise_append, List.pairwise_cons] at h
  exact ⟨h.1, h.2.1.2, fun y hy => h.2.2 y hy n (by simp), h.2.1.1⟩

def aft (t : Int) (ys : List (Int × Int)) : List (Int × Int) := ys.filter fun y => decide (t < y.1)
def upt (t : Int) (ys : List (Int × Int)) : List (Int × Int) := ys.filter fun y => decide (y.1 ≤ t)
def btw (s t : Int) (ys : List (Int × Int)) : List (Int × Int) := ys.filter fun y => decide (s < y.1) && decide (y.1 ≤ t)

theorem aft_le {t : Int} {ls rs : List (Int × Int)} {n : Int × Int} (h : Sorted (ls ++ n :: rs)) (hn : n.1 ≤ t) : aft t (ls ++ n :: rs) = aft t rs := by
  obtain ⟨_, _, h3, _⟩ := sorted_parts h
  unfold aft
  rw [List.filter_append, List.filter_cons_of_neg (by simpa using hn), List.filter_eq_nil_iff.2 (fun y hy => by have := h3 y hy; simp; omega)]
  rfl
theorem aft_gt {t : Int} {ls rs : List (Int × Int)} {n : Int × Int} (h : Sorted (ls ++ n :: rs)) (hn : ¬ n.1 ≤ t) : aft t (ls ++ n :: rs) = aft t ls ++ n :: rs := by
  obtain ⟨_, _, _, h4⟩ := sorted_parts h
  unfold aft
  rw [List.filter_append, List.filter_cons_of_pos (by simp; omega), (List.filter_eq_self (l := rs)).2 (fun y hy => by have := h4 y hy; simp; omega)]
theorem upt_gt {t : Int} {ls rs : List (Int × Int)} {n : Int × Int} (h : Sorted (ls ++ n :: rs)) (hn : t < n.1) : upt t (ls ++ n :: rs) = upt t ls := by
  obtain ⟨_, _, _, h4⟩ := sorted_parts h
  unfold upt
  rw [List.filter_append, List.filter_cons_of_neg (by simpa using hn), (List.filter_eq_nil_iff (l := rs)).2 (fun y hy => by have := h4 y hy; simp; omega)]
  simp
theorem upt_le {t : Int} {ls rs : List (Int × Int)} {n : Int × Int} (h : Sorted (ls ++ n :: rs)) (hn : ¬ t < n.1) : upt t (ls ++ n :: rs) = ls ++ n :: upt t rs := by
  obtain ⟨_, _, h3, _⟩ := sorted_parts h
  unfold upt
  rw [List.filter_append, List.filter_cons_of_pos (by simp; omega), List.filter_eq_self.2 (fun y hy => by have := h3 y hy; simp; omega)]
theorem btw_lo {s t : Int} {ls rs : List (Int × Int)} {n : Int × Int} (h : Sorted (ls ++ n :: rs)) (hn : n.1 ≤ s) : btw s t (ls ++ n :: rs) = btw s t rs := by
  obtain ⟨_, _, h3, _⟩ := sorted_parts h
  unfold btw
  rw [List.filter_append, List.filter_cons_of_neg (by simp; omega), List.filter_eq_nil_iff.2 (fun y hy => by have := h3 y hy; simp; omega)]
  rfl
theorem btw_hi {s t : Int} {ls rs : List (Int × Int)} {n : Int × Int} (h : Sorted (ls ++ n :: rs)) (hn : t < n.1) : btw s t (ls ++ n :: rs) = btw s t ls := by
  obtain ⟨_, _, _, h4⟩ := sorted_parts h
  unfold btw
  rw [List.filter_append, List.filter_cons_of_neg (by simp; omega), (List.filter_eq_nil_iff (l := rs)).2 (fun y hy => by have := h4 y hy; simp; omega)]
  simp
theorem btw_in {s t : Int} {ls rs : List (Int × Int)} {n : Int × Int} (h : Sorted (ls ++ n :: rs)) (h1 : ¬ n.1 ≤ s) (h2 : ¬ t < n.1) : btw s t (ls ++ n :: rs) = aft s ls ++ n :: upt t rs := by
  obtain ⟨_, _, h3, h4⟩ := sorted_parts h
  unfold btw aft upt
  rw [List.filter_append, List.filter_cons_of_pos (by simp; omega)]
  congr 1
  · exact List.filter_congr fun y hy => by have := h3 y hy; rw [Bool.eq_iff_iff]; simp; omega
  · congr 1
    exact List.filter_congr fun y hy => by have := h4 y hy; rw [Bool.eq_iff_iff]; simp; omega
end Go.Proofs.Ybulkdtfu
