/- The plain law: the ledger's list against the law's sums. -/
import Derived.Test.YbulkdtfuChange
namespace Go.Proofs.Ybulkdtfu

def insAll (A D : Nat → Int) : Nat → List (Int × Int)
  | 0 => []
  | k + 1 => ins (A k) (D k) (insAll A D k)

/-- The bytes of the first k whose time f takes. -/
def psum (f : Int → Bool) (A D : Nat → Int) : Nat → Int
  | 0 => 0
  | k + 1 => psum f A D k + if f (A k) then D k else 0

theorem ins_each {Pt : Int → Prop} {t d : Int} (ht : Pt t) (hd : 0 ≤ d) : ∀ ys : List (Int × Int), (∀ y ∈ ys, Pt y.1 ∧ 0 ≤ y.2) → ∀ y ∈ ins t d ys, Pt y.1 ∧ 0 ≤ y.2
  | [], _, y, hy => by simp only [ins, List.mem_singleton] at hy; subst hy; exact ⟨ht, hd⟩
  | x :: r, h, y, hy => by
    have hx := h x (by simp)
    simp only [ins] at hy
    split at hy
    · simp only [List.mem_cons] at hy
      rcases hy with rfl | rfl | hy
      · exact ⟨ht, hd⟩
      · exact hx
      · exact h y (by simp [hy])
    · split at hy
      · simp only [List.mem_cons] at hy
        rcases hy with rfl | hy
        · exact hx
        · exact ins_each ht hd r (fun z hz => h z (by simp [hz])) y hy
      · simp only [List.mem_cons] at hy
        rcases hy with rfl | hy
        · exact ⟨hx.1, by simp only; omega⟩
        · exact h y (by simp [hy])

theorem mem_ins {t d a : Int} : ∀ ys : List (Int × Int), (∃ y ∈ ins t d ys, y.1 = a) ↔ (a = t ∨ ∃ y ∈ ys, y.1 = a)
  | [] => by simp [ins, eq_comm]
  | x :: r => by
    simp only [ins]
    split
    · constructor
      · rintro ⟨y, hy, rfl⟩
        rcases List.mem_cons.1 hy with rfl | hy
        · exact .inl rfl
        · exact .inr ⟨y, hy, rfl⟩
      · rintro (rfl | ⟨y, hy, rfl⟩)
        · exact ⟨(a, d), by simp, rfl⟩
        · exact ⟨y, List.mem_cons_of_mem _ hy, rfl⟩
    · split
      · have ih := mem_ins (t := t) (d := d) (a := a) r
        constructor
        · rintro ⟨y, hy, rfl⟩
          rcases List.mem_cons.1 hy with rfl | hy
          · exact .inr ⟨y, by simp, rfl⟩
          · rcases ih.1 ⟨y, hy, rfl⟩ with h | ⟨z, hz, e⟩
            · exact .inl h
            · exact .inr ⟨z, by simp [hz], e⟩
        · rintro (h | ⟨y, hy, rfl⟩)
          · obtain ⟨z, hz, e⟩ := ih.2 (.inl h)
            exact ⟨z, by simp [hz], e⟩
          · rcases List.mem_cons.1 hy with rfl | hy
            · exact ⟨y, by simp, rfl⟩
            · obtain ⟨z, hz, e⟩ := ih.2 (.inr ⟨y, hy, rfl⟩)
              exact ⟨z, by simp [hz], e⟩
      · have hxt : x.1 = t := by omega
        constructor
        · rintro ⟨y, hy, rfl⟩
          rcases List.mem_cons.1 hy with rfl | hy
          · exact .inl hxt
          · exact .inr ⟨y, by simp [hy], rfl⟩
        · rintro (rfl | ⟨y, hy, rfl⟩)
          · exact ⟨(x.1, x.2 + d), by simp, hxt⟩
          · rcases List.mem_cons.1 hy with rfl | hy
            · exact ⟨(y.1, y.2 + d), by simp, rfl⟩
            · exact ⟨y, by simp [hy], rfl⟩

theorem sorted_ins {t d : Int} : ∀ ys : List (Int × Int), Sorted ys → Sorted (ins t d ys)
  | [], _ => by simp [ins, Sorted]
  | x :: r, h => by
    unfold Sorted at h ⊢
    rw [List.pairwise_cons] at h
    simp only [ins]
    split
    · rename_i hlt
      rw [List.pairwise_cons, List.pairwise_cons]
      refine ⟨fun y hy => ?_, h⟩
      rcases List.mem_cons.1 hy with rfl | hy
      · exact hlt
      · have := h.1 y hy
        simp only
        omega
    · split
      · rename_i h1 h2
        rw [List.pairwise_cons]
        refine ⟨fun y hy => ?_, sorted_ins r h.2⟩
        rcases (mem_ins r).1 ⟨y, hy, rfl⟩ with e | ⟨z, hz, e⟩
        · omega
        · have := h.1 z hz
          omega
      · rw [List.pairwise_cons]
        exact ⟨fun y hy => h.1 y hy, h.2⟩

theorem spB_ins (f : Int → Bool) (t d : Int) : ∀ ys : List (Int × Int), spB ((ins t d ys).filter fun y => f y.1) = spB (ys.filter fun y => f y.1) + if f t then d else 0
  | [] => by
    simp only [ins, List.filter_cons, List.filter_nil, spB]
    split <;> simp [spB]
  | x :: r => by
    have ih := spB_ins f t d r
    simp only [ins]
    split
    · simp only [List.filter_cons]
      split <;> split <;> simp_all [spB] <;> omega
    · split
      · simp only [List.filter_cons]
        split
        · simp only [spB, ih]; omega
        · exact ih
      · have hxt : x.1 = t := by omega
        subst hxt
        simp only [List.filter_cons]
        split <;> simp_all [spB] <;> omega

theorem spB_insAll (f : Int → Bool) (A D : Nat → Int) : ∀ k, spB ((insAll A D k).filter fun y => f y.1) = psum f A D k
  | 0 => rfl
  | k + 1 => by
    simp only [insAll, psum]
    rw [spB_ins, spB_insAll f A D k]

theorem mem_insAll (A D : Nat → Int) (a : Int) : ∀ k, (∃ y ∈ insAll A D k, y.1 = a) ↔ ∃ i, i < k ∧ A i = a
  | 0 => by simp [insAll]
  | k + 1 => by
    simp only [insAll]
    rw [mem_ins, mem_insAll A D a k]
    constructor
    · rintro (h | ⟨i, hi, h⟩)
      · exact ⟨k, by omega, h.symm⟩
      · exact ⟨i, by omega, h⟩
    · rintro ⟨i, hi, h⟩
      by_cases hik : i = k
      · subst hik; exact .inl h.symm
      · exact .inr ⟨i, by omega, h⟩

/-- The bounds of the law's holds. -/
structure Hol (n : Nat) (A D : Nat → Int) : Prop where
  len : n ≤ 2048
  a : ∀ i, i < n → 0 ≤ A i ∧ A i ≤ 2199023255551
  d : ∀ i, i < n → 1 ≤ D i ∧ D i ≤ 4294967296

theorem psum_le {n : Nat} {A D : Nat → Int} (h : Hol n A D) (f : Int → Bool) : ∀ k, k ≤ n → 0 ≤ psum f A D k ∧ psum f A D k ≤ k * 4294967296
  | 0, _ => by simp [psum]
  | k + 1, hk => by
    have ih := psum_le h f k (by omega)
    have hd := h.d k (by omega)
    simp only [psum]
    split <;> omega

theorem insAll_bnd {n : Nat} {A D : Nat → Int} (h : Hol n A D) {sl sc : Int} (hsl0 : 0 ≤ sl) (hsl1 : sl ≤ 1099511627776) (hsc0 : 0 ≤ sc) (hsc1 : sc ≤ 1125899906842624) : ∀ k, k ≤ n → Bnd sl sc (insAll A D k) ∧ Sorted (insAll A D k) := by
  intro k hk
  have hs : ∀ k, k ≤ n → Sorted (insAll A D k) ∧ ∀ y ∈ insAll A D k, (0 ≤ y.1 ∧ y.1 ≤ 2199023255551) ∧ 0 ≤ y.2 := by
    intro k
    induction k with
    | zero => exact fun _ => ⟨by simp [insAll, Sorted], fun y hy => by cases hy⟩
    | succ k ih =>
      intro hk
      obtain ⟨i1, i2⟩ := ih (by omega)
      have hd := h.d k (by omega)
      exact ⟨sorted_ins _ i1, ins_each (Pt := fun a => 0 ≤ a ∧ a ≤ 2199023255551) (h.a k (by omega)) (by omega) _ i2⟩
  obtain ⟨h1, h2⟩ := hs k hk
  have hsum := spB_insAll (fun _ => true) A D k
  have hp := psum_le h (fun _ => true) k hk
  have hfl : (insAll A D k).filter (fun y => (fun _ => true) y.1) = insAll A D k := List.filter_eq_self.2 (fun _ _ => rfl)
  rw [hfl] at hsum
  have hn := h.len
  exact ⟨⟨hsl0, hsl1, hsc0, hsc1, fun y hy => by have := h2 y hy; omega, by rw [hsum]; omega⟩, h1⟩

/-! ### The peak -/
theorem spP_le_iff {sl sc : Int} : ∀ (ys : List (Int × Int)) (M : Int), Sorted ys → (spP sl sc ys ≤ M ∨ ys = [] ↔ (∀ y ∈ ys, sl * y.1 + sc * spB (ys.filter fun z => decide (y.1 ≤ z.1)) ≤ M) ∧ (0 ≤ M ∨ ys = []))
  | [], M, _ => by simp
  | x :: r, M, h => by
    unfold Sorted at h
    rw [List.pairwise_cons] at h
    have ih := spP_le_iff (sl := sl) (sc := sc) r M h.2
    have hx : ((x :: r).filter fun z => decide (x.1 ≤ z.1)) = x :: r := List.filter_eq_self.2 fun z hz => by
      rcases List.mem_cons.1 hz with rfl | hz
      · simp
      · have := h.1 z hz; simp; omega
    have hy : ∀ y ∈ r, ((x :: r).filter fun z => decide (y.1 ≤ z.1)) = r.filter fun z => decide (y.1 ≤ z.1) := fun y hy => by
      have := h.1 y hy
      rw [List.filter_cons_of_neg (by simp; omega)]
    have key : spP sl sc r ≤ M ↔ (∀ y ∈ r, sl * y.1 + sc * spB (r.filter fun z => decide (y.1 ≤ z.1)) ≤ M) ∧ 0 ≤ M := by
      by_cases hr : r = []
      · subst hr; simp [spP]
      · simp only [hr, or_false] at ih
        exact ih
    simp only [List.mem_cons, forall_eq_or_imp, hx, reduceCtorEq, or_false, spP, spB]
    constructor
    · intro hm
      have h1 := key.1 (by omega)
      exact ⟨⟨by omega, fun y hy' => by rw [hy y hy']; exact h1.1 y hy'⟩, h1.2⟩
    · rintro ⟨⟨h1, h2⟩, h3⟩
      have := key.2 ⟨fun y hy' => by have := h2 y hy'; rwa [hy y hy'] at this, h3⟩
      omega

/-- The law's value at the i-th. -/
def lv (sl sc : Int) (win : Int → Bool) (A D : Nat → Int) (n i : Nat) : Int := sl * A i + sc * psum (fun a => win a && decide (A i ≤ a)) A D n
/-- The law's peak behind k rounds. -/
def pk (sl sc : Int) (win : Int → Bool) (A D : Nat → Int) (n : Nat) : Nat → Int
  | 0 => 0
  | k + 1 => if win (A k) then (if pk sl sc win A D n k < lv sl sc win A D n k then lv sl sc win A D n k else pk sl sc win A D n k) else pk sl sc win A D n k
/-- Was one in the window? -/
def sm (win : Int → Bool) (A : Nat → Int) : Nat → Bool
  | 0 => false
  | k + 1 => sm win A k || win (A k)

theorem pk_le_iff {sl sc : Int} {win : Int → Bool} {A D : Nat → Int} {n : Nat} (M : Int) : ∀ k, pk sl sc win A D n k ≤ M ↔ 0 ≤ M ∧ ∀ i, i < k → win (A i) = true → lv sl sc win A D n i ≤ M
  | 0 => by simp [pk]
  | k + 1 => by
    have ih := pk_le_iff (sl := sl) (sc := sc) (win := win) (A := A) (D := D) (n := n) M k
    simp only [pk]
    constructor
    · intro h
      by_cases hw : win (A k) = true
      · rw [if_pos hw] at h
        have h1 := ih.1 (by split at h <;> omega)
        refine ⟨h1.1, fun i hi hwi => ?_⟩
        by_cases hik : i = k
        · subst hik; split at h <;> omega
        · exact h1.2 i (by omega) hwi
      · rw [if_neg hw] at h
        have h1 := ih.1 h
        refine ⟨h1.1, fun i hi hwi => ?_⟩
        by_cases hik : i = k
        · subst hik; exact absurd hwi hw
        · exact h1.2 i (by omega) hwi
    · rintro ⟨h0, h1⟩
      have h2 := ih.2 ⟨h0, fun i hi => h1 i (by omega)⟩
      by_cases hw : win (A k) = true
      · rw [if_pos hw]
        have := h1 k (by omega) hw
        split <;> omega
      · rw [if_neg hw]; exact h2

theorem sm_iff {win : Int → Bool} {A : Nat → Int} : ∀ k, sm win A k = true ↔ ∃ i, i < k ∧ win (A i) = true
  | 0 => by simp [sm]
  | k + 1 => by
    simp only [sm, Bool.or_eq_true]
    rw [sm_iff k]
    constructor
    · rintro (⟨i, hi, h⟩ | h)
      · exact ⟨i, by omega, h⟩
      · exact ⟨k, by omega, h⟩
    · rintro ⟨i, hi, h⟩
      by_cases hik : i = k
      · subst hik; exact .inr h
      · exact .inl ⟨i, by omega, h⟩

theorem spS_iff (ys : List (Int × Int)) : spS ys = true ↔ ∃ y, y ∈ ys := by
  cases ys with
  | nil => simp [spS]
  | cons x r => exact ⟨fun _ => ⟨x, by simp⟩, fun _ => rfl⟩

theorem spS_law (win : Int → Bool) (A D : Nat → Int) (n : Nat) : spS ((insAll A D n).filter fun y => win y.1) = sm win A n := by
  rw [Bool.eq_iff_iff, spS_iff, sm_iff]
  constructor
  · rintro ⟨y, hy⟩
    obtain ⟨h1, h2⟩ := List.mem_filter.1 hy
    obtain ⟨i, hi, e⟩ := (mem_insAll A D y.1 n).1 ⟨y, h1, rfl⟩
    exact ⟨i, hi, by rw [e]; exact h2⟩
  · rintro ⟨i, hi, h⟩
    obtain ⟨y, hy, e⟩ := (mem_insAll A D (A i) n).2 ⟨i, hi, rfl⟩
    exact ⟨y, List.mem_filter.2 ⟨hy, by rw [e]; exact h⟩⟩

theorem spP_law {sl sc : Int} (win : Int → Bool) {A D : Nat → Int} {n : Nat} (hs : Sorted (insAll A D n)) (hne : sm win A n = true) : spP sl sc ((insAll A D n).filter fun y => win y.1) = pk sl sc win A D n n := by
  have hs2 : Sorted ((insAll A D n).filter fun y => win y.1) := List.Pairwise.filter _ hs
  have hne2 : ((insAll A D n).filter fun y => win y.1) ≠ [] := fun e => by
    have := spS_law win A D n
    rw [e, hne] at this
    cases this
  have hval : ∀ a : Int, spB (((insAll A D n).filter fun y => win y.1).filter fun z => decide (a ≤ z.1)) = psum (fun b => win b && decide (a ≤ b)) A D n := fun a => by
    rw [List.filter_filter, ← spB_insAll]
    congr 1
    exact List.filter_congr fun z _ => by rw [Bool.and_comm]
  have iff : ∀ M, spP sl sc ((insAll A D n).filter fun y => win y.1) ≤ M ↔ pk sl sc win A D n n ≤ M := fun M => by
    have h1 := spP_le_iff (sl := sl) (sc := sc) _ M hs2
    simp only [hne2, or_false] at h1
    rw [h1, pk_le_iff]
    constructor
    · rintro ⟨h2, h3⟩
      refine ⟨h3, fun i hi hw => ?_⟩
      obtain ⟨y, hy, e⟩ := (mem_insAll A D (A i) n).2 ⟨i, hi, rfl⟩
      have := h2 y (List.mem_filter.2 ⟨hy, by rw [e]; exact hw⟩)
      rw [hval, e] at this
      exact this
    · rintro ⟨h2, h3⟩
      refine ⟨fun y hy => ?_, h2⟩
      obtain ⟨h4, h5⟩ := List.mem_filter.1 hy
      obtain ⟨i, hi, e⟩ := (mem_insAll A D y.1 n).1 ⟨y, h4, rfl⟩
      have := h3 i hi (by rw [e]; exact h5)
      rw [hval, ← e]
      exact this
  exact Int.le_antisymm ((iff _).2 (Int.le_refl _)) ((iff _).1 (Int.le_refl _))
end Go.Proofs.Ybulkdtfu
