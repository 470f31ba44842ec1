/- A region that draws its order: its first n operations quiet in a class of worlds, the others one behind the other. -/
import Derived.Deep.Quiet
import Derived.BigQuiet
import Derived.Below
namespace Go.Proofs.Ybulkdtfu
open Go.RowKit

section
variable {P : Program} {ops : Array Oper} {md : Region.Mode} {C : World → Prop} {Q : Exit → Act → World → Prop} {n : Nat}

/-- Operation j waits for operation i. -/
def waits (md : Region.Mode) (ops : Array Oper) (j i : Nat) : Bool := ((ops[j]?).map fun o => o.after.any fun e => Region.binds md e && e.on == i).getD false
/-- Every edge leads back. -/
def backB (md : Region.Mode) (ops : Array Oper) : Bool := (List.range ops.size).all fun i => ((ops[i]?).map fun o => o.after.all fun e => !Region.binds md e || decide (e.on < i)).getD true
/-- The first of the tail waits for all ahead of it; each other of the tail for the one ahead of it; a guard of the head lies in the head. -/
def tailB (md : Region.Mode) (ops : Array Oper) (n : Nat) : Bool :=
  backB md ops && ((List.range n).all fun i => waits md ops n i) && ((List.range ops.size).all fun t => decide (t ≤ n) || waits md ops t (t - 1)) &&
  ((List.range n).all fun i => ((ops[i]?).map fun o => match o.guard with | none => true | some (g, _) => decide (g < n)).getD true) && decide (n < ops.size)

theorem waits_spec {j i : Nat} {o : Oper} (h : waits md ops j i = true) (ho : ops[j]? = some o) : ∃ e ∈ o.after, Region.binds md e = true ∧ e.on = i := by
  unfold waits at h
  simp only [ho, Option.map_some, Option.getD_some] at h
  obtain ⟨e, he, hb⟩ := Array.any_eq_true'.1 h
  simp only [Bool.and_eq_true, beq_iff_eq] at hb
  exact ⟨e, he, hb.1, hb.2⟩

theorem back_spec (h : backB md ops = true) {i : Nat} {o : Oper} (ho : ops[i]? = some o) : ∀ e ∈ o.after, Region.binds md e = true → e.on < i := by
  intro e he hb
  have hi : i < ops.size := (Array.getElem?_eq_some_iff.1 ho).1
  have h1 := List.all_eq_true.1 h i (List.mem_range.2 hi)
  simp only [ho, Option.map_some, Option.getD_some] at h1
  have h2 := Array.all_eq_true'.1 h1 e he
  simp only [hb, Bool.not_true, Bool.false_or, decide_eq_true_eq] at h2
  exact h2

theorem unl {l : Array Bool} {i : Nat} (h : l.getD i true = false) : l.getD i false = false := by
  rcases Nat.lt_or_ge i l.size with h' | h'
  · simp [h'] at h ⊢; exact h
  · simp [h'] at h

theorem setG {l : Array Bool} {i j : Nat} (d : Bool) (hij : i ≠ j) : (l.setIfInBounds i true).getD j d = l.getD j d := by
  simp [Array.getElem?_setIfInBounds_ne hij]
theorem setGs {l : Array Bool} {i : Nat} (hi : i < l.size) : (l.setIfInBounds i true).getD i false = true := by
  simp [hi]

theorem any_tail (hb : backB md ops = true) (hc : ∀ t, n < t → t < ops.size → waits md ops t (t - 1) = true) : ∀ (k t : Nat) (l : Array Bool) (a : Act) (w : World), ops.size ≤ t + k → n ≤ t → l.size = ops.size →
    (∀ i, i < t → i < ops.size → l.getD i false = true) → (∀ i, t ≤ i → i < ops.size → l.getD i true = false) → wpList P ops Q (ops.toList.drop t) a w → wpAny P md ops Q k l a w := by
  intro k
  induction k with
  | zero =>
    intro t l a w hk hn hs hlow hup h
    have hz : ops.toList.drop t = [] := by simp; omega
    rw [hz] at h
    refine ⟨?_, h⟩
    rw [List.eq_nil_iff_forall_not_mem]
    intro i hi
    obtain ⟨h1, o, ho, _⟩ := mem_ready.1 hi
    have hi' : i < ops.size := (Array.getElem?_eq_some_iff.1 ho).1
    have := hlow i (by omega) hi'
    rw [unl h1] at this
    cases this
  | succ k ih =>
    intro t l a w hk hn hs hlow hup h
    rcases Nat.lt_or_ge t ops.size with ht | ht
    · have hd : ops.toList.drop t = ops[t] :: ops.toList.drop (t + 1) := by
        rw [List.drop_eq_getElem_cons (by simpa using ht)]
        simp
      rw [hd] at h
      have ho : ops[t]? = some ops[t] := by simp [ht]
      have hr : t ∈ Region.ready md ops l := by
        refine mem_ready.2 ⟨hup t (Nat.le_refl _) ht, ops[t], ho, fun e he hbe => ?_⟩
        have := back_spec hb ho e he hbe
        exact hlow _ this (by omega)
      refine ⟨fun h0 => (by rw [h0] at hr; cases hr), fun i hi => ?_⟩
      obtain ⟨h1, o, ho', hall⟩ := mem_ready.1 hi
      have hi' : i < ops.size := (Array.getElem?_eq_some_iff.1 ho').1
      have hit : i = t := by
        rcases Nat.lt_trichotomy i t with hlt | heq | hgt
        · have := hlow i hlt hi'
          rw [unl h1] at this
          cases this
        · exact heq
        · obtain ⟨e, he, hbe, hon⟩ := waits_spec (hc i (by omega) hi') ho'
          have h2 := hall e he hbe
          rw [hon, unl (hup (i - 1) (by omega) (by omega))] at h2
          cases h2
      subst hit
      have next : ∀ a w, wpList P ops Q (ops.toList.drop (i + 1)) a w → wpAny P md ops Q k (l.setIfInBounds i true) a w := fun a w hw => by
        refine ih (i + 1) _ a w (by omega) (by omega) (by simp [hs]) (fun j hj hj' => ?_) (fun j hj hj' => ?_) hw
        · by_cases hji : i = j
          · subst hji; exact setGs (by omega)
          · rw [setG _ hji]; exact hlow j (by omega) hj'
        · rw [setG _ (by omega)]; exact hup j (by omega) hj'
      unfold wpOp
      simp only [ho]
      unfold wpList at h
      split
      · rename_i hw
        rw [if_pos hw] at h
        rcases h with h | h
        · exact .inl (Oper.wp_mono next h)
        · exact .inr h
      · rename_i hw
        rw [if_neg hw] at h
        exact next _ _ h
    · have hz : ops.toList.drop t = [] := by simp; omega
      rw [hz] at h
      have hnil : Region.ready md ops l = [] := by
        rw [List.eq_nil_iff_forall_not_mem]
        intro i hi
        obtain ⟨h1, o, ho, _⟩ := mem_ready.1 hi
        have hi' : i < ops.size := (Array.getElem?_eq_some_iff.1 ho).1
        have := hlow i (by omega) hi'
        rw [unl h1] at this
        cases this
      exact ⟨fun _ => h, fun i hi => by rw [hnil] at hi; cases hi⟩

theorem any_head {hd : Array Oper} {Qa : Act → Prop} (hb : backB md ops = true) (hw : ∀ i, i < n → waits md ops n i = true) (hc : ∀ t, n < t → t < ops.size → waits md ops t (t - 1) = true)
    (hg : ∀ i o g b, i < n → ops[i]? = some o → o.guard = some (g, b) → g < n) (hn : n < ops.size) (hdz : hd.size = n) (hdo : ∀ i, i < n → hd[i]? = ops[i]?)
    (hQ : ∀ a w, C w → Qa a → wpList P ops Q (ops.toList.drop n) a w) : ∀ (fuel k : Nat) (l lh : Array Bool) (a : Act) (w : World), C w → ops.size ≤ n + k → l.size = ops.size → lh.size = n → (∀ i, i < n → lh[i]? = l[i]?) → (∀ i, n ≤ i → i < ops.size → l.getD i true = false) →
      wpAnyQ P md hd C Qa fuel lh a → wpAny P md ops Q (fuel + k) l a w := by
  have gD : ∀ {l lh : Array Bool} (d : Bool) (i : Nat), (∀ i, i < n → lh[i]? = l[i]?) → i < n → lh.getD i d = l.getD i d := fun {l lh} d i h hi => by
    rw [Array.getD_eq_getD_getElem?, Array.getD_eq_getD_getElem?, h i hi]
  -- the head's ready ones
  have rd : ∀ {l lh : Array Bool} (i : Nat), (∀ i, i < n → lh[i]? = l[i]?) → i < n → (i ∈ Region.ready md ops l ↔ i ∈ Region.ready md hd lh) := fun {l lh} i h hi => by
    rw [mem_ready, mem_ready, hdo i hi, gD true i h hi]
    constructor
    · rintro ⟨h1, o, ho, ha⟩
      exact ⟨h1, o, ho, fun e he hbe => by rw [gD false e.on h (Nat.lt_trans (back_spec hb ho e he hbe) hi)]; exact ha e he hbe⟩
    · rintro ⟨h1, o, ho, ha⟩
      exact ⟨h1, o, ho, fun e he hbe => by rw [← gD false e.on h (Nat.lt_trans (back_spec hb ho e he hbe) hi)]; exact ha e he hbe⟩
  -- none ready: all are listed
  have full : ∀ {l lh : Array Bool}, (∀ i, i < n → lh[i]? = l[i]?) → l.size = ops.size → Region.ready md hd lh = [] → ∀ i, i < n → l.getD i false = true := fun {l lh} h hs h0 i => by
    induction i using Nat.strongRecOn with
    | _ i ih =>
      intro hi
      cases hl : l.getD i false with
      | true => rfl
      | false =>
        exfalso
        have hi2 : i < ops.size := by omega
        have hu : l.getD i true = false := by
          have hi3 : i < l.size := by omega
          simp [hi3] at hl ⊢
          exact hl
        have ho : ops[i]? = some ops[i] := by simp [hi2]
        have hr : i ∈ Region.ready md ops l := mem_ready.2 ⟨hu, _, ho, fun e he hbe => ih e.on (back_spec hb ho e he hbe) (Nat.lt_trans (back_spec hb ho e he hbe) hi)⟩
        rw [rd i h hi, h0] at hr
        cases hr
  -- a ready one of the tail: all of the head are listed
  have tl : ∀ {l : Array Bool} (i : Nat), (∀ i, n ≤ i → i < ops.size → l.getD i true = false) → n ≤ i → i ∈ Region.ready md ops l → ∀ j, j < n → l.getD j false = true := fun {l} i hup hi hr j hj => by
    obtain ⟨h1, o, ho, ha⟩ := mem_ready.1 hr
    have hi' : i < ops.size := (Array.getElem?_eq_some_iff.1 ho).1
    by_cases hin : i = n
    · subst hin
      obtain ⟨e, he, hbe, hon⟩ := waits_spec (hw j hj) ho
      have := ha e he hbe
      rwa [hon] at this
    · obtain ⟨e, he, hbe, hon⟩ := waits_spec (hc i (by omega) hi') ho
      have h2 := ha e he hbe
      rw [hon, unl (hup (i - 1) (by omega) (by omega))] at h2
      cases h2
  intro fuel
  induction fuel with
  | zero =>
    intro k l lh a w hC hk hs hls hll hup h
    rw [Nat.zero_add]
    exact any_tail (n := n) hb hc k n l a w hk (Nat.le_refl _) hs (fun i hi _ => full hll hs h.1 i hi) hup (hQ a w hC h.2)
  | succ fuel ih =>
    intro k l lh a w hC hk hs hls hll hup h
    by_cases h0 : Region.ready md hd lh = []
    · exact any_tail (n := n) hb hc _ n l a w (by omega) (Nat.le_refl _) hs (fun i hi _ => full hll hs h0 i hi) hup (hQ a w hC (h.1 h0))
    · rw [show fuel + 1 + k = (fuel + k) + 1 by omega]
      obtain ⟨x, hx⟩ := List.exists_mem_of_ne_nil _ h0
      have hxn : x < n := by
        obtain ⟨_, o, ho, _⟩ := mem_ready.1 hx
        have := (Array.getElem?_eq_some_iff.1 ho).1
        omega
      have hxu : l.getD x true = false := by
        have := (mem_ready.1 hx).1
        rwa [gD true x hll hxn] at this
      refine ⟨fun e => ?_, fun i hi => ?_⟩
      · have := (rd x hll hxn).2 hx
        rw [e] at this
        cases this
      · have hin : i < n := by
          rcases Nat.lt_or_ge i n with h' | h'
          · exact h'
          · have := tl i hup h' hi x hxn
            rw [unl hxu] at this
            cases this
        have hq := h.2 i ((rd i hll hin).1 hi)
        have hi2 : i < ops.size := by omega
        have ho : ops[i]? = some ops[i] := by simp [hi2]
        unfold qOp at hq
        unfold wpOp
        rw [hdo i hin] at hq
        simp only [ho] at hq ⊢
        have hwt : Region.wanted ops[i] (yielded hd a.tmps) = Region.wanted ops[i] (yielded ops a.tmps) := by
          unfold Region.wanted
          cases hgd : (ops[i]).guard with
          | none => rfl
          | some gb =>
            obtain ⟨g, b⟩ := gb
            have := hg i _ g b hin ho hgd
            simp only [yielded, hdo g this]
        rw [hwt] at hq
        have next : ∀ a' w', C w' → wpAnyQ P md hd C Qa fuel (lh.setIfInBounds i true) a' → wpAny P md ops Q (fuel + k) (l.setIfInBounds i true) a' w' := fun a' w' hC' hK => by
          refine ih k _ _ a' w' hC' hk (by simp [hs]) (by simp [hls]) (fun j hj => ?_) (fun j hj hj' => ?_) hK
          · by_cases hij : i = j
            · subst hij
              simp [hi2, hs, hls, hj]
            · rw [Array.getElem?_setIfInBounds_ne hij, Array.getElem?_setIfInBounds_ne hij]
              exact hll j hj
          · rw [setG _ (by omega)]
            exact hup j hj hj'
        split
        · rename_i hwn
          rw [if_pos hwn] at hq
          exact .inl (Oper.wp_of_quiet hC next hq)
        · rename_i hwn
          rw [if_neg hwn] at hq
          exact next _ _ hC hq

/-- THE RULE. -/
theorem wp_region_head {id : Nat} {a : Act} {w : World} (l : List Oper) (n : Nat) (hm : P.follows .mixedOrders = true) (hT : tailB .any l.toArray n = true) (hB : Region.lexB .any (l.take n).toArray = true)
    (hC : C { w with drawn := w.drawn + 1 })
    (h : wpQuiet P (l.take n).toArray C (fun a' => ∀ w', C w' → wpList P l.toArray Q (l.drop n) a' w') (l.take n) a) : (Code.region id l.toArray true).wp P Q a w := by
  simp only [tailB, Bool.and_eq_true, decide_eq_true_eq] at hT
  obtain ⟨⟨⟨⟨hb, hw⟩, hc⟩, hg⟩, hn⟩ := hT
  simp only [Region.lexB, Bool.and_eq_true] at hB
  refine wp_region_any hm ?_
  have hn' : n < l.length := by simpa using hn
  have hlen : (l.take n).length = n := by simp; omega
  have hq := wpAnyQ_lex (C := C) (md := .any) (ops := (l.take n).toArray) hB.1 (l.take n) 0 (Array.replicate (l.take n).toArray.size false) a (by simp) (by simpa using hB.2) h
  have hsz : l.toArray.size = n + (l.toArray.size - n) := by omega
  rw [show wpAny P .any l.toArray Q l.toArray.size = wpAny P .any l.toArray Q (n + (l.toArray.size - n)) by rw [← hsz]]
  refine any_head (n := n) (hd := (l.take n).toArray) hb (fun i hi => List.all_eq_true.1 hw i (List.mem_range.2 hi)) (fun t h1 h2 => ?_) (fun i o g b hi ho hgd => ?_) hn (by simpa using hlen) (fun i hi => ?_)
    (fun a' w' hC' (hK : ∀ w', C w' → wpList P l.toArray Q (l.drop n) a' w') => by simpa using hK w' hC') n _ _ (Array.replicate n false) a _ hC (by omega) (by simp) (by simp) (fun i hi => ?_) (fun i hi hi' => ?_) ?_
  · have := List.all_eq_true.1 hc t (List.mem_range.2 h2)
    simp only [Bool.or_eq_true, decide_eq_true_eq] at this
    rcases this with h | h
    · omega
    · exact h
  · have := List.all_eq_true.1 hg i (List.mem_range.2 hi)
    simp only [ho, Option.map_some, Option.getD_some, hgd, decide_eq_true_eq] at this
    exact this
  · simp [hi]
  · have : i < l.length := by omega
    simp [hi, this]
  · have : i < l.length := by simpa using hi'
    simp [this]
  · rw [hlen] at hq
    have e2 : (l.take n).toArray.size = n := by simpa using hlen
    rw [e2] at hq
    exact hq
end
end Go.Proofs.Ybulkdtfu
