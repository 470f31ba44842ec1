/- A region that draws its order: its first n operations quiet, one making of a block that may come at any time, then the others one behind the other. -/
import Derived.Test.YbulkdtfuWide
namespace Go.Proofs.Ybulkdtfu
open Go.RowKit

/-- The class of the worlds that have grown from W. -/
def GroC (W : World) : World → Prop := fun w' => ∃ g : Gro W, w' = g.x

section
variable {P : Program} {md : Region.Mode} {ops hd : Array Oper} {n d : Nat} {A : Act} {Z : Obj} {Q : Exit → Act → World → Prop}

/-- A slot that no operation still to come writes reads as at the end. -/
theorem slot_end {C : World → Prop} : ∀ (fuel : Nat) (l : Array Bool) (a : Act) (s : Nat), (∀ (j : Nat) (o : Oper), hd[j]? = some o → l.getD j true = false → o.dst ≠ some s) → wpAnyQ P md hd C (fun a' => a' = A) fuel l a → a.tmps[s]? = A.tmps[s]? := by
  intro fuel
  induction fuel with
  | zero =>
    intro l a s _ h
    rw [h.2]
  | succ fuel ih =>
    intro l a s hs h
    by_cases h0 : Region.ready md hd l = []
    · rw [h.1 h0]
    · obtain ⟨i, hi⟩ := List.exists_mem_of_ne_nil _ h0
      obtain ⟨hu, o, ho, _⟩ := mem_ready.1 hi
      have hq := h.2 i hi
      have hne := hs i o ho hu
      have step : ∀ v, (a.put o.dst v).tmps[s]? = a.tmps[s]? := fun v => by
        cases hd : o.dst with
        | none => rfl
        | some t =>
          rw [hd] at hne
          have : t ≠ s := fun e => hne (by rw [e])
          simp [Act.put, Array.getElem?_setIfInBounds_ne this]
      have hs' : ∀ (j : Nat) (o : Oper), hd[j]? = some o → (l.setIfInBounds i true).getD j true = false → o.dst ≠ some s := fun j o' ho' hu' => by
        by_cases hij : i = j
        · subst hij
          have hlt : i < l.size := by
            rcases Nat.lt_or_ge i l.size with h' | h'
            · exact h'
            · simp [h'] at hu
          simp [hlt] at hu'
        · rw [setG _ hij] at hu'
          exact hs j o' ho' hu'
      unfold qOp at hq
      simp only [ho] at hq
      split at hq
      · obtain ⟨v, _, hK⟩ := hq
        rw [← step v]
        exact ih _ _ s hs' hK
      · rw [← step undef]
        exact ih _ _ s hs' hq

/-- A slot that the walk neither looks at nor writes may be filled ahead of it. -/
theorem anyQ_put {C : World → Prop} (u : Value) (hl : ∀ (j : Nat) (o : Oper), hd[j]? = some o → d ∉ o.looksAt hd ∧ o.dst ≠ some d ∧ ∀ cs b, o.op ≠ .select cs b) : ∀ (fuel : Nat) (l : Array Bool) (a : Act),
    wpAnyQ P md hd C (fun a' => a' = A) fuel l a → wpAnyQ P md hd C (fun a' => a' = A.put (some d) u) fuel l (a.put (some d) u) := by
  intro fuel
  induction fuel with
  | zero =>
    intro l a h
    exact ⟨h.1, by rw [h.2]⟩
  | succ fuel ih =>
    intro l a h
    refine ⟨fun h0 => by rw [h.1 h0], fun i hi => ?_⟩
    have hq := h.2 i hi
    obtain ⟨hu, o, ho, _⟩ := mem_ready.1 hi
    obtain ⟨h1, h2, h3⟩ := hl i o ho
    unfold qOp at *
    simp only [ho] at *
    have e1 : Region.wanted o (yielded hd (a.put (some d) u).tmps) = Region.wanted o (yielded hd a.tmps) := wanted_put o a (some d) u (fun t ht => by cases ht; exact h1)
    have e2 : execOp (a.put (some d) u).eval o = execOp a.eval o := execOp_put (ops := hd) o h3 a (some d) u (fun t ht => by cases ht; exact h1)
    have e3 : ∀ v, (a.put (some d) u).put o.dst v = (a.put o.dst v).put (some d) u := fun v => Act.put_comm a u v (fun t ht => by cases ht; exact h2)
    rw [e1]
    split
    · rename_i hw
      rw [if_pos hw] at hq
      obtain ⟨v, hv, hK⟩ := hq
      refine ⟨v, fun w hw' => ?_, ?_⟩
      · have := hv w hw'
        unfold Oper.quietAt at *
        rw [e2]
        exact this
      · rw [e3]
        exact ih _ _ hK
    · rename_i hw
      rw [if_neg hw] at hq
      rw [e3]
      exact ih _ _ hq

theorem put_same {a : Act} {s : Nat} {v v' : Value} (h : (a.put (some s) v).tmps[s]? = (a.put (some s) v').tmps[s]?) : a.put (some s) v = a.put (some s) v' := by
  rcases Nat.lt_or_ge s a.tmps.size with h' | h'
  · simp [Act.put, h'] at h
    rw [h]
  · simp only [Act.put]
    rw [Array.setIfInBounds_eq_of_size_le h', Array.setIfInBounds_eq_of_size_le h']

/-- What is asked of the head. -/
structure HeadOk (md : Region.Mode) (ops hd : Array Oper) (n : Nat) : Prop where
  back : backB md ops = true
  size : hd.size = n
  same : ∀ i, i < n → hd[i]? = ops[i]?
  guard : ∀ i o g b, i < n → ops[i]? = some o → o.guard = some (g, b) → g < n
  dst : ∀ (i : Nat) (o : Oper), hd[i]? = some o → ∃ s, o.dst = some s ∧ ∀ (j : Nat) (o' : Oper), hd[j]? = some o' → i ≠ j → o'.dst ≠ some s

/-- One operation of the head, in the world w, under a family of classes. -/
theorem head_step (H : HeadOk md ops hd n) {fuel : Nat} {lh : Array Bool} {a : Act} {w : World} (hls : lh.size = n) (F : ∀ W, Grows w W → wpAnyQ P md hd (GroC W) (fun a' => a' = A) (fuel + 1) lh a) {i : Nat} (hi : i ∈ Region.ready md hd lh)
    {K : Act → World → Prop} (hK : ∀ a' w', Grows w w' → (∀ W, Grows w' W → wpAnyQ P md hd (GroC W) (fun a' => a' = A) fuel (lh.setIfInBounds i true) a') → K a' w') : wpOp P ops Q i K a w := by
  obtain ⟨hu, o, ho, _⟩ := mem_ready.1 hi
  have hin : i < n := by have := (Array.getElem?_eq_some_iff.1 ho).1; rw [H.size] at this; exact this
  have hoo : ops[i]? = some o := by rw [← H.same i hin]; exact ho
  have hwt : Region.wanted o (yielded hd a.tmps) = Region.wanted o (yielded ops a.tmps) := by
    unfold Region.wanted
    cases hgd : o.guard with
    | none => rfl
    | some gb =>
      obtain ⟨g, b⟩ := gb
      have := H.guard i o g b hin hoo hgd
      simp only [yielded, H.same g this]
  obtain ⟨s, hs, hoth⟩ := H.dst i o ho
  unfold wpOp
  simp only [hoo]
  have F' : ∀ W, Grows w W → qOp P hd (GroC W) i (wpAnyQ P md hd (GroC W) (fun a' => a' = A) fuel (lh.setIfInBounds i true)) a := fun W hW => (F W hW).2 i hi
  unfold qOp at F'
  simp only [ho, hwt] at F'
  split
  · rename_i hw
    simp only [hw, if_true] at F'
    obtain ⟨v, hv, hn⟩ := F' w (Grows.refl w)
    have unl' : ∀ (j : Nat) (o' : Oper), hd[j]? = some o' → (lh.setIfInBounds i true).getD j true = false → o'.dst ≠ some s := fun j o' ho' hu' => by
      by_cases hij : i = j
      · subst hij
        simp [hls, hin] at hu'
      · exact hoth j o' ho' hij
    have fam : ∀ W, Grows w W → wpAnyQ P md hd (GroC W) (fun a' => a' = A) fuel (lh.setIfInBounds i true) (a.put o.dst v) := fun W hW => by
      obtain ⟨v', _, hn'⟩ := F' W hW
      rw [hs] at hn hn' ⊢
      have e1 := slot_end fuel _ _ s unl' hn
      have e2 := slot_end fuel _ _ s unl' hn'
      rw [put_same (e1.trans e2.symm)]
      exact hn'
    refine .inl (Oper.wp_of_quiet (C := GroC w) (K := fun a' => a' = a.put o.dst v) ⟨⟨w, Grows.refl w⟩, rfl⟩ (fun a' w' hC ha => ?_) ⟨v, hv, rfl⟩)
    obtain ⟨g, rfl⟩ := hC
    subst ha
    exact hK _ _ g.h (fun W hW => fam W (g.h.trans hW))
  · rename_i hw
    simp only [hw, Bool.false_eq_true, if_false] at F'
    exact hK _ _ (Grows.refl w) F'

/-- All but the tail is listed where none of the head is ready. -/
theorem head_full (H : HeadOk md ops hd n) {l lh : Array Bool} (hll : ∀ i, i < n → lh[i]? = l[i]?) (hs : l.size = ops.size) (hn : n < ops.size) (h0 : Region.ready md hd lh = []) : ∀ i, i < n → l.getD i false = true := by
  intro i
  induction i using Nat.strongRecOn with
  | _ i ih =>
    intro hi
    cases hl : l.getD i false with
    | true => rfl
    | false =>
      exfalso
      have hi2 : i < ops.size := by omega
      have hu : lh.getD i true = false := by
        rw [Array.getD_eq_getD_getElem?, hll i hi]
        have hi3 : i < l.size := by omega
        simp [hi3] at hl ⊢
        exact hl
      have ho : ops[i]? = some ops[i] := by simp [hi2]
      have hr : i ∈ Region.ready md hd lh := mem_ready.2 ⟨hu, _, by rw [H.same i hi]; exact ho, fun e he hbe => by
        have hlt := back_spec H.back ho e he hbe
        have := ih e.on hlt (by omega)
        rw [Array.getD_eq_getD_getElem?] at this ⊢
        rw [hll e.on (by omega)]
        exact this⟩
      rw [h0] at hr
      cases hr

theorem head_ready (H : HeadOk md ops hd n) {l lh : Array Bool} (hll : ∀ i, i < n → lh[i]? = l[i]?) {i : Nat} (hi : i < n) : i ∈ Region.ready md ops l ↔ i ∈ Region.ready md hd lh := by
  have gD : ∀ (x : Bool) (i : Nat), i < n → lh.getD i x = l.getD i x := fun x i hi => by
    rw [Array.getD_eq_getD_getElem?, Array.getD_eq_getD_getElem?, hll i hi]
  rw [mem_ready, mem_ready, H.same i hi, gD true i hi]
  constructor
  · rintro ⟨h1, o, ho, ha⟩
    exact ⟨h1, o, ho, fun e he hbe => by rw [gD false e.on (Nat.lt_trans (back_spec H.back ho e he hbe) hi)]; exact ha e he hbe⟩
  · rintro ⟨h1, o, ho, ha⟩
    exact ⟨h1, o, ho, fun e he hbe => by rw [← gD false e.on (Nat.lt_trans (back_spec H.back ho e he hbe) hi)]; exact ha e he hbe⟩

/-- How the lists stand: the head's own, and the tail. -/
structure Lst (ops : Array Oper) (n t : Nat) (l lh : Array Bool) : Prop where
  size : l.size = ops.size
  hsize : lh.size = n
  agree : ∀ i, i < n → lh[i]? = l[i]?
  tail : ∀ i, t ≤ i → i < ops.size → l.getD i true = false

theorem Lst.set {t : Nat} {l lh : Array Bool} (h : Lst ops n t l lh) {i : Nat} (hi : i < n) (hnt : n ≤ t) (hn : n < ops.size) : Lst ops n t (l.setIfInBounds i true) (lh.setIfInBounds i true) := by
  refine ⟨by simp [h.size], by simp [h.hsize], fun j hj => ?_, fun j hj hj' => by rw [setG _ (by omega)]; exact h.tail j hj hj'⟩
  by_cases hij : i = j
  · subst hij
    have h1 : i < l.size := by rw [h.size]; omega
    have h2 : i < lh.size := by rw [h.hsize]; exact hj
    simp [h1, h2]
  · rw [Array.getElem?_setIfInBounds_ne hij, Array.getElem?_setIfInBounds_ne hij]
    exact h.agree j hj

/-- A ready one of the tail: all ahead of the tail are listed. -/
theorem tail_ready {t : Nat} {l : Array Bool} (hw : ∀ i, i < t → waits md ops t i = true) (hc : ∀ j, t < j → j < ops.size → waits md ops j (j - 1) = true) (hup : ∀ i, t ≤ i → i < ops.size → l.getD i true = false) {i : Nat} (hi : t ≤ i) (hr : i ∈ Region.ready md ops l) : ∀ j, j < t → l.getD j false = true := by
  intro j hj
  obtain ⟨h1, o, ho, ha⟩ := mem_ready.1 hr
  have hi' : i < ops.size := (Array.getElem?_eq_some_iff.1 ho).1
  by_cases hin : i = t
  · subst hin
    obtain ⟨e, he, hbe, hon⟩ := waits_spec (hw j hj) ho
    have := ha e he hbe
    rwa [hon] at this
  · obtain ⟨e, he, hbe, hon⟩ := waits_spec (hc i (by omega) hi') ho
    have h2 := ha e he hbe
    rw [hon, unl (hup (i - 1) (by omega) (by omega))] at h2
    cases h2

/-- The block is made: the rest of the head, then the tail. -/
theorem any_made (H : HeadOk md ops hd n) (hw : ∀ i, i < n + 1 → waits md ops (n + 1) i = true) (hc : ∀ j, n + 1 < j → j < ops.size → waits md ops j (j - 1) = true) (hn : n + 1 < ops.size) (D : World → Prop) (hD : ∀ w w', Grows w w' → D w → D w')
    (hQ : ∀ w, D w → wpList P ops Q (ops.toList.drop (n + 1)) A w) : ∀ (fuel k : Nat) (l lh : Array Bool) (a : Act) (w : World), D w → ops.size ≤ n + 1 + k → Lst ops n (n + 1) l lh → l.getD n false = true →
      (∀ W, Grows w W → wpAnyQ P md hd (GroC W) (fun a' => a' = A) fuel lh a) → wpAny P md ops Q (fuel + k) l a w := by
  have full : ∀ {l lh : Array Bool}, Lst ops n (n + 1) l lh → l.getD n false = true → Region.ready md hd lh = [] → ∀ i, i < n + 1 → i < ops.size → l.getD i false = true := fun {l lh} L hnl h0 i hi _ => by
    by_cases hin : i = n
    · subst hin; exact hnl
    · exact head_full H L.agree L.size (by omega) h0 i (by omega)
  intro fuel
  induction fuel with
  | zero =>
    intro k l lh a w hd' hk L hnl F
    have h := F w (Grows.refl w)
    rw [Nat.zero_add]
    have ha : a = A := h.2
    subst ha
    exact any_tail (n := n + 1) H.back hc k (n + 1) l a w hk (Nat.le_refl _) L.size (full L hnl h.1) L.tail (hQ w hd')
  | succ fuel ih =>
    intro k l lh a w hd' hk L hnl F
    by_cases h0 : Region.ready md hd lh = []
    · have ha : a = A := (F w (Grows.refl w)).1 h0
      subst ha
      exact any_tail (n := n + 1) H.back hc _ (n + 1) l a w (by omega) (Nat.le_refl _) L.size (full L hnl h0) L.tail (hQ w hd')
    · rw [show fuel + 1 + k = (fuel + k) + 1 by omega]
      obtain ⟨x, hx⟩ := List.exists_mem_of_ne_nil _ h0
      have hxn : x < n := by
        obtain ⟨_, o, ho, _⟩ := mem_ready.1 hx
        have := (Array.getElem?_eq_some_iff.1 ho).1
        rw [H.size] at this
        exact this
      have hx' := (head_ready H L.agree hxn).2 hx
      refine ⟨fun e => (by rw [e] at hx'; cases hx'), fun i hi => ?_⟩
      have hin : i < n := by
        rcases Nat.lt_or_ge i (n + 1) with h' | h'
        · by_cases he : i = n
          · subst he
            have := (mem_ready.1 hi).1
            rw [unl this] at hnl
            cases hnl
          · omega
        · have := tail_ready hw hc L.tail h' hi x (by omega)
          rw [unl (mem_ready.1 hx').1] at this
          cases this
      refine head_step H L.hsize F ((head_ready H L.agree hin).1 hi) (fun a' w' g F' => ?_)
      exact ih k _ _ a' w' (hD _ _ g hd') hk (L.set hin (by omega) (by omega)) (by rw [setG _ (by omega)]; exact hnl) F'

/-- The block may still be made at any time. -/
theorem any_alloc {os : Oper} {w0 : World} (H : HeadOk md ops hd n) (hw : ∀ i, i < n + 1 → waits md ops (n + 1) i = true) (hc : ∀ j, n + 1 < j → j < ops.size → waits md ops j (j - 1) = true) (hn : n + 1 < ops.size)
    (hos : ops[n]? = some os) (hog : os.guard = none) (hod : os.dst = some d) (hoa : os.after = #[]) (hrun : ∀ (a : Act) (w : World), (execOp a.eval os).run P w = .ok (.value (.pointer (some ⟨w.heap.size, 0, none⟩))) (w.alloc Z))
    (hl : ∀ (j : Nat) (o : Oper), hd[j]? = some o → d ∉ o.looksAt hd ∧ o.dst ≠ some d ∧ ∀ cs b, o.op ≠ .select cs b)
    (hQ : ∀ W b, Grows w0 W → w0.heap.size ≤ b → W.heap[b]? = some Z → wpList P ops Q (ops.toList.drop (n + 1)) (A.put (some d) (.pointer (some ⟨b, 0, none⟩))) W) :
    ∀ (fuel k : Nat) (l lh : Array Bool) (a : Act) (w : World), Grows w0 w → ops.size ≤ n + 1 + k → Lst ops n n l lh →
      (∀ W, Grows w W → wpAnyQ P md hd (GroC W) (fun a' => a' = A) fuel lh a) → wpAny P md ops Q (fuel + 1 + k) l a w := by
  -- the making itself
  have make : ∀ (fuel k : Nat) (l lh : Array Bool) (a : Act) (w : World), Grows w0 w → ops.size ≤ n + 1 + k → Lst ops n n l lh → (∀ W, Grows w W → wpAnyQ P md hd (GroC W) (fun a' => a' = A) fuel lh a) →
      wpOp P ops Q n (wpAny P md ops Q (fuel + k) (l.setIfInBounds n true)) a w := fun fuel k l lh a w hg hk L F => by
    unfold wpOp
    simp only [hos]
    have hwn : Region.wanted os (yielded ops a.tmps) = true := by unfold Region.wanted; rw [hog]
    rw [if_pos hwn]
    refine .inl ?_
    unfold Oper.wp
    rw [hrun a w]
    simp only [Oper.upon, hod]
    refine any_made (A := A.put (some d) (.pointer (some ⟨w.heap.size, 0, none⟩))) H hw hc hn (fun W => Grows w0 W ∧ w0.heap.size ≤ w.heap.size ∧ W.heap[w.heap.size]? = some Z) (fun W W' g hD => ⟨hD.1.trans g, hD.2.1, g.heap hD.2.2⟩)
      (fun W hD => hQ W _ hD.1 hD.2.1 hD.2.2) fuel k _ lh _ _ ⟨hg.alloc _, hg.size, heap_new _ rfl⟩ hk ?_ (setGs (by rw [L.size]; omega)) (fun W hW => ?_)
    · exact ⟨by simp [L.size], L.hsize, fun j hj => by rw [Array.getElem?_setIfInBounds_ne (by omega)]; exact L.agree j hj, fun j hj hj' => by rw [setG _ (by omega)]; exact L.tail j (by omega) hj'⟩
    · exact anyQ_put _ hl fuel lh a (F W (((Grows.refl w).alloc _).trans hW))
  have nr : ∀ {l lh : Array Bool}, Lst ops n n l lh → n ∈ Region.ready md ops l := fun {l lh} L => mem_ready.2 ⟨L.tail n (Nat.le_refl _) (by omega), os, hos, fun e he _ => by rw [hoa] at he; simp at he⟩
  have low : ∀ {l lh : Array Bool}, Lst ops n n l lh → ∀ i ∈ Region.ready md ops l, i ≤ n := fun {l lh} L i hi => by
    rcases Nat.lt_or_ge n i with h' | h'
    · have := tail_ready hw hc (fun j hj hj' => L.tail j (by omega) hj') h' hi n (by omega)
      rw [unl (L.tail n (Nat.le_refl _) (by omega))] at this
      cases this
    · exact h'
  intro fuel
  induction fuel with
  | zero =>
    intro k l lh a w hg hk L F
    rw [show 0 + 1 + k = (0 + k) + 1 by omega]
    refine ⟨fun e => ?_, fun i hi => ?_⟩
    · have := nr L
      rw [e] at this
      cases this
    · have hin : i = n := by
        have hle := low L i hi
        by_cases he : i = n
        · exact he
        · have := (head_ready H L.agree (show i < n by omega)).1 hi
          rw [(F w (Grows.refl w)).1] at this
          cases this
      subst hin
      exact make 0 k l lh a w hg hk L F
  | succ fuel ih =>
    intro k l lh a w hg hk L F
    rw [show fuel + 1 + 1 + k = (fuel + 1 + k) + 1 by omega]
    refine ⟨fun e => ?_, fun i hi => ?_⟩
    · have := nr L
      rw [e] at this
      cases this
    · by_cases hin : i = n
      · subst hin
        exact make (fuel + 1) k l lh a w hg hk L F
      · have hlt : i < n := by have := low L i hi; omega
        exact head_step H L.hsize F ((head_ready H L.agree hlt).1 hi) (fun a' w' g F' => ih k _ _ a' w' (hg.trans g) hk (L.set hlt (Nat.le_refl _) (by omega)) F')

/-- The region's Bool. -/
def allocB (md : Region.Mode) (ops hd : Array Oper) (n d : Nat) : Bool :=
  backB md ops && ((List.range (n + 1)).all fun i => waits md ops (n + 1) i) && ((List.range ops.size).all fun t => decide (t ≤ n + 1) || waits md ops t (t - 1)) &&
  ((List.range n).all fun i => ((ops[i]?).map fun o => match o.guard with | none => true | some (g, _) => decide (g < n)).getD true) && decide (n + 1 < ops.size) &&
  ((List.range n).all fun i => ((hd[i]?).map fun o => !(o.looksAt hd).contains d && o.dst != some d && o.dst.isSome &&
    ((List.range n).all fun j => decide (i = j) || ((hd[j]?).map fun o' => o'.dst != o.dst).getD true)).getD true) &&
  Region.noSelect hd

theorem wp_region_make {id : Nat} {a : Act} {w : World} {os : Oper} (l : List Oper) (n : Nat) (hm : P.follows .mixedOrders = true) (hT : allocB .any l.toArray (l.take n).toArray n d = true) (hB : Region.lexB .any (l.take n).toArray = true)
    (hos : l[n]? = some os) (hog : os.guard = none) (hod : os.dst = some d) (hoa : os.after = #[]) (hrun : ∀ (a : Act) (w : World), (execOp a.eval os).run P w = .ok (.value (.pointer (some ⟨w.heap.size, 0, none⟩))) (w.alloc Z))
    (h : ∀ W, Grows w W → wpQuiet P (l.take n).toArray (fun w' => ∃ g : Gro W, w' = g.x) (fun a' => a' = A) (l.take n) a)
    (hQ : ∀ W b, Grows w W → w.heap.size ≤ b → W.heap[b]? = some Z → wpList P l.toArray Q (l.drop (n + 1)) (A.put (some d) (.pointer (some ⟨b, 0, none⟩))) W) : (Code.region id l.toArray true).wp P Q a w := by
  simp only [allocB, Bool.and_eq_true, decide_eq_true_eq] at hT
  obtain ⟨⟨⟨⟨⟨⟨hb, hw⟩, hc⟩, hg⟩, hn⟩, hd2⟩, hns⟩ := hT
  simp only [Region.lexB, Bool.and_eq_true] at hB
  refine wp_region_any hm ?_
  have hn' : n + 1 < l.length := by simpa using hn
  have hlen : (l.take n).length = n := by simp; omega
  have hsz : l.toArray.size = n + 1 + (l.toArray.size - (n + 1)) := by omega
  have hq : ∀ W, Grows w.drew W → wpAnyQ P .any (l.take n).toArray (GroC W) (fun a' => a' = A) n (Array.replicate n false) a := fun W hW => by
    have := wpAnyQ_lex (C := GroC W) (md := .any) (ops := (l.take n).toArray) hB.1 (l.take n) 0 (Array.replicate (l.take n).toArray.size false) a (by simp) (by simpa using hB.2) (h W ((Grows.refl w).drew.trans hW))
    rw [hlen] at this
    have e2 : (l.take n).toArray.size = n := by simpa using hlen
    rw [e2] at this
    exact this
  have dsts : ∀ (i : Nat) (o : Oper), (l.take n).toArray[i]? = some o → d ∉ o.looksAt (l.take n).toArray ∧ o.dst ≠ some d ∧ o.dst.isSome = true ∧ ∀ (j : Nat) (o' : Oper), (l.take n).toArray[j]? = some o' → i ≠ j → o'.dst ≠ o.dst := fun i o ho => by
    have hi : i < n := by have := (Array.getElem?_eq_some_iff.1 ho).1; simp at this; omega
    have h1 := List.all_eq_true.1 hd2 i (List.mem_range.2 hi)
    simp only [ho, Option.map_some, Option.getD_some, Bool.and_eq_true] at h1
    obtain ⟨⟨⟨h2, h3⟩, h4⟩, h5⟩ := h1
    refine ⟨by simpa using h2, by simpa using h3, h4, fun j o' ho' hij => ?_⟩
    have hj : j < n := by have := (Array.getElem?_eq_some_iff.1 ho').1; simp at this; omega
    have h6 := List.all_eq_true.1 h5 j (List.mem_range.2 hj)
    simp only [ho', Option.map_some, Option.getD_some, Bool.or_eq_true, decide_eq_true_eq] at h6
    rcases h6 with h6 | h6
    · exact absurd h6 hij
    · simpa using h6
  have Hd : HeadOk .any l.toArray (l.take n).toArray n := by
    refine ⟨hb, by simpa using hlen, fun i hi => by simp [hi], fun i o g b hi ho hgd => ?_, fun i o ho => ?_⟩
    · have := List.all_eq_true.1 hg i (List.mem_range.2 hi)
      simp only [ho, Option.map_some, Option.getD_some, hgd, decide_eq_true_eq] at this
      exact this
    · obtain ⟨_, _, h3, h4⟩ := dsts i o ho
      obtain ⟨s, hs⟩ := Option.isSome_iff_exists.1 h3
      exact ⟨s, hs, fun j o' ho' hij => by rw [← hs]; exact h4 j o' ho' hij⟩
  rw [show wpAny P .any l.toArray Q l.toArray.size = wpAny P .any l.toArray Q (n + 1 + (l.toArray.size - (n + 1))) by rw [← hsz]]
  refine any_alloc (w0 := w) (A := A) (os := os) (Z := Z) (d := d) Hd (fun i hi => List.all_eq_true.1 hw i (List.mem_range.2 hi)) (fun t h1 h2 => ?_) hn (by simpa using hos) hog hod hoa hrun
    (fun j o ho => ⟨(dsts j o ho).1, (dsts j o ho).2.1, fun cs b => Region.noSelect_spec hns j o cs b ho⟩) (fun W b h1 h2 h3 => by simpa using hQ W b h1 h2 h3) n _ _ (Array.replicate n false) a _ (Grows.refl w).drew (by omega) ?_ hq
  · have := List.all_eq_true.1 hc t (List.mem_range.2 h2)
    simp only [Bool.or_eq_true, decide_eq_true_eq] at this
    rcases this with h | h
    · omega
    · exact h
  · refine ⟨by simp, by simp, fun i hi => ?_, fun i hi hi' => ?_⟩
    · have : i < l.length := by omega
      simp [hi, this]
    · have : i < l.length := by simpa using hi'
      simp [this]
end
end Go.Proofs.Ybulkdtfu
