/- The walk of change. -/
import Derived.Test.YbulkdtfuRot
namespace Go.Proofs.Ybulkdtfu
open Go.RowKit

/-- Bytes more at a time, in a list in order of time. -/
def ins (t d : Int) : List (Int × Int) → List (Int × Int)
  | [] => [(t, d)]
  | x :: r => if t < x.1 then (t, d) :: x :: r else if x.1 < t then x :: ins t d r else (x.1, x.2 + d) :: r

theorem ins_lt {t d : Int} {n : Int × Int} {rs : List (Int × Int)} (h : t < n.1) : ∀ ls : List (Int × Int), ins t d (ls ++ n :: rs) = ins t d ls ++ n :: rs
  | [] => by simp [ins, h]
  | x :: l => by
    simp only [List.cons_append, ins]
    split
    · rfl
    · split
      · rw [ins_lt h l]; rfl
      · rfl
theorem ins_gt {t d : Int} {n : Int × Int} {rs : List (Int × Int)} (h : n.1 < t) : ∀ ls : List (Int × Int), (∀ y ∈ ls, y.1 < n.1) → ins t d (ls ++ n :: rs) = ls ++ n :: ins t d rs
  | [], _ => by
    simp only [List.nil_append, ins]
    rw [if_neg (by omega), if_pos h]
  | x :: l, hl => by
    have hx := hl x (by simp)
    simp only [List.cons_append, ins]
    rw [if_neg (by omega), if_pos (by omega), ins_gt h l (fun y hy => hl y (by simp [hy]))]
theorem ins_eq {t d : Int} {n : Int × Int} {rs : List (Int × Int)} (h : t = n.1) : ∀ ls : List (Int × Int), (∀ y ∈ ls, y.1 < n.1) → ins t d (ls ++ n :: rs) = ls ++ (n.1, n.2 + d) :: rs
  | [], _ => by
    simp only [List.nil_append, ins]
    rw [if_neg (by omega), if_neg (by omega)]
  | x :: l, hl => by
    have hx := hl x (by simp)
    simp only [List.cons_append, ins]
    rw [if_neg (by omega), if_pos (by omega), ins_eq h l (fun y hy => hl y (by simp [hy]))]

/-- What change leaves. -/
structure Chg (sl sc t d : Int) (h : Nat) (xs : List (Nat × Int × Int)) (b' : Nat) (xs' : List (Nat × Int × Int)) (w w' : World) : Prop where
  tree : IsT sl sc w' (h + 1) (some ⟨b', 0, none⟩) xs'
  list : pl xs' = ins t d (pl xs)
  nodup : (xs'.map (·.1)).Nodup
  blocks : ∀ x ∈ xs', (∃ y ∈ xs, y.1 = x.1) ∨ w.heap.size ≤ x.1
  kept : Kept (fun k => ∃ y ∈ xs, y.1 = k) w w'

theorem nodup_parts {ls rs : List (Nat × Int × Int)} {b : Nat} {a c : Int} (h : ((ls ++ (b, a, c) :: rs).map (·.1)).Nodup) :
    (ls.map (·.1)).Nodup ∧ (rs.map (·.1)).Nodup ∧ (∀ x ∈ ls, x.1 ≠ b) ∧ (∀ x ∈ rs, x.1 ≠ b) ∧ ∀ x ∈ ls, ∀ y ∈ rs, x.1 ≠ y.1 := by
  rw [List.map_append, List.map_cons, List.nodup_append, List.nodup_cons] at h
  obtain ⟨h1, ⟨h2, h3⟩, h4⟩ := h
  refine ⟨h1, h3, fun x hx => h4 x.1 (List.mem_map_of_mem hx) b (by simp), fun x hx e => h2 (by simp only; rw [← e]; exact List.mem_map_of_mem hx), fun x hx y hy => h4 x.1 (List.mem_map_of_mem hx) y.1 (by simp only [List.mem_cons]; exact .inr (List.mem_map_of_mem hy))⟩

theorem nodup_mk {ls rs : List (Nat × Int × Int)} {b : Nat} {a c : Int} (h1 : (ls.map (·.1)).Nodup) (h2 : (rs.map (·.1)).Nodup) (h3 : ∀ x ∈ ls, x.1 ≠ b) (h4 : ∀ x ∈ rs, x.1 ≠ b) (h5 : ∀ x ∈ ls, ∀ y ∈ rs, x.1 ≠ y.1) : ((ls ++ (b, a, c) :: rs).map (·.1)).Nodup := by
  rw [List.map_append, List.map_cons, List.nodup_append, List.nodup_cons]
  refine ⟨h1, ⟨fun hm => ?_, h2⟩, fun x hx y hy => ?_⟩
  · obtain ⟨z, hz, e⟩ := List.mem_map.1 hm
    exact h4 z hz e
  · obtain ⟨z, hz, rfl⟩ := List.mem_map.1 hx
    rcases List.mem_cons.1 hy with e | hy
    · rw [e]; exact h3 z hz
    · obtain ⟨v, hv, rfl⟩ := List.mem_map.1 hy
      exact h5 z hz v hv

set_option maxRecDepth 100000 in
set_option maxHeartbeats 800000 in
theorem change_nil (L h : Nat) (root : Option Addr) (sl sc room seed t d : Int) (w : World) (hL : w.heap[L]? = some (.cells (ledO root sl sc room seed) 43 (0, 0))) (hB : Bnd sl sc [(t, d)]) :
    Calls Yba.prog 10 #[.pointer (some ⟨L, 0, none⟩), .pointer none, .int .i64 t, .int .i64 d] w fun e w' => ∃ b' xs', e = .returned (.pointer (some ⟨b', 0, none⟩)) ∧ Chg sl sc t d h [] b' xs' w w' := by
  have hp := priority16 L root sl sc room seed t w hL
  have hfx : ∀ q, Calls Yba.prog 17 #[.pointer (some ⟨L, 0, none⟩), .pointer (some ⟨w.heap.size, 0, none⟩)] (w.alloc (.cells (nodeO t d q none none 0 0 0 false) 54)) fun e w' => e = .returned (.tuple #[]) ∧ Chg sl sc t d h [] w.heap.size [(w.heap.size, t, d)] w w' := fun q => by
    refine (fix17 L w.heap.size root none none sl sc room seed t d q 0 0 0 false h [] [] _ (((Grows.refl w).alloc _).heap hL) (heap_new _ rfl) ?_ ?_ hB (fun x hx => by cases hx) (fun x hx => by cases hx)).mono ?_
    · cases h <;> first | exact ⟨rfl, rfl⟩ | exact .inl ⟨rfl, rfl⟩
    · cases h <;> first | exact ⟨rfl, rfl⟩ | exact .inl ⟨rfl, rfl⟩
    · rintro e w' ⟨he, T, _, K⟩
      refine ⟨he, T, rfl, by simp, fun x hx => .inr (by simp at hx; rw [hx]; exact Nat.le_refl _), ?_⟩
      exact ⟨K.os, K.tape, K.output, Nat.le_trans (by simp) K.size, fun k hk _ => by rw [K.block k (by simp; omega) (by omega), heap_alloc_old _ hk]⟩
  unfold nodeO at hfx
  clear hB hL
  go_enter Yba.func10, Yba.ntmps10
  go_wp2_with (first
    | (go_at_call 16; refine hp.mono ?_; rintro e w1 ⟨q, rfl, rfl⟩)
    | (go_at_call 17; refine (hfx _).mono ?_; rintro e w2 ⟨rfl, C⟩))
  go_ret
  exact ⟨_, _, rfl, C⟩

set_option maxRecDepth 100000 in
set_option maxHeartbeats 800000 in
theorem change_eq (L b h : Nat) (root l r : Option Addr) (sl sc room seed a c q s0 s1 s2 t d : Int) (s3 : Bool) (ls rs : List (Nat × Int × Int)) (w : World) (hL : w.heap[L]? = some (.cells (ledO root sl sc room seed) 43 (0, 0)))
    (hn : w.heap[b]? = some (.cells (nodeO a c q l r s0 s1 s2 s3) 54 (0, 0))) (hl : IsT sl sc w h l ls) (hr : IsT sl sc w h r rs) (hs : Sorted (pl ls ++ (a, c) :: pl rs)) (hnd : ((ls ++ (b, a, c) :: rs).map (·.1)).Nodup) (hLb : L ≠ b)
    (hta : t = a) (hc : 0 ≤ c) (hd : 1 ≤ d) (hcd : c + d ≤ 17592186044416) (hB : Bnd sl sc (ins t d (pl ls ++ (a, c) :: pl rs))) :
    Calls Yba.prog 10 #[.pointer (some ⟨L, 0, none⟩), .pointer (some ⟨b, 0, none⟩), .int .i64 t, .int .i64 d] w fun e w' => ∃ b' xs', e = .returned (.pointer (some ⟨b', 0, none⟩)) ∧ Chg sl sc t d (h + 1) (ls ++ (b, a, c) :: rs) b' xs' w w' := by
  subst hta
  obtain ⟨n1, n2, n3, n4, n5⟩ := nodup_parts hnd
  obtain ⟨_, _, o3, _⟩ := sorted_parts hs
  have hi := ins_eq (d := d) (rs := pl rs) (n := (t, c)) rfl (pl ls) o3
  rw [hi] at hB
  have K0 : Kept (fun k => k = b) w (w.setCell ⟨b, 1, none⟩ (.int .i64 (c + d))) := Kept.setCell (Kept.refl _ w) ⟨b, 1, none⟩ _ (.inl rfl)
  have hfx : Calls Yba.prog 17 #[.pointer (some ⟨L, 0, none⟩), .pointer (some ⟨b, 0, none⟩)] (w.setCell ⟨b, 1, none⟩ (.int .i64 (c + d))) fun e w' => e = .returned (.tuple #[]) ∧ Chg sl sc t d (h + 1) (ls ++ (b, t, c) :: rs) b (ls ++ (b, t, c + d) :: rs) w w' := by
    refine (fix17 L b root l r sl sc room seed t (c + d) q s0 s1 s2 s3 h ls rs _ (K0.heap hL hLb) (put_bytes hn) (K0.isT hl n3) (K0.isT hr n4) hB n3 n4).mono ?_
    rintro e w' ⟨he, T, _, K⟩
    refine ⟨he, T.succ, by rw [pl_parts, pl_parts, hi], by simpa using hnd, fun x hx => .inl ?_, (K0.trans K).mono (fun k _ e => ⟨(b, t, c), by simp, e.symm⟩)⟩
    simp only [List.mem_append, List.mem_cons] at hx
    rcases hx with hx | rfl | hx
    · exact ⟨x, by simp [hx], rfl⟩
    · exact ⟨(b, t, c), by simp, rfl⟩
    · exact ⟨x, by simp [hx], rfl⟩
  have wcd : IntKind.i64.wrap (c + d) = c + d := IntWalk.i64_in _ (by omega)
  have hne0 : ¬ c + d = 0 := by omega
  unfold nodeO at hn
  have c1 := cell_of_heap hn
  have z1 := frozen_of_heap hn
  clear hB hi K0 hl hr hs hnd n1 n2 n3 n4 n5 o3 hn hL hLb
  go_enter Yba.func10, Yba.ntmps10
  go_wp2_with (first
    | (go_at_call 17; refine hfx.mono ?_; rintro e w2 ⟨rfl, C⟩))
  go_ret
  exact ⟨_, _, rfl, C⟩

/-- Behind the call for the left subtree: the new left's node, and what the two ends give. -/
theorem lt_step (L b h b' : Nat) (root l r : Option Addr) (sl sc room seed a c q s0 s1 s2 t d : Int) (s3 : Bool) (ls rs ls' : List (Nat × Int × Int)) (w w1 : World) (hL : w.heap[L]? = some (.cells (ledO root sl sc room seed) 43 (0, 0)))
    (hn : w.heap[b]? = some (.cells (nodeO a c q l r s0 s1 s2 s3) 54 (0, 0))) (hr : IsT sl sc w h r rs) (hnd : ((ls ++ (b, a, c) :: rs).map (·.1)).Nodup) (hLx : ∀ x ∈ ls ++ (b, a, c) :: rs, x.1 ≠ L)
    (hta : t < a) (hB : Bnd sl sc (ins t d (pl ls ++ (a, c) :: pl rs))) (C : Chg sl sc t d h ls b' ls' w w1) :
    w1.heap[b]? = some (.cells (nodeO a c q l r s0 s1 s2 s3) 54 (0, 0)) ∧ b ≠ b' ∧ ∃ (a' c' q' : Int) (l1 r1 : Option Addr) (u0 u1 u2 : Int) (u3 : Bool), w1.heap[b']? = some (.cells (nodeO a' c' q' l1 r1 u0 u1 u2 u3) 54 (0, 0)) ∧
      (∀ W, Grows (w1.setCell ⟨b, 3, none⟩ (.pointer (some ⟨b', 0, none⟩))) W → Calls Yba.prog 18 #[.pointer (some ⟨L, 0, none⟩), .pointer (some ⟨b, 0, none⟩)] W fun e w' => ∃ b2 xs2, e = .returned (.pointer (some ⟨b2, 0, none⟩)) ∧ Chg sl sc t d (h + 1) (ls ++ (b, a, c) :: rs) b2 xs2 w w') ∧
      (∀ W, Grows (w1.setCell ⟨b, 3, none⟩ (.pointer (some ⟨b', 0, none⟩))) W → Calls Yba.prog 17 #[.pointer (some ⟨L, 0, none⟩), .pointer (some ⟨b, 0, none⟩)] W fun e w' => e = .returned (.tuple #[]) ∧ ∃ xs2, Chg sl sc t d (h + 1) (ls ++ (b, a, c) :: rs) b xs2 w w') := by
  obtain ⟨n1, n2, n3, n4, n5⟩ := nodup_parts hnd
  have hbs : b < w.heap.size := (Array.getElem?_eq_some_iff.1 hn).1
  have hLs : L < w.heap.size := (Array.getElem?_eq_some_iff.1 hL).1
  have hLb : L ≠ b := fun e => hLx (b, a, c) (by simp) e.symm
  have hbn : ∀ x ∈ ls', x.1 ≠ b := fun x hx e => by
    rcases C.blocks x hx with ⟨y, hy, hyx⟩ | hge
    · exact n3 y hy (hyx.trans e)
    · omega
  have hLn : ∀ x ∈ ls', x.1 ≠ L := fun x hx e => by
    rcases C.blocks x hx with ⟨y, hy, hyx⟩ | hge
    · exact hLx y (by simp [hy]) (hyx.trans e)
    · omega
  have hrn : ∀ x ∈ ls', ∀ y ∈ rs, x.1 ≠ y.1 := fun x hx y hy e => by
    rcases C.blocks x hx with ⟨z, hz, hzx⟩ | hge
    · exact n5 z hz y hy (hzx.trans e)
    · have := IsT.block hr y hy
      omega
  have h1 : w1.heap[b]? = _ := C.kept.heap hn (fun ⟨y, hy, e⟩ => n3 y hy e)
  have hL1 : w1.heap[L]? = _ := C.kept.heap hL (fun ⟨y, hy, e⟩ => hLx y (by simp [hy]) e)
  have hr1 := C.kept.isT hr (fun x hx ⟨y, hy, e⟩ => n5 y hy x hx e)
  have KW : ∀ W, Grows (w1.setCell ⟨b, 3, none⟩ (.pointer (some ⟨b', 0, none⟩))) W → Kept (fun k => k = b) w1 W := fun W g => (Kept.setCell (Kept.refl (fun k => k = b) w1) ⟨b, 3, none⟩ _ (.inl rfl)).grow g
  have hb2 : ∀ W, Grows (w1.setCell ⟨b, 3, none⟩ (.pointer (some ⟨b', 0, none⟩))) W → W.heap[b]? = some (.cells (nodeO a c q (some ⟨b', 0, none⟩) r s0 s1 s2 s3) 54 (0, 0)) := fun W g => g.heap (put_left h1)
  have hB2 : Bnd sl sc (pl ls' ++ (a, c) :: pl rs) := by
    rw [C.list, ← ins_lt (d := d) (n := (a, c)) hta]
    exact hB
  have ndF : ((ls' ++ (b, a, c) :: rs).map (·.1)).Nodup := nodup_mk C.nodup n2 hbn n4 hrn
  have fin : ∀ (W : World), Grows (w1.setCell ⟨b, 3, none⟩ (.pointer (some ⟨b', 0, none⟩))) W → ∀ (b2 : Nat) (w' : World), IsT sl sc w' (h + 1 + 1) (some ⟨b2, 0, none⟩) (ls' ++ (b, a, c) :: rs) → Kept (fun k => k = b ∨ ∃ y ∈ ls', y.1 = k) W w' → Chg sl sc t d (h + 1) (ls ++ (b, a, c) :: rs) b2 (ls' ++ (b, a, c) :: rs) w w' := fun W g b2 w' T K => by
    refine ⟨T, by rw [pl_parts, pl_parts, C.list, ins_lt (n := (a, c)) hta], ndF, fun x hx => ?_, ?_⟩
    · simp only [List.mem_append, List.mem_cons] at hx
      rcases hx with hx | rfl | hx
      · rcases C.blocks x hx with ⟨y, hy, e⟩ | hge
        · exact .inl ⟨y, by simp [hy], e⟩
        · exact .inr hge
      · exact .inl ⟨(b, a, c), by simp, rfl⟩
      · exact .inl ⟨x, by simp [hx], rfl⟩
    · have k1 : Kept (fun k => ∃ y ∈ ls ++ (b, a, c) :: rs, y.1 = k) w W := by
        refine (C.kept.mono (fun k _ ⟨y, hy, e⟩ => ⟨y, by simp [hy], e⟩)).trans ((KW W g).mono (fun k _ e => ⟨(b, a, c), by simp, e.symm⟩))
      refine ⟨K.os.trans k1.os, K.tape.trans k1.tape, K.output.trans k1.output, Nat.le_trans k1.size K.size, fun k hk hn => ?_⟩
      rw [K.block k (Nat.lt_of_lt_of_le hk k1.size) ?_, k1.block k hk hn]
      rintro (e | ⟨y, hy, e⟩)
      · exact hn ⟨(b, a, c), by simp, e.symm⟩
      · rcases C.blocks y hy with ⟨z, hz, e2⟩ | hge
        · exact hn ⟨z, by simp [hz], e2.trans e⟩
        · omega
  rcases C.tree with ⟨e, _⟩ | ⟨b'', a', c', q', l1, r1, l1s, r1s, e, hls, hn', hl1, hr1'⟩
  · cases e
  · cases e
    have hbb : b ≠ b' := fun e => hbn (b', a', c') (by rw [hls]; simp) e.symm
    refine ⟨h1, hbb, a', c', q', l1, r1, _, _, _, _, hn', ?_, ?_⟩
    · intro W g
      have KW := KW W g
      have ndl := nodup_parts (hls ▸ C.nodup)
      have sub : ∀ x, x ∈ l1s ∨ x ∈ r1s → x ∈ ls' := fun x hx => by rw [hls]; rcases hx with hx | hx <;> simp [hx]
      refine (rotR18 L b b' h root r l1 r1 sl sc room seed a c q s0 s1 s2 a' c' q' _ _ _ s3 _ rs l1s r1s W (KW.heap hL1 hLb) (hb2 W g) (KW.heap hn' (Ne.symm hbb)) (KW.isT hr1 n4) (KW.isT hl1 (fun x hx => hbn x (sub x (.inl hx)))) (KW.isT hr1' (fun x hx => hbn x (sub x (.inr hx)))) hbb hLb (fun e => hLn (b', a', c') (by rw [hls]; simp) e.symm)
        (fun x hx => ⟨n4 x hx, fun e => hrn (b', a', c') (by rw [hls]; simp) x hx e.symm⟩) (fun x hx => ⟨hbn x (sub x (.inl hx)), ndl.2.2.1 x hx⟩) (fun x hx => ⟨hbn x (sub x (.inr hx)), ndl.2.2.2.1 x hx⟩) ?_).mono ?_
      · rw [hls, pl_parts, List.append_assoc] at hB2
        exact hB2
      · rintro e w' ⟨he, T, K⟩
        refine ⟨b', ls' ++ (b, a, c) :: rs, he, fin W g b' w' ?_ (K.mono (fun k _ e => ?_))⟩
        · rw [hls, List.append_assoc]
          exact T
        · rcases e with e | e
          · exact .inl e
          · exact .inr ⟨(b', a', c'), by rw [hls]; simp, e.symm⟩
    · intro W g
      have KW := KW W g
      refine (fix17 L b root (some ⟨b', 0, none⟩) r sl sc room seed a c q s0 s1 s2 s3 (h + 1) ls' rs W (KW.heap hL1 hLb) (hb2 W g) (KW.isT C.tree hbn) (KW.isT hr1 n4).succ hB2 hbn n4).mono ?_
      rintro e w' ⟨he, T, _, K⟩
      exact ⟨he, _, fin W g b w' T (K.mono (fun k _ e => .inl e))⟩

set_option maxRecDepth 100000 in
set_option maxHeartbeats 1600000 in
theorem change_lt (L b h : Nat) (root l r : Option Addr) (sl sc room seed a c q s0 s1 s2 t d : Int) (s3 : Bool) (ls rs : List (Nat × Int × Int)) (w : World) (hL : w.heap[L]? = some (.cells (ledO root sl sc room seed) 43 (0, 0)))
    (hn : w.heap[b]? = some (.cells (nodeO a c q l r s0 s1 s2 s3) 54 (0, 0))) (hr : IsT sl sc w h r rs) (hnd : ((ls ++ (b, a, c) :: rs).map (·.1)).Nodup) (hLx : ∀ x ∈ ls ++ (b, a, c) :: rs, x.1 ≠ L)
    (hta : t < a) (hB : Bnd sl sc (ins t d (pl ls ++ (a, c) :: pl rs)))
    (ih : Calls Yba.prog 10 #[.pointer (some ⟨L, 0, none⟩), .pointer l, .int .i64 t, .int .i64 d] w fun e w' => ∃ b' xs', e = .returned (.pointer (some ⟨b', 0, none⟩)) ∧ Chg sl sc t d h ls b' xs' w w') :
    Calls Yba.prog 10 #[.pointer (some ⟨L, 0, none⟩), .pointer (some ⟨b, 0, none⟩), .int .i64 t, .int .i64 d] w fun e w' => ∃ b' xs', e = .returned (.pointer (some ⟨b', 0, none⟩)) ∧ Chg sl sc t d (h + 1) (ls ++ (b, a, c) :: rs) b' xs' w w' := by
  have hst : ∀ (b' : Nat) (ls' : List (Nat × Int × Int)) (w1 : World), Chg sl sc t d h ls b' ls' w w1 → _ := fun b' ls' w1 C => lt_step L b h b' root l r sl sc room seed a c q s0 s1 s2 t d s3 ls rs ls' w w1 hL hn hr hnd hLx hta hB C
  unfold nodeO at hn hst
  have c1 := cell_of_heap hn
  clear hB hr hnd hn hL hLx
  go_enter Yba.func10, Yba.ntmps10
  go_wp2_with (first
    | (go_at_call 10; refine ih.mono ?_; rintro e w1 ⟨b', ls', rfl, C⟩; obtain ⟨i1, hbb, a', c', q', l1, r1, u0, u1, u2, u3, i2, iR, iF⟩ := hst b' ls' w1 C; clear hst ih; have c2 := cell_of_heap i1; have z2 := frozen_of_heap i1; have c3 := cell_of_heap i2))
  have hne1 : ¬ b = b' := hbb
  have hne2 : ¬ b' = b := Ne.symm hbb
  clear hbb
  obtain ⟨W, hW⟩ : ∃ W, w1.setCell ⟨b, 3, none⟩ (.pointer (some ⟨b', 0, none⟩)) = W := ⟨_, rfl⟩
  have j1 : W.heap[b]? = some (.cells #[.int .i64 a, .int .i64 c, .int .u64 q, .pointer (some ⟨b', 0, none⟩), .pointer r, .int .i64 s0, .int .u64 s1, .int .u64 s2, .bool s3] 54 (0, 0)) := hW ▸ put_left (l := l) i1
  have j2 : W.heap[b']? = _ := hW ▸ (heap_setCell_off _ (by simpa using hne2)).trans i2
  rw [hW] at iR iF ⊢
  clear c1 c2 z2 c3 i1 i2 hW
  have c4 := cell_of_heap j1
  have c5 := cell_of_heap j2
  by_cases hq : q < q'
  · go_quiet (fail)
    have gq : Grows W (W.drewN nq) := below_drewN (Below.refl _ _) nq
    go_wp2_with (go_at_call 18; refine (iR _ gq).mono ?_; rintro e w2 ⟨b2, xs2, rfl, C2⟩)
    go_ret
    exact ⟨_, _, rfl, C2⟩
  · go_quiet (fail)
    have gq : Grows W (W.drewN nq) := below_drewN (Below.refl _ _) nq
    go_wp2_with (go_at_call 17; refine (iF _ gq).mono ?_; rintro e w2 ⟨rfl, xs2, C2⟩)
    go_ret
    exact ⟨_, _, rfl, C2⟩
end Go.Proofs.Ybulkdtfu
