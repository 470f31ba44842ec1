/- The walk of change, the right subtree; the whole. -/
import Derived.Test.YbulkdtfuChange
namespace Go.Proofs.Ybulkdtfu
open Go.RowKit

theorem gt_step (L b h b' : Nat) (root l r : Option Addr) (sl sc room seed a c q s0 s1 s2 t d : Int) (s3 : Bool) (ls rs rs' : List (Nat × Int × Int)) (w w1 : World) (hL : w.heap[L]? = some (.cells (ledO root sl sc room seed) 43 (0, 0)))
    (hn : w.heap[b]? = some (.cells (nodeO a c q l r s0 s1 s2 s3) 54 (0, 0))) (hl : IsT sl sc w h l ls) (hs : Sorted (pl ls ++ (a, c) :: pl rs)) (hnd : ((ls ++ (b, a, c) :: rs).map (·.1)).Nodup) (hLx : ∀ x ∈ ls ++ (b, a, c) :: rs, x.1 ≠ L)
    (hta : a < t) (hB : Bnd sl sc (ins t d (pl ls ++ (a, c) :: pl rs))) (C : Chg sl sc t d h rs b' rs' w w1) :
    w1.heap[b]? = some (.cells (nodeO a c q l r s0 s1 s2 s3) 54 (0, 0)) ∧ b ≠ b' ∧ ∃ (a' c' q' : Int) (l1 r1 : Option Addr) (u0 u1 u2 : Int) (u3 : Bool), w1.heap[b']? = some (.cells (nodeO a' c' q' l1 r1 u0 u1 u2 u3) 54 (0, 0)) ∧
      (∀ W, Grows (w1.setCell ⟨b, 4, none⟩ (.pointer (some ⟨b', 0, none⟩))) W → Calls Yba.prog 19 #[.pointer (some ⟨L, 0, none⟩), .pointer (some ⟨b, 0, none⟩)] W fun e w' => ∃ b2 xs2, e = .returned (.pointer (some ⟨b2, 0, none⟩)) ∧ Chg sl sc t d (h + 1) (ls ++ (b, a, c) :: rs) b2 xs2 w w') ∧
      (∀ W, Grows (w1.setCell ⟨b, 4, none⟩ (.pointer (some ⟨b', 0, none⟩))) W → Calls Yba.prog 17 #[.pointer (some ⟨L, 0, none⟩), .pointer (some ⟨b, 0, none⟩)] W fun e w' => e = .returned (.tuple #[]) ∧ ∃ xs2, Chg sl sc t d (h + 1) (ls ++ (b, a, c) :: rs) b xs2 w w') := by
  obtain ⟨n1, n2, n3, n4, n5⟩ := nodup_parts hnd
  obtain ⟨_, _, o3, _⟩ := sorted_parts hs
  have hbs : b < w.heap.size := (Array.getElem?_eq_some_iff.1 hn).1
  have hLs : L < w.heap.size := (Array.getElem?_eq_some_iff.1 hL).1
  have hLb : L ≠ b := fun e => hLx (b, a, c) (by simp) e.symm
  have hbn : ∀ x ∈ rs', x.1 ≠ b := fun x hx e => by
    rcases C.blocks x hx with ⟨y, hy, hyx⟩ | hge
    · exact n4 y hy (hyx.trans e)
    · omega
  have hLn : ∀ x ∈ rs', x.1 ≠ L := fun x hx e => by
    rcases C.blocks x hx with ⟨y, hy, hyx⟩ | hge
    · exact hLx y (by simp [hy]) (hyx.trans e)
    · omega
  have hrn : ∀ y ∈ ls, ∀ x ∈ rs', y.1 ≠ x.1 := fun y hy x hx e => by
    rcases C.blocks x hx with ⟨z, hz, hzx⟩ | hge
    · exact n5 y hy z hz (e.trans hzx.symm)
    · have := IsT.block hl y hy
      omega
  have h1 : w1.heap[b]? = _ := C.kept.heap hn (fun ⟨y, hy, e⟩ => n4 y hy e)
  have hL1 : w1.heap[L]? = _ := C.kept.heap hL (fun ⟨y, hy, e⟩ => hLx y (by simp [hy]) e)
  have hl1 := C.kept.isT hl (fun x hx ⟨y, hy, e⟩ => n5 x hx y hy e.symm)
  have KW : ∀ W, Grows (w1.setCell ⟨b, 4, none⟩ (.pointer (some ⟨b', 0, none⟩))) W → Kept (fun k => k = b) w1 W := fun W g => (Kept.setCell (Kept.refl (fun k => k = b) w1) ⟨b, 4, none⟩ _ (.inl rfl)).grow g
  have hb2 : ∀ W, Grows (w1.setCell ⟨b, 4, none⟩ (.pointer (some ⟨b', 0, none⟩))) W → W.heap[b]? = some (.cells (nodeO a c q l (some ⟨b', 0, none⟩) s0 s1 s2 s3) 54 (0, 0)) := fun W g => g.heap (put_right h1)
  have hB2 : Bnd sl sc (pl ls ++ (a, c) :: pl rs') := by
    rw [C.list, ← ins_gt (d := d) (n := (a, c)) hta (pl ls) o3]
    exact hB
  have ndF : ((ls ++ (b, a, c) :: rs').map (·.1)).Nodup := nodup_mk n1 C.nodup n3 hbn hrn
  have fin : ∀ (W : World), Grows (w1.setCell ⟨b, 4, none⟩ (.pointer (some ⟨b', 0, none⟩))) W → ∀ (b2 : Nat) (w' : World), IsT sl sc w' (h + 1 + 1) (some ⟨b2, 0, none⟩) (ls ++ (b, a, c) :: rs') → Kept (fun k => k = b ∨ ∃ y ∈ rs', y.1 = k) W w' → Chg sl sc t d (h + 1) (ls ++ (b, a, c) :: rs) b2 (ls ++ (b, a, c) :: rs') w w' := fun W g b2 w' T K => by
    refine ⟨T, by rw [pl_parts, pl_parts, C.list, ins_gt (n := (a, c)) hta (pl ls) o3], ndF, fun x hx => ?_, ?_⟩
    · simp only [List.mem_append, List.mem_cons] at hx
      rcases hx with hx | rfl | hx
      · exact .inl ⟨x, by simp [hx], rfl⟩
      · exact .inl ⟨(b, a, c), by simp, rfl⟩
      · rcases C.blocks x hx with ⟨y, hy, e⟩ | hge
        · exact .inl ⟨y, by simp [hy], e⟩
        · exact .inr hge
    · have k1 : Kept (fun k => ∃ y ∈ ls ++ (b, a, c) :: rs, y.1 = k) w W := by
        refine (C.kept.mono (fun k _ ⟨y, hy, e⟩ => ⟨y, by simp [hy], e⟩)).trans ((KW W g).mono (fun k _ e => ⟨(b, a, c), by simp, e.symm⟩))
      refine ⟨K.os.trans k1.os, K.tape.trans k1.tape, K.output.trans k1.output, Nat.le_trans k1.size K.size, fun k hk hn => ?_⟩
      rw [K.block k (Nat.lt_of_lt_of_le hk k1.size) ?_, k1.block k hk hn]
      rintro (e | ⟨y, hy, e⟩)
      · exact hn ⟨(b, a, c), by simp, e.symm⟩
      · rcases C.blocks y hy with ⟨z, hz, e2⟩ | hge
        · exact hn ⟨z, by simp [hz], e2.trans e⟩
        · omega
  rcases C.tree with ⟨e, _⟩ | ⟨b'', a', c', q', l1, r1, l1s, r1s, e, hls, hn', hl1', hr1'⟩
  · cases e
  · cases e
    have hbb : b ≠ b' := fun e => hbn (b', a', c') (by rw [hls]; simp) e.symm
    refine ⟨h1, hbb, a', c', q', l1, r1, _, _, _, _, hn', ?_, ?_⟩
    · intro W g
      have KW := KW W g
      have ndl := nodup_parts (hls ▸ C.nodup)
      have sub : ∀ x, x ∈ l1s ∨ x ∈ r1s → x ∈ rs' := fun x hx => by rw [hls]; rcases hx with hx | hx <;> simp [hx]
      refine (rotL19 L b b' h root l l1 r1 sl sc room seed a c q s0 s1 s2 a' c' q' _ _ _ s3 _ ls l1s r1s W (KW.heap hL1 hLb) (hb2 W g) (KW.heap hn' (Ne.symm hbb)) (KW.isT hl1 n3) (KW.isT hl1' (fun x hx => hbn x (sub x (.inl hx)))) (KW.isT hr1' (fun x hx => hbn x (sub x (.inr hx)))) hbb hLb (fun e => hLn (b', a', c') (by rw [hls]; simp) e.symm)
        (fun x hx => ⟨n3 x hx, fun e => hrn x hx (b', a', c') (by rw [hls]; simp) e⟩) (fun x hx => ⟨hbn x (sub x (.inl hx)), ndl.2.2.1 x hx⟩) (fun x hx => ⟨hbn x (sub x (.inr hx)), ndl.2.2.2.1 x hx⟩) ?_).mono ?_
      · rw [hls, pl_parts] at hB2
        simpa using hB2
      · rintro e w' ⟨he, T, K⟩
        refine ⟨b', ls ++ (b, a, c) :: rs', he, fin W g b' w' ?_ (K.mono (fun k _ e => ?_))⟩
        · rw [hls]
          simpa using T
        · rcases e with e | e
          · exact .inl e
          · exact .inr ⟨(b', a', c'), by rw [hls]; simp, e.symm⟩
    · intro W g
      have KW := KW W g
      refine (fix17 L b root l (some ⟨b', 0, none⟩) sl sc room seed a c q s0 s1 s2 s3 (h + 1) ls rs' W (KW.heap hL1 hLb) (hb2 W g) (KW.isT hl1 n3).succ (KW.isT C.tree hbn) hB2 n3 hbn).mono ?_
      rintro e w' ⟨he, T, _, K⟩
      exact ⟨he, _, fin W g b w' T (K.mono (fun k _ e => .inl e))⟩

set_option maxRecDepth 100000 in
set_option maxHeartbeats 1600000 in
theorem change_gt (L b h : Nat) (root l r : Option Addr) (sl sc room seed a c q s0 s1 s2 t d : Int) (s3 : Bool) (ls rs : List (Nat × Int × Int)) (w : World) (hL : w.heap[L]? = some (.cells (ledO root sl sc room seed) 43 (0, 0)))
    (hn : w.heap[b]? = some (.cells (nodeO a c q l r s0 s1 s2 s3) 54 (0, 0))) (hl : IsT sl sc w h l ls) (hs : Sorted (pl ls ++ (a, c) :: pl rs)) (hnd : ((ls ++ (b, a, c) :: rs).map (·.1)).Nodup) (hLx : ∀ x ∈ ls ++ (b, a, c) :: rs, x.1 ≠ L)
    (hta : a < t) (hB : Bnd sl sc (ins t d (pl ls ++ (a, c) :: pl rs)))
    (ih : Calls Yba.prog 10 #[.pointer (some ⟨L, 0, none⟩), .pointer r, .int .i64 t, .int .i64 d] w fun e w' => ∃ b' xs', e = .returned (.pointer (some ⟨b', 0, none⟩)) ∧ Chg sl sc t d h rs b' xs' w w') :
    Calls Yba.prog 10 #[.pointer (some ⟨L, 0, none⟩), .pointer (some ⟨b, 0, none⟩), .int .i64 t, .int .i64 d] w fun e w' => ∃ b' xs', e = .returned (.pointer (some ⟨b', 0, none⟩)) ∧ Chg sl sc t d (h + 1) (ls ++ (b, a, c) :: rs) b' xs' w w' := by
  have hst : ∀ (b' : Nat) (rs' : List (Nat × Int × Int)) (w1 : World), Chg sl sc t d h rs b' rs' w w1 → _ := fun b' rs' w1 C => gt_step L b h b' root l r sl sc room seed a c q s0 s1 s2 t d s3 ls rs rs' w w1 hL hn hl hs hnd hLx hta hB C
  unfold nodeO at hn hst
  have c1 := cell_of_heap hn
  have hta2 : ¬ t < a := by omega
  clear hB hl hs hnd hn hL hLx
  go_enter Yba.func10, Yba.ntmps10
  go_wp2_with (first
    | (go_at_call 10; refine ih.mono ?_; rintro e w1 ⟨b', rs', rfl, C⟩; obtain ⟨i1, hbb, a', c', q', l1, r1, u0, u1, u2, u3, i2, iR, iF⟩ := hst b' rs' w1 C; clear hst ih; have c2 := cell_of_heap i1; have z2 := frozen_of_heap i1; have c3 := cell_of_heap i2))
  have hne1 : ¬ b = b' := hbb
  have hne2 : ¬ b' = b := Ne.symm hbb
  clear hbb
  obtain ⟨W, hW⟩ : ∃ W, w1.setCell ⟨b, 4, none⟩ (.pointer (some ⟨b', 0, none⟩)) = W := ⟨_, rfl⟩
  have j1 : W.heap[b]? = some (.cells #[.int .i64 a, .int .i64 c, .int .u64 q, .pointer l, .pointer (some ⟨b', 0, none⟩), .int .i64 s0, .int .u64 s1, .int .u64 s2, .bool s3] 54 (0, 0)) := hW ▸ put_right (r := r) i1
  have j2 : W.heap[b']? = _ := hW ▸ (heap_setCell_off _ (by simpa using hne2)).trans i2
  rw [hW] at iR iF ⊢
  clear c1 c2 z2 c3 i1 i2 hW
  have c4 := cell_of_heap j1
  have c5 := cell_of_heap j2
  by_cases hq : q < q'
  · go_quiet (fail)
    have gq : Grows W (W.drewN nq) := below_drewN (Below.refl _ _) nq
    go_wp2_with (go_at_call 19; refine (iR _ gq).mono ?_; rintro e w2 ⟨b2, xs2, rfl, C2⟩)
    go_ret
    exact ⟨_, _, rfl, C2⟩
  · go_quiet (fail)
    have gq : Grows W (W.drewN nq) := below_drewN (Below.refl _ _) nq
    go_wp2_with (go_at_call 17; refine (iF _ gq).mono ?_; rintro e w2 ⟨rfl, xs2, C2⟩)
    go_ret
    exact ⟨_, _, rfl, C2⟩

theorem change10 (L : Nat) (root : Option Addr) (sl sc room seed t d : Int) (hd : 1 ≤ d) : ∀ (h : Nat) (p : Option Addr) (xs : List (Nat × Int × Int)) (w : World), w.heap[L]? = some (.cells (ledO root sl sc room seed) 43 (0, 0)) →
    IsT sl sc w h p xs → Sorted (pl xs) → (xs.map (·.1)).Nodup → (∀ x ∈ xs, x.1 ≠ L) → (∀ y ∈ pl xs, 0 ≤ y.2) → Bnd sl sc (ins t d (pl xs)) →
    Calls Yba.prog 10 #[.pointer (some ⟨L, 0, none⟩), .pointer p, .int .i64 t, .int .i64 d] w fun e w' => ∃ b' xs', e = .returned (.pointer (some ⟨b', 0, none⟩)) ∧ Chg sl sc t d h xs b' xs' w w' := by
  intro h
  induction h with
  | zero =>
    intro p xs w hL ht hs hnd hLx hc hB
    obtain ⟨rfl, rfl⟩ := ht
    exact change_nil L 0 root sl sc room seed t d w hL hB
  | succ h ih =>
    intro p xs w hL ht hs hnd hLx hc hB
    rcases ht with ⟨rfl, rfl⟩ | ⟨b, a, c, q, l, r, ls, rs, rfl, rfl, h3, h4, h5⟩
    · exact change_nil L (h + 1) root sl sc room seed t d w hL hB
    · obtain ⟨n1, n2, n3, n4, n5⟩ := nodup_parts hnd
      rw [pl_parts] at hs hB hc
      obtain ⟨sL, sR, o3, _⟩ := sorted_parts hs
      have hLb : L ≠ b := fun e => hLx (b, a, c) (by simp) e.symm
      rcases Int.lt_trichotomy t a with hlt | heq | hgt
      · refine change_lt L b h root l r sl sc room seed a c q _ _ _ t d _ ls rs w hL h3 h5 hnd hLx hlt hB (ih l ls w hL h4 sL n1 (fun x hx => hLx x (by simp [hx])) (fun y hy => hc y (by simp [hy])) ?_)
        rw [ins_lt (n := (a, c)) hlt] at hB
        exact hB.left
      · have hi := ins_eq (d := d) (rs := pl rs) (n := (a, c)) heq (pl ls) o3
        have hcc : 0 ≤ c := hc (a, c) (by simp)
        have hcd : c + d ≤ 17592186044416 := by
          have hB' := hB
          rw [hi] at hB'
          have h1 := hB'.right.sum
          have h2 := spB_nonneg hB'.right.tail.each
          simp only [spB] at h1
          omega
        exact change_eq L b h root l r sl sc room seed a c q _ _ _ t d _ ls rs w hL h3 h4 h5 hs hnd hLb heq hcc hd hcd hB
      · refine change_gt L b h root l r sl sc room seed a c q _ _ _ t d _ ls rs w hL h3 h4 hs hnd hLx hgt hB (ih r rs w hL h5 sR n2 (fun x hx => hLx x (by simp [hx])) (fun y hy => hc y (by simp [hy])) ?_)
        rw [ins_gt (n := (a, c)) hgt (pl ls) o3] at hB
        exact hB.right.tail
end Go.Proofs.Ybulkdtfu
