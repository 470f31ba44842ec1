/- The walks of the rotations. -/
import Derived.Test.YbulkdtfuFix
namespace Go.Proofs.Ybulkdtfu
open Go.RowKit

theorem put_left {w : World} {b : Nat} {a c q : Int} {l r x : Option Addr} {s0 s1 s2 : Int} {s3 : Bool} (h : w.heap[b]? = some (.cells (nodeO a c q l r s0 s1 s2 s3) 54 (0, 0))) :
    (w.setCell ⟨b, 3, none⟩ (.pointer x)).heap[b]? = some (.cells (nodeO a c q x r s0 s1 s2 s3) 54 (0, 0)) := by
  rw [heap_setCell_at _ h]
  rfl
theorem put_right {w : World} {b : Nat} {a c q : Int} {l r x : Option Addr} {s0 s1 s2 : Int} {s3 : Bool} (h : w.heap[b]? = some (.cells (nodeO a c q l r s0 s1 s2 s3) 54 (0, 0))) :
    (w.setCell ⟨b, 4, none⟩ (.pointer x)).heap[b]? = some (.cells (nodeO a c q l x s0 s1 s2 s3) 54 (0, 0)) := by
  rw [heap_setCell_at _ h]
  rfl
theorem put_bytes {w : World} {b : Nat} {a c q x : Int} {l r : Option Addr} {s0 s1 s2 : Int} {s3 : Bool} (h : w.heap[b]? = some (.cells (nodeO a c q l r s0 s1 s2 s3) 54 (0, 0))) :
    (w.setCell ⟨b, 1, none⟩ (.int .i64 x)).heap[b]? = some (.cells (nodeO a x q l r s0 s1 s2 s3) 54 (0, 0)) := by
  rw [heap_setCell_at _ h]
  rfl

set_option maxRecDepth 100000 in
set_option maxHeartbeats 800000 in
theorem rotR18 (L b b2 h : Nat) (root r l2 r2 : Option Addr) (sl sc room seed a c q s0 s1 s2 a2 c2 q2 t0 t1 t2 : Int) (s3 t3 : Bool) (rs l2s r2s : List (Nat × Int × Int)) (w : World) (hL : w.heap[L]? = some (.cells (ledO root sl sc room seed) 43 (0, 0)))
    (hn : w.heap[b]? = some (.cells (nodeO a c q (some ⟨b2, 0, none⟩) r s0 s1 s2 s3) 54 (0, 0))) (hn2 : w.heap[b2]? = some (.cells (nodeO a2 c2 q2 l2 r2 t0 t1 t2 t3) 54 (0, 0)))
    (ir : IsT sl sc w h r rs) (il2 : IsT sl sc w h l2 l2s) (ir2 : IsT sl sc w h r2 r2s) (hbb : b ≠ b2) (hLb : L ≠ b) (hLb2 : L ≠ b2)
    (nr : ∀ x ∈ rs, x.1 ≠ b ∧ x.1 ≠ b2) (nl2 : ∀ x ∈ l2s, x.1 ≠ b ∧ x.1 ≠ b2) (nr2 : ∀ x ∈ r2s, x.1 ≠ b ∧ x.1 ≠ b2) (hB : Bnd sl sc (pl l2s ++ (a2, c2) :: (pl r2s ++ (a, c) :: pl rs))) :
    Calls Yba.prog 18 #[.pointer (some ⟨L, 0, none⟩), .pointer (some ⟨b, 0, none⟩)] w fun e w' => e = .returned (.pointer (some ⟨b2, 0, none⟩)) ∧
      IsT sl sc w' (h + 1 + 1) (some ⟨b2, 0, none⟩) (l2s ++ (b2, a2, c2) :: (r2s ++ (b, a, c) :: rs)) ∧ Kept (fun k => k = b ∨ k = b2) w w' := by
  obtain ⟨W, hW⟩ : ∃ W, W = (w.setCell ⟨b, 3, none⟩ (.pointer r2)).setCell ⟨b2, 4, none⟩ (.pointer (some ⟨b, 0, none⟩)) := ⟨_, rfl⟩
  have K0 : Kept (fun k => k = b ∨ k = b2) w W := hW ▸ ((Kept.setCell (Kept.setCell (Kept.refl (fun k => k = b ∨ k = b2) w) ⟨b, 3, none⟩ (.pointer r2) (.inl (.inl rfl))) ⟨b2, 4, none⟩ (.pointer (some ⟨b, 0, none⟩)) (.inl (.inr rfl))))
  have m1 : W.heap[b]? = some (.cells (nodeO a c q r2 r s0 s1 s2 s3) 54 (0, 0)) := by
    rw [hW, heap_setCell_off _ (by simpa using hbb)]
    exact put_left hn
  have m2 : W.heap[b2]? = some (.cells (nodeO a2 c2 q2 l2 (some ⟨b, 0, none⟩) t0 t1 t2 t3) 54 (0, 0)) := by
    rw [hW]
    refine put_right (r := r2) ?_
    rw [heap_setCell_off _ (by simpa using Ne.symm hbb)]
    exact hn2
  have mL := K0.heap hL (by rintro (e | e); exact hLb e; exact hLb2 e)
  have j1 := K0.isT ir (fun x hx e => by rcases e with e | e; exact (nr x hx).1 e; exact (nr x hx).2 e)
  have j2 := K0.isT il2 (fun x hx e => by rcases e with e | e; exact (nl2 x hx).1 e; exact (nl2 x hx).2 e)
  have j3 := K0.isT ir2 (fun x hx e => by rcases e with e | e; exact (nr2 x hx).1 e; exact (nr2 x hx).2 e)
  have f1 := fix17 L b root r2 r sl sc room seed a c q s0 s1 s2 s3 h r2s rs W mL m1 j3 j1 hB.right.tail (fun x hx => (nr2 x hx).1) (fun x hx => (nr x hx).1)
  have f2 : ∀ w2, IsT sl sc w2 (h + 1) (some ⟨b, 0, none⟩) (r2s ++ (b, a, c) :: rs) → Kept (fun k => k = b) W w2 →
      Calls Yba.prog 17 #[.pointer (some ⟨L, 0, none⟩), .pointer (some ⟨b2, 0, none⟩)] w2 fun e w' => e = .returned (.tuple #[]) ∧
        IsT sl sc w' (h + 1 + 1) (some ⟨b2, 0, none⟩) (l2s ++ (b2, a2, c2) :: (r2s ++ (b, a, c) :: rs)) ∧ Kept (fun k => k = b ∨ k = b2) w w' := fun w2 T K => by
    refine (fix17 L b2 root l2 (some ⟨b, 0, none⟩) sl sc room seed a2 c2 q2 t0 t1 t2 t3 (h + 1) l2s (r2s ++ (b, a, c) :: rs) w2 (K.heap mL hLb) (K.heap m2 (Ne.symm hbb)) (IsT.succ (K.isT j2 (fun x hx => (nl2 x hx).1))) T (by rw [pl_parts]; exact hB) (fun x hx => (nl2 x hx).2) (fun x hx => ?_)).mono ?_
    · simp only [List.mem_append, List.mem_cons] at hx
      rcases hx with hx | rfl | hx
      · exact (nr2 x hx).2
      · exact hbb
      · exact (nr x hx).2
    · rintro e w' ⟨he, T', _, K'⟩
      exact ⟨he, T', (K0.trans (K.mono (fun k _ e => .inl e))).trans (K'.mono (fun k _ e => .inr e))⟩
  have hne1 : ¬ b = b2 := hbb
  have hne2 : ¬ b2 = b := Ne.symm hbb
  unfold nodeO at hn hn2
  have c1 := cell_of_heap hn
  have z1 := frozen_of_heap hn
  have c2' := cell_of_heap hn2
  have z2 := frozen_of_heap hn2
  clear m1 m2 mL j1 j2 j3 ir il2 ir2 nr nl2 nr2 hB K0 hn hn2 hL hbb hLb hLb2
  go_enter Yba.func18, Yba.ntmps18
  go_wp2_with (first
    | (go_at_call_of 17 b; rw [← hW]; refine f1.mono ?_; rintro e w2 ⟨rfl, T2, _, K2⟩; have f3 := f2 w2 T2 K2; clear f2 f1)
    | (go_at_call_of 17 b2; refine f3.mono ?_; rintro e w3 ⟨rfl, T3, K3⟩))
  go_ret
  exact ⟨rfl, T3, K3⟩

set_option maxRecDepth 100000 in
set_option maxHeartbeats 800000 in
theorem rotL19 (L b b2 h : Nat) (root l l2 r2 : Option Addr) (sl sc room seed a c q s0 s1 s2 a2 c2 q2 t0 t1 t2 : Int) (s3 t3 : Bool) (ls l2s r2s : List (Nat × Int × Int)) (w : World) (hL : w.heap[L]? = some (.cells (ledO root sl sc room seed) 43 (0, 0)))
    (hn : w.heap[b]? = some (.cells (nodeO a c q l (some ⟨b2, 0, none⟩) s0 s1 s2 s3) 54 (0, 0))) (hn2 : w.heap[b2]? = some (.cells (nodeO a2 c2 q2 l2 r2 t0 t1 t2 t3) 54 (0, 0)))
    (il : IsT sl sc w h l ls) (il2 : IsT sl sc w h l2 l2s) (ir2 : IsT sl sc w h r2 r2s) (hbb : b ≠ b2) (hLb : L ≠ b) (hLb2 : L ≠ b2)
    (nl : ∀ x ∈ ls, x.1 ≠ b ∧ x.1 ≠ b2) (nl2 : ∀ x ∈ l2s, x.1 ≠ b ∧ x.1 ≠ b2) (nr2 : ∀ x ∈ r2s, x.1 ≠ b ∧ x.1 ≠ b2) (hB : Bnd sl sc ((pl ls ++ (a, c) :: pl l2s) ++ (a2, c2) :: pl r2s)) :
    Calls Yba.prog 19 #[.pointer (some ⟨L, 0, none⟩), .pointer (some ⟨b, 0, none⟩)] w fun e w' => e = .returned (.pointer (some ⟨b2, 0, none⟩)) ∧
      IsT sl sc w' (h + 1 + 1) (some ⟨b2, 0, none⟩) ((ls ++ (b, a, c) :: l2s) ++ (b2, a2, c2) :: r2s) ∧ Kept (fun k => k = b ∨ k = b2) w w' := by
  obtain ⟨W, hW⟩ : ∃ W, W = (w.setCell ⟨b, 4, none⟩ (.pointer l2)).setCell ⟨b2, 3, none⟩ (.pointer (some ⟨b, 0, none⟩)) := ⟨_, rfl⟩
  have K0 : Kept (fun k => k = b ∨ k = b2) w W := hW ▸ ((Kept.setCell (Kept.setCell (Kept.refl (fun k => k = b ∨ k = b2) w) ⟨b, 4, none⟩ (.pointer l2) (.inl (.inl rfl))) ⟨b2, 3, none⟩ (.pointer (some ⟨b, 0, none⟩)) (.inl (.inr rfl))))
  have m1 : W.heap[b]? = some (.cells (nodeO a c q l l2 s0 s1 s2 s3) 54 (0, 0)) := by
    rw [hW, heap_setCell_off _ (by simpa using hbb)]
    exact put_right hn
  have m2 : W.heap[b2]? = some (.cells (nodeO a2 c2 q2 (some ⟨b, 0, none⟩) r2 t0 t1 t2 t3) 54 (0, 0)) := by
    rw [hW]
    refine put_left (l := l2) ?_
    rw [heap_setCell_off _ (by simpa using Ne.symm hbb)]
    exact hn2
  have mL := K0.heap hL (by rintro (e | e); exact hLb e; exact hLb2 e)
  have j1 := K0.isT il (fun x hx e => by rcases e with e | e; exact (nl x hx).1 e; exact (nl x hx).2 e)
  have j2 := K0.isT il2 (fun x hx e => by rcases e with e | e; exact (nl2 x hx).1 e; exact (nl2 x hx).2 e)
  have j3 := K0.isT ir2 (fun x hx e => by rcases e with e | e; exact (nr2 x hx).1 e; exact (nr2 x hx).2 e)
  have f1 := fix17 L b root l l2 sl sc room seed a c q s0 s1 s2 s3 h ls l2s W mL m1 j1 j2 hB.left (fun x hx => (nl x hx).1) (fun x hx => (nl2 x hx).1)
  have f2 : ∀ w2, IsT sl sc w2 (h + 1) (some ⟨b, 0, none⟩) (ls ++ (b, a, c) :: l2s) → Kept (fun k => k = b) W w2 →
      Calls Yba.prog 17 #[.pointer (some ⟨L, 0, none⟩), .pointer (some ⟨b2, 0, none⟩)] w2 fun e w' => e = .returned (.tuple #[]) ∧
        IsT sl sc w' (h + 1 + 1) (some ⟨b2, 0, none⟩) ((ls ++ (b, a, c) :: l2s) ++ (b2, a2, c2) :: r2s) ∧ Kept (fun k => k = b ∨ k = b2) w w' := fun w2 T K => by
    refine (fix17 L b2 root (some ⟨b, 0, none⟩) r2 sl sc room seed a2 c2 q2 t0 t1 t2 t3 (h + 1) (ls ++ (b, a, c) :: l2s) r2s w2 (K.heap mL hLb) (K.heap m2 (Ne.symm hbb)) T (IsT.succ (K.isT j3 (fun x hx => (nr2 x hx).1))) (by rw [pl_parts]; exact hB) (fun x hx => ?_) (fun x hx => (nr2 x hx).2)).mono ?_
    · simp only [List.mem_append, List.mem_cons] at hx
      rcases hx with hx | rfl | hx
      · exact (nl x hx).2
      · exact hbb
      · exact (nl2 x hx).2
    · rintro e w' ⟨he, T', _, K'⟩
      exact ⟨he, T', (K0.trans (K.mono (fun k _ e => .inl e))).trans (K'.mono (fun k _ e => .inr e))⟩
  have hne1 : ¬ b = b2 := hbb
  have hne2 : ¬ b2 = b := Ne.symm hbb
  unfold nodeO at hn hn2
  have c1 := cell_of_heap hn
  have z1 := frozen_of_heap hn
  have c2' := cell_of_heap hn2
  have z2 := frozen_of_heap hn2
  clear m1 m2 mL j1 j2 j3 il il2 ir2 nl nl2 nr2 hB K0 hn hn2 hL hbb hLb hLb2
  go_enter Yba.func19, Yba.ntmps19
  go_wp2_with (first
    | (go_at_call_of 17 b; rw [← hW]; refine f1.mono ?_; rintro e w2 ⟨rfl, T2, _, K2⟩; have f3 := f2 w2 T2 K2; clear f2 f1)
    | (go_at_call_of 17 b2; refine f3.mono ?_; rintro e w3 ⟨rfl, T3, K3⟩))
  go_ret
  exact ⟨rfl, T3, K3⟩
end Go.Proofs.Ybulkdtfu
