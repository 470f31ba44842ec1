/- The walk of the law's flat. -/
import Derived.Test.YbulkdtfuChange2
namespace Go.Proofs.Ybulkdtfu
open Go.RowKit

/-- The records below p, in the order in which flat meets them: k of them, their cells vs; every node lies below block B. -/
def FlatIs (B : Nat) (w : World) : Nat → Option Addr → Nat → List Value → Prop
  | 0, p, k, vs => p = none ∧ k = 0 ∧ vs = []
  | h + 1, p, k, vs => (p = none ∧ k = 0 ∧ vs = []) ∨ ∃ (b : Nat) (a c q : Int) (l r : Option Addr) (s0 s1 s2 : Int) (s3 : Bool) (k1 k2 : Nat) (v1 v2 : List Value), p = some ⟨b, 0, none⟩ ∧ b < B ∧
      w.heap[b]? = some (.cells (nodeO a c q l r s0 s1 s2 s3) 54 (0, 0)) ∧ FlatIs B w h l k1 v1 ∧ FlatIs B w h r k2 v2 ∧ k = 1 + k1 + k2 ∧
      vs = [.pointer (some ⟨b, 0, none⟩), .int .i64 a, .int .i64 c, .int .u64 q, .pointer l, .pointer r, .int .i64 s0, .int .u64 s1, .int .u64 s2, .bool s3] ++ v1 ++ v2

theorem FlatIs.below {B : Nat} {w w' : World} (hb : Below B w w') : ∀ {h : Nat} {p : Option Addr} {k : Nat} {vs : List Value}, FlatIs B w h p k vs → FlatIs B w' h p k vs
  | 0, _, _, _, h => h
  | _ + 1, _, _, _, h => by
    rcases h with h | ⟨b, a, c, q, l, r, s0, s1, s2, s3, k1, k2, v1, v2, h1, h2, h3, h4, h5, h6⟩
    · exact .inl h
    · exact .inr ⟨b, a, c, q, l, r, s0, s1, s2, s3, k1, k2, v1, v2, h1, h2, by rw [hb.block b h2]; exact h3, FlatIs.below hb h4, FlatIs.below hb h5, h6⟩

theorem FlatIs.of {sl sc : Int} {B : Nat} {w : World} : ∀ {h : Nat} {p : Option Addr} {xs : List (Nat × Int × Int)}, IsT sl sc w h p xs → (∀ x ∈ xs, x.1 < B) → ∃ vs, FlatIs B w h p xs.length vs
  | 0, _, _, h, _ => ⟨[], h.1, by rw [h.2]; rfl, rfl⟩
  | _ + 1, _, _, h, hx => by
    rcases h with h | ⟨b, a, c, q, l, r, ls, rs, h1, h2, h3, h4, h5⟩
    · exact ⟨[], .inl ⟨h.1, by rw [h.2]; rfl, rfl⟩⟩
    · obtain ⟨v1, f1⟩ := FlatIs.of h4 (fun x hm => hx x (by rw [h2]; simp [hm]))
      obtain ⟨v2, f2⟩ := FlatIs.of h5 (fun x hm => hx x (by rw [h2]; simp [hm]))
      exact ⟨_, .inr ⟨b, a, c, q, l, r, _, _, _, _, ls.length, rs.length, v1, v2, h1, hx (b, a, c) (by rw [h2]; simp), h3, f1, f2, by rw [h2]; simp; omega, rfl⟩⟩

theorem own_grow {w w' : World} {B : Nat} {e : TypeId} {size : Nat} {v : Value} {n : Nat} {xs : List Value} (h : w.ownsRow B e size v n xs) (g : Grows w w') : w'.ownsRow B e size v n xs := by
  refine ⟨h.1, ?_⟩
  rcases h.2 with h2 | ⟨gb, cap, cur, h1, h2, h3, h4⟩
  · exact .inl h2
  · exact .inr ⟨gb, cap, cur, h1, h2, g.heap h3, h4⟩

theorem own_block {w : World} {B : Nat} {e : TypeId} {size : Nat} {v : Value} {n : Nat} {xs : List Value} (h : w.ownsRow B e size v n xs) : ∀ k, v.ownBlock = some k → B ≤ k := by
  intro k hk
  rcases h.2 with ⟨rfl, _⟩ | ⟨gb, cap, cur, rfl, h2, _⟩
  · cases hk
  · simp [Value.ownBlock] at hk
    omega

theorem info56 : (Yba.prog.info? 56).map (fun i => (i.zero, i.size, i.bytes)) = some (some (.agg #[.pointer none, .int .i64 0, .int .i64 0, .int .u64 0, .pointer none, .pointer none, .int .i64 0, .int .u64 0, .int .u64 0, .bool false]), 10, 80) := by kernel_rfl

set_option maxRecDepth 100000 in
set_option maxHeartbeats 400000 in
theorem flat_nil (v : Value) (w : World) : Calls Yba.prog 11 #[.pointer none, v] w fun e w' => e = .returned v ∧ w' = w := by
  go_enter Yba.func11, Yba.ntmps11
  go_wp2
  go_ret
  exact ⟨rfl, rfl⟩

set_option maxRecDepth 100000 in
set_option maxHeartbeats 1600000 in
theorem flat_node (B b n k1 k2 : Nat) (a c q : Int) (l r : Option Addr) (s0 s1 s2 : Int) (s3 : Bool) (v1 v2 xs : List Value) (v : Value) (w : World) (hb : b < B)
    (hn : w.heap[b]? = some (.cells (nodeO a c q l r s0 s1 s2 s3) 54 (0, 0))) (hown : w.ownsRow B 56 10 v n xs) (hB : B ≤ w.heap.size) (hk : n + (1 + k1 + k2) ≤ 4096)
    (ihl : ∀ (w1 : World) (u : Value) (m : Nat) (ys : List Value), Below B w w1 → w1.ownsRow B 56 10 u m ys → m + k1 ≤ 4096 → Calls Yba.prog 11 #[.pointer l, u] w1 fun e w' => ∃ v', e = .returned v' ∧ w'.ownsRow B 56 10 v' (m + k1) (ys ++ v1) ∧ Below B w1 w')
    (ihr : ∀ (w1 : World) (u : Value) (m : Nat) (ys : List Value), Below B w w1 → w1.ownsRow B 56 10 u m ys → m + k2 ≤ 4096 → Calls Yba.prog 11 #[.pointer r, u] w1 fun e w' => ∃ v', e = .returned v' ∧ w'.ownsRow B 56 10 v' (m + k2) (ys ++ v2) ∧ Below B w1 w') :
    Calls Yba.prog 11 #[.pointer (some ⟨b, 0, none⟩), v] w fun e w' => ∃ v', e = .returned v' ∧ w'.ownsRow B 56 10 v' (n + (1 + k1 + k2)) (xs ++ ([.pointer (some ⟨b, 0, none⟩), .int .i64 a, .int .i64 c, .int .u64 q, .pointer l, .pointer r, .int .i64 s0, .int .u64 s1, .int .u64 s2, .bool s3] ++ v1 ++ v2)) ∧ Below B w w' := by
  obtain ⟨i0, hi, hz0, hz1, hz2⟩ := info_parts info56
  unfold nodeO at hn
  have c1 := cell_of_heap hn
  obtain ⟨W, hW⟩ : ∃ W, W = w.alloc (.cells #[.pointer (some ⟨b, 0, none⟩), .int .i64 a, .int .i64 c, .int .u64 q, .pointer l, .pointer r, .int .i64 s0, .int .u64 s1, .int .u64 s2, .bool s3] 56) := ⟨_, rfl⟩
  have gW : Grows w W := hW ▸ ((Grows.refl w).alloc _)
  have hown1 := own_grow hown gW
  have hnew : W.heap[w.heap.size]? = _ := hW ▸ heap_new (w := w) (.cells #[.pointer (some ⟨b, 0, none⟩), .int .i64 a, .int .i64 c, .int .u64 q, .pointer l, .pointer r, .int .i64 s0, .int .u64 s1, .int .u64 s2, .bool s3] 56) rfl
  have hcn : ∀ j u, [Value.pointer (some ⟨b, 0, none⟩), .int .i64 a, .int .i64 c, .int .u64 q, .pointer l, .pointer r, .int .i64 s0, .int .u64 s1, .int .u64 s2, .bool s3][j]? = some u → W.cell? ((⟨w.heap.size, 0, none⟩ : Addr).add j) = some u := fun j u hu => by
    have hadd : (⟨w.heap.size, 0, none⟩ : Addr).add j = ⟨w.heap.size, j, none⟩ := by cases j <;> simp [Addr.add]
    rw [hadd, cell_of_heap hnew j]
    simpa using hu
  have one1 : ∀ u ∈ [Value.pointer (some ⟨b, 0, none⟩), .int .i64 a, .int .i64 c, .int .u64 q, .pointer l, .pointer r, .int .i64 s0, .int .u64 s1, .int .u64 s2, .bool s3], u.oneCell' = true := fun u hu => by
    simp only [List.mem_cons, List.not_mem_nil, or_false] at hu
    rcases hu with rfl | rfl | rfl | rfl | rfl | rfl | rfl | rfl | rfl | rfl <;> rfl
  have hBW : Below B w W := Below.mono gW hB
  have hsW : B ≤ W.heap.size := Nat.le_trans hB hBW.size
  have hkH : Hid (n + (1 + k1 + k2) ≤ 4096) := hk
  clear hk
  go_enter Yba.func11, Yba.ntmps11
  go_wp2_with (first
    | (at_builtin; rw [← hW]; refine wpList_append_own W rfl (.tmp 8) (.tmp 14) 48 rfl B 56 i0 _ 10 80 Yba.underlying48 hi hz0 hz1 hz2 rfl (by decide) v n xs rfl hown1 ⟨w.heap.size, 0, none⟩ 1 1 _ rfl rfl hcn one1 (by have := hkH.out; unfold maxLen; omega) (by have := hkH.out; omega) hsW ?_; intro v' w1 hown2 hg1 hv1; have B1 := hBW.grown hg1 hsW (own_block hown1); have e1 := cell_of_heap ((B1.block b hb).trans hn); clear hg1 hv1)
    | (go_at_call_of 11 l; refine (ihl w1 v' _ _ B1 hown2 (by have := hkH.out; omega)).mono ?_; rintro e w2 ⟨u2, rfl, hown3, B2⟩; have e2 := cell_of_heap (((B1.trans B2).block b hb).trans hn))
    | (go_at_call_of 11 r; refine (ihr w2 u2 _ _ (B1.trans B2) hown3 (by have := hkH.out; omega)).mono ?_; rintro e w3 ⟨u3, rfl, hown4, B3⟩))
  go_ret
  exact ⟨u3, rfl, by
    have e9 : n + 1 + k1 + k2 = n + (1 + k1 + k2) := by omega
    rw [e9] at hown4
    simpa using hown4, (B1.trans B2).trans B3⟩

theorem flat11 (B : Nat) : ∀ (h : Nat) (p : Option Addr) (k : Nat) (vs : List Value) (w : World) (v : Value) (n : Nat) (xs : List Value), FlatIs B w h p k vs → w.ownsRow B 56 10 v n xs → B ≤ w.heap.size → n + k ≤ 4096 →
    Calls Yba.prog 11 #[.pointer p, v] w fun e w' => ∃ v', e = .returned v' ∧ w'.ownsRow B 56 10 v' (n + k) (xs ++ vs) ∧ Below B w w' := by
  have nilc : ∀ (v : Value) (w : World) (n : Nat) (xs : List Value), w.ownsRow B 56 10 v n xs → Calls Yba.prog 11 #[.pointer none, v] w fun e w' => ∃ v', e = .returned v' ∧ w'.ownsRow B 56 10 v' (n + 0) (xs ++ []) ∧ Below B w w' := fun v w n xs ho =>
    (flat_nil v w).mono fun e w' ⟨he, hw⟩ => ⟨v, he, by subst hw; simpa using ho, by subst hw; exact Below.refl _ _⟩
  intro h
  induction h with
  | zero =>
    intro p k vs w v n xs hf ho hB hk
    obtain ⟨rfl, rfl, rfl⟩ := hf
    exact nilc v w n xs ho
  | succ h ih =>
    intro p k vs w v n xs hf ho hB hk
    rcases hf with ⟨rfl, rfl, rfl⟩ | ⟨b, a, c, q, l, r, s0, s1, s2, s3, k1, k2, v1, v2, rfl, hb, hn, f1, f2, rfl, rfl⟩
    · exact nilc v w n xs ho
    · exact flat_node B b n k1 k2 a c q l r s0 s1 s2 s3 v1 v2 xs v w hb hn ho hB hk
        (fun w1 u m ys b1 ho1 hm => ih l k1 v1 w1 u m ys (f1.below b1) ho1 (Nat.le_trans hB b1.size) hm) (fun w1 u m ys b1 ho1 hm => ih r k2 v2 w1 u m ys (f2.below b1) ho1 (Nat.le_trans hB b1.size) hm)
end Go.Proofs.Ybulkdtfu
