/- slices.Clone, slices.Equal at []*lockState, and keepState: their contracts. -/
import Derived.Test.YbulkdtfgRows
import Derived.WalkKit
import Derived.WalkSpells
import Derived.WalkLawsBesides
import Derived.BigQuiet
import Derived.Deep.QuietTactic
import Derived.LaidEqlPtr
import Derived.KernelRfl
namespace Go.Proofs.Ybulkdtfg
open Go.RowKit

theorem info24 : (Yba.prog.info? 24).map (fun i => (i.zero, i.size, i.bytes)) = some (some (.pointer none), 1, 8) := by kernel_rfl
theorem info34 : (Yba.prog.info? 34).map (fun i => i.size) = some 4 := by kernel_rfl

/-- '!=' of a pointer and itself. -/
theorem neq_same (w : World) (a : Addr) : (binOp .neq 24 (.pointer (some a)) (.pointer (some a))).run Yba.prog w = .ok (.bool false) w := by
  obtain ⟨j, hj, _⟩ := Option.map_eq_some_iff.1 info34
  have h : ∀ d : Nat, (Op.equalIn (d + 1) 24 (.pointer (some a)) (.pointer (some a))).run Yba.prog w = .ok true w := fun d => by
    simp [Op.equalIn, run_underlying Yba.underlying24, sizeOf, typeInfo, hj, run_sameAddr_same]
  simp only [binOp]
  simp [Op.equal, Op.maxDepth, h 9999]

/-- The pointers p 0 .. p (n - 1), as cells. -/
def ptrs (p : Nat → Addr) (n : Nat) : List Value := (List.range n).map fun i => .pointer (some (p i))
theorem ptrs_length (p : Nat → Addr) (n : Nat) : (ptrs p n).length = n := by simp [ptrs]
theorem ptrs_get (p : Nat → Addr) (n i : Nat) (h : i < n) : (ptrs p n)[i]? = some (.pointer (some (p i))) := by simp [ptrs, h]
theorem ptrs_one (p : Nat → Addr) (n : Nat) : ∀ u ∈ ptrs p n, u.oneCell' = true := by
  intro u hu
  obtain ⟨i, _, rfl⟩ := List.mem_map.1 hu
  rfl
theorem ptrs_succ (p : Nat → Addr) (n : Nat) : ptrs p n ++ [.pointer (some (p n))] = ptrs p (n + 1) := by simp [ptrs, List.range_succ]

set_option maxRecDepth 100000 in
set_option maxHeartbeats 400000 in
theorem clone4 (b n cap : Nat) (p : Nat → Addr) (w : World) (hn : n ≤ 1000) (hc : ∀ i, i < n → w.cell? ⟨b, i, none⟩ = some (.pointer (some (p i)))) :
    Calls Yba.prog 4 #[.slice (some ⟨b, 0, none⟩) n cap] w fun e w' => ∃ g c', e = .returned (.slice (some ⟨g, 0, none⟩) n c') ∧ w.heap.size ≤ g ∧ (∀ i, i < n → w'.cell? ⟨g, i, none⟩ = some (.pointer (some (p i)))) ∧ g < w'.heap.size ∧ Below w.heap.size w w' := by
  have hnil := fun w => Lib.run_eql_slice_nil (P := Yba.prog) w 23 24 (some ⟨b, 0, none⟩) n cap 0 0 Yba.underlying23
  obtain ⟨i0, hi, hz0, hz1, hz2⟩ := info_parts info24
  have hcn : ∀ (o : Obj) j u, (ptrs p n)[j]? = some u → (w.alloc o).cell? ((⟨b, 0, none⟩ : Addr).add j) = some u := by
    intro o j u hu
    have hj : j < n := by
      have := (List.getElem?_eq_some_iff.1 hu).1
      rwa [ptrs_length] at this
    have ha : (⟨b, 0, none⟩ : Addr).add j = ⟨b, j, none⟩ := by
      unfold Addr.add
      by_cases h0 : j = 0 <;> simp [h0]
    rw [ptrs_get _ _ _ hj] at hu
    rw [ha, World.cell?_of_block (w := w) (Below.heap_alloc w o _ (World.block_lt_of_cell? _ _ (hc j hj))), hc j hj]
    exact hu
  have hown0 := World.ownsRow_lit (base := w.heap.size) (e := 24) (size := 1) w #[] 0 (Nat.le_refl _) (by unfold maxLen; omega) rfl
  go_enter Yba.func4, Yba.ntmps4
  go_wp2_with (first
    | (at_builtin; refine wpList_append_own _ rfl (.tmp 5) (.tmp 6) 23 rfl w.heap.size 24 i0 (.pointer none) 1 8 Yba.underlying23 hi hz0 hz1 hz2 rfl (by decide) (.slice (some ⟨w.heap.size, 0, none⟩) 0 0) 0 [] rfl hown0 ⟨b, 0, none⟩ n cap (ptrs p n) rfl (by rw [ptrs_length, Nat.mul_one]) (hcn _) (ptrs_one p n) (by unfold maxLen; omega) (by omega) (by simp) ?_; intro v' w1 hown1 hg1 hv1))
  have hb1 : Below w.heap.size w w1 := ((Below.refl _ _).alloc (Nat.le_refl _) _).grown hg1 (by simp) (fun k hk => by simp [Value.ownBlock] at hk; omega)
  have hex : ∃ g c', v' = .slice (some ⟨g, 0, none⟩) n c' ∧ w.heap.size ≤ g ∧ (∀ i, i < n → w1.cell? ⟨g, i, none⟩ = some (.pointer (some (p i)))) ∧ g < w1.heap.size := by
    rcases hown1.2 with ⟨h0, _⟩ | ⟨g, c', cur, h1, h2, h3, _⟩
    · exact absurd h0 (by simpa using hv1)
    · refine ⟨g, c', by simpa using h1, h2, fun i hi => ?_, (Array.getElem?_eq_some_iff.1 h3).1⟩
      have := (h1 ▸ hown1).cellAt i (by omega)
      rw [this]
      simpa using ptrs_get p n i hi
  obtain ⟨g, c', rfl, h2, h3, h4⟩ := hex
  go_ret
  exact ⟨g, ⟨c', rfl⟩, h2, h3, h4, hb1⟩

set_option maxRecDepth 100000 in
set_option maxHeartbeats 400000 in
theorem equal6 (b1 b2 n c1 c2 : Nat) (p : Nat → Addr) (w : World) (hn : n ≤ 1000) (h1 : ∀ i, i < n → w.cell? ⟨b1, i, none⟩ = some (.pointer (some (p i)))) (h2 : ∀ i, i < n → w.cell? ⟨b2, i, none⟩ = some (.pointer (some (p i)))) :
    Calls Yba.prog 6 #[.slice (some ⟨b1, 0, none⟩) n c1, .slice (some ⟨b2, 0, none⟩) n c2] w fun e w' => e = .returned (.bool true) ∧ ∃ k, w' = w.drewN k := by
  have hne := neq_same
  go_enter Yba.func6, Yba.ntmps6
  go_wp2
  go_loopw [13] (fun i wr => ∃ k : Nat, k ≤ n ∧ i = .int .i64 k ∧ ∃ q, wr = w.drewN q) (fun i _ => n - (intOf i).toNat)
  case atStart => exact ⟨0, Nat.zero_le _, rfl, 0, rfl⟩
  case round =>
    obtain ⟨k, hk, rfl, q, rfl⟩ := hrel
    by_cases hlt : k < n
    · have g1 : (w.drewN q).cell? ⟨b1, k, none⟩ = some (.pointer (some (p k))) := h1 k hlt
      have g2 : (w.drewN q).cell? ⟨b2, k, none⟩ = some (.pointer (some (p k))) := h2 k hlt
      have hltI : (k : Int) < (n : Int) := by omega
      go_wp2
      go_quiet (fail)
      go_wp2
      exact ⟨⟨k + 1, by omega, by go_num, _, rfl⟩, by simp [intOf]; omega⟩
    · go_wp2
      go_ret
      exact ⟨rfl, q, rfl⟩

set_option maxRecDepth 100000 in
set_option maxHeartbeats 400000 in
/-- keepState at a full spare: it answers false, and nothing turns. -/
theorem keep5_full (sb tb n : Nat) (a : Option Addr) (cap : Nat) (w : World) (hne : ((n : Int) == 128) = true) (h3 : w.cell? ⟨sb, 3, none⟩ = some (.slice a n cap)) :
    Calls Yba.prog 5 #[.pointer (some ⟨sb, 0, none⟩), .pointer (some ⟨tb, 0, none⟩)] w fun e w' => e = .returned (.bool false) ∧ w' = w := by
  go_enter Yba.func5, Yba.ntmps5
  go_wp2
  go_ret
  exact ⟨rfl, rfl⟩

theorem grown_setCell (w : World) (a : Addr) (u : Value) : w.grownBy (w.setCell a u) (some a.block) :=
  ⟨rfl, rfl, rfl, by simp [World.setCell], fun k _ hk => Below.heap_setCell w a u k (fun e => hk (by rw [e]))⟩

theorem heap_setCell_at {w : World} {b o : Nat} {cs : Array Value} {t : TypeId} {fz : Nat × Nat} (v : Value) (h : w.heap[b]? = some (.cells cs t fz)) :
    (w.setCell ⟨b, o, none⟩ v).heap[b]? = some (.cells (cs.setIfInBounds o v) t fz) := by
  simp only [World.setCell, Array.getElem?_modify, h]
  simp

/-- A store that puts back what was there. -/
theorem setCell_same {w : World} {b o : Nat} {cs : Array Value} {t : TypeId} {fz : Nat × Nat} {u : Value} (hb : w.heap[b]? = some (.cells cs t fz)) (h : cs[o]? = some u) : w.setCell ⟨b, o, none⟩ u = w := by
  have hh : (w.setCell ⟨b, o, none⟩ u).heap = w.heap := by
    apply Array.ext_getElem?
    intro k
    by_cases hk : k = b
    · subst hk
      rw [heap_setCell_at u hb, hb]
      congr 2
      apply Array.ext_getElem?
      intro j
      rw [Array.getElem?_setIfInBounds]
      by_cases hj : o = j
      · subst hj
        obtain ⟨hlt, he⟩ := Array.getElem?_eq_some_iff.1 h
        rw [if_pos rfl, if_pos hlt, h]
      · rw [if_neg hj]
    · exact Below.heap_setCell _ _ _ _ hk
  calc w.setCell ⟨b, o, none⟩ u = { w with heap := (w.setCell ⟨b, o, none⟩ u).heap } := rfl
    _ = w := by rw [hh]

/-- What keepState leaves: the row's block g and the spare's block sb may have turned, and there may be new blocks. -/
structure Kept2 (g sb : Nat) (w w' : World) : Prop where
  os : w'.os = w.os
  tape : w'.tape = w.tape
  output : w'.output = w.output
  size : w.heap.size ≤ w'.heap.size
  block : ∀ k, k < w.heap.size → k ≠ g → k ≠ sb → w'.heap[k]? = w.heap[k]?

set_option maxRecDepth 100000 in
set_option maxHeartbeats 400000 in
theorem keep5 (B sb tb n cap g : Nat) (p : Nat → Addr) (w : World) (hn : n ≤ 1000) (hne : ((n : Int) == 128) = false) (hgs : sb ≠ g) (hBw : B ≤ w.heap.size) (hpn : p n = ⟨tb, 0, none⟩)
    (hs : w.heap[sb]? = some (.cells #[.pointer none, .pointer none, .map none, .slice (some ⟨g, 0, none⟩) n cap] 42 (0, 0))) (ht : w.heap[tb]? = some (.cells #[.pointer none, .int .u8 0, .pointer none, .pointer none] 34 (0, 0)))
    (hown : w.ownsRow B 24 1 (.slice (some ⟨g, 0, none⟩) n cap) n (ptrs p n)) :
    Calls Yba.prog 5 #[.pointer (some ⟨sb, 0, none⟩), .pointer (some ⟨tb, 0, none⟩)] w fun e w' => ∃ g' cap', e = .returned (.bool true) ∧ w'.ownsRow B 24 1 (.slice (some ⟨g', 0, none⟩) (n + 1) cap') (n + 1) (ptrs p (n + 1)) ∧
      w'.heap[sb]? = some (.cells #[.pointer none, .pointer none, .map none, .slice (some ⟨g', 0, none⟩) (n + 1) cap'] 42 (0, 0)) ∧ Kept2 g sb w w' := by
  have s3 : w.cell? ⟨sb, 3, none⟩ = some (.slice (some ⟨g, 0, none⟩) n cap) := by simp [World.cell?, hs]
  have t0 : w.cell? ⟨tb, 0, none⟩ = some (.pointer none) := by simp [World.cell?, ht]
  have t1 : w.cell? ⟨tb, 1, none⟩ = some (.int .u8 0) := by simp [World.cell?, ht]
  have t2 : w.cell? ⟨tb, 2, none⟩ = some (.pointer none) := by simp [World.cell?, ht]
  have t3 : w.cell? ⟨tb, 3, none⟩ = some (.pointer none) := by simp [World.cell?, ht]
  have z0 : ∀ k, w.frozen? ⟨tb, k, none⟩ = false := fun k => by simp [World.frozen?, ht]
  have z3 : w.frozen? ⟨sb, 3, none⟩ = false := by simp [World.frozen?, hs]
  have e0 : w.setCell ⟨tb, 0, none⟩ (.pointer none) = w := setCell_same ht rfl
  have e1 : w.setCell ⟨tb, 1, none⟩ (.int .u8 0) = w := setCell_same ht rfl
  have e2 : w.setCell ⟨tb, 2, none⟩ (.pointer none) = w := setCell_same ht rfl
  have e3 : w.setCell ⟨tb, 3, none⟩ (.pointer none) = w := setCell_same ht rfl
  obtain ⟨i0, hi, hz0, hz1, hz2⟩ := info_parts info24
  have one1 : ∀ u ∈ [Value.pointer (some ⟨tb, 0, none⟩)], u.oneCell' = true := fun u hu => by
    simp at hu
    subst hu
    rfl
  have hsl : sb < w.heap.size := (Array.getElem?_eq_some_iff.1 hs).1
  have HP : Hid (p n = ⟨tb, 0, none⟩) := hpn
  clear hpn
  go_enter Yba.func5, Yba.ntmps5
  go_wp2_with (first | (at_builtin; refine wpList_append_own _ rfl (.tmp 18) (.tmp 20) 23 rfl B 24 i0 (.pointer none) 1 8 Yba.underlying23 hi hz0 hz1 hz2 rfl (by decide) (.slice (some ⟨g, 0, none⟩) n cap) n (ptrs p n) rfl (hown.alloc _) ⟨w.heap.size, 0, none⟩ 1 1 [.pointer (some ⟨tb, 0, none⟩)] rfl rfl (cell_one_new _ _ _) one1 (by unfold maxLen; omega) (by omega) (by simp; omega) ?_))
  intro v' w1 hown1 hg1 hv1
  have hex : ∃ g' cap', v' = .slice (some ⟨g', 0, none⟩) (n + 1) cap' ∧ ∃ cur, w1.heap[g']? = some (.cells cur 24 (0, 0)) := by
    rcases hown1.2 with ⟨_, h0⟩ | ⟨g', cap', cur, h1, _, h3, _⟩
    · omega
    · exact ⟨g', cap', h1, cur, h3⟩
  obtain ⟨g', cap', hvv, cur, hcur⟩ := hex
  have hs1 : w1.heap[sb]? = some (.cells #[.pointer none, .pointer none, .map none, .slice (some ⟨g, 0, none⟩) n cap] 42 (0, 0)) := by
    rw [hg1.block sb (by simp; omega) (by simp [Value.ownBlock]; exact hgs), Below.heap_alloc _ _ _ hsl]; exact hs
  have hgs' : sb ≠ g' := fun e => by
    rw [e, hcur] at hs1
    cases hs1
  have s31 : w1.cell? ⟨sb, 3, none⟩ = some (.slice (some ⟨g, 0, none⟩) n cap) := by simp [World.cell?, hs1]
  have z31 : w1.frozen? ⟨sb, 3, none⟩ = false := by simp [World.frozen?, hs1]
  have hfin : (w1.setCell ⟨sb, 3, none⟩ (.slice (some ⟨g', 0, none⟩) (n + 1) cap')).ownsRow B 24 1 (.slice (some ⟨g', 0, none⟩) (n + 1) cap') (n + 1) (ptrs p (n + 1)) := by
    rw [← ptrs_succ, HP.out]
    rw [hvv] at hown1
    exact hown1.kept (grown_setCell _ _ _) (Or.inr (by simp [Value.ownBlock]; exact fun e => hgs' e.symm))
  have hsb' : (w1.setCell ⟨sb, 3, none⟩ (.slice (some ⟨g', 0, none⟩) (n + 1) cap')).heap[sb]? = some (.cells #[.pointer none, .pointer none, .map none, .slice (some ⟨g', 0, none⟩) (n + 1) cap'] 42 (0, 0)) := heap_setCell_at _ hs1
  have hkp : Kept2 g sb w (w1.setCell ⟨sb, 3, none⟩ (.slice (some ⟨g', 0, none⟩) (n + 1) cap')) :=
    ⟨hg1.os, hg1.tape, hg1.output, by have := hg1.size; simp [World.setCell] at this ⊢; omega, fun k hk h1 h2 => by
      rw [Below.heap_setCell _ _ _ _ h2, hg1.block k (by simp; omega) (by simp [Value.ownBlock]; exact h1), Below.heap_alloc _ _ _ hk]⟩
  rw [hvv]
  clear hvv hown1 hv1 hown hs ht hs1 hcur
  go_wp2
  go_ret
  exact ⟨g', cap', rfl, hfin, hsb', hkp⟩
end Go.Proofs.Ybulkdtfg
