/- The map of closers: its keys are interface values that hold pointers to blocks of the call's own, block C + i at place i. -/
import Derived.Test.YbulkdtdcCloser
import Derived.LaidEqlPtr
import Derived.Maps.RangeWalk
namespace Go.Proofs.Ybulkdtdc
open Go.RowKit

def keyAt (C i : Nat) : Value := .iface 53 (.pointer (some ⟨C + i, 0, none⟩))
def entAt (C i : Nat) : MapEntry := ⟨keyAt C i, .agg #[], i⟩
def ents (C n : Nat) : Array MapEntry := ((List.range n).map (entAt C)).toArray

theorem ents_size (C n : Nat) : (ents C n).size = n := by simp [ents]
theorem ents_succ (C n : Nat) : ents C (n + 1) = (ents C n).push (entAt C n) := by
  simp [ents, List.range_succ]
theorem ents_toList (C n : Nat) : (ents C n).toList = (List.range n).map (entAt C) := by simp [ents]

/-- Block b is a row of cells of which none is frozen. -/
def HasRow (w : World) (b : Nat) : Prop := ∃ cs t, w.heap[b]? = some (.cells cs t (0, 0))

theorem info53a : (Yba.prog.info? 53).map (fun i => i.comparable) = some true := by kernel_rfl
theorem info56a : (Yba.prog.info? 56).map (fun i => i.size) = some 6 := by kernel_rfl
theorem info53 : ∃ i, Yba.prog.info? 53 = some i ∧ i.comparable = true := Option.map_eq_some_iff.1 info53a
theorem info56 : ∃ i, Yba.prog.info? 56 = some i ∧ i.size ≠ 0 := by
  obtain ⟨i, h1, h2⟩ := Option.map_eq_some_iff.1 info56a
  exact ⟨i, h1, by omega⟩

theorem check_key (w : World) (em : Bool) (d C i : Nat) : (Instr.checkKey em (d + 2) 64 (keyAt C i)).run Yba.prog w = .ok () w := by
  obtain ⟨j, hj, hc⟩ := info53
  simp [Instr.checkKey, keyAt, run_underlying Yba.underlying64, run_underlying Yba.underlying53, typeInfo, hj, hc]

theorem eq_same (w : World) (C i : Nat) : (Op.equal 64 (keyAt C i) (keyAt C i)).run Yba.prog w = .ok true w := by
  obtain ⟨j, hj, hc⟩ := info53
  obtain ⟨k, hk, hs⟩ := info56
  exact run_equalIn_iface_ptr_same w 9998 _ Yba.underlying64 Yba.underlying53 hj hc hk

theorem eq_other (w : World) (C i j : Nat) (hne : i ≠ j) (hi : HasRow w (C + i)) (hj : HasRow w (C + j)) : (Op.equal 64 (keyAt C i) (keyAt C j)).run Yba.prog w = .ok false w := by
  obtain ⟨a, ha, hc⟩ := info53
  obtain ⟨k, hk, hs⟩ := info56
  obtain ⟨_, _, h1⟩ := hi
  obtain ⟨_, _, h2⟩ := hj
  have hab : (⟨C + i, 0, none⟩ : Addr) ≠ ⟨C + j, 0, none⟩ := by
    intro e
    injection e
    omega
  exact run_equalIn_iface_ptr_other w 9998 Yba.underlying64 Yba.underlying53 ha hc hk hs hab h1 h2

theorem asking_absent (w : World) (C i : Nat) (hi : HasRow w (C + i)) : ∀ (l : List Nat) (s : Nat), (∀ j ∈ l, j ≠ i ∧ HasRow w (C + j)) →
    (Instr.findAsking 64 (keyAt C i) (l.map (entAt C)) s).run Yba.prog w = .ok none w
  | [], _, _ => by simp [Instr.findAsking]
  | j :: l, s, h => by
    have h1 := h j (by simp)
    have e := eq_other w C i j (Ne.symm h1.1) hi h1.2
    have ih := asking_absent w C i hi l (s + 1) (fun k hk => h k (by simp [hk]))
    simp only [List.map_cons, Instr.findAsking, entAt, Sem.run_bind, e, Result.andThen]
    simpa using ih

theorem asking_present (w : World) (C i : Nat) (hi : HasRow w (C + i)) : ∀ (l : List Nat) (s : Nat), (∀ j ∈ l, HasRow w (C + j)) → i ∈ l →
    ∃ k, (Instr.findAsking 64 (keyAt C i) (l.map (entAt C)) s).run Yba.prog w = .ok (some (k, .agg #[])) w
  | [], _, _, hm => by simp at hm
  | j :: l, s, h, hm => by
    by_cases hji : j = i
    · subst hji
      have e := eq_same w C j
      refine ⟨s, ?_⟩
      simp only [List.map_cons, Instr.findAsking, entAt, Sem.run_bind, e, Result.andThen]
      simp
    · have e := eq_other w C i j (Ne.symm hji) hi (h j (by simp))
      obtain ⟨k, ih⟩ := asking_present w C i hi l (s + 1) (fun k hk => h k (by simp [hk])) (by
        rcases List.mem_cons.1 hm with h1 | h1
        · exact absurd h1.symm hji
        · exact h1)
      refine ⟨k, ?_⟩
      simp only [List.map_cons, Instr.findAsking, entAt, Sem.run_bind, e, Result.andThen]
      simpa using ih

theorem find_absent (w : World) (C n : Nat) (hi : ∀ j, j ≤ n → HasRow w (C + j)) : (Instr.findKey 64 (keyAt C n) (ents C n).toList).run Yba.prog w = .ok none w := by
  have h := asking_absent w C n (hi n (Nat.le_refl _)) (List.range n) 0 (fun j hj => by
    have := List.mem_range.1 hj
    exact ⟨by omega, hi j (by omega)⟩)
  rw [ents_toList]
  cases hl : List.range n with
  | nil => simp [Instr.findKey, run_underlying Yba.underlying64, Instr.findNow]
  | cons j l =>
    rw [hl] at h
    simp only [Instr.findKey, Sem.run_bind, run_underlying Yba.underlying64, Result.andThen, List.map_cons, Instr.findNow, Instr.sameNow, keyAt, entAt]
    simpa [keyAt, entAt] using h

theorem find_present (w : World) (C n i : Nat) (hi : ∀ j, j < n → HasRow w (C + j)) (hin : i < n) : ∃ k, (Instr.findKey 64 (keyAt C i) (ents C n).toList).run Yba.prog w = .ok (some (k, .agg #[])) w := by
  obtain ⟨k, h⟩ := asking_present w C i (hi i hin) (List.range n) 0 (fun j hj => hi j (List.mem_range.1 hj)) (List.mem_range.2 hin)
  refine ⟨k, ?_⟩
  rw [ents_toList]
  cases hl : List.range n with
  | nil =>
    have := congrArg List.length hl
    simp at this
    omega
  | cons j l =>
    rw [hl] at h
    simp only [Instr.findKey, Sem.run_bind, run_underlying Yba.underlying64, Result.andThen, List.map_cons, Instr.findNow, Instr.sameNow, keyAt, entAt]
    simpa [keyAt, entAt] using h
open Go.ChangeMaps (setBlock)

/-- 's.open[c] = struct{}{}', c a new closer. -/
theorem run_put (w : World) (M C n : Nat) (hM : w.heap[M]? = some (.map (ents C n) n)) (hi : ∀ j, j ≤ n → HasRow w (C + j)) :
    (Instr.mapUpdate 26 (.map (some M)) (keyAt C n) (.agg #[])).run Yba.prog w = .ok () (setBlock w M (.map (ents C (n + 1)) (n + 1))) := by
  have hf := find_absent w C n hi
  have hc := check_key w false 9998 C n
  simp only [Instr.mapUpdate, Sem.run_bind, run_underlying Yba.underlying26, Result.andThen, MapKept.run_getObj_map hM, hc, hf, MapKept.run_setObj_map _ hM, ents_succ, entAt]
  rfl

/-- '_, ok := s.open[c]', c a closer that was put in. -/
theorem run_look (w : World) (M C n i : Nat) (hM : w.heap[M]? = some (.map (ents C n) n)) (hi : ∀ j, j < n → HasRow w (C + j)) (hin : i < n) :
    (Instr.lookup 26 (.map (some M)) (keyAt C i) true).run Yba.prog w = .ok (.tuple #[.agg #[], .bool true]) w := by
  obtain ⟨k, hf⟩ := find_present w C n i hi hin
  have hc := fun em => check_key w em 9998 C i
  simp only [Instr.lookup, Sem.run_bind, run_underlying Yba.underlying26, Result.andThen, MapKept.run_getObj_map hM, hc, hf, Sem.run_pure]
  rfl
end Go.Proofs.Ybulkdtdc
