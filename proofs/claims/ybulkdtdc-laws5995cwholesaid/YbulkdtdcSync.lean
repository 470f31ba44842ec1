/- The lock's and the group's contracts at this dump's numbers: Lock, Unlock (the library's, by 'MuLib'), TryLock and Wait (walked here), one goroutine. -/
import Derived.Test.YbulkdtdcRows
import Derived.Conc.MuLone
import Derived.WalkKit
import Derived.WalkSpells
import Derived.WalkLawsBesides
import Derived.KernelRfl
namespace Go.Proofs.Ybulkdtdc
open Go.RowKit

abbrev muLink : Go.Conc.Locks.MuLink := { lock := 8, unlock := 7, ilock := 12, iunlock := 11, lockSlow := 27, unlockSlow := 26, disable := 13, enable := 15, acquire := 16, relMerge := 24, cas32 := 23, add32 := 25, tMutex := 42, tIMutex := 40, tPMutex := 65, tPIMutex := 76, tPI32 := 78, tUP := 70, tNoCopy := 37, tU32 := 38 }
theorem muLib : Go.Conc.Locks.MuLib Yba.prog muLink :=
  ⟨Yba.func8, Yba.func7, Yba.func12, Yba.func11, Yba.func13, Yba.func15, Yba.func16, Yba.func24, Yba.func23, Yba.func25, Yba.underlying40, Yba.runUnderlying40, Yba.sizeOf40, Yba.isAgg40, Yba.zeroValue40, Yba.underlying42, Yba.runUnderlying42, Yba.sizeOf42, Yba.isAgg42, Yba.zeroValue42, Yba.underlying65, Yba.runUnderlying65, Yba.sizeOf65, Yba.isAgg65, Yba.zeroValue65, Yba.underlying76, Yba.runUnderlying76, Yba.sizeOf76, Yba.isAgg76, Yba.zeroValue76, Yba.underlying78, Yba.runUnderlying78, Yba.sizeOf78, Yba.isAgg78, Yba.zeroValue78, Yba.underlying70, Yba.runUnderlying70, Yba.sizeOf70, Yba.isAgg70, Yba.zeroValue70, Yba.underlying37, Yba.runUnderlying37, Yba.sizeOf37, Yba.isAgg37, Yba.zeroValue37, Yba.underlying21, Yba.runUnderlying21, Yba.sizeOf21, Yba.isAgg21, Yba.zeroValue21, (by kernel_rfl)⟩

theorem disable (w : World) : (callFunc 13 #[]).run Yba.prog w = .ok (.value (.tuple #[])) w := Go.MuLone.disable muLib w
theorem enable (w : World) : (callFunc 15 #[]).run Yba.prog w = .ok (.value (.tuple #[])) w := Go.MuLone.enable muLib w
theorem acquire (a : Addr) (w : World) : (callFunc 16 #[.pointer (some a)]).run Yba.prog w = .ok (.value (.tuple #[])) w := Go.MuLone.acquire muLib a w

theorem lock8 (a : Addr) (w : World) (hc : w.cell? a = some (.int .i32 0)) (hz : w.frozen? a = false) :
    Calls Yba.prog 8 #[.pointer (some a)] w fun e w' => e = .returned (.tuple #[]) ∧ w' = w.setCell a (.int .i32 1) := Go.MuLone.lock_free muLib a w hc hz
theorem unlock7 (a : Addr) (w : World) (hc : w.cell? a = some (.int .i32 1)) (hz : w.frozen? a = false) :
    Calls Yba.prog 7 #[.pointer (some a)] w fun e w' => e = .returned (.tuple #[]) ∧ w' = w.setCell a (.int .i32 0) := Go.MuLone.unlock_held muLib a w hc hz

/-- A pointer whose cell is there, turned into the library's bare pointer (type 70): the same address; nothing is made. -/
theorem conv70 {src t : TypeId} (hs : Yba.prog.underlying src = some (.pointer t)) (hsz : (Yba.prog.info? t).map (fun i => decide (i.size = 0)) = some false) {a : Addr} {v : Value} {w : World} (hc : w.cell? a = some v) :
    (convert src 70 (.pointer (some a))).run Yba.prog w = .ok (.pointer (some a)) w := by
  obtain ⟨e, n, hsh, hlt, hsp⟩ := World.shape?_of_cell? hc
  obtain ⟨i, hi, hz0⟩ := Option.map_eq_some_iff.1 hsz
  have hz : i.size ≠ 0 := by simpa using hz0
  have hge : ¬ (n ≤ a.off) := by omega
  simp only [convert, Sem.run_bind, run_underlying hs, run_underlying Yba.underlying70, Result.andThen]
  refine (Sem.run_bind Yba.prog w (underlying src) _).trans ?_
  simp [Conv.seenAt, viewAt, cellsIn, sizeOf, typeInfo, run_underlying hs, run_underlying Yba.underlying70, hi, hz, hsh, hge, Result.andThen]

set_option maxRecDepth 100000 in
set_option maxHeartbeats 800000 in
theorem itry10 (a : Addr) (w : World) (hc : w.cell? a = some (.int .i32 0)) (hz : w.frozen? a = false) :
    Calls Yba.prog 10 #[.pointer (some a)] w fun e w' => e = .returned (.bool true) ∧ w' = w.setCell a (.int .i32 1) := by
  have hd := disable
  have he := enable
  have ha := acquire
  have hcas := run_call_cas_hit (P := Yba.prog) Yba.func23 (by kernel_rfl) (by kernel_rfl) (by kernel_rfl) .i32 (by kernel_rfl) (y := 1) hc hz
  have hcv := conv70 Yba.underlying76 (by kernel_rfl) (World.cell?_setCell_same w a (.int .i32 1) hc)
  go_enter Yba.func10, Yba.ntmps10
  go_wp2
  go_ret
  exact ⟨rfl, rfl⟩

set_option maxRecDepth 100000 in
set_option maxHeartbeats 800000 in
theorem try6 (a : Addr) (w : World) (hc : w.cell? a = some (.int .i32 0)) (hz : w.frozen? a = false) :
    Calls Yba.prog 6 #[.pointer (some a)] w fun e w' => e = .returned (.bool true) ∧ w' = w.setCell a (.int .i32 1) := by
  go_enter Yba.func6, Yba.ntmps6
  go_wp2_with (go_at_call 10; refine (itry10 _ _ hc hz).mono ?_; rintro e w' ⟨rfl, rfl⟩)
  go_ret
  exact ⟨rfl, rfl⟩

set_option maxRecDepth 100000 in
set_option maxHeartbeats 800000 in
theorem wait9 (b off : Nat) (w : World) (hc : w.cell? ⟨b, off, none⟩ = some (.int .u64 0)) :
    Calls Yba.prog 9 #[.pointer (some ⟨b, off, none⟩)] w fun e w' => e = .returned (.tuple #[]) ∧ w' = w := by
  have hd := disable
  have he := enable
  have ha := acquire
  have hl := run_call_load (P := Yba.prog) Yba.func28 (by kernel_rfl) (by kernel_rfl) (by kernel_rfl) .u64 (by kernel_rfl) hc
  have hcv := conv70 Yba.underlying66 (by kernel_rfl) hc
  go_enter Yba.func9, Yba.ntmps9
  go_wp2
  refine wp_loop_rounds 1 ?_
  rw [rounds_succ]
  go_wp2
  refine bodyPost_ret (results_none rfl _ _ _) rfl ?_
  exact ⟨rfl, rfl⟩
end Go.Proofs.Ybulkdtdc
