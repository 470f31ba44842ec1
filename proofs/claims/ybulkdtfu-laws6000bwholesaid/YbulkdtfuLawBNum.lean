/- The law's arguments as numbers. -/
import Derived.Test.YbulkdtfuLawM
import Derived.Laws.Bits64b
namespace Go.Proofs.Ybulkdtfu
open Go.RowKit

theorem wrapU (z : Int) : ∃ m : Nat, IntKind.u64.wrap z = (m : Int) ∧ m < 18446744073709551616 := by
  refine ⟨(IntKind.u64.wrap z).toNat, ?_, ?_⟩ <;> rw [IntKind.wrap_u64] <;> omega

theorem maskU (z : Int) (k : Nat) (M : Int) (hM : M = ((2 ^ k - 1 : Nat) : Int)) (hk : 2 ^ k ≤ 2 ^ 63) : 0 ≤ bits .and .u64 (IntKind.u64.wrap z) M ∧ bits .and .u64 (IntKind.u64.wrap z) M ≤ M := by
  obtain ⟨m, hm, hm2⟩ := wrapU z
  have hp : 0 < 2 ^ k := Nat.two_pow_pos k
  rw [hm, hM, bits_and_u64_nat m (2 ^ k - 1) hm2 (by omega), Nat.and_two_pow_sub_one_eq_mod]
  have := Nat.mod_lt m hp
  omega

theorem mask40 (z : Int) : 0 ≤ bits .and .u64 (IntKind.u64.wrap z) 1099511627775 ∧ bits .and .u64 (IntKind.u64.wrap z) 1099511627775 ≤ 1099511627775 := maskU z 40 _ rfl (by decide)
theorem mask41 (z : Int) : 0 ≤ bits .and .u64 (IntKind.u64.wrap z) 2199023255551 ∧ bits .and .u64 (IntKind.u64.wrap z) 2199023255551 ≤ 2199023255551 := maskU z 41 _ rfl (by decide)
theorem mask32 (z : Int) : 0 ≤ bits .and .u64 (IntKind.u64.wrap z) 4294967295 ∧ bits .and .u64 (IntKind.u64.wrap z) 4294967295 ≤ 4294967295 := maskU z 32 _ rfl (by decide)
theorem mask20 (z : Int) : 0 ≤ bits .and .u64 (IntKind.u64.wrap z) 1048575 ∧ bits .and .u64 (IntKind.u64.wrap z) 1048575 ≤ 1048575 := maskU z 20 _ rfl (by decide)

theorem modU (z C : Int) (hC : 0 ≤ C) : 0 ≤ (IntKind.u64.wrap z).tmod (C + 1) ∧ (IntKind.u64.wrap z).tmod (C + 1) ≤ C := by
  obtain ⟨m, hm, _⟩ := wrapU z
  rw [hm]
  have h1 := Int.tmod_nonneg (C + 1) (show (0 : Int) ≤ (m : Int) by omega)
  have h2 := Int.tmod_lt_of_pos (m : Int) (show 0 < C + 1 by omega)
  omega

set_option maxRecDepth 100000 in
set_option maxHeartbeats 400000 in
/-- More holds than the law looks at. -/
theorem law_long (a0 a1 a2 sd now x ln : Int) (p : Option Addr) (n cap : Nat) (w : World) (hn : 2048 < n) :
    Calls Yba.prog 4 #[.int .i64 a0, .int .i64 a1, .int .i64 a2, .int .u64 sd, .slice p n cap, .int .i64 now, .int .i64 x, .int .i64 ln] w fun e w' => e = .returned (.bool true) ∧ w' = w := by
  have hn2 : (2048 : Int) < (n : Int) := by omega
  go_enter Yba.func4, Yba.ntmps4
  go_wp2
  go_ret
  exact ⟨rfl, rfl⟩
end Go.Proofs.Ybulkdtfu
