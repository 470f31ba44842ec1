/- Equality of records with themselves. -/
import Derived.Test.YbulkdtfuLawM
import Derived.Laws.StructEq
namespace Go.Proofs.Ybulkdtfu

theorem info54 : (Yba.prog.info? 54).map (fun i => i.size) = some 9 := by kernel_rfl

theorem eq38 (d : Nat) (p : Option Addr) (w : World) : (Op.equalIn (d + 1) 38 (.pointer p) (.pointer p)).run Yba.prog w = .ok true w := by
  obtain ⟨j, hj, hs⟩ := Option.map_eq_some_iff.1 info54
  cases p with
  | none => simp [Op.equalIn, run_underlying Yba.underlying38]
  | some a => simp [Op.equalIn, run_underlying Yba.underlying38, sizeOf, typeInfo, hj, run_sameAddr_same]

theorem neq38 (p : Option Addr) (w : World) : (binOp .neq 38 (.pointer p) (.pointer p)).run Yba.prog w = .ok (.bool false) w := by
  simp only [binOp]
  simp [Op.equal, Op.maxDepth, eq38 9999]

theorem eq37 (d : Nat) (a b : Int) (w : World) : (Op.equalIn (d + 1 + 1) 37 (.agg #[.int .u64 a, .int .u64 b]) (.agg #[.int .u64 a, .int .u64 b])).run Yba.prog w = .ok true w := by
  rw [run_equalIn_struct _ _ _ _ _ (by kernel_rfl) (by kernel_rfl)]
  have h1 : ∀ (a : Int) (w : World), (Op.equalIn (d + 1) 28 (.int .u64 a) (.int .u64 a)).run Yba.prog w = .ok true w := fun a w => by
    rw [run_equalIn_int w d 28 .u64 .u64 a a Yba.underlying28]
    simp
  go_simp

theorem neq37 (a b : Int) (w : World) : (binOp .neq 37 (.agg #[.int .u64 a, .int .u64 b]) (.agg #[.int .u64 a, .int .u64 b])).run Yba.prog w = .ok (.bool false) w := by
  simp only [binOp]
  simp [Op.equal, Op.maxDepth, eq37 9998]

theorem eq52 (d : Nat) (s0 s1 s2 : Int) (s3 : Bool) (w : World) : (Op.equalIn (d + 1 + 1 + 1) 52 (.agg #[.int .i64 s0, .int .u64 s1, .int .u64 s2, .bool s3]) (.agg #[.int .i64 s0, .int .u64 s1, .int .u64 s2, .bool s3])).run Yba.prog w = .ok true w := by
  rw [run_equalIn_struct _ _ _ _ _ (by kernel_rfl) (by kernel_rfl)]
  have h1 : ∀ (a : Int) (w : World), (Op.equalIn (d + 1 + 1) 2 (.int .i64 a) (.int .i64 a)).run Yba.prog w = .ok true w := fun a w => by
    rw [run_equalIn_int w (d + 1) 2 .i64 .i64 a a Yba.underlying2]
    simp
  have h2 : ∀ (a : Bool) (w : World), (Op.equalIn (d + 1 + 1) 4 (.bool a) (.bool a)).run Yba.prog w = .ok true w := fun a w => by
    rw [run_equalIn_bool w (d + 1) 4 a a Yba.underlying4]
    simp
  have h3 := eq37 d
  go_simp

theorem eq54 (d : Nat) (a c q : Int) (l r : Option Addr) (s0 s1 s2 : Int) (s3 : Bool) (w : World) : (Op.equalIn (d + 1 + 1 + 1 + 1) 54 (.agg #[.int .i64 a, .int .i64 c, .int .u64 q, .pointer l, .pointer r, .int .i64 s0, .int .u64 s1, .int .u64 s2, .bool s3]) (.agg #[.int .i64 a, .int .i64 c, .int .u64 q, .pointer l, .pointer r, .int .i64 s0, .int .u64 s1, .int .u64 s2, .bool s3])).run Yba.prog w = .ok true w := by
  rw [run_equalIn_struct _ _ _ _ _ (by kernel_rfl) (by kernel_rfl)]
  have h1 : ∀ (a : Int) (w : World), (Op.equalIn (d + 1 + 1 + 1) 2 (.int .i64 a) (.int .i64 a)).run Yba.prog w = .ok true w := fun a w => by
    rw [run_equalIn_int w (d + 1 + 1) 2 .i64 .i64 a a Yba.underlying2]
    simp
  have h2 : ∀ (a : Int) (w : World), (Op.equalIn (d + 1 + 1 + 1) 28 (.int .u64 a) (.int .u64 a)).run Yba.prog w = .ok true w := fun a w => by
    rw [run_equalIn_int w (d + 1 + 1) 28 .u64 .u64 a a Yba.underlying28]
    simp
  have h3 := eq52 d
  have h4 := eq38 (d + 1 + 1)
  go_simp

theorem eq56 (d : Nat) (p : Option Addr) (a c q : Int) (l r : Option Addr) (s0 s1 s2 : Int) (s3 : Bool) (w : World) : (Op.equalIn (d + 1 + 1 + 1 + 1 + 1) 56 (.agg #[.pointer p, .int .i64 a, .int .i64 c, .int .u64 q, .pointer l, .pointer r, .int .i64 s0, .int .u64 s1, .int .u64 s2, .bool s3]) (.agg #[.pointer p, .int .i64 a, .int .i64 c, .int .u64 q, .pointer l, .pointer r, .int .i64 s0, .int .u64 s1, .int .u64 s2, .bool s3])).run Yba.prog w = .ok true w := by
  rw [run_equalIn_struct _ _ _ _ _ (by kernel_rfl) (by kernel_rfl)]
  have h3 := eq54 d
  have h4 := eq38 (d + 1 + 1 + 1)
  go_simp

theorem neq56 (p : Option Addr) (a c q : Int) (l r : Option Addr) (s0 s1 s2 : Int) (s3 : Bool) (w : World) : (binOp .neq 56 (.agg #[.pointer p, .int .i64 a, .int .i64 c, .int .u64 q, .pointer l, .pointer r, .int .i64 s0, .int .u64 s1, .int .u64 s2, .bool s3]) (.agg #[.pointer p, .int .i64 a, .int .i64 c, .int .u64 q, .pointer l, .pointer r, .int .i64 s0, .int .u64 s1, .int .u64 s2, .bool s3])).run Yba.prog w = .ok (.bool false) w := by
  simp only [binOp]
  simp [Op.equal, Op.maxDepth, eq56 9995]
end Go.Proofs.Ybulkdtfu
