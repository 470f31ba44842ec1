/- The floats of LawS6000A: IsNaN, the bits, the law's 'same', hosts, the law. -/
import Derived.Test.YbulkdtfuRows
import Derived.WalkKit
import Derived.WalkSpells
import Derived.WalkLawsBesides
import Derived.BigQuiet
import Derived.Deep.QuietTactic
import Derived.KernelRfl
import Derived.Deep.OwnRows
import Derived.Below
import Derived.Laws.Externs
import Derived.Laws.FloatArith
namespace Go.Proofs.Ybulkdtfu
open Go.RowKit

/-- The order of two float64s, by their bits. -/
def ford (x y : Nat) : Option Ordering := FloatKind.f64.format.order x y
/-- Is it a NaN? -/
def fnan (x : Nat) : Bool := ford x x != some .eq

theorem ford_nan (x y : Nat) (h : fnan x = true) : ford x y = none := by
  revert h
  unfold fnan ford Ieee.Format.order
  cases (FloatKind.f64.format.read x) with
  | number s m i => simp [Ieee.Datum.order]
  | infinity s => simp [Ieee.Datum.order]
  | nan s t => cases (FloatKind.f64.format.read y) <;> simp [Ieee.Datum.order]

theorem ford_zero (x : Nat) (h : fnan x = false) : ford x 0 ≠ none := by
  revert h
  unfold fnan ford Ieee.Format.order
  have h0 : FloatKind.f64.format.read 0 = .number false 0 Ieee.double.leastPlace := by kernel_rfl
  rw [h0]
  cases (FloatKind.f64.format.read x) <;> simp [Ieee.Datum.order]

theorem read_nan (b : Nat) (h : 9218868437227405312 < b % 9223372036854775808) : ∃ s f, FloatKind.f64.format.read b = .nan s f := by
  have e1 : FloatKind.f64.format.signWeight = 9223372036854775808 := by kernel_rfl
  have e2 : FloatKind.f64.format.infRung = 9218868437227405312 := by kernel_rfl
  have e3 : FloatKind.f64.format.binade = 4503599627370496 := by kernel_rfl
  unfold Ieee.Format.read
  simp only [e1, e2, e3]
  rw [if_neg (by omega), if_neg (by omega), if_neg (by omega)]
  exact ⟨_, _, rfl⟩

/-- The bits that the model draws for a NaN are a NaN. -/
theorem fnan_drawn (x y t : Nat) : fnan ((Question.nanBits .f64 x y).cut t) = true := by
  have h : ∃ s f, FloatKind.f64.format.read ((Question.nanBits .f64 x y).cut t) = .nan s f := by
    apply read_nan
    simp only [Question.cut]
    have h1 : t / 2 % (2 ^ 52 - 1) < 2 ^ 52 - 1 := Nat.mod_lt _ (by decide)
    have h2 : t % 2 = 0 ∨ t % 2 = 1 := by omega
    rcases h2 with h2 | h2
    · rw [h2]
      generalize t / 2 % (2 ^ 52 - 1) = m at h1
      omega
    · rw [h2]
      generalize t / 2 % (2 ^ 52 - 1) = m at h1
      omega
  obtain ⟨s, f, h⟩ := h
  unfold fnan ford Ieee.Format.order
  rw [h]
  rfl

/-- What a division gives, and the world behind it. -/
def divOut (x y : Nat) (w : World) : Nat × World :=
  match floatBits .quo .f64 x y with
  | some r => (r, w)
  | none => ((Question.nanBits .f64 x y).cut (w.tape w.drawn (.nanBits .f64 x y)), w.drew)

theorem run_div (t : TypeId) (x y : Nat) (w : World) : (binOp .quo t (.float .f64 x) (.float .f64 y)).run Yba.prog w = .ok (.float .f64 (divOut x y w).1) (divOut x y w).2 := by
  unfold divOut
  cases h : floatBits .quo .f64 x y with
  | some r => exact run_float_arith w .quo t .f64 x y r h
  | none =>
    unfold floatBits at h
    simp only at h
    simp [binOp, Op.floatArith, h, Question.forced]

/-- The law's 'same'. -/
def fsame (x y : Nat) : Bool := if fnan x || fnan y then fnan x && fnan y else (x : Int) == (y : Int)

theorem fsame_refl (x : Nat) : fsame x x = true := by
  unfold fsame
  cases fnan x <;> simp

theorem fsame_div (x y : Nat) (w w' : World) : fsame (divOut x y w).1 (divOut x y w').1 = true := by
  unfold divOut
  cases h : floatBits .quo .f64 x y with
  | some r => exact fsame_refl r
  | none => simp [fsame, fnan_drawn]

theorem divOut_below {B : Nat} {a w : World} (x y : Nat) (h : Below B a w) : Below B a (divOut x y w).2 := by
  unfold divOut
  cases floatBits .quo .f64 x y with
  | some r => exact h
  | none => exact h.drew

theorem divOut_heap (x y : Nat) (w : World) : (divOut x y w).2.heap = w.heap := by
  unfold divOut
  cases floatBits .quo .f64 x y with
  | some r => rfl
  | none => rfl

theorem bits_run (x : Nat) (w : World) : (callFunc 7 #[.float .f64 x]).run Yba.prog w = .ok (.value (.int .u64 x)) w := by
  rw [run_callFunc_extern Yba.func7 (by kernel_rfl) (by kernel_rfl) (by kernel_rfl) (e := Extern.MathFloatBits.float64bits) (by kernel_rfl)]
  rfl

theorem store_float (a : Addr) (b : Nat) (m : Mode) (w : World) : (store a (.float .f64 b) m).run Yba.prog w = stored Yba.prog w a (.float .f64 b) m := run_store Yba.prog w a _ m rfl

theorem isnan6 (x : Nat) (w : World) :
    Calls Yba.prog 6 #[.float .f64 x] w fun e w' => e = .returned (.bool (fnan x)) ∧ w' = w := by
  go_enter Yba.func6, Yba.ntmps6
  go_wp2
  go_ret
  exact ⟨rfl, rfl⟩

set_option maxRecDepth 100000 in
set_option maxHeartbeats 400000 in
theorem same8 (x y : Nat) (w : World) :
    Calls Yba.prog 8 #[.float .f64 x, .float .f64 y] w fun e w' => e = .returned (.bool (fsame x y)) ∧ w' = w := by
  have hb : ∀ x w, (callFunc 7 #[.float .f64 x]).run Yba.prog w = .ok (.value (.int .u64 x)) w := bits_run
  cases hx : fnan x <;> cases hy : fnan y <;> go_enter Yba.func8, Yba.ntmps8
  · go_wp2_with (first | (refine (isnan6 x _).mono ?_; rintro e w' ⟨rfl, rfl⟩; rw [hx]) | (refine (isnan6 y _).mono ?_; rintro e w' ⟨rfl, rfl⟩; rw [hy]) | fail)
    go_ret
    exact ⟨by simp [fsame, hx, hy], rfl⟩
  · go_wp2_with (first | (refine (isnan6 x _).mono ?_; rintro e w' ⟨rfl, rfl⟩; rw [hx]) | (refine (isnan6 y _).mono ?_; rintro e w' ⟨rfl, rfl⟩; rw [hy]) | fail)
    go_ret
    exact ⟨by simp [fsame, hx, hy], rfl⟩
  · go_wp2_with (first | (refine (isnan6 x _).mono ?_; rintro e w' ⟨rfl, rfl⟩; rw [hx]) | (refine (isnan6 y _).mono ?_; rintro e w' ⟨rfl, rfl⟩; rw [hy]) | fail)
    go_ret
    exact ⟨by simp [fsame, hx, hy], rfl⟩
  · go_wp2_with (first | (refine (isnan6 x _).mono ?_; rintro e w' ⟨rfl, rfl⟩; rw [hx]) | (refine (isnan6 y _).mono ?_; rintro e w' ⟨rfl, rfl⟩; rw [hy]) | fail)
    go_ret
    exact ⟨by simp [fsame, hx, hy], rfl⟩

set_option maxRecDepth 100000 in
set_option maxHeartbeats 400000 in
theorem hosts5_no (n : Int) (x : Nat) (w : World) (h : (FloatKind.f64.format.order x 0 == some .lt || FloatKind.f64.format.order x 0 == some .eq) = true) :
    Calls Yba.prog 5 #[.agg #[.int .i64 n, .float .f64 x]] w fun e w' => e = .returned (.tuple #[.float .f64 0, .bool false]) ∧ w' = w.alloc (.cells #[.int .i64 n, .float .f64 x] 24) := by
  go_enter Yba.func5, Yba.ntmps5
  go_wp2
  refine bodyPost_ret (v := .tuple #[.float .f64 0, .bool false]) (by simp [results, Yba.results5, go_sem]) rfl ⟨rfl, rfl⟩

set_option maxRecDepth 100000 in
set_option maxHeartbeats 400000 in
theorem hosts5_yes (n : Int) (x : Nat) (w : World) (h : (FloatKind.f64.format.order x 0 == some .lt || FloatKind.f64.format.order x 0 == some .eq) = false) :
    Calls Yba.prog 5 #[.agg #[.int .i64 n, .float .f64 x]] w fun e w' => e = .returned (.tuple #[.float .f64 (divOut (floatOfInt .f64 n) x (w.alloc (.cells #[.int .i64 n, .float .f64 x] 24))).1, .bool true]) ∧ w' = (divOut (floatOfInt .f64 n) x (w.alloc (.cells #[.int .i64 n, .float .f64 x] 24))).2 := by
  have hop := run_div
  go_enter Yba.func5, Yba.ntmps5
  go_wp2
  refine bodyPost_ret (v := .tuple #[.float .f64 (divOut (floatOfInt .f64 n) x (w.alloc (.cells #[.int .i64 n, .float .f64 x] 24))).1, .bool true]) (by simp [results, Yba.results5, go_sem]) rfl ⟨rfl, rfl⟩

set_option maxRecDepth 100000 in
set_option maxHeartbeats 400000 in
/-- The law where the length is at most zero. -/
theorem law_no (n : Int) (x : Nat) (w : World) (hx : fnan x = false) (h : (FloatKind.f64.format.order x 0 == some .lt || FloatKind.f64.format.order x 0 == some .eq) = true) (hg : (FloatKind.f64.format.order x 0 == some .gt) = false) :
    Calls Yba.prog 3 #[.int .i64 n, .float .f64 x] w fun e w' => e = .returned (.bool true) ∧ Below w.heap.size w w' := by
  have hb : ∀ x w, (callFunc 7 #[.float .f64 x]).run Yba.prog w = .ok (.value (.int .u64 x)) w := bits_run
  have hst := store_float
  go_enter Yba.func3, Yba.ntmps3
  go_wp2_with (first
    | (refine (hosts5_no n x _ h).mono ?_; rintro e w' ⟨rfl, rfl⟩)
    | (refine (isnan6 x _).mono ?_; rintro e w' ⟨rfl, rfl⟩; rw [hx])
    | (refine (same8 x x _).mono ?_; rintro e w' ⟨rfl, rfl⟩; rw [fsame_refl x])
    | fail)
  go_ret
  exact ⟨rfl, ((Below.refl _ _).alloc (Nat.le_refl _) _).alloc (by simp) _⟩

theorem cell_divOut (x y : Nat) (w : World) (a : Addr) : (divOut x y w).2.cell? a = w.cell? a := by
  unfold divOut
  cases floatBits .quo .f64 x y with
  | some r => rfl
  | none => rfl

theorem law_world (n : Int) (x y : Nat) (w w' : World) (hw : w' = (divOut y x ((w.alloc (.cells #[.int .i64 n, .float .f64 x] 24)).alloc (.cells #[.int .i64 n, .float .f64 x] 24))).2) :
    (divOut y x w').2.cell? ⟨w.heap.size, 0, none⟩ = some (.int .i64 n) ∧ (divOut y x w').2.cell? ⟨w.heap.size, 1, none⟩ = some (.float .f64 x) ∧ Below w.heap.size w (divOut y x w').2 := by
  subst hw
  refine ⟨?_, ?_, divOut_below _ _ (divOut_below _ _ (((Below.refl _ _).alloc (Nat.le_refl _) _).alloc (by simp) _))⟩
  · rw [cell_divOut, cell_divOut]
    simp
  · rw [cell_divOut, cell_divOut]
    simp

set_option maxRecDepth 100000 in
set_option maxHeartbeats 400000 in
/-- The law where the length is above zero, or a NaN. -/
theorem law_yes (n : Int) (x : Nat) (b c : Bool) (w : World) (hx : fnan x = c) (h : (FloatKind.f64.format.order x 0 == some .lt || FloatKind.f64.format.order x 0 == some .eq) = false) (hg : (FloatKind.f64.format.order x 0 == some .gt) = b) (hbc : b = true ∧ c = false ∨ b = false ∧ c = true) :
    Calls Yba.prog 3 #[.int .i64 n, .float .f64 x] w fun e w' => e = .returned (.bool true) ∧ Below w.heap.size w w' := by
  have hb : ∀ x w, (callFunc 7 #[.float .f64 x]).run Yba.prog w = .ok (.value (.int .u64 x)) w := bits_run
  have hst := store_float
  obtain ⟨dv, hdv⟩ : ∃ dv, dv = divOut := ⟨_, rfl⟩
  have hop : ∀ (t : TypeId) (x y : Nat) (w : World), (binOp .quo t (.float .f64 x) (.float .f64 y)).run Yba.prog w = .ok (.float .f64 (dv x y w).1) (dv x y w).2 := by rw [hdv]; exact run_div
  have hho : ∀ w : World, Calls Yba.prog 5 #[.agg #[.int .i64 n, .float .f64 x]] w fun e w' => e = .returned (.tuple #[.float .f64 (dv (floatOfInt .f64 n) x (w.alloc (.cells #[.int .i64 n, .float .f64 x] 24))).1, .bool true]) ∧ w' = (dv (floatOfInt .f64 n) x (w.alloc (.cells #[.int .i64 n, .float .f64 x] 24))).2 := by
    rw [hdv]; exact fun w => hosts5_yes n x w h
  have hlw : ∀ (w' : World), w' = (dv (floatOfInt .f64 n) x ((w.alloc (.cells #[.int .i64 n, .float .f64 x] 24)).alloc (.cells #[.int .i64 n, .float .f64 x] 24))).2 →
      (dv (floatOfInt .f64 n) x w').2.cell? ⟨w.heap.size, 0, none⟩ = some (.int .i64 n) ∧ (dv (floatOfInt .f64 n) x w').2.cell? ⟨w.heap.size, 1, none⟩ = some (.float .f64 x) ∧ Below w.heap.size w (dv (floatOfInt .f64 n) x w').2 := by
    rw [hdv]; exact fun w' => law_world n x _ w w'
  have hsd : ∀ (w w' : World), fsame (dv (floatOfInt .f64 n) x w).1 (dv (floatOfInt .f64 n) x w').1 = true := by rw [hdv]; exact fsame_div _ _
  clear hdv
  rcases hbc with ⟨rfl, rfl⟩ | ⟨rfl, rfl⟩
  · go_enter Yba.func3, Yba.ntmps3
    go_wp2_with (first
      | (go_at_call 5; refine (hho _).mono ?_; rintro e w' ⟨rfl, hw'⟩; obtain ⟨c0, c1, bel⟩ := hlw w' hw'; clear hw')
      | (go_at_call 6; refine (isnan6 x _).mono ?_; rintro e w' ⟨rfl, rfl⟩; rw [hx])
      | (go_at_call 8; refine (same8 _ _ _).mono ?_; rintro e w1 ⟨rfl, rfl⟩; first | rw [hsd] | rw [fsame_refl])
      | fail)
    go_ret
    exact ⟨rfl, bel⟩
  · go_enter Yba.func3, Yba.ntmps3
    go_wp2_with (first
      | (go_at_call 5; refine (hho _).mono ?_; rintro e w' ⟨rfl, hw'⟩; obtain ⟨c0, c1, bel⟩ := hlw w' hw'; clear hw')
      | (go_at_call 6; refine (isnan6 x _).mono ?_; rintro e w' ⟨rfl, rfl⟩; rw [hx])
      | (go_at_call 8; refine (same8 _ _ _).mono ?_; rintro e w1 ⟨rfl, rfl⟩; first | rw [hsd] | rw [fsame_refl])
      | fail)
    go_ret
    exact ⟨rfl, bel⟩

theorem law_all (n : Int) (x : Nat) (w : World) :
    Calls Yba.prog 3 #[.int .i64 n, .float .f64 x] w fun e w' => e = .returned (.bool true) ∧ Below w.heap.size w w' := by
  cases hx : fnan x with
  | true =>
    have h0 : FloatKind.f64.format.order x 0 = none := ford_nan x 0 hx
    exact law_yes n x false true w hx (by rw [h0]; rfl) (by rw [h0]; rfl) (.inr ⟨rfl, rfl⟩)
  | false =>
    have h0 : FloatKind.f64.format.order x 0 ≠ none := ford_zero x hx
    cases ho : FloatKind.f64.format.order x 0 with
    | none => exact absurd ho h0
    | some o =>
      cases o with
      | lt => exact law_no n x w hx (by rw [ho]; rfl) (by rw [ho]; rfl)
      | eq => exact law_no n x w hx (by rw [ho]; rfl) (by rw [ho]; rfl)
      | gt => exact law_yes n x true false w hx (by rw [ho]; rfl) (by rw [ho]; rfl) (.inl ⟨rfl, rfl⟩)
end Go.Proofs.Ybulkdtfu
