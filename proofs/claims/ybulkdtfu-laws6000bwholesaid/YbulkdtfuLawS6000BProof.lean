/- The row's proof, after the guide's template. -/
import Derived.Test.YbulkdtfuLawB
import Derived.Test.YbulkdtfuLawBNum
import Derived.ProofKit
import Derived.OpenShut
import Derived.ShutString
import Derived.ChangeOld
import Derived.Below
import Derived.Deep.Grids
import Derived.Deep.SlicePairs
namespace Go.Proofs.Ybulkdtfu.lawS6000BWhole
open Go.ChangeShapes Go.WideShapes Go.ChangeAt Go.RowKit Go.Deep
set_option linter.unusedVariables false

theorem own : ownKnob Yba.prog.godebug = none := by kernel_rfl
theorem laidOut : laidOutB Yba.prog = true := by kernel_rfl

/-- The holds as the law reads them. -/
def IsHolds (W : World) (p : Option Addr) (n : Nat) (At By : Nat → Int) : Prop :=
  0 < n → ∃ b off, p = some ⟨b, off, none⟩ ∧ b < W.heap.size ∧ ∀ i, i < n → W.cell? ⟨b, off + i * 2, none⟩ = some (.int .i64 (At i)) ∧ W.cell? ⟨b, off + i * 2 + 1, none⟩ = some (.int .i64 (By i))

theorem walk (a0 a1 a2 sd : Int) (p : Option Addr) (n cap : Nat) (At By : Nat → Int) (now x ln : Int) (w : World) (hh : IsHolds w p n At By) :
    Calls Yba.prog 4 #[.int .i64 a0, .int .i64 a1, .int .i64 a2, .int .u64 sd, .slice p n cap, .int .i64 now, .int .i64 x, .int .i64 ln] w fun e w' => e = .returned (.bool true) ∧ Below w.heap.size w w' := by
  by_cases hn : 2048 < n
  · refine (law_long a0 a1 a2 sd now x ln p n cap w hn).mono ?_
    rintro e w' ⟨rfl, rfl⟩
    exact ⟨rfl, Below.refl _ _⟩
  · have c := mask40 a0
    have bm := modU a1 (bits .and .u64 (IntKind.u64.wrap a0) 1099511627775) c.1
    have tm := mask20 a2
    have w1 : ∀ z : Int, 0 ≤ z → z < 18446744073709551616 → IntKind.u64.wrap z = z := fun z h1 h2 => by rw [IntKind.wrap_u64]; omega
    have Hl : Hol n (fun i => bits .and .u64 (IntKind.u64.wrap (At i)) 2199023255551) (fun i => 1 + bits .and .u64 (IntKind.u64.wrap (By i)) 4294967295) :=
      ⟨by omega, fun i _ => mask41 (At i), fun i _ => by have := mask32 (By i); omega⟩
    have h3 := mask40 now
    have h4 := mask40 x
    have h5 := mask40 ln
    have e1 : IntKind.u64.wrap (bits .and .u64 (IntKind.u64.wrap a0) 1099511627775 + 1) = bits .and .u64 (IntKind.u64.wrap a0) 1099511627775 + 1 := w1 _ (by omega) (by omega)
    have e2 : IntKind.u64.wrap (1 + bits .and .u64 (IntKind.u64.wrap a2) 1048575) = 1 + bits .and .u64 (IntKind.u64.wrap a2) 1048575 := w1 _ (by omega) (by omega)
    have e3 : IntKind.u64.wrap (IntKind.u64.wrap (1 + bits .and .u64 (IntKind.u64.wrap a2) 1048575) * 1000000000) = (1 + bits .and .u64 (IntKind.u64.wrap a2) 1048575) * 1000000000 := by
      rw [e2]
      exact w1 _ (by omega) (by omega)
    have e4 : IntKind.u64.wrap (bits .and .u64 (IntKind.u64.wrap a0) 1099511627775 - (IntKind.u64.wrap a1).tmod (bits .and .u64 (IntKind.u64.wrap a0) 1099511627775 + 1)) = bits .and .u64 (IntKind.u64.wrap a0) 1099511627775 - (IntKind.u64.wrap a1).tmod (bits .and .u64 (IntKind.u64.wrap a0) 1099511627775 + 1) := w1 _ (by omega) (by omega)
    obtain ⟨hb, ho, hpp, hcell⟩ : ∃ hb ho, (0 < n → p = some ⟨hb, ho, none⟩ ∧ hb < w.heap.size) ∧ (∀ i, i < n → w.cell? ⟨hb, ho + i * 2, none⟩ = some (.int .i64 (At i)) ∧ w.cell? ⟨hb, ho + i * 2 + 1, none⟩ = some (.int .i64 (By i))) := by
      by_cases h0 : 0 < n
      · obtain ⟨b, off, e, hlt, hc⟩ := hh h0
        exact ⟨b, off, fun _ => ⟨e, hlt⟩, hc⟩
      · exact ⟨0, 0, fun h => absurd h h0, fun i hi => by omega⟩
    exact law_main a0 a1 a2 sd now x ln _ _ _ _ _ p hb ho n cap At By (fun i => bits .and .u64 (IntKind.u64.wrap (At i)) 2199023255551) (fun i => 1 + bits .and .u64 (IntKind.u64.wrap (By i)) 4294967295) (fun i => bits .and .u64 (IntKind.u64.wrap (By i)) 4294967295) w
      rfl c.1 c.2 e1 rfl rfl e3 e4 (by omega) (by omega) (by omega) (by omega) Hl hpp hcell (fun _ => rfl) (fun _ => rfl) (fun _ => rfl) _ _ _ rfl rfl rfl h3 h4 h5

set_option maxRecDepth 100000 in
theorem lifted (os : Os) (started : os.Started) (H : Type) (enc : TypeId × Value → H) :
    ReturnsInHanded {} Yba.checked os 4 .any (Rows.lawS6000BWholeSpec.pre6 enc Yba.prog Yba.f4 Rows.lawS6000BWholeRow.domain false) (Rows.lawS6000BWholeSpec.post enc Yba.prog Yba.f4 false true false false) := by
  refine returnsInHanded_of_change (C := Yba.checked) own started (by kernel_rfl) Yba.func4
    (ChangeSpec.witness6 (enc := enc) (C := Yba.checked) false ⟨#[], #[.int .i64 0, .int .i64 0, .int .i64 0, .int .u64 0, .slice none 0 0, .int .i64 0, .int .i64 0, .int .i64 0], []⟩ 8 (by kernel_rfl) (by kernel_rfl) (by kernel_rfl) (by kernel_rfl)) ?_
  intro W base args ds gs before hval0 hW hcnd _
  have hval : ∀ (j : Nat) t v, Yba.f4.params[j]? = some t → args[j]? = some v → Value.okWide Yba.prog W .any base t v := hval0
  have hW' := hW
  obtain ⟨p, q, hA0, hV, rfl, hfz, hnd⟩ := hW
  have hA : DataW.TrodAll enc Yba.prog W 0 (fun _ => true) true Yba.f4.params.toList args.toList ds p := hA0
  rw [Yba.params4] at hA hval
  obtain ⟨v0, vs0, d0, ds0, p0, q0, hargs, rfl, rfl, h0, r0⟩ := trodAll_cons hA
  obtain ⟨v1, vs1, d1, ds1, p1, q1, rfl, rfl, rfl, h1, r1⟩ := trodAll_cons r0
  obtain ⟨v2, vs2, d2, ds2, p2, q2, rfl, rfl, rfl, h2, r2⟩ := trodAll_cons r1
  obtain ⟨v3, vs3, d3, ds3, p3, q3, rfl, rfl, rfl, h3, r3⟩ := trodAll_cons r2
  obtain ⟨v4, vs4, d4, ds4, p4, q4, rfl, rfl, rfl, h4, r4⟩ := trodAll_cons r3
  obtain ⟨v5, vs5, d5, ds5, p5, q5, rfl, rfl, rfl, h5, r5⟩ := trodAll_cons r4
  obtain ⟨v6, vs6, d6, ds6, p6, q6, rfl, rfl, rfl, h6, r6⟩ := trodAll_cons r5
  obtain ⟨v7, vs7, d7, ds7, p7, q7, rfl, rfl, rfl, h7, r7⟩ := trodAll_cons r6
  obtain ⟨rfl, rfl, rfl⟩ := trodAll_nil r7
  obtain rfl : args = #[v0, v1, v2, v3, v4, v5, v6, v7] := by cases args; simp_all
  obtain ⟨rfl, rfl⟩ := trodVars_none hV
  obtain ⟨a0, rfl, rfl, rfl, w0⟩ := open_int Yba.underlying2 (hval 0 2 v0 rfl rfl) h0
  obtain ⟨a1, rfl, rfl, rfl, w1⟩ := open_int Yba.underlying2 (hval 1 2 v1 rfl rfl) h1
  obtain ⟨a2, rfl, rfl, rfl, w2⟩ := open_int Yba.underlying2 (hval 2 2 v2 rfl rfl) h2
  obtain ⟨a3, rfl, rfl, rfl, w3⟩ := open_int Yba.underlying28 (hval 3 28 v3 rfl rfl) h3
  obtain ⟨a4, len4, cap4, rfl⟩ := okWide_slice Yba.underlying32 (hval 4 32 v4 rfl rfl)
  have k4 := h4
  have lt4 : ∀ x ∈ p4, x.block < W.heap.size := by obtain ⟨m, hm⟩ := k4; exact DataW.trod_lt m _ _ _ hm
  obtain ⟨At, By, hB⟩ : ∃ At By, IsHolds W a4 len4 At By := by
    obtain ⟨fuel, hf⟩ := h4
    rcases open_slice_pairs Yba.underlying32 Yba.underlying46 (by kernel_rfl) rfl rfl (by kernel_rfl) (by kernel_rfl) hf with ⟨hcs, _⟩ | ⟨x, l, c, m, nn, V0, V1, D0, D1, P0, P1, hcs, _, hl, hm, hmm, _, hcell⟩
    · simp [Value.cells] at hcs
      obtain ⟨rfl, rfl, rfl⟩ := hcs
      exact ⟨fun _ => 0, fun _ => 0, fun h => absurd h (Nat.lt_irrefl _)⟩
    · simp [Value.cells] at hcs
      obtain ⟨rfl, rfl, rfl⟩ := hcs
      have hlm : len4 ≤ m := by rw [hmm]; split <;> omega
      refine ⟨fun i => intOf (V0 i), fun i => intOf (V1 i), fun h => ?_⟩
      obtain ⟨b, off, spot⟩ := x
      have hc := (hcell 0 (by omega)).1
      have hspot : spot = none := by simpa [Addr.add] using World.cell?_spot hc
      subst hspot
      have ha : ∀ i, (⟨b, off, none⟩ : Addr).add i = ⟨b, off + i, none⟩ := fun i => by
        unfold Addr.add
        by_cases h0 : i = 0 <;> simp [h0]
      refine ⟨b, off, rfl, World.block_lt_of_cell? _ _ hc, fun i hi => ?_⟩
      obtain ⟨c1, c2, t1, t2⟩ := hcell i (by omega)
      obtain ⟨z1, e1, _⟩ := DataW.trod_int Yba.underlying2 t1
      obtain ⟨z2, e2, _⟩ := DataW.trod_int Yba.underlying2 t2
      simp only [List.cons.injEq, and_true] at e1 e2
      rw [ha, e1] at c1
      rw [ha, e2] at c2
      simp only [e1, e2, intOf]
      exact ⟨c1, c2⟩
  obtain ⟨a5, rfl, rfl, rfl, w5⟩ := open_int Yba.underlying2 (hval 5 2 v5 rfl rfl) h5
  obtain ⟨a6, rfl, rfl, rfl, w6⟩ := open_int Yba.underlying2 (hval 6 2 v6 rfl rfl) h6
  obtain ⟨a7, rfl, rfl, rfl, w7⟩ := open_int Yba.underlying2 (hval 7 2 v7 rfl rfl) h7
  clear hA0 hval0
  refine (walk a0 a1 a2 a3 a4 len4 cap4 At By a5 a6 a7 W hB).mono fun e W' ⟨he, bel⟩ => ?_
  subst he
  exact ⟨_, rfl, _, _, _, [], _, [], hW', trodAll_mk1 (shut_bool Yba.underlying4 _), (trodAll_cons_mk (shut_int Yba.underlying2 w0) (trodAll_cons_mk (shut_int Yba.underlying2 w1) (trodAll_cons_mk (shut_int Yba.underlying2 w2) (trodAll_cons_mk (shut_int Yba.underlying28 w3) (trodAll_cons_mk (Below.trod laidOut (by kernel_rfl) (of_decide_eq_true (by kernel_rfl)) k4 bel lt4) (trodAll_cons_mk (shut_int Yba.underlying2 w5) (trodAll_cons_mk (shut_int Yba.underlying2 w6) (trodAll_cons_mk (shut_int Yba.underlying2 w7) trodAll_mk0)))))))), rfl, bel.frame _, fun h => by cases h⟩

theorem over : Rows.lawS6000BWholeRow.holds Yba.pinned (OpenSpec.ofChange Rows.lawS6000BWholeSpec) :=
  OpenClaim.holds_of_wide 4 Yba.f4 rfl rfl rfl rfl rfl rfl rfl ⟨rfl, rfl, rfl, rfl, rfl⟩ rfl rfl rfl rfl rfl (by kernel_rfl) Yba.func4 (by kernel_rfl)
    (of_decide_eq_true (by kernel_rfl)) (by unfold Func.isWrapper; first | (rw [if_pos (by decide +kernel)]; kernel_rfl) | (rw [if_neg (by decide +kernel)]; exact ⟨rfl, rfl⟩))
    (fun os started H enc _ => lifted os started H enc)

/-- THE STATEMENT. -/
theorem proved : Rows.LawS6000BWholeSaid :=
  over
end Go.Proofs.Ybulkdtfu.lawS6000BWhole
