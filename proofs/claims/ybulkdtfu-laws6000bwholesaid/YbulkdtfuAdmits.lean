/- The walk of admits. -/
import Derived.Test.YbulkdtfuBtw
import Derived.Test.YbulkdtfuRegionA
namespace Go.Proofs.Ybulkdtfu
open Go.RowKit

/-- The admission test. -/
def admP (sl sc room now x ln : Int) (ys : List (Int × Int)) : Bool :=
  let need := sc * spB (aft (now + ln) ys) + sc * x
  if room < need + sl * ln then false
  else !spS (btw now (now + ln) ys) || !decide (room + sl * now < spP sl sc (btw now (now + ln) ys) + need)

theorem field52 (a0 a1 a2 : Int) (a3 : Bool) (w : World) : (Instr.field 52 (.agg #[.int .i64 a0, .int .u64 a1, .int .u64 a2, .bool a3]) 0).run Yba.prog w = .ok (.int .i64 a0) w := by
  unfold Instr.field
  go_simp
  simp [asAgg, Result.andThen]

/-- The same with the frame found on the way. -/
theorem wp_region_made {P : Program} {Q : Exit → Act → World → Prop} {id : Nat} {a : Act} {w : World} {os : Oper} {d : Nat} {Z : Obj} (l : List Oper) (n : Nat) (hm : P.follows .mixedOrders = true) (hT : allocB .any l.toArray (l.take n).toArray n d = true) (hB : Region.lexB .any (l.take n).toArray = true)
    (hos : l[n]? = some os) (hog : os.guard = none) (hod : os.dst = some d) (hoa : os.after = #[]) (hrun : ∀ (a : Act) (w : World), (execOp a.eval os).run P w = .ok (.value (.pointer (some ⟨w.heap.size, 0, none⟩))) (w.alloc Z))
    (h : ∃ A : Act, (∀ W, Grows w W → wpQuiet P (l.take n).toArray (fun w' => ∃ g : Gro W, w' = g.x) (fun a' => a' = A) (l.take n) a) ∧
      (∀ W b, Grows w W → w.heap.size ≤ b → W.heap[b]? = some Z → wpList P l.toArray Q (l.drop (n + 1)) (A.put (some d) (.pointer (some ⟨b, 0, none⟩))) W)) : (Code.region id l.toArray true).wp P Q a w :=
  let ⟨_, h1, h2⟩ := h
  wp_region_make l n hm hT hB hos hog hod hoa hrun h1 h2

set_option maxRecDepth 100000 in
set_option maxHeartbeats 1600000 in
theorem admits12_raw (L : Nat) (root : Option Addr) (sl sc room seed now x ln a0 a1 a2 b0 bp : Int) (a3 bs : Bool) (w : World) (hL : w.heap[L]? = some (.cells (ledO root sl sc room seed) 43 (0, 0)))
    (wsl : Word sl) (wsc : Word sc) (hnow : 0 ≤ now ∧ now ≤ 1099511627775) (hx : 0 ≤ x ∧ x ≤ 1099511627775) (hln : 0 ≤ ln ∧ ln ≤ 1099511627775) (ha0 : 0 ≤ a0 ∧ a0 ≤ 17592186044416)
    (hsl : sl ≤ 1099511627776) (hsc : sc ≤ 1125899906842624) (hroom : 0 ≤ room ∧ room ≤ 1267650600228229401496703205376) (hbp : 0 ≤ bp ∧ bp ≤ 1267650600228229401496703205376)
    (hA : ∀ w', Grows w w' → Gives 22 #[.pointer (some ⟨L, 0, none⟩), .pointer root, .int .i64 (now + ln)] w' (.agg #[.int .i64 a0, .int .u64 a1, .int .u64 a2, .bool a3]))
    (hB : ∀ w', Grows w w' → Gives 25 #[.pointer (some ⟨L, 0, none⟩), .pointer root, .int .i64 now, .int .i64 (now + ln)] w' (.agg #[.int .i64 b0, .int .u64 (hiI bp), .int .u64 (loI bp), .bool bs])) :
    Gives 12 #[.pointer (some ⟨L, 0, none⟩), .int .i64 now, .int .i64 x, .int .i64 ln] w
      (.bool (if room < sc * a0 + sc * x + sl * ln then false else !bs || !decide (room + sl * now < bp + (sc * a0 + sc * x)))) := by
  obtain ⟨res, hres⟩ : ∃ res, res = (if room < sc * a0 + sc * x + sl * ln then false else !bs || !decide (room + sl * now < bp + (sc * a0 + sc * x))) := ⟨_, rfl⟩
  rw [← hres]
  have hresH : Hid (res = (if room < sc * a0 + sc * x + sl * ln then false else !bs || !decide (room + sl * now < bp + (sc * a0 + sc * x)))) := hres
  clear hres
  have wend : IntKind.i64.wrap (now + ln) = now + ln := IntWalk.i64_in _ (by omega)
  have wx : IntKind.u64.wrap x = x := by rw [IntKind.wrap_u64]; omega
  have wn : IntKind.u64.wrap now = now := by rw [IntKind.wrap_u64]; omega
  have wl : IntKind.u64.wrap ln = ln := by rw [IntKind.wrap_u64]; omega
  have wa : IntKind.u64.wrap a0 = a0 := by rw [IntKind.wrap_u64]; omega
  have dx : Word x := ⟨hx.1, by omega⟩
  have dn : Word now := ⟨hnow.1, by omega⟩
  have dl : Word ln := ⟨hln.1, by omega⟩
  have da : Word a0 := ⟨ha0.1, by omega⟩
  have m1 := mul_bound wsc.1 hsc ha0.1 ha0.2
  have m2 := mul_bound wsc.1 hsc hx.1 hx.2
  have m3 := mul_bound wsl.1 hsl hln.1 hln.2
  have m4 := mul_bound wsl.1 hsl hnow.1 hnow.2
  obtain ⟨p1, p1'⟩ := m1
  obtain ⟨p2, p2'⟩ := m2
  obtain ⟨p3, p3'⟩ := m3
  obtain ⟨p4, p4'⟩ := m4
  obtain ⟨r0, r1⟩ := hroom
  obtain ⟨t0, t1⟩ := hbp
  have s1 : sc * a0 + sc * x < 340282366920938463463374607431768211456 := by omega
  have s2 : sc * a0 + sc * x + sl * ln < 340282366920938463463374607431768211456 := by omega
  have s3 : room + sl * now < 340282366920938463463374607431768211456 := by omega
  have s4 : bp + (sc * a0 + sc * x) < 340282366920938463463374607431768211456 := by omega
  have q1 : 0 ≤ sc * a0 + sc * x := by omega
  clear hnow hx hln ha0 hsl hsc r1 t1 p1' p2' p3' p4'
  generalize hend : now + ln = en at *
  generalize hneed : sc * a0 + sc * x = need at *
  have hneed' : Hid (sc * a0 + sc * x = need) := hneed
  have plusN : ∀ w, Gives 23 #[.agg #[.int .u64 (hiI (sc * a0)), .int .u64 (loI (sc * a0))], .agg #[.int .u64 (hiI (sc * x)), .int .u64 (loI (sc * x))]] w (.agg #[.int .u64 (hiI need), .int .u64 (loI need)]) := fun w => by
    rw [← hneed]
    exact plus23 _ _ p1 p2 (by rw [hneed]; exact s1) w
  clear hneed
  unfold ledO at hL
  have hfld := field52 a0 a1 a2 a3
  unfold Gives at *
  go_enter Yba.func12, Yba.ntmps12
  go_wp2
  refine wp_region_made (d := 10) (Z := .cells #[.int .u64 0, .int .u64 0] 37) _ 22 (by kernel_rfl) (by kernel_rfl) (by kernel_rfl) rfl rfl rfl rfl (fun a w => by go_simp) ?_
  simp only [List.take_succ_cons, List.take_zero, List.drop_succ_cons, List.drop_zero]
  apply Exists.intro
  refine ⟨fun W hW => ?_, fun W B hW hB1 hB2 => ?_⟩
  · have cL : ∀ (g : Gro W) o, g.x.cell? ⟨L, o, none⟩ = _ := fun g o => cell_of_heap ((hW.trans g.h).heap hL) o
    have hne : Nonempty (Gro W) := ⟨⟨W, Grows.refl W⟩⟩
    repeat (go_big_quiet_step (first
      | (go_at_call 22; exact Gro.call _ (hA _ (hW.trans (Gro.h _))))
      | (go_at_call 21; exact Gro.call _ (product21 _ _ (by assumption) (by assumption) _))
      | (go_at_call 23; exact Gro.call _ (plusN _))))
    refine wpQuiet_nil ?_
    exact rfl
  have cB := cell_of_heap hB2
  have zB := frozen_of_heap hB2
  go_wp2
  have B2 : ((W.setCell ⟨B, 0, none⟩ (.int .u64 (hiI need))).setCell ⟨B, 1, none⟩ (.int .u64 (loI need))).heap[B]? = some (.cells #[.int .u64 (hiI need), .int .u64 (loI need)] 37 (0, 0)) := by
    rw [heap_setCell_at _ (heap_setCell_at _ hB2)]
    rfl
  have gW2 : Grows w ((W.setCell ⟨B, 0, none⟩ (.int .u64 (hiI need))).setCell ⟨B, 1, none⟩ (.int .u64 (loI need))) := (hW.setCell hB1 _).setCell hB1 _
  generalize hW2 : ((W.setCell ⟨B, 0, none⟩ (.int .u64 (hiI need))).setCell ⟨B, 1, none⟩ (.int .u64 (loI need))) = W2 at B2 gW2 ⊢
  clear hW2 cB zB hfld
  have cL : ∀ (g : Gro W2) o, g.x.cell? ⟨L, o, none⟩ = _ := fun g o => cell_of_heap ((gW2.trans g.h).heap hL) o
  have cB : ∀ (g : Gro W2) o, g.x.cell? ⟨B, o, none⟩ = _ := fun g o => cell_of_heap (g.h.heap B2) o
  have hne : Nonempty (Gro W2) := ⟨⟨W2, Grows.refl W2⟩⟩
  by_cases hr : room < need + sl * ln
  · have hl : ∀ w, Calls Yba.prog 24 #[.agg #[.int .u64 (hiI room), .int .u64 (loI room)], .agg #[.int .u64 (hiI (need + sl * ln)), .int .u64 (loI (need + sl * ln))]] w fun e w' => e = .returned (.bool true) ∧ Grows w w' := fun w => by
      have := less24 room (need + sl * ln) w
      rwa [decide_eq_true hr] at this
    refine wp_region_grow0 _ (by kernel_rfl) (by kernel_rfl) ?_
    repeat (go_big_quiet_step (first
      | (go_at_call 21; exact Gro.call _ (product21 _ _ (by assumption) (by assumption) _))
      | (go_at_call 23; exact Gro.call _ (plus23 _ _ (by assumption) (by assumption) (by assumption) _))
      | (go_at_call 24; exact Gro.call _ (hl _))))
    refine wpQuiet_nil ?_
    rintro _ ⟨g, rfl⟩
    have hrH : Hid (room < need + sl * ln) := hr
    clear hr cL cB hne
    go_wp2
    go_ret
    exact ⟨by rw [hresH.out, if_pos hrH.out]; rfl, gW2.trans g.h⟩
  · have hl : ∀ w, Calls Yba.prog 24 #[.agg #[.int .u64 (hiI room), .int .u64 (loI room)], .agg #[.int .u64 (hiI (need + sl * ln)), .int .u64 (loI (need + sl * ln))]] w fun e w' => e = .returned (.bool false) ∧ Grows w w' := fun w => by
      have := less24 room (need + sl * ln) w
      rwa [decide_eq_false hr] at this
    refine wp_region_grow0 _ (by kernel_rfl) (by kernel_rfl) ?_
    repeat (go_big_quiet_step (first
      | (go_at_call 21; exact Gro.call _ (product21 _ _ (by assumption) (by assumption) _))
      | (go_at_call 23; exact Gro.call _ (plus23 _ _ (by assumption) (by assumption) (by assumption) _))
      | (go_at_call 24; exact Gro.call _ (hl _))))
    refine wpQuiet_nil ?_
    rintro _ ⟨g, rfl⟩
    have hrH : Hid (¬ room < need + sl * ln) := hr
    have gW3 := gW2.trans g.h
    have B3 := g.h.heap B2
    have cL3 := cell_of_heap (gW3.heap hL)
    clear hr cL cB hne hl
    go_wp2_with (go_at_call 25; refine (hB _ gW3).mono ?_; rintro e w5 ⟨rfl, g5⟩)
    have gW5 : Grows w (w5.alloc (.cells #[.int .i64 b0, .int .u64 (hiI bp), .int .u64 (loI bp), .bool bs] 52)) := (gW3.trans g5).alloc _
    have B5 : (w5.alloc (.cells #[.int .i64 b0, .int .u64 (hiI bp), .int .u64 (loI bp), .bool bs] 52)).heap[B]? = _ := ((Grows.refl w5).alloc _).heap (g5.heap B3)
    have M5 : (w5.alloc (.cells #[.int .i64 b0, .int .u64 (hiI bp), .int .u64 (loI bp), .bool bs] 52)).heap[w5.heap.size]? = _ := heap_new _ rfl
    generalize hW5 : w5.alloc (.cells #[.int .i64 b0, .int .u64 (hiI bp), .int .u64 (loI bp), .bool bs] 52) = W5 at gW5 B5 M5 ⊢
    clear hW5 cL3
    have cL : ∀ (g : Gro W5) o, g.x.cell? ⟨L, o, none⟩ = _ := fun g o => cell_of_heap ((gW5.trans g.h).heap hL) o
    have cB : ∀ (g : Gro W5) o, g.x.cell? ⟨B, o, none⟩ = _ := fun g o => cell_of_heap (g.h.heap B5) o
    have cM : ∀ (g : Gro W5) o, g.x.cell? ⟨w5.heap.size, o, none⟩ = _ := fun g o => cell_of_heap (g.h.heap M5) o
    have hne : Nonempty (Gro W5) := ⟨⟨W5, Grows.refl W5⟩⟩
    cases bs
    · refine wp_region_grow0 _ (by kernel_rfl) (by kernel_rfl) ?_
      repeat (go_big_quiet_step (fail))
      refine wpQuiet_nil ?_
      rintro _ ⟨g, rfl⟩
      clear cL cB cM hne
      go_wp2
      go_ret
      exact ⟨by rw [hresH.out, if_neg (by have h9 := hrH.out; omega)]; rfl, gW5.trans g.h⟩
    · have hl : ∀ w, Calls Yba.prog 24 #[.agg #[.int .u64 (hiI (room + sl * now)), .int .u64 (loI (room + sl * now))], .agg #[.int .u64 (hiI (bp + need)), .int .u64 (loI (bp + need))]] w fun e w' => e = .returned (.bool (decide (room + sl * now < bp + need))) ∧ Grows w w' := fun w => less24 _ _ w
      generalize hdc : decide (room + sl * now < bp + need) = dc at hl
      have hdcH : Hid (decide (room + sl * now < bp + need) = dc) := hdc
      clear hdc
      refine wp_region_grow0 _ (by kernel_rfl) (by kernel_rfl) ?_
      repeat (go_big_quiet_step (first
        | (go_at_call 21; exact Gro.call _ (product21 _ _ (by assumption) (by assumption) _))
        | (go_at_call 23; exact Gro.call _ (plus23 _ _ (by assumption) (by assumption) (by assumption) _))
        | (go_at_call 24; exact Gro.call _ (hl _))))
      refine wpQuiet_nil ?_
      rintro _ ⟨g, rfl⟩
      clear cL cB cM hne hl
      go_wp2
      go_ret
      exact ⟨by rw [hresH.out, if_neg (by have h9 := hrH.out; omega), hdcH.out]; rfl, gW5.trans g.h⟩

theorem admits12 (L : Nat) (root : Option Addr) (sl sc room seed now x ln : Int) (h : Nat) (xs : List (Nat × Int × Int)) (w : World) (hL : w.heap[L]? = some (.cells (ledO root sl sc room seed) 43 (0, 0)))
    (ht : IsT sl sc w h root xs) (hs : Sorted (pl xs)) (hb : Bnd sl sc (pl xs)) (hnow : 0 ≤ now ∧ now ≤ 1099511627775) (hx : 0 ≤ x ∧ x ≤ 1099511627775) (hln : 0 ≤ ln ∧ ln ≤ 1099511627775) (hroom : 0 ≤ room ∧ room ≤ 1267650600228229401496703205376) :
    Gives 12 #[.pointer (some ⟨L, 0, none⟩), .int .i64 now, .int .i64 x, .int .i64 ln] w (.bool (admP sl sc room now x ln (pl xs))) := by
  have b1 := hb.filter (fun y => decide (now + ln < y.1))
  have b2 := hb.filter (fun y => decide (now < y.1) && decide (y.1 ≤ now + ln))
  have p0 := spP_nonneg b2
  have p1 := spP_le b2
  exact admits12_raw L root sl sc room seed now x ln _ _ _ _ _ _ _ w hL ⟨hb.sl0, by have := hb.sl1; omega⟩ ⟨hb.sc0, by have := hb.sc1; omega⟩ hnow hx hln ⟨spB_nonneg b1.each, b1.sum⟩ hb.sl1 hb.sc1 hroom ⟨p0, Int.le_trans p1 (by decide)⟩
    (fun w' g => after22 L root sl sc room seed (now + ln) h root xs w' (g.heap hL) (ht.grow g) hs hb) (fun w' g => between25 L root sl sc room seed now (now + ln) h root xs w' (g.heap hL) (ht.grow g) hs hb)
end Go.Proofs.Ybulkdtfu
