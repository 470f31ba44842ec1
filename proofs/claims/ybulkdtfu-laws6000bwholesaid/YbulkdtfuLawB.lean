/- The walk of LawS6000BWhole. -/
import Derived.Test.YbulkdtfuLawM
import Derived.Test.YbulkdtfuEq
namespace Go.Proofs.Ybulkdtfu
open Go.RowKit
theorem info2 : (Yba.prog.info? 2).map (fun i => (i.zero, i.size, i.bytes)) = some (some (.int .i64 0), 1, 8) := by kernel_rfl


theorem insAll_len (A D : Nat → Int) : ∀ k, (insAll A D k).length ≤ k
  | 0 => by simp [insAll]
  | k + 1 => by
    have h : ∀ (t d : Int) (ys : List (Int × Int)), (ins t d ys).length ≤ ys.length + 1 := fun t d ys => by
      induction ys with
      | nil => simp [ins]
      | cons x r ih =>
        simp only [ins]
        split
        · simp
        · split
          · simp only [List.length_cons]; omega
          · simp
    have := insAll_len A D k
    have h2 := h (A k) (D k) (insAll A D k)
    simp only [insAll]
    omega

/-- The law's window and its own answer. -/
def winP (now en : Int) (a : Int) : Bool := decide (now < a) && decide (a ≤ en)
def wantP (sl sc room now x ln : Int) (A D : Nat → Int) (n : Nat) : Bool :=
  let need := sc * psum (fun a => decide (now + ln < a)) A D n + sc * x
  if room < need + sl * ln then false
  else !sm (winP now (now + ln)) A n || !decide (room + sl * now < pk sl sc (winP now (now + ln)) A D n n + need)

theorem law_plain {sl sc room now x ln : Int} {n : Nat} {A D : Nat → Int} (H : Hol n A D) (hsl0 : 0 ≤ sl) (hsl1 : sl ≤ 1099511627776) (hsc0 : 0 ≤ sc) (hsc1 : sc ≤ 1125899906842624) : admP sl sc room now x ln (insAll A D n) = wantP sl sc room now x ln A D n := by
  have hB := insAll_bnd H hsl0 hsl1 hsc0 hsc1 n (Nat.le_refl _)
  have e1 : spB (aft (now + ln) (insAll A D n)) = psum (fun a => decide (now + ln < a)) A D n := spB_insAll (fun a => decide (now + ln < a)) A D n
  have e2 : spS (btw now (now + ln) (insAll A D n)) = sm (winP now (now + ln)) A n := spS_law (winP now (now + ln)) A D n
  unfold admP wantP
  simp only [e1, e2]
  cases hsm : sm (winP now (now + ln)) A n with
  | false => rfl
  | true =>
    have e3 : spP sl sc (btw now (now + ln) (insAll A D n)) = pk sl sc (winP now (now + ln)) A D n n := spP_law (winP now (now + ln)) hB.2 hsm
    rw [e3]

theorem pk_nonneg {sl sc : Int} {win : Int → Bool} {A D : Nat → Int} {n : Nat} : ∀ k, 0 ≤ pk sl sc win A D n k
  | 0 => by simp [pk]
  | k + 1 => by
    have := pk_nonneg (sl := sl) (sc := sc) (win := win) (A := A) (D := D) (n := n) k
    simp only [pk]
    split
    · split <;> omega
    · exact this

theorem lv_bound {sl sc : Int} {win : Int → Bool} {A D : Nat → Int} {n : Nat} (H : Hol n A D) (hsl0 : 0 ≤ sl) (hsl1 : sl ≤ 1099511627776) (hsc0 : 0 ≤ sc) (hsc1 : sc ≤ 1125899906842624) {i : Nat} (hi : i < n) :
    lv sl sc win A D n i ≤ 1099511627776 * 2199023255551 + 1125899906842624 * 8796093022208 := by
  have h1 := H.a i hi
  have h2 := psum_le H (fun a => win a && decide (A i ≤ a)) n (Nat.le_refl _)
  have h3 := H.len
  have m1 := (mul_bound hsl0 hsl1 h1.1 h1.2).2
  have m2 := (mul_bound hsc0 hsc1 h2.1 (show _ ≤ (8796093022208 : Int) by omega)).2
  unfold lv
  omega

theorem pk_bound {sl sc : Int} {win : Int → Bool} {A D : Nat → Int} {n : Nat} (H : Hol n A D) (hsl0 : 0 ≤ sl) (hsl1 : sl ≤ 1099511627776) (hsc0 : 0 ≤ sc) (hsc1 : sc ≤ 1125899906842624) :
    pk sl sc win A D n n ≤ 1099511627776 * 2199023255551 + 1125899906842624 * 8796093022208 :=
  (pk_le_iff _ n).2 ⟨by decide, fun _ hi _ => lv_bound H hsl0 hsl1 hsc0 hsc1 hi⟩

theorem row_read2 {w : World} {B : Nat} {v : Value} {m : Nat} {vs : List Value} (h : w.ownsRow B 56 10 v m vs) : ∃ p cap, v = .slice p m cap ∧ m ≤ cap ∧ ∀ i, i < m → ∃ g, p = some ⟨g, 0, none⟩ ∧ ∀ W, Grows w W → ∀ j, j < 10 → W.cell? ⟨g, i * 10 + j, none⟩ = ((vs.drop (i * 10)).take 10)[j]? := by
  rcases h.2 with ⟨rfl, rfl⟩ | ⟨g, cap, cur, rfl, h2, h3, h4, h5, h6, h7⟩
  · exact ⟨none, 0, rfl, Nat.le_refl _, fun i hi => by omega⟩
  · refine ⟨_, cap, rfl, h4, fun i hi => ⟨g, rfl, fun W gW j hj => ?_⟩⟩
    rw [cell_of_heap (gW.heap h3), List.getElem?_take_of_lt hj, List.getElem?_drop, ← h7, List.getElem?_take_of_lt (by omega), Array.getElem?_toList]

set_option maxRecDepth 100000 in
set_option maxHeartbeats 3200000 in
theorem law_main (a0 a1 a2 sd now x ln C b T sl sc : Int) (p : Option Addr) (hb ho n cap : Nat) (At By A D D' : Nat → Int) (w : World)
   (hC : bits .and .u64 (IntKind.u64.wrap a0) 1099511627775 = C) (hC0 : 0 ≤ C) (hC1 : C ≤ 1099511627775) (hw1 : IntKind.u64.wrap (C + 1) = C + 1) (hb1 : (IntKind.u64.wrap a1).tmod (C + 1) = b)
   (hT : bits .and .u64 (IntKind.u64.wrap a2) 1048575 = T) (hw3 : IntKind.u64.wrap (IntKind.u64.wrap (1 + T) * 1000000000) = sc) (hw4 : IntKind.u64.wrap (C - b) = sl) (hsl : 0 ≤ sl) (hsl1 : sl ≤ 1099511627775) (hsc : 0 ≤ sc) (hsc1 : sc ≤ 1125899906842624)
   (H : Hol n A D) (hpp : 0 < n → p = some ⟨hb, ho, none⟩ ∧ hb < w.heap.size) (hcell : ∀ i, i < n → w.cell? ⟨hb, ho + i * 2, none⟩ = some (.int .i64 (At i)) ∧ w.cell? ⟨hb, ho + i * 2 + 1, none⟩ = some (.int .i64 (By i)))
   (hA : ∀ i, bits .and .u64 (IntKind.u64.wrap (At i)) 2199023255551 = A i) (hD : ∀ i, bits .and .u64 (IntKind.u64.wrap (By i)) 4294967295 = D' i) (hDD : ∀ i, 1 + D' i = D i) (N1 X1 E1 : Int) (hN : bits .and .u64 (IntKind.u64.wrap now) 1099511627775 = N1) (hX : bits .and .u64 (IntKind.u64.wrap x) 1099511627775 = X1) (hE : bits .and .u64 (IntKind.u64.wrap ln) 1099511627775 = E1) (hN1 : 0 ≤ N1 ∧ N1 ≤ 1099511627775) (hX1 : 0 ≤ X1 ∧ X1 ≤ 1099511627775) (hE1 : 0 ≤ E1 ∧ E1 ≤ 1099511627775) :
    Calls Yba.prog 4 #[.int .i64 a0, .int .i64 a1, .int .i64 a2, .int .u64 sd, .slice p n cap, .int .i64 now, .int .i64 x, .int .i64 ln] w fun e w' => e = .returned (.bool true) ∧ Below w.heap.size w w' := by
  have hn := H.len
  have hne : ¬ C + 1 = 0 := by omega
  have hmk : ∀ w : World, (Instr.makeSlice 44 (.int .i64 (n : Int)) (.int .i64 (n : Int))).run Yba.prog w = .ok (.slice (some ⟨w.heap.size, 0, none⟩) n n) (w.alloc (.cells (madeCells #[.int .i64 0] n) 2)) := fun w => by
    obtain ⟨i0, hi, hz0, hz1, hz2⟩ := info_parts info2
    have := run_make (P := Yba.prog) w 44 2 i0 (.int .i64 0) Yba.underlying44 hi hz0 .i64 .i64 (n : Int) (n : Int) (by omega) (by omega) (by rw [hz2]; omega) (by omega)
    rw [this, hz1]
    rw [Int.toNat_natCast, Nat.mul_one]
    rfl
  have S0 := LS.start sl sc (sc * C) sd n A D w
  unfold ledO at S0
  have HH : Hid (Hol n A D) := H
  clear H
  go_enter Yba.func4, Yba.ntmps4
  go_wp2_with (go_at_call 9; refine (mul9 sc C ⟨hsc, by omega⟩ ⟨hC0, by omega⟩ _).mono ?_; rintro e w' ⟨rfl, hw'⟩; rw [hw'])
  go_loopw [27] (fun i wr => ∃ (k : Nat) (root : Option Addr) (xs : List (Nat × Int × Int)), k ≤ n ∧ i = .int .i64 k ∧ LS sl sc (sc * C) sd n A D w k k wr root xs) (fun i _ => n - (intOf i).toNat)
  case atStart => exact ⟨0, none, [], Nat.zero_le _, rfl, S0⟩
  case round =>
    obtain ⟨k, root, xs, hk, rfl, S⟩ := hrel
    clear S0
    by_cases hlt : k < n
    · obtain ⟨rfl, hbs⟩ := hpp (by omega)
      have q1 : wr.cell? ⟨hb, ho + k * 2, none⟩ = some (.int .i64 (At k)) := (S.bel.cell hbs).trans (hcell k hlt).1
      have q2 : wr.cell? ⟨hb, ho + k * 2 + 1, none⟩ = some (.int .i64 (By k)) := (S.bel.cell hbs).trans (hcell k hlt).2
      have r1 := S.ats.cell hlt
      have r2 := S.ds.cell hlt
      have z1 := S.ats.frozen k
      have z2 := S.ds.frozen k
      have hAk := HH.out.a k hlt
      have hDk := HH.out.d k hlt
      have wA : IntKind.i64.wrap (A k) = A k := IntWalk.i64_in _ (by omega)
      have wD : IntKind.i64.wrap (D' k) = D' k := IntWalk.i64_in _ (by have := hDD k; omega)
      have wD2 : IntKind.i64.wrap (D k) = D k := IntWalk.i64_in _ (by omega)
      have S2 := S.stores
      have hbne : ¬ hb = w.heap.size + 1 := by omega
      have hbne2 : ¬ hb = w.heap.size + 1 + 1 := by omega
      have hbne3 : ¬ w.heap.size + 1 = hb := by omega
      simp only [Nat.lt_irrefl, if_false] at r1 r2
      clear hcell hpp hmk
      go_wp2
      generalize hW : ((wr.setCell ⟨w.heap.size + 1, k, none⟩ (.int .i64 (A k))).setCell ⟨w.heap.size + 1 + 1, k, none⟩ (.int .i64 (D k))) = W at S2 ⊢
      have S3 := S2.grow (Grows.refl W).drew
      have hch := S3.change HH.out hlt hsl (by omega) hsc hsc1
      have e1 := S2.ats.cell hlt
      have e2 := S2.ds.cell hlt
      have l1 := S2.led
      unfold ledO at l1 hch
      have e3 := cell_of_heap l1
      simp only [Nat.lt_succ_self, if_true] at e1 e2
      clear hW q1 q2 r1 r2 z1 z2 S S2 S3 l1 hA hD hDD hC hb1 hT hw3 hw4 hw1 wA wD wD2 hN hX hE
      go_region_with (go_at_call 10; refine hch.mono ?_; rintro e w2 ⟨b', xs', rfl, hl2, S4⟩; have e4 := cell_of_heap hl2; have z4 := frozen_of_heap hl2)
      all_goals (
        go_wp2
        go_roundw
        case rel => exact ⟨k + 1, some ⟨b', 0, none⟩, xs', by omega, by go_num, S4⟩
        case measure => simp [intOf]; omega)
    · have hkn : k = n := by omega
      rw [hkn] at S
      have hB := insAll_bnd HH.out hsl (by omega) hsc hsc1 n (Nat.le_refl _)
      have hs : Sorted (pl xs) := by rw [S.list]; exact hB.2
      have hbd : Bnd sl sc (pl xs) := by rw [S.list]; exact hB.1
      have hxl : xs.length ≤ n := by
        have h1 : ∀ k, (insAll A D k).length ≤ k := insAll_len A D
        have h2 := h1 n
        rw [← S.list] at h2
        simpa [pl] using h2
      obtain ⟨vs, F⟩ := FlatIs.of (B := wr.heap.size) S.tree (IsT.block S.tree)
      generalize hm : xs.length = m at F hxl
      have f1 := flat11 wr.heap.size n root m vs wr (.slice none 0 0) 0 [] F (World.ownsRow_nil _ _ _ _) (Nat.le_refl _) (by omega)
      have hroom := mul_bound hsc hsc1 hC0 hC1
      have wN : IntKind.i64.wrap N1 = N1 := IntWalk.i64_in _ (by omega)
      have wX : IntKind.i64.wrap X1 = X1 := IntWalk.i64_in _ (by omega)
      have wE : IntKind.i64.wrap E1 = E1 := IntWalk.i64_in _ (by omega)
      have adm1 : ∀ w1, Grows wr w1 → Calls Yba.prog 12 #[.pointer (some ⟨w.heap.size, 0, none⟩), .int .i64 N1, .int .i64 X1, .int .i64 E1] w1 fun e w' => e = .returned (.bool (admP sl sc (sc * C) N1 X1 E1 (pl xs))) ∧ Grows w1 w' := fun w1 g =>
        admits12 w.heap.size root sl sc (sc * C) sd N1 X1 E1 n xs w1 (g.heap S.led) (S.tree.grow g) hs hbd hN1 hX1 hE1 ⟨hroom.1, Int.le_trans hroom.2 (by decide)⟩
      have adm2 : ∀ w2, Grows wr w2 → Calls Yba.prog 11 #[.pointer root, .slice none 0 0] w2 fun e w' => ∃ v', e = .returned v' ∧ w'.ownsRow w2.heap.size 56 10 v' m vs ∧ Grows w2 w' := fun w2 g => by
        have := flat11 w2.heap.size n root m vs w2 (.slice none 0 0) 0 [] ((F.below g).more g.size) (World.ownsRow_nil _ _ _ _) (Nat.le_refl _) (by omega)
        simpa [Grows] using this
      have f1' : Calls Yba.prog 11 #[.pointer root, .slice none 0 0] wr fun e w' => ∃ v', e = .returned v' ∧ w'.ownsRow wr.heap.size 56 10 v' m vs ∧ Grows wr w' := by simpa [Grows] using f1
      clear f1
      have RR := F.recs
      have hres := law_plain (sl := sl) (sc := sc) (room := sc * C) (now := N1) (x := X1) (ln := E1) (n := n) HH.out hsl (by omega) hsc hsc1
      rw [← S.list] at hres
      generalize admP sl sc (sc * C) N1 X1 E1 (pl xs) = got at adm1 hres
      have hgot : Hid (got = wantP sl sc (sc * C) N1 X1 E1 A D n) := hres
      have SA := S.ats.congr (g := fun i => .int .i64 (A i)) (fun i hi => by simp [hi])
      have SD := S.ds.congr (g := fun i => .int .i64 (D i)) (fun i hi => by simp [hi])
      have led0 := S.led
      have bel0 := S.bel
      unfold ledO at led0
      have c0 := cell_of_heap led0
      have n38 := neq38
      have n37 := neq37
      have hlt2 : ¬ (k : Int) < (n : Int) := by omega
      have hm2 : m ≤ 2048 := by omega
      clear S hres hB hs hbd F hmk hcell hpp hA hD hDD hm hxl
      go_wp2_with (first
        | (go_at_call 11; refine f1'.mono ?_; rintro e w1 ⟨v1, rfl, O1, G1⟩; obtain ⟨p1, cap1, rfl, hc1, R1⟩ := row_read2 O1; clear f1'; have c1 := cell_of_heap (G1.heap led0))
        | (go_at_call 12; refine (adm1 w1 G1).mono ?_; rintro e w2 ⟨rfl, G2⟩; clear adm1; have c2 := cell_of_heap ((G1.trans G2).heap led0); have f2 := adm2 w2 (G1.trans G2); clear adm2)
        | (go_at_call 11; refine f2.mono ?_; rintro e w3 ⟨v3, rfl, O3, G3⟩; obtain ⟨p3, cap3, rfl, hc3, R3⟩ := row_read2 O3; clear f2; have c3 := cell_of_heap (((G1.trans G2).trans G3).heap led0)))
      have GA := (G1.trans G2).trans G3
      have G23 := G2.trans G3
      have SA3 := SA.of_block (GA.block _ SA.lt)
      have SD3 := SD.of_block (GA.block _ SD.lt)
      have bel3 := bel0.trans (Below.mono GA bel0.size)
      clear c0 c1 c2 c3 led0 bel0 SA SD n38 n37 O1 O3 GA G1 G2 G3 hlt2
      have n56 := neq56
      go_loopw [35] (fun i wr => ∃ k2 : Nat, k2 ≤ m ∧ i = .int .i64 k2 ∧ Grows w3 wr) (fun i _ => m - (intOf i).toNat)
      case atStart => exact ⟨0, Nat.zero_le _, rfl, Grows.refl _⟩
      case round =>
        obtain ⟨k2, hk2, rfl, Gr⟩ := hrel
        by_cases hl2 : k2 < m
        · obtain ⟨g1, rfl, T1⟩ := R1 k2 hl2
          obtain ⟨g3, rfl, T3⟩ := R3 k2 hl2
          obtain ⟨bb, ra, rc, rq, rl, rr, s0, s1, s2, s3, hrec⟩ := RR.2 k2 hl2
          have a0 : wr.cell? ⟨g1, k2 * 10, none⟩ = some (.pointer (some ⟨bb, 0, none⟩)) := (T1 _ (G23.trans Gr) 0 (by decide)).trans (by rw [hrec]; rfl)
          have b0 : wr.cell? ⟨g3, k2 * 10, none⟩ = some (.pointer (some ⟨bb, 0, none⟩)) := (T3 _ Gr 0 (by decide)).trans (by rw [hrec]; rfl)
          have a1 : wr.cell? ⟨g1, k2 * 10 + 1, none⟩ = some (.int .i64 ra) := (T1 _ (G23.trans Gr) 1 (by decide)).trans (by rw [hrec]; rfl)
          have b1 : wr.cell? ⟨g3, k2 * 10 + 1, none⟩ = some (.int .i64 ra) := (T3 _ Gr 1 (by decide)).trans (by rw [hrec]; rfl)
          have a2 : wr.cell? ⟨g1, k2 * 10 + 2, none⟩ = some (.int .i64 rc) := (T1 _ (G23.trans Gr) 2 (by decide)).trans (by rw [hrec]; rfl)
          have b2 : wr.cell? ⟨g3, k2 * 10 + 2, none⟩ = some (.int .i64 rc) := (T3 _ Gr 2 (by decide)).trans (by rw [hrec]; rfl)
          have a3 : wr.cell? ⟨g1, k2 * 10 + 3, none⟩ = some (.int .u64 rq) := (T1 _ (G23.trans Gr) 3 (by decide)).trans (by rw [hrec]; rfl)
          have b3 : wr.cell? ⟨g3, k2 * 10 + 3, none⟩ = some (.int .u64 rq) := (T3 _ Gr 3 (by decide)).trans (by rw [hrec]; rfl)
          have a4 : wr.cell? ⟨g1, k2 * 10 + 4, none⟩ = some (.pointer rl) := (T1 _ (G23.trans Gr) 4 (by decide)).trans (by rw [hrec]; rfl)
          have b4 : wr.cell? ⟨g3, k2 * 10 + 4, none⟩ = some (.pointer rl) := (T3 _ Gr 4 (by decide)).trans (by rw [hrec]; rfl)
          have a5 : wr.cell? ⟨g1, k2 * 10 + 5, none⟩ = some (.pointer rr) := (T1 _ (G23.trans Gr) 5 (by decide)).trans (by rw [hrec]; rfl)
          have b5 : wr.cell? ⟨g3, k2 * 10 + 5, none⟩ = some (.pointer rr) := (T3 _ Gr 5 (by decide)).trans (by rw [hrec]; rfl)
          have a6 : wr.cell? ⟨g1, k2 * 10 + 6, none⟩ = some (.int .i64 s0) := (T1 _ (G23.trans Gr) 6 (by decide)).trans (by rw [hrec]; rfl)
          have b6 : wr.cell? ⟨g3, k2 * 10 + 6, none⟩ = some (.int .i64 s0) := (T3 _ Gr 6 (by decide)).trans (by rw [hrec]; rfl)
          have a7 : wr.cell? ⟨g1, k2 * 10 + 7, none⟩ = some (.int .u64 s1) := (T1 _ (G23.trans Gr) 7 (by decide)).trans (by rw [hrec]; rfl)
          have b7 : wr.cell? ⟨g3, k2 * 10 + 7, none⟩ = some (.int .u64 s1) := (T3 _ Gr 7 (by decide)).trans (by rw [hrec]; rfl)
          have a8 : wr.cell? ⟨g1, k2 * 10 + 8, none⟩ = some (.int .u64 s2) := (T1 _ (G23.trans Gr) 8 (by decide)).trans (by rw [hrec]; rfl)
          have b8 : wr.cell? ⟨g3, k2 * 10 + 8, none⟩ = some (.int .u64 s2) := (T3 _ Gr 8 (by decide)).trans (by rw [hrec]; rfl)
          have a9 : wr.cell? ⟨g1, k2 * 10 + 9, none⟩ = some (.bool s3) := (T1 _ (G23.trans Gr) 9 (by decide)).trans (by rw [hrec]; rfl)
          have b9 : wr.cell? ⟨g3, k2 * 10 + 9, none⟩ = some (.bool s3) := (T3 _ Gr 9 (by decide)).trans (by rw [hrec]; rfl)
          clear T1 T3 R1 R3 RR hrec SA3 SD3
          go_wp2
          go_quiet (fail)
          go_wp2
          go_roundw
          case rel => exact ⟨k2 + 1, by omega, by go_num, Gr.trans (below_drewN (Below.refl _ _) nq)⟩
          case measure => simp [intOf]; omega
        · have hl3 : ¬ (k2 : Int) < (m : Int) := by omega
          have SA4 := SA3.of_block (Gr.block _ SA3.lt)
          have SD4 := SD3.of_block (Gr.block _ SD3.lt)
          have bel4 := bel3.trans (Below.mono Gr bel3.size)
          clear R1 R3 RR SA3 SD3 n56 bel3 G23 Gr
          have hen : IntKind.i64.wrap (N1 + E1) = N1 + E1 := IntWalk.i64_in _ (by omega)
          go_wp2_with fail
          go_loopw [37, 38] (fun s i wr' => ∃ k3 : Nat, k3 ≤ n ∧ i = .int .i64 k3 ∧ s = .int .i64 (psum (fun a => decide (N1 + E1 < a)) A D k3) ∧ wr' = wr) (fun _ i _ => n - (intOf i).toNat)
          case atStart => exact ⟨0, Nat.zero_le _, rfl, rfl, rfl⟩
          case round =>
            obtain ⟨k3, hk3, rfl, rfl, rfl⟩ := hrel
            have hps := psum_le HH.out (fun a => decide (N1 + E1 < a)) k3 hk3
            by_cases hl4 : k3 < n
            · have r1 := SA4.cell hl4
              have r2 := SD4.cell hl4
              have hDk := HH.out.d k3 hl4
              have hstep : Hid (psum (fun a => decide (N1 + E1 < a)) A D (k3 + 1) = psum (fun a => decide (N1 + E1 < a)) A D k3 + if decide (N1 + E1 < A k3) then D k3 else 0) := rfl
              generalize psum (fun a => decide (N1 + E1 < a)) A D k3 = ps at *
              have wps : IntKind.i64.wrap (ps + D k3) = ps + D k3 := IntWalk.i64_in _ (by omega)
              by_cases hgt : N1 + E1 < A k3
              · go_wp2
                go_roundw
                case rel => exact ⟨k3 + 1, by omega, by go_num, by rw [hstep.out]; simp [hgt], trivial⟩
                case measure => simp [intOf]; omega
              · go_wp2
                go_roundw
                case rel => exact ⟨k3 + 1, by omega, by go_num, by rw [hstep.out]; simp; omega, trivial⟩
                case measure => simp [intOf]; omega
            · have hk3n : k3 = n := by omega
              rw [hk3n] at hps
              have hl5 : ¬ (k3 : Int) < (n : Int) := by omega
              have hpast : Hid (psum (fun a => decide (N1 + E1 < a)) A D k3 = psum (fun a => decide (N1 + E1 < a)) A D n) := by unfold Hid; rw [hk3n]
              rw [← hpast.out] at hps
              generalize psum (fun a => decide (N1 + E1 < a)) A D k3 = past at *
              have wpast : IntKind.u64.wrap past = past := by rw [IntKind.wrap_u64]; omega
              have wX2 : IntKind.u64.wrap X1 = X1 := by rw [IntKind.wrap_u64]; omega
              have wE2 : IntKind.u64.wrap E1 = E1 := by rw [IntKind.wrap_u64]; omega
              have wN2 : IntKind.u64.wrap N1 = N1 := by rw [IntKind.wrap_u64]; omega
              have dC : Word C := ⟨hC0, by omega⟩
              have dsc : Word sc := ⟨hsc, by omega⟩
              have dsl : Word sl := ⟨hsl, by omega⟩
              have dpast : Word past := ⟨hps.1, by omega⟩
              have dX : Word X1 := ⟨hX1.1, by omega⟩
              have dE : Word E1 := ⟨hE1.1, by omega⟩
              have dN : Word N1 := ⟨hN1.1, by omega⟩
              have m1 := mul_bound hsc hsc1 hps.1 (show past ≤ 17592186044416 by omega)
              have m2 := mul_bound hsc hsc1 hX1.1 hX1.2
              have m3 := mul_bound hsl (show sl ≤ 1099511627776 by omega) hE1.1 hE1.2
              have m4 := mul_bound hsl (show sl ≤ 1099511627776 by omega) hN1.1 hN1.2
              obtain ⟨m1a, m1b⟩ := m1
              obtain ⟨m2a, m2b⟩ := m2
              obtain ⟨m3a, m3b⟩ := m3
              obtain ⟨m4a, m4b⟩ := m4
              obtain ⟨hr0, hr1⟩ := hroom
              have v1 : sc * past + sc * X1 < 340282366920938463463374607431768211456 := by omega
              have v2 : sc * past + sc * X1 + sl * E1 < 340282366920938463463374607431768211456 := by omega
              have v3 : sc * C + sl * N1 < 340282366920938463463374607431768211456 := by omega
              have v4 : 0 ≤ sc * past + sc * X1 := by omega
              clear hC hb1 hT hw3 hw4 hw1 hN hX hE
              go_wp2_with fail
              refine (zmul13 sc C dsc dC _).mono ?_
              rintro e w5 ⟨rfl, g5⟩
              go_wp2_with fail
              refine (zmul13 sc past dsc dpast _).mono ?_
              rintro e w6 ⟨rfl, g6⟩
              go_wp2_with fail
              refine (zmul13 sc X1 dsc dX _).mono ?_
              rintro e w7 ⟨rfl, g7⟩
              go_wp2_with fail
              refine (zadd14 (sc * past) (sc * X1) m1a m2a v1 _).mono ?_
              rintro e w8 ⟨rfl, g8⟩
              go_wp2_with fail
              have GW : Grows wr (w8.alloc (.cells #[.int .u64 (hiI (sc * past + sc * X1)), .int .u64 (loI (sc * past + sc * X1))] 57)) := ((((g5.alloc _).trans g6).trans g7).trans g8).alloc _
              have RBf : (w8.alloc (.cells #[.int .u64 (hiI (sc * past + sc * X1)), .int .u64 (loI (sc * past + sc * X1))] 57)).heap[w5.heap.size]? = some (.cells #[.int .u64 (hiI (sc * C)), .int .u64 (loI (sc * C))] 57 (0, 0)) :=
                ((Grows.refl w8).alloc _).heap (((g6.trans g7).trans g8).heap (heap_new _ rfl))
              have NBf : (w8.alloc (.cells #[.int .u64 (hiI (sc * past + sc * X1)), .int .u64 (loI (sc * past + sc * X1))] 57)).heap[w8.heap.size]? = some (.cells #[.int .u64 (hiI (sc * past + sc * X1)), .int .u64 (loI (sc * past + sc * X1))] 57 (0, 0)) := heap_new _ rfl
              generalize hneed : sc * past + sc * X1 = need at *
              generalize hW9 : w8.alloc (.cells #[.int .u64 (hiI need), .int .u64 (loI need)] 57) = W9 at *
              generalize w5.heap.size = RB at *
              generalize w8.heap.size = NB at *
              have SA5 := SA4.of_block (GW.block _ SA4.lt)
              have SD5 := SD4.of_block (GW.block _ SD4.lt)
              have bel5 := bel4.trans (Below.mono GW bel4.size)
              have cR : ∀ (g : Gro W9) o, g.x.cell? ⟨RB, o, none⟩ = _ := fun g o => cell_of_heap (g.h.heap RBf) o
              have cN : ∀ (g : Gro W9) o, g.x.cell? ⟨NB, o, none⟩ = _ := fun g o => cell_of_heap (g.h.heap NBf) o
              have hne9 : Nonempty (Gro W9) := ⟨⟨W9, Grows.refl W9⟩⟩
              have hwant : Hid (got = if sc * C < need + sl * E1 then false else !sm (winP N1 (N1 + E1)) A n || !decide (sc * C + sl * N1 < pk sl sc (winP N1 (N1 + E1)) A D n n + need)) := by
                unfold Hid
                rw [hgot.out]
                unfold wantP
                rw [← hpast.out, hneed]
              have hneedH : Hid (sc * past + sc * X1 = need) := hneed
              clear hgot hpast hneed hW9 g5 g6 g7 g8 GW SA4 SD4 bel4
              by_cases hless : sc * C < need + sl * E1
              · have hg : got = false := by rw [hwant.out, if_pos hless]
                have hl : ∀ w, Calls Yba.prog 15 #[.agg #[.int .u64 (hiI (sc * C)), .int .u64 (loI (sc * C))], .agg #[.int .u64 (hiI (need + sl * E1)), .int .u64 (loI (need + sl * E1))]] w fun e w' => e = .returned (.bool true) ∧ Grows w w' := fun w => by
                  have := zless15 (sc * C) (need + sl * E1) w
                  rwa [decide_eq_true hless] at this
                subst hg
                clear hwant hless
                refine wp_region_grow0 _ (by kernel_rfl) (by kernel_rfl) ?_
                repeat (go_big_quiet_step (first
                  | (go_at_call 13; exact Gro.call _ (zmul13 _ _ (by assumption) (by assumption) _))
                  | (go_at_call 14; exact Gro.call _ (zadd14 _ _ (by assumption) (by assumption) (by assumption) _))
                  | (go_at_call 15; exact Gro.call _ (hl _))))
                refine wpQuiet_nil ?_
                rintro _ ⟨g, rfl⟩
                clear cR cN hne9 hl
                go_wp2
                go_ret
                exact ⟨rfl, bel5.trans (Below.mono g.h bel5.size)⟩
              · have hl : ∀ w, Calls Yba.prog 15 #[.agg #[.int .u64 (hiI (sc * C)), .int .u64 (loI (sc * C))], .agg #[.int .u64 (hiI (need + sl * E1)), .int .u64 (loI (need + sl * E1))]] w fun e w' => e = .returned (.bool false) ∧ Grows w w' := fun w => by
                  have := zless15 (sc * C) (need + sl * E1) w
                  rwa [decide_eq_false hless] at this
                have hwant2 : Hid (got = (!sm (winP N1 (N1 + E1)) A n || !decide (sc * C + sl * N1 < pk sl sc (winP N1 (N1 + E1)) A D n n + need))) := by
                  unfold Hid
                  rw [hwant.out, if_neg hless]
                clear hwant hless
                refine wp_region_grow0 _ (by kernel_rfl) (by kernel_rfl) ?_
                repeat (go_big_quiet_step (first
                  | (go_at_call 13; exact Gro.call _ (zmul13 _ _ (by assumption) (by assumption) _))
                  | (go_at_call 14; exact Gro.call _ (zadd14 _ _ (by assumption) (by assumption) (by assumption) _))
                  | (go_at_call 15; exact Gro.call _ (hl _))))
                refine wpQuiet_nil ?_
                rintro _ ⟨g, rfl⟩
                clear cR cN hne9 hl
                go_wp2_with fail
                have K10 : Grows W9 (g.x.alloc (.cells #[.int .u64 0, .int .u64 0] 57)) := g.h.alloc _
                have PBf : (g.x.alloc (.cells #[.int .u64 0, .int .u64 0] 57)).heap[g.x.heap.size]? = some (.cells #[.int .u64 (hiI (pk sl sc (winP N1 (N1 + E1)) A D n 0)), .int .u64 (loI (pk sl sc (winP N1 (N1 + E1)) A D n 0))] 57 (0, 0)) := heap_new _ rfl
                have hPB : W9.heap.size ≤ g.x.heap.size := g.h.size
                generalize hW10 : g.x.alloc (.cells #[.int .u64 0, .int .u64 0] 57) = W10 at *
                generalize g.x.heap.size = PB at *
                have SA6 := SA5.of_block (K10.block _ SA5.lt)
                have SD6 := SD5.of_block (K10.block _ SD5.lt)
                have hPA : w.heap.size + 1 ≠ PB := by have := SA5.lt; omega
                have hPD : w.heap.size + 1 + 1 ≠ PB := by have := SD5.lt; omega
                have hPR : RB ≠ PB := by have := (Array.getElem?_eq_some_iff.1 RBf).1; omega
                have hPN : NB ≠ PB := by have := (Array.getElem?_eq_some_iff.1 NBf).1; omega
                have RB6 := K10.heap RBf
                have NB6 := K10.heap NBf
                have bel6 := bel5.trans (Below.mono K10 bel5.size)
                have hPw : w.heap.size ≤ PB := by have := SA5.lt; omega
                clear hW10 SA5 SD5 RBf NBf bel5 K10 hPB
                go_loopw [42, 44] (fun s i wr' => ∃ k4 : Nat, k4 ≤ n ∧ i = .int .i64 k4 ∧ s = .bool (sm (winP N1 (N1 + E1)) A k4) ∧ Kept (fun k => k = PB) W10 wr' ∧ wr'.heap[PB]? = some (.cells #[.int .u64 (hiI (pk sl sc (winP N1 (N1 + E1)) A D n k4)), .int .u64 (loI (pk sl sc (winP N1 (N1 + E1)) A D n k4))] 57 (0, 0))) (fun _ i _ => n - (intOf i).toNat)
                case atStart => exact ⟨0, Nat.zero_le _, rfl, rfl, Kept.refl _ _, PBf⟩
                case round =>
                  obtain ⟨k4, hk4, rfl, rfl, K4, P4⟩ := hrel
                  clear PBf
                  have SA7 := SA6.of_block (K4.block _ SA6.lt hPA)
                  have SD7 := SD6.of_block (K4.block _ SD6.lt hPD)
                  by_cases hl6 : k4 < n
                  · have r1 := SA7.cell hl6
                    have hAk := HH.out.a k4 hl6
                    by_cases hw1 : A k4 ≤ N1
                    · have hwf : winP N1 (N1 + E1) (A k4) = false := by unfold winP; simp; omega
                      have hsm2 : Hid (sm (winP N1 (N1 + E1)) A (k4 + 1) = sm (winP N1 (N1 + E1)) A k4) := by unfold Hid; simp only [sm, hwf, Bool.or_false]
                      have hpk2 : Hid (pk sl sc (winP N1 (N1 + E1)) A D n (k4 + 1) = pk sl sc (winP N1 (N1 + E1)) A D n k4) := by unfold Hid; simp only [pk, hwf, Bool.false_eq_true, if_false]
                      clear hwf
                      generalize sm (winP N1 (N1 + E1)) A k4 = smk at *
                      go_wp2
                      go_roundw
                      case rel => exact ⟨k4 + 1, by omega, by go_num, by rw [hsm2.out], K4, by rw [hpk2.out]; exact P4⟩
                      case measure => simp [intOf]; omega
                    · by_cases hw2 : N1 + E1 < A k4
                      · have hwf : winP N1 (N1 + E1) (A k4) = false := by unfold winP; simp; omega
                        have hsm2 : Hid (sm (winP N1 (N1 + E1)) A (k4 + 1) = sm (winP N1 (N1 + E1)) A k4) := by unfold Hid; simp only [sm, hwf, Bool.or_false]
                        have hpk2 : Hid (pk sl sc (winP N1 (N1 + E1)) A D n (k4 + 1) = pk sl sc (winP N1 (N1 + E1)) A D n k4) := by unfold Hid; simp only [pk, hwf, Bool.false_eq_true, if_false]
                        clear hwf
                        generalize sm (winP N1 (N1 + E1)) A k4 = smk at *
                        go_wp2
                        go_roundw
                        case rel => exact ⟨k4 + 1, by omega, by go_num, by rw [hsm2.out], K4, by rw [hpk2.out]; exact P4⟩
                        case measure => simp [intOf]; omega
                      · have hwt : winP N1 (N1 + E1) (A k4) = true := by unfold winP; simp; omega
                        have hsm2 : Hid (sm (winP N1 (N1 + E1)) A (k4 + 1) = true) := by unfold Hid; simp only [sm, hwt, Bool.or_true]
                        have hpk2 : Hid (pk sl sc (winP N1 (N1 + E1)) A D n (k4 + 1) = if pk sl sc (winP N1 (N1 + E1)) A D n k4 < lv sl sc (winP N1 (N1 + E1)) A D n k4 then lv sl sc (winP N1 (N1 + E1)) A D n k4 else pk sl sc (winP N1 (N1 + E1)) A D n k4) := by unfold Hid; simp only [pk, hwt, if_true]
                        clear hwt
                        generalize sm (winP N1 (N1 + E1)) A k4 = smk at *
                        go_wp2_with fail
                        go_loopw [45, 46] (fun s i wr'' => ∃ k5 : Nat, k5 ≤ n ∧ i = .int .i64 k5 ∧ s = .int .i64 (psum (fun a => winP N1 (N1 + E1) a && decide (A k4 ≤ a)) A D k5) ∧ ∃ q, wr'' = wr.drewN q) (fun _ i _ => n - (intOf i).toNat)
                        case atStart => exact ⟨0, Nat.zero_le _, rfl, rfl, 0, rfl⟩
                        case round =>
                          obtain ⟨k5, hk5, rfl, rfl, q, rfl⟩ := hrel
                          have hps5 := psum_le HH.out (fun a => winP N1 (N1 + E1) a && decide (A k4 ≤ a)) k5 hk5
                          by_cases hl7 : k5 < n
                          · have r5 := SA7.cell hl7
                            have r6 := SD7.cell hl7
                            have hDk := HH.out.d k5 hl7
                            have hstep : Hid (psum (fun a => winP N1 (N1 + E1) a && decide (A k4 ≤ a)) A D (k5 + 1) = psum (fun a => winP N1 (N1 + E1) a && decide (A k4 ≤ a)) A D k5 + if ((decide (N1 < A k5) && decide (A k5 ≤ N1 + E1)) && decide (A k4 ≤ A k5)) then D k5 else 0) := rfl
                            generalize psum (fun a => winP N1 (N1 + E1) a && decide (A k4 ≤ a)) A D k5 = ps at *
                            have wps : IntKind.i64.wrap (ps + D k5) = ps + D k5 := IntWalk.i64_in _ (by omega)
                            clear hsm2 hpk2 P4 RB6 NB6 SA6 SD6
                            by_cases h1 : N1 < A k5
                            · by_cases h2 : A k5 ≤ N1 + E1
                              · by_cases h3 : A k4 ≤ A k5
                                · go_wp2
                                  go_quiet (fail)
                                  go_wp2
                                  go_roundw
                                  case rel => exact ⟨k5 + 1, by omega, by go_num, by rw [hstep.out]; simp [h1, h2, h3], q + nq, rfl⟩
                                  case measure => simp [intOf]; omega
                                · have hd3 : decide (A k4 ≤ A k5) = false := decide_eq_false h3
                                  go_wp2
                                  go_quiet (fail)
                                  go_wp2
                                  go_roundw
                                  case rel => exact ⟨k5 + 1, by omega, by go_num, by rw [hstep.out]; simp; omega, q + nq, rfl⟩
                                  case measure => simp [intOf]; omega
                              · have hd2 : decide (A k5 ≤ N1 + E1) = false := decide_eq_false h2
                                go_wp2
                                go_quiet (fail)
                                go_wp2
                                go_roundw
                                case rel => exact ⟨k5 + 1, by omega, by go_num, by rw [hstep.out]; simp; omega, q + nq, rfl⟩
                                case measure => simp [intOf]; omega
                            · have hd1 : decide (N1 < A k5) = false := decide_eq_false h1
                              go_wp2
                              go_quiet (fail)
                              go_wp2
                              go_roundw
                              case rel => exact ⟨k5 + 1, by omega, by go_num, by rw [hstep.out]; simp; omega, q + nq, rfl⟩
                              case measure => simp [intOf]; omega
                          · have hk5n : k5 = n := by omega
                            have hl8 : ¬ (k5 : Int) < (n : Int) := by omega
                            have hlv : Hid (lv sl sc (winP N1 (N1 + E1)) A D n k4 = sl * A k4 + sc * psum (fun a => winP N1 (N1 + E1) a && decide (A k4 ≤ a)) A D k5) := by unfold Hid; rw [hk5n]; rfl
                            have hn2 := HH.out.len
                            generalize psum (fun a => winP N1 (N1 + E1) a && decide (A k4 ≤ a)) A D k5 = ss at *
                            have wss : IntKind.u64.wrap ss = ss := by rw [IntKind.wrap_u64]; omega
                            have wAk : IntKind.u64.wrap (A k4) = A k4 := by rw [IntKind.wrap_u64]; omega
                            have dss : Word ss := ⟨hps5.1, by omega⟩
                            have dAk : Word (A k4) := ⟨hAk.1, by omega⟩
                            have e1 := mul_bound hsl (show sl ≤ 1099511627776 by omega) hAk.1 hAk.2
                            have e2 := mul_bound hsc hsc1 hps5.1 (show ss ≤ (8796093022208 : Int) by omega)
                            have e3 : sl * A k4 + sc * ss < 340282366920938463463374607431768211456 := by omega
                            rw [hlv.out] at hpk2
                            generalize pk sl sc (winP N1 (N1 + E1)) A D n k4 = pkk at *
                            clear hlv SA6 SD6 SD7 hl7
                            go_wp2_with fail
                            refine (zmul13 sl (A k4) dsl dAk _).mono ?_
                            rintro e w11 ⟨rfl, g11⟩
                            go_wp2_with fail
                            refine (zmul13 sc ss dsc dss _).mono ?_
                            rintro e w12 ⟨rfl, g12⟩
                            go_wp2_with fail
                            refine (zadd14 (sl * A k4) (sc * ss) e1.1 e2.1 e3 _).mono ?_
                            rintro e w13 ⟨rfl, g13⟩
                            have K5 := ((((K4.grow (below_drewN (Below.refl _ _) q)).grow g11).grow g12).grow g13)
                            have P5 := (((show Grows _ _ from below_drewN (Below.refl _ _) q).trans g11).trans (g12.trans g13)).heap P4
                            generalize hvv : sl * A k4 + sc * ss = vv at *
                            have P6 : ∀ o, (w13.alloc o).heap[PB]? = _ := fun o => ((Grows.refl w13).alloc o).heap P5
                            have P6c : ∀ o i, (w13.alloc o).cell? ⟨PB, i, none⟩ = _ := fun o i => cell_of_heap (P6 o) i
                            have V6 : (w13.alloc (.cells #[.int .u64 (hiI vv), .int .u64 (loI vv)] 57)).heap[w13.heap.size]? = _ := heap_new _ rfl
                            clear hvv
                            go_wp2_with fail
                            by_cases hpv : pkk < vv
                            · have hlz : ∀ w, Calls Yba.prog 15 #[.agg #[.int .u64 (hiI pkk), .int .u64 (loI pkk)], .agg #[.int .u64 (hiI vv), .int .u64 (loI vv)]] w fun e w' => e = .returned (.bool true) ∧ Grows w w' := fun w => by
                                have := zless15 pkk vv w
                                rwa [decide_eq_true hpv] at this
                              rw [if_pos hpv] at hpk2
                              refine (hlz _).mono ?_
                              rintro e w14 ⟨rfl, g14⟩
                              have K6 := (K5.grow ((Grows.refl w13).alloc (.cells #[.int .u64 (hiI vv), .int .u64 (loI vv)] 57))).grow g14
                              have V7 := g14.heap V6
                              have P7 := g14.heap (P6 _)
                              have c7 := cell_of_heap V7
                              have c8 := cell_of_heap P7
                              have z8 := frozen_of_heap P7
                              have K8 := Kept.setCell (Kept.setCell K6 ⟨PB, 0, none⟩ (.int .u64 (hiI vv)) (.inl rfl)) ⟨PB, 1, none⟩ (.int .u64 (loI vv)) (.inl rfl)
                              have P8 := heap_setCell_at (o := 1) (.int .u64 (loI vv)) (heap_setCell_at (o := 0) (.int .u64 (hiI vv)) P7)
                              clear hpv hlz P6 P6c V6 V7 P7 K6 K5 P5 K4 P4
                              go_wp2_with fail
                              go_roundw
                              case rel => exact ⟨k4 + 1, by omega, by go_num, by rw [hsm2.out], K8, by rw [hpk2.out]; exact P8⟩
                              case measure => simp [intOf]; omega
                            · have hlz : ∀ w, Calls Yba.prog 15 #[.agg #[.int .u64 (hiI pkk), .int .u64 (loI pkk)], .agg #[.int .u64 (hiI vv), .int .u64 (loI vv)]] w fun e w' => e = .returned (.bool false) ∧ Grows w w' := fun w => by
                                have := zless15 pkk vv w
                                rwa [decide_eq_false hpv] at this
                              rw [if_neg hpv] at hpk2
                              refine (hlz _).mono ?_
                              rintro e w14 ⟨rfl, g14⟩
                              have K6 := (K5.grow ((Grows.refl w13).alloc (.cells #[.int .u64 (hiI vv), .int .u64 (loI vv)] 57))).grow g14
                              have P7 := g14.heap (P6 _)
                              clear hpv hlz P6 P6c V6 K5 P5 K4 P4
                              go_wp2_with fail
                              go_roundw
                              case rel => exact ⟨k4 + 1, by omega, by go_num, by rw [hsm2.out], K6, by rw [hpk2.out]; exact P7⟩
                              case measure => simp [intOf]; omega
                  · have hk4n : k4 = n := by omega
                    have hl9 : ¬ (k4 : Int) < (n : Int) := by omega
                    rw [hk4n] at P4
                    have hsmn : Hid (sm (winP N1 (N1 + E1)) A k4 = sm (winP N1 (N1 + E1)) A n) := by unfold Hid; rw [hk4n]
                    have pn0 := pk_nonneg (sl := sl) (sc := sc) (win := winP N1 (N1 + E1)) (A := A) (D := D) (n := n) n
                    have pn1 := pk_bound (win := winP N1 (N1 + E1)) HH.out hsl (show sl ≤ 1099511627776 by omega) hsc hsc1
                    have R7 := K4.heap RB6 hPR
                    have N7 := K4.heap NB6 hPN
                    have belF : Below w.heap.size w wr := bel6.trans ⟨K4.os, K4.tape, K4.output, K4.size, fun k hk => K4.block k (by have := bel6.size; omega) (by omega)⟩
                    have hnd := hneedH.out
                    rw [← hsmn.out] at hwant2
                    generalize pk sl sc (winP N1 (N1 + E1)) A D n n = pkn at *
                    generalize sm (winP N1 (N1 + E1)) A k4 = smn at *
                    have q4 : pkn + need < 340282366920938463463374607431768211456 := by omega
                    clear SA6 SD6 SA7 SD7 K4 RB6 NB6 hnd hneedH bel6 hsmn
                    go_wp2_with fail
                    have cR : ∀ (g : Gro wr) o, g.x.cell? ⟨RB, o, none⟩ = _ := fun g o => cell_of_heap (g.h.heap R7) o
                    have cN : ∀ (g : Gro wr) o, g.x.cell? ⟨NB, o, none⟩ = _ := fun g o => cell_of_heap (g.h.heap N7) o
                    have cP : ∀ (g : Gro wr) o, g.x.cell? ⟨PB, o, none⟩ = _ := fun g o => cell_of_heap (g.h.heap P4) o
                    have hneF : Nonempty (Gro wr) := ⟨⟨wr, Grows.refl wr⟩⟩
                    cases smn
                    · have hg : got = true := by rw [hwant2.out]; rfl
                      subst hg
                      clear hwant2
                      refine wp_region_grow0 _ (by kernel_rfl) (by kernel_rfl) ?_
                      repeat (go_big_quiet_step (fail))
                      refine wpQuiet_nil ?_
                      rintro _ ⟨g, rfl⟩
                      clear cR cN cP hneF
                      go_wp2
                      go_ret
                      exact ⟨rfl, belF.trans (Below.mono g.h belF.size)⟩
                    · obtain ⟨dc, hdc⟩ : ∃ dc, dc = decide (sc * C + sl * N1 < pkn + need) := ⟨_, rfl⟩
                      have hg : got = !dc := by rw [hwant2.out, hdc]; rfl
                      have hlz : ∀ w, Calls Yba.prog 15 #[.agg #[.int .u64 (hiI (sc * C + sl * N1)), .int .u64 (loI (sc * C + sl * N1))], .agg #[.int .u64 (hiI (pkn + need)), .int .u64 (loI (pkn + need))]] w fun e w' => e = .returned (.bool dc) ∧ Grows w w' := fun w => by
                        rw [hdc]
                        exact zless15 _ _ w
                      subst hg
                      clear hwant2 hdc
                      refine wp_region_grow0 _ (by kernel_rfl) (by kernel_rfl) ?_
                      repeat (go_big_quiet_step (first
                        | (go_at_call 13; exact Gro.call _ (zmul13 _ _ (by assumption) (by assumption) _))
                        | (go_at_call 14; exact Gro.call _ (zadd14 _ _ (by assumption) (by assumption) (by assumption) _))
                        | (go_at_call 15; exact Gro.call _ (hlz _))))
                      refine wpQuiet_nil ?_
                      rintro _ ⟨g, rfl⟩
                      clear cR cN cP hneF hlz
                      go_wp2
                      go_ret
                      exact ⟨by simp, belF.trans (Below.mono g.h belF.size)⟩
end Go.Proofs.Ybulkdtfu
