/-
  THE WALKS of seat b6616541a, 12: FnMostLeavingIsLeavingListAlone.
-/
import Derived.Test.Qxb6616541aVb
namespace Go.Proofs.Qxb6616541a
open Go.RowKit
set_option linter.unusedVariables false
set_option linter.unusedSimpArgs false

/-- What Most answers of one list, under names. -/
structure MostEq (A T ND : Int) (B : Bool) (n : Nat) (nm : Nat → ByteArray) (vt : Nat → Int) (has : Bool) (k : Int) (mem : Nat → ByteArray) (m : Nat) (tb : ByteArray) : Prop where
  a : A = wrap64 (held nm vt n mem m + witOf has k)
  t : T = wrap64 (sumTo vt n + witOf has k)
  nd : ND = need (wrap64 (sumTo vt n + witOf has k))
  b : B = tbHeld tb mem m

theorem most8_one_v {A T ND : Int} {B : Bool} (lb m cm : Nat) (am : Option Addr) (mem : Nat → ByteArray) (tb : ByteArray) (n0 : Nat) (nm0 : Nat → ByteArray) (vt0 : Nat → Int) (h0 : Bool) (k0 : Int) (n1 : Nat) (nm1 : Nat → ByteArray) (vt1 : Nat → Int) (h1 : Bool) (k1 : Int) (w : World)
    (hn0 : n0 ≤ 1048576) (hm : m ≤ 1048577) (h : IsVs w lb false n0 nm0 vt0 h0 k0 n1 nm1 vt1 h1 k1) (hS : IsS w am m mem) (E : MostEq A T ND B n0 nm0 vt0 h0 k0 mem m tb) :
    Calls Try.prog 8 #[.agg #[.slice (some ⟨lb, 0, none⟩) 1 1], .slice am m cm, .string tb] w fun e w' => e = .returned (.agg (vCells A T ND tb B 0 0 0 false)) ∧ Kept No w w' := by
  obtain ⟨rfl, rfl, rfl, rfl⟩ := E
  exact most8_one lb m cm am mem tb n0 nm0 vt0 h0 k0 n1 nm1 vt1 h1 k1 w hn0 hm h hS
theorem most8_two_v {A T ND LA A1 LT LN : Int} {B : Bool} (lb m cm : Nat) (am : Option Addr) (mem : Nat → ByteArray) (tb : ByteArray) (n0 : Nat) (nm0 : Nat → ByteArray) (vt0 : Nat → Int) (h0 : Bool) (k0 : Int) (n1 : Nat) (nm1 : Nat → ByteArray) (vt1 : Nat → Int) (h1 : Bool) (k1 : Int) (w : World)
    (hn0 : n0 ≤ 1048576) (hn1 : n1 ≤ 1048576) (hm : m ≤ 1048577) (h : IsVs w lb true n0 nm0 vt0 h0 k0 n1 nm1 vt1 h1 k1) (hS : IsS w am m mem) (E : MostEq A T ND B n0 nm0 vt0 h0 k0 mem m tb) (E1 : MostEq A1 LT LN B n1 nm1 vt1 h1 k1 mem m tb) (hLA : LA = wrap64 (held nm1 vt1 n1 mem m + witOf h0 k0)) :
    Calls Try.prog 8 #[.agg #[.slice (some ⟨lb, 0, none⟩) 2 2], .slice am m cm, .string tb] w fun e w' => e = .returned (.agg (vCells A T ND tb B LA LT LN B)) ∧ Kept No w w' := by
  obtain ⟨rfl, rfl, rfl, rfl⟩ := E
  obtain ⟨rfl, rfl, rfl, _⟩ := E1
  subst hLA
  exact most8_two lb m cm am mem tb n0 nm0 vt0 h0 k0 n1 nm1 vt1 h1 k1 w hn0 hn1 hm h hS
theorem mostIs9_one_v {A T ND : Int} {B : Bool} (tb : ByteArray) (a0 am : Option Addr) (n0 c0 m cm : Nat) (nm0 mem : Nat → ByteArray) (vt0 : Nat → Int) (h0 : Bool) (k0 : Int) (v5 v6 v7 : Value) (w : World)
    (hn0 : n0 ≤ 1048576) (hm : m ≤ 1048576) (hmc : m ≤ cm) (hN0 : IsN w a0 n0 nm0 vt0) (hS : IsS w am m mem) (E : MostEq A T ND B n0 nm0 vt0 h0 k0 mem m tb) :
    Calls Try.prog 9 #[.agg (vCells A T ND tb B 0 0 0 false), .slice a0 n0 c0, .bool h0, .int .i64 k0, .bool false, v5, v6, v7, .slice am m cm, .string tb] w fun e w' => e = .returned (.bool true) ∧ Kept No w w' := by
  obtain ⟨rfl, rfl, rfl, rfl⟩ := E
  exact mostIs9_one tb a0 am n0 c0 m cm nm0 mem vt0 h0 k0 v5 v6 v7 w hn0 hm hmc hN0 hS

theorem Kept.blk {w w' : World} (q : Kept No w w') {b : Nat} {o : Obj} (h : w.heap[b]? = some o) : w'.heap[b]? = some o := (q.block b (lt_of_block h) (fun x => x)).trans h

set_option maxRecDepth 100000 in
set_option maxHeartbeats 3200000 in
theorem leaving_in (A T ND LA A1 LT LN W0 W1 : Int) (B : Bool) (a0 a1 am : Option Addr) (n0 c0 n1 c1 m cm : Nat) (nm0 nm1 mem : Nat → ByteArray) (vt0 vt1 : Nat → Int) (h0 h1 : Bool) (k0 k1 : Int) (tb : ByteArray) (w : World)
    (hN0 : IsN w a0 n0 nm0 vt0) (hN1 : IsN w a1 n1 nm1 vt1) (hS : IsS w am m mem) (hnil0 : a0 = none → n0 = 0 ∧ c0 = 0) (hnil1 : a1 = none → n1 = 0 ∧ c1 = 0) (hmc : m ≤ cm)
    (E : MostEq A T ND B n0 nm0 vt0 h0 k0 mem m tb) (E1 : MostEq A1 LT LN B n1 nm1 vt1 h1 k1 mem m tb) (hLA : Hid (LA = wrap64 (held nm1 vt1 n1 mem m + witOf h0 k0))) (hW0 : Hid (witOf h0 k0 = W0)) (hW1 : Hid (witOf h1 k1 = W1))
    (hq : (LA == wrap64 (wrap64 (A1 - W1) + W0)) = true) :
    Calls Try.prog 4 #[.slice a0 n0 c0, .bool h0, .int .i64 k0, .slice a1 n1 c1, .bool h1, .int .i64 k1, .slice am m cm, .string tb] w fun e w' => e = .returned (.bool true) ∧ Kept No w w' := by
  go_enter Try.func4, Try.ntmps4
  go_wp2_with fail
  refine (bytes12 a0 a1 am n0 c0 n1 c1 m cm nm0 nm1 mem vt0 vt1 h0 h1 k0 k1 tb w hN0 hN1 hS).mono ?_
  rintro e w ⟨⟨b, rfl, hb⟩, rfl⟩
  cases b
  · go_wp2
    go_ret
    exact ⟨rfl, Kept.refl _ _⟩
  obtain ⟨hn0, hn1, hm⟩ := hb rfl
  go_wp2_with fail
  refine (tooBig6 a0 a1 am n0 c0 n1 c1 m cm nm0 nm1 mem vt0 vt1 ⟨#[]⟩ tb w hN0 hN1 hS).mono ?_
  rintro e w ⟨⟨b, rfl, _⟩, rfl⟩
  cases b
  rotate_left
  · go_wp2
    go_ret
    exact ⟨rfl, Kept.refl _ _⟩
  go_wp2_with fail
  refine (voters7_two a0 a1 n0 c0 nm0 vt0 h0 k0 n1 c1 nm1 vt1 h1 k1 w hn0 hn1 hN0 hnil0 hN1 hnil1).mono ?_
  rintro e w1 ⟨⟨lb1, rfl, V1⟩, q1⟩
  go_wp2_with fail
  refine (most8_two_v lb1 m cm am mem tb n0 nm0 vt0 h0 k0 n1 nm1 vt1 h1 k1 w1 hn0 hn1 (by omega) V1 (q1.isS hS) E E1 hLA.out).mono ?_
  rintro e w2 ⟨rfl, q2⟩
  have Q2 := (q1.trans q2).more (.cells (vCells A T ND tb B LA LT LN B) 33)
  have B2 := heap_alloc_new w2 (.cells (vCells A T ND tb B LA LT LN B) 33)
  unfold vCells at Q2 ⊢
  go_wp2_with fail
  refine (voters7_one a0 n0 c0 nm0 vt0 h0 k0 _ _ _ n1 nm1 vt1 h1 k1 _ hn0 (Q2.isN hN0) hnil0).mono ?_
  rintro e w3 ⟨⟨lb3, rfl, V3⟩, q3⟩
  have Q3 := Q2.trans q3
  have B3 := q3.blk B2
  go_wp2_with fail
  refine (most8_one_v lb3 m cm am mem tb n0 nm0 vt0 h0 k0 n1 nm1 vt1 h1 k1 w3 hn0 (by omega) V3 (Q3.isS hS) E).mono ?_
  rintro e w4 ⟨rfl, q4⟩
  have Q4 := (Q3.trans q4).more (.cells (vCells A T ND tb B 0 0 0 false) 33)
  have B4 := ((Kept.refl No w4).more (.cells (vCells A T ND tb B 0 0 0 false) 33)).blk (q4.blk B3)
  have C4 := heap_alloc_new w4 (.cells (vCells A T ND tb B 0 0 0 false) 33)
  unfold vCells at Q4 ⊢
  go_wp2_with fail
  refine (voters7_one a1 n1 c1 nm1 vt1 h1 k1 _ _ _ n1 nm1 vt1 h1 k1 _ hn1 (Q4.isN hN1) hnil1).mono ?_
  rintro e w5 ⟨⟨lb5, rfl, V5⟩, q5⟩
  have Q5 := Q4.trans q5
  have B5 := q5.blk B4
  have C5 := q5.blk C4
  go_wp2_with fail
  refine (most8_one_v lb5 m cm am mem tb n1 nm1 vt1 h1 k1 n1 nm1 vt1 h1 k1 w5 hn1 (by omega) V5 (Q5.isS hS) E1).mono ?_
  rintro e w6 ⟨rfl, q6⟩
  have Q6 := (Q5.trans q6).more (.cells (vCells A1 LT LN tb B 0 0 0 false) 33)
  have B6 := ((Kept.refl No w6).more (.cells (vCells A1 LT LN tb B 0 0 0 false) 33)).blk (q6.blk B5)
  have C6 := ((Kept.refl No w6).more (.cells (vCells A1 LT LN tb B 0 0 0 false) 33)).blk (q6.blk C5)
  have D6 := heap_alloc_new w6 (.cells (vCells A1 LT LN tb B 0 0 0 false) 33)
  have z2 := lt_of_block (q6.blk B5)
  have z4 := lt_of_block (q6.blk C5)
  obtain ⟨x0, x1, x2, x3, x4, x5, x6, x7, x8⟩ := v_cells (q6.blk B5)
  obtain ⟨y0, y1, y2, y3, y4, y5, y6, y7, y8⟩ := v_cells (q6.blk C5)
  unfold vCells at Q6 ⊢
  go_wp2_with fail
  refine (mostIs9_one_v tb a0 am n0 c0 m cm nm0 mem vt0 h0 k0 _ _ _ _ hn0 hm hmc (Q6.isN hN0) (Q6.isS hS) E).mono ?_
  rintro e w7 ⟨rfl, q7⟩
  have Q7 := Q6.trans q7
  have B7 := q7.blk B6
  have C7 := q7.blk C6
  have D7 := q7.blk D6
  clear x0 x1 x2 x3 x4 x5 x6 x7 x8 y0 y1 y2 y3 y4 y5 y6 y7 y8
  obtain ⟨x0, x1, x2, x3, x4, x5, x6, x7, x8⟩ := v_cells D7
  go_wp2_with fail
  refine (mostIs9_one_v tb a1 am n1 c1 m cm nm1 mem vt1 h1 k1 _ _ _ _ hn1 hm hmc (Q7.isN hN1) (Q7.isS hS) E1).mono ?_
  rintro e w8 ⟨rfl, q8⟩
  have Q8 := Q7.trans q8
  clear x0 x1 x2 x3 x4 x5 x6 x7 x8
  obtain ⟨x0, x1, x2, x3, x4, x5, x6, x7, x8⟩ := v_cells (q8.blk B7)
  obtain ⟨y0, y1, y2, y3, y4, y5, y6, y7, y8⟩ := v_cells (q8.blk C7)
  obtain ⟨u0, u1, u2, u3, u4, u5, u6, u7, u8⟩ := v_cells (q8.blk D7)
  clear B2 B3 B4 B5 B6 B7 C4 C5 C6 C7 D6 D7 V1 V3 V5 hN0 hN1 hS
  go_wp2_with fail
  refine (wit13' W0 h0 k0 _ hW0.out).mono ?_
  rintro e w8 ⟨rfl, rfl⟩
  go_wp2_with fail
  refine (wit13' W1 h1 k1 _ hW1.out).mono ?_
  rintro e w8 ⟨rfl, rfl⟩
  go_wp2_with fail
  go_ret
  exact ⟨rfl, Q8⟩

theorem leaving_any (a0 a1 am : Option Addr) (n0 c0 n1 c1 m cm : Nat) (nm0 nm1 mem : Nat → ByteArray) (vt0 vt1 : Nat → Int) (h0 h1 : Bool) (k0 k1 : Int) (tb : ByteArray) (w : World)
    (hN0 : IsN w a0 n0 nm0 vt0) (hN1 : IsN w a1 n1 nm1 vt1) (hS : IsS w am m mem) (hnil0 : a0 = none → n0 = 0 ∧ c0 = 0) (hnil1 : a1 = none → n1 = 0 ∧ c1 = 0) (hmc : m ≤ cm) :
    Calls Try.prog 4 #[.slice a0 n0 c0, .bool h0, .int .i64 k0, .slice a1 n1 c1, .bool h1, .int .i64 k1, .slice am m cm, .string tb] w fun e w' => e = .returned (.bool true) ∧ Kept No w w' := by
  refine leaving_in _ _ _ _ _ _ _ _ _ _ a0 a1 am n0 c0 n1 c1 m cm nm0 nm1 mem vt0 vt1 h0 h1 k0 k1 tb w hN0 hN1 hS hnil0 hnil1 hmc ⟨rfl, rfl, rfl, rfl⟩ ⟨rfl, rfl, rfl, rfl⟩ rfl rfl rfl ?_
  rw [beq_iff_eq]
  unfold wrap64
  omega

end Go.Proofs.Qxb6616541a
