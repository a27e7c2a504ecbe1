/-
  THE WALKS of seat b6616541a, 14: FnMostInsertOneMember over two lists; the law.
-/
import Derived.Test.Qxb6616541aVd
namespace Go.Proofs.Qxb6616541a
open Go.RowKit
set_option linter.unusedVariables false
set_option linter.unusedSimpArgs false

set_option maxRecDepth 100000 in
set_option maxHeartbeats 6400000 in
theorem insert_two (A T ND A' W0 VO VO1 LA LA' LT LN A1 A1' : Int) (B B' Hx : Bool) (a0 a1 am : Option Addr) (n0 c0 n1 c1 m cm p : Nat) (nm0 nm1 mem : Nat → ByteArray) (vt0 vt1 : Nat → Int) (h0 h1 : Bool) (k0 k1 : Int) (x tb : ByteArray) (w : World)
    (hN0 : IsN w a0 n0 nm0 vt0) (hN1 : IsN w a1 n1 nm1 vt1) (hS : IsS w am m mem) (hnil0 : a0 = none → n0 = 0 ∧ c0 = 0) (hnil1 : a1 = none → n1 = 0 ∧ c1 = 0) (hmc : m ≤ cm) (hp : p ≤ m)
    (E : MostEq A T ND B n0 nm0 vt0 h0 k0 mem m tb) (E1 : MostEq A1 LT LN B n1 nm1 vt1 h1 k1 mem m tb) (hLA : Hid (LA = wrap64 (held nm1 vt1 n1 mem m + witOf h0 k0)))
    (E' : MostEq A' T ND B' n0 nm0 vt0 h0 k0 (grown mem p x) (m + 1) tb) (E1x : MostEq A1' LT LN B' n1 nm1 vt1 h1 k1 (grown mem p x) (m + 1) tb) (hLA2 : Hid (LA' = wrap64 (held nm1 vt1 n1 (grown mem p x) (m + 1) + witOf h0 k0)))
    (hHx : Hid (hasTo mem m x = Hx)) (hVO : Hid (wrap64 (votesOf nm0 vt0 n0 x) = VO)) (hVO1 : Hid (wrap64 (votesOf nm1 vt1 n1 x) = VO1))
    (hq : Hid (Hx = false → (A' == wrap64 (A + VO)) = true)) (hq' : Hid (Hx = true → (A' == wrap64 A) = true)) (hq1 : Hid (Hx = false → (LA' == wrap64 (LA + VO1)) = true)) (hq1' : Hid (Hx = true → (LA' == wrap64 LA) = true))
    (hB : Hid (B' = (B || (!tb.toList.isEmpty && (x.toList == tb.toList))))) :
    Calls Try.prog 3 #[.slice a0 n0 c0, .bool h0, .int .i64 k0, .bool true, .slice a1 n1 c1, .bool h1, .int .i64 k1, .slice am m cm, .int .i64 p, .string x, .string tb] w fun e w' => e = .returned (.bool true) ∧ Kept No w w' := by
  go_enter Try.func3, Try.ntmps3
  go_wp2_with fail
  refine (bytes5 a0 a1 am n0 c0 n1 c1 m cm nm0 nm1 mem vt0 vt1 h0 h1 true k0 k1 p x tb w hN0 hN1 hS).mono ?_
  rintro e w ⟨⟨b, rfl, hb⟩, rfl⟩
  cases b
  · go_wp2
    go_ret
    exact ⟨rfl, Kept.refl _ _⟩
  obtain ⟨hn0, hn1, hm⟩ := hb rfl
  go_wp2_with fail
  refine (tooBig6 a0 a1 am n0 c0 n1 c1 m cm nm0 nm1 mem vt0 vt1 x tb w hN0 hN1 hS).mono ?_
  rintro e w ⟨⟨b, rfl, _⟩, rfl⟩
  cases b
  rotate_left
  · go_wp2
    go_ret
    exact ⟨rfl, Kept.refl _ _⟩
  have hp' : (p : Int) ≤ (m : Int) := by omega
  have hp0 : ¬ (p : Int) < 0 := by omega
  have hmk := run_make_str (m + 1) (by omega)
  rw [show ((m + 1 : Nat) : Int) = (m : Int) + 1 by omega] at hmk
  go_wp2_with fail
  refine (voters7_two a0 a1 n0 c0 nm0 vt0 h0 k0 n1 c1 nm1 vt1 h1 k1 w hn0 hn1 hN0 hnil0 hN1 hnil1).mono ?_
  rintro e w1 ⟨⟨lb, rfl, V⟩, q1⟩
  go_wp2_with fail
  clear hmk
  go_loopw [25] (fun i wr => ∃ k : Nat, k ≤ p ∧ i = .int .i64 k ∧ GrSt w1 wr (.slice (some ⟨lb, 0, none⟩) 2 2) (m + 1) (grown mem p x) k) (fun i _ => p - (intOf i).toNat)
  case atStart => exact ⟨0, Nat.zero_le _, rfl, GrSt.start w1 _ _ _⟩
  case round =>
    obtain ⟨k, hk, rfl, S⟩ := hrel
    by_cases hlt : k < p
    · obtain ⟨b, off, rfl, hc⟩ := hS (by omega)
      have c0' := (q1.trans S.kept).cell (hc k (by omega)) (fun x => x)
      rw [show mem k = grown mem p x k by unfold grown; rw [if_pos hlt]] at c0'
      have d0 := S.row k (by omega)
      rw [if_neg (by omega)] at d0
      have f0 := S.free k
      have hl : (k : Int) < (p : Int) := by omega
      have hl2 : (k : Int) < (m : Int) := by omega
      have hl3 : (k : Int) < (m : Int) + 1 := by omega
      clear hc
      go_wp2
      go_roundw
      case rel => exact ⟨k + 1, by omega, by go_num, S.step (by omega)⟩
      case measure => simp [intOf]; omega
    · obtain rfl : k = p := by omega
      have d0 := S.row k (by omega)
      rw [if_neg (by omega)] at d0
      have f0 := S.free k
      have hl3 : (k : Int) < (m : Int) + 1 := by omega
      have S' := S.step (k := k) (by omega)
      rw [show grown mem k x k = x by unfold grown; rw [if_neg (by omega), if_pos rfl]] at S'
      have HS' : Hid (GrSt w1 (wr.setCell ⟨w1.heap.size + 1, k, none⟩ (.string x)) (.slice (some ⟨lb, 0, none⟩) 2 2) (m + 1) (grown mem k x) (k + 1)) := S'
      clear S'
      go_wp2_with fail
      go_loopw [26] (fun i wr => ∃ j : Nat, k ≤ j ∧ j ≤ m ∧ i = .int .i64 j ∧ GrSt w1 wr (.slice (some ⟨lb, 0, none⟩) 2 2) (m + 1) (grown mem k x) (j + 1)) (fun i _ => m - (intOf i).toNat)
      case atStart => exact ⟨k, Nat.le_refl _, hp, rfl, HS'.out⟩
      case round =>
        obtain ⟨j, hj0, hj, rfl, S⟩ := hrel
        by_cases hlt : j < m
        · obtain ⟨b, off, rfl, hc⟩ := hS (by omega)
          have c0' := (q1.trans S.kept).cell (hc j (by omega)) (fun x => x)
          rw [show mem j = grown mem k x (j + 1) by unfold grown; rw [if_neg (by omega), if_neg (by omega)]; rfl] at c0'
          have d1 := S.row (j + 1) (by omega)
          rw [if_neg (by omega)] at d1
          have f1 := S.free (j + 1)
          have hl : (j : Int) < (m : Int) := by omega
          have hl1 : (j : Int) + 1 < (m : Int) + 1 := by omega
          clear hc
          go_wp2
          go_roundw
          case rel => exact ⟨j + 1, by omega, by omega, by go_num, S.step (by omega)⟩
          case measure => simp [intOf]; omega
        · obtain rfl : m = j := by omega
          have vbc := cell_of_one S.vb
          have hwz : w1.heap.size < wr.heap.size := lt_of_block S.vb
          have R0 : IsS wr (some ⟨w1.heap.size + 1, 0, none⟩) (m + 1) (grown mem k x) := fun _ => ⟨_, 0, rfl, fun i hi => by rw [Nat.zero_add]; have := S.row i hi; rwa [if_pos hi] at this⟩
          have Qr : Kept No w wr := q1.trans S.kept
          go_wp2_with fail
          refine (most8_two_v lb m cm am mem tb n0 nm0 vt0 h0 k0 n1 nm1 vt1 h1 k1 wr hn0 hn1 (by omega) (V.kept S.kept) ((q1.trans S.kept).isS hS) E E1 hLA.out).mono ?_
          rintro e w4 ⟨rfl, q4⟩
          have Q4 := (Qr.trans q4).more (.cells (vCells A T ND tb B LA LT LN B) 33)
          have P4 : Kept No wr (w4.alloc (.cells (vCells A T ND tb B LA LT LN B) 33)) := q4.more _
          have B4 := heap_alloc_new w4 (.cells (vCells A T ND tb B LA LT LN B) 33)
          have HB4 : Hid _ := B4
          clear B4
          have v4 := q4.cell vbc (fun x => x)
          have z4 : w1.heap.size < w4.heap.size := World.block_lt_of_cell? w4 _ v4
          have R4 := P4.isS R0
          have V4 := V.kept (S.kept.trans P4)
          unfold vCells at Q4 P4 V4 R4 ⊢
          go_wp2_with fail
          refine (most8_two_v lb (m + 1) (m + 1) (some ⟨w1.heap.size + 1, 0, none⟩) (grown mem k x) tb n0 nm0 vt0 h0 k0 n1 nm1 vt1 h1 k1 _ hn0 hn1 (by omega) V4 R4 E' E1x hLA2.out).mono ?_
          rintro e w5 ⟨rfl, q5⟩
          have Q5 := (Q4.trans q5).more (.cells (vCells A' T ND tb B' LA' LT LN B') 33)
          have B5 := q5.blk HB4.out
          have C5 := heap_alloc_new w5 (.cells (vCells A' T ND tb B' LA' LT LN B') 33)
          have B6 := ((Kept.refl No w5).more (.cells (vCells A' T ND tb B' LA' LT LN B') 33)).blk B5
          have HB6 : Hid _ := B6
          have HC6 : Hid _ := C5
          have z5 := lt_of_block B5
          obtain ⟨x0, x1, x2, x3, x4, x5, x6, x7, x8⟩ := v_cells B5
          clear B5 C5 B6
          unfold vCells at Q5 ⊢
          go_wp2_with fail
          refine (mostIs9_two_v tb a0 am n0 c0 m cm nm0 mem vt0 h0 k0 a1 n1 c1 nm1 vt1 h1 k1 _ hn0 hm hmc (Q5.isN hN0) (Q5.isS hS) hn1 (Q5.isN hN1) E E1 hLA.out).mono ?_
          rintro e w6 ⟨rfl, q6⟩
          have Q6 := Q5.trans q6
          clear x0 x1 x2 x3 x4 x5 x6 x7 x8
          obtain ⟨x0, x1, x2, x3, x4, x5, x6, x7, x8⟩ := v_cells (q6.blk HB6.out)
          obtain ⟨y0, y1, y2, y3, y4, y5, y6, y7, y8⟩ := v_cells (q6.blk HC6.out)
          have N6 : Hid (IsN w6 a0 n0 nm0 vt0) := Q6.isN hN0
          have M6 : Hid (IsN w6 a1 n1 nm1 vt1) := Q6.isN hN1
          have S6 : Hid (IsS w6 am m mem) := Q6.isS hS
          clear q1 S Q4 P4 HB4 v4 R4 V4 Q5 HB6 HC6 q4 q5 q6 vbc R0 Qr V hN0 hN1 hS HS' E E1 E' E1x hLA hLA2
          go_wp2_with fail
          refine (has10' Hx am m cm mem x _ (by omega) S6.out hHx.out).mono ?_
          rintro e w6 ⟨rfl, rfl⟩
          cases Hx
          · have hqq := hq.out rfl
            have hqq1 := hq1.out rfl
            clear hq hq' hq1 hq1' hHx
            go_wp2_with fail
            refine (votesOf11' VO a0 n0 c0 nm0 vt0 x _ hn0 N6.out hVO.out).mono ?_
            rintro e w6 ⟨rfl, rfl⟩
            go_wp2_with fail
            refine (votesOf11' VO1 a1 n1 c1 nm1 vt1 x _ hn1 M6.out hVO1.out).mono ?_
            rintro e w6 ⟨rfl, rfl⟩
            go_upto_region 28 with fail
            rcases tb_cases x tb B B' hB.out with ⟨he, rfl⟩ | ⟨he, hx, rfl⟩ | ⟨he, hx, rfl⟩
            all_goals cases B
            all_goals
              go_upto_region 31 with fail
              refine wp_region_quietS ?_
              dsimp only [List.append]
              repeat (go_big_quiet_step (fail))
              refine wpQuiet_nil ?_
              rintro _ ⟨nq, rfl⟩
              go_wp2_with fail
              go_ret
              exact ⟨rfl, Q6.trans (Kept.drewN _ _ _)⟩
          · have hqq := hq'.out rfl
            have hqq1 := hq1'.out rfl
            clear hq hq' hq1 hq1' hHx
            go_upto_region 28 with fail
            rcases tb_cases x tb B B' hB.out with ⟨he, rfl⟩ | ⟨he, hx, rfl⟩ | ⟨he, hx, rfl⟩
            all_goals cases B
            all_goals
              go_upto_region 31 with fail
              refine wp_region_quietS ?_
              dsimp only [List.append]
              repeat (go_big_quiet_step (fail))
              refine wpQuiet_nil ?_
              rintro _ ⟨nq, rfl⟩
              go_wp2_with fail
              go_ret
              exact ⟨rfl, Q6.trans (Kept.drewN _ _ _)⟩

end Go.Proofs.Qxb6616541a
