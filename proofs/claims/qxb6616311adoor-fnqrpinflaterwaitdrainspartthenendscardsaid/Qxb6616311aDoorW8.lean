import Derived.Test.Qxb6616311aDoorW7
namespace Go.Proofs.Qxb6616311aDoor
open Go.RowKit
set_option linter.unusedVariables false
set_option linter.unusedSimpArgs false

set_option maxHeartbeats 1600000 in
theorem drains_main (a : Option Addr) (N cp c : Nat) (xs : List Int) (last : Bool) (w : World) (hB : IsB w a N xs) (hnil : a = none → N = 0 ∧ cp = 0) (hE : Errs w) (hn : N ≤ 1048576) (hc : c ≤ 65536) (hc1 : 1 ≤ c) :
    Calls Tryd.prog 3 #[.slice a N cp, .bool last, .int .i64 c] w fun e w' => e = .returned (.bool true) ∧ Kept (fun _ => False) w w' := by
  have hmk := run_make_row' (P := Tryd.prog) 22 5 (.int .u8 0) 1 Tryd.underlying22 Tryd.info5 rfl .i64 .i64 c (by omega) (by omega)
  obtain ⟨i0, hi, hz0, hz1, hz2⟩ := info_parts Tryd.info5
  have HL : Hid (xs.length = N) := hB.1
  have hg0 := hE.1
  go_enter Tryd.func3, Tryd.ntmps3
  go_wp2_with fail
  refine (bytes5 _ N cp last c _ hn).mono ?_
  rintro e w ⟨rfl, rfl⟩
  go_wp2_with fail
  refine (clone6_any a N cp xs _ hn hB hnil).mono ?_
  rintro e w1 ⟨a1, rfl, hf1, q1⟩
  go_wp2_with fail
  refine (clone6_any a1 N N xs _ hn hf1.isB (fun h => by have := hf1.nil h; omega)).mono ?_
  rintro e w2 ⟨a2, rfl, hf2, q2⟩
  go_wp2_with fail
  refine (new7_any a1 N N last w2).mono ?_
  rintro e w3 ⟨zb, rfl, hzb, hz, q3⟩
  have hs1 := q1.size
  have hs2 := q2.size
  have hs3 := q3.size
  have z3 : zb < w3.heap.size := lt_of_block hz
  obtain ⟨g1, hg1⟩ : ∃ g1, 0 < N → a1 = some ⟨g1, 0, none⟩ ∧ g1 < zb ∧ Row w3 g1 xs := by
    by_cases h0 : 0 < N
    · obtain ⟨g, ha, _, hr⟩ := hf1.row h0
      have : g < w1.heap.size := lt_of_block hr
      exact ⟨g, fun _ => ⟨ha, by omega, (q2.trans q3).row hr (fun h => h)⟩⟩
    · exact ⟨0, fun h => absurd h h0⟩
  obtain ⟨g2, hg2⟩ : ∃ g2, 0 < N → a2 = some ⟨g2, 0, none⟩ ∧ g2 < zb ∧ Row w3 g2 xs := by
    by_cases h0 : 0 < N
    · obtain ⟨g, ha, _, hr⟩ := hf2.row h0
      have : g < w2.heap.size := lt_of_block hr
      exact ⟨g, fun _ => ⟨ha, by omega, q3.row hr (fun h => h)⟩⟩
    · exact ⟨0, fun h => absurd h h0⟩
  have Q3 : Kept (fun _ => False) w w3 := (q1.trans q2).trans q3
  have q4 : Kept (fun _ => False) w3 (w3.alloc (Obj.cells (madeCells #[Value.int IntKind.u8 0] c) 5)) := Kept.alloc _ _ _
  have hz4 := q4.isZ hz (fun h => h)
  have hb4 : Row (w3.alloc (Obj.cells (madeCells #[Value.int IntKind.u8 0] c) 5)) w3.heap.size (List.replicate c 0) := by
    unfold Row; rw [madeRow]; exact heap_alloc_new w3 _
  have HG1 : Hid (0 < N → a1 = some ⟨g1, 0, none⟩ ∧ g1 < zb ∧ Row w3 g1 xs) := hg1
  have HG2 : Hid (0 < N → a2 = some ⟨g2, 0, none⟩ ∧ g2 < zb ∧ Row w3 g2 xs) := hg2
  have S0 : St w3 (w3.alloc (Obj.cells (madeCells #[Value.int IntKind.u8 0] c) 5)) zb g1 N c 0 0 last xs none 0 :=
    ⟨Nat.zero_le _, fun _ => by simp, Nat.zero_le _, ⟨a1, hz4, fun h => (HG1.out h).1⟩, ⟨_, hb4, by simp⟩, ⟨by simp, .inl ⟨rfl, rfl⟩⟩, q4.mono (fun _ _ h => h.elim), by simp⟩
  clear hg1 hg2 hz4 hb4 q4 hz hf1 hf2 hB
  obtain ⟨Q, hQ⟩ : ∃ Q, Q = N / c := ⟨_, rfl⟩
  have hQ1 : Q ≤ 1048576 := by rw [hQ]; exact Nat.le_trans (Nat.div_le_self _ _) hn
  have hdiv : (N : Int) / (c : Int) = (Q : Int) := by rw [hQ]; simp
  have HQ : Hid (Q = N / c) := hQ
  clear hQ
  have hc0 : (0 : Int) < (c : Int) := by omega
  go_wp2_with fail
  go_loopw [10, 11, 13] (fun v en i wr => ∃ (j k : Nat) (ga : Option Addr) (gc : Nat), v = .slice ga k gc ∧ en = .bool false ∧ i = .int .i64 j ∧ St w3 wr zb g1 N c j k last xs ga gc) (fun _ _ i _ => Q + 2 - (intOf i).toNat)
  case atStart => exact ⟨0, 0, none, 0, rfl, rfl, rfl, S0⟩
  case round =>
    obtain ⟨j, k, ga, gc, rfl, rfl, rfl, S⟩ := hrel
    have hjq : j ≤ Q + 1 := by rw [HQ.out]; exact S.jq
    have hkN := S.kN
    obtain ⟨az, hzr, haz⟩ := S.z
    obtain ⟨bs, hbr, hbl⟩ := S.b
    have HBL : Hid (bs.length = c) := hbl
    clear hbl
    by_cases hk : k < N
    · obtain rfl := haz hk
      obtain ⟨-, l1, r1⟩ := HG1.out (by omega)
      have rr := S.kept.row r1 (by omega)
      have hp : IsB wr (some ⟨g1, k, none⟩) (N - k) (xs.drop k) := by
        have := rr.drop (n := k) (a := some ⟨g1, k, none⟩) (by rw [HL.out]; omega) (fun _ => rfl)
        rwa [HL.out] at this
      go_wp2_with fail
      refine (wait8_some zb _ _ _ last wr hzr (by omega)).mono ?_
      rintro e wr ⟨rfl, rfl⟩
      by_cases hcn : c < N - k
      · have hcn' : (c : Int) < (N : Int) - (k : Int) := by omega
        go_wp2_with fail
        refine (read9_some zb g1 w3.heap.size k (N - k) c c last (xs.drop k) bs wr hzr (by omega) hp hbr HBL.out (by omega) (by omega) (by omega)).mono ?_
        rintro e w6 ⟨rfl, hre⟩
        obtain ⟨os, ns, hos, hns, hown, hnl, hnc, hn1, hsz6⟩ := S.ready HL.out (by omega) z3 hre
        have HOS : Hid (os = (xs.take k).map (Value.int .u8)) := hos
        have HNS : Hid (ns = ((xs.drop k).take c).map (Value.int .u8)) := hns
        have hob : ∀ b, (Value.slice ga k gc).ownBlock = some b → w3.heap.size + 1 ≤ b := fun b hb => (hown.lt b hb).1
        have HNL : Hid (ns.length = c * 1) := hnl
        clear hos hns hnl
        go_wp2_with (at_builtin; refine wpList_append_own _ rfl _ _ 22 rfl (w3.heap.size + 1) 5 i0 (.int .u8 0) 1 1 Tryd.underlying22 hi hz0 hz1 hz2 rfl (by decide) _ _ _ rfl hown ⟨w3.heap.size, 0, none⟩ _ _ ns rfl HNL.out hnc hn1 ?c3a ?c4a hsz6 ?_)
        case c3a => unfold maxLen; omega
        case c4a => omega
        intro v' w7 hown' hgrow _
        rw [HOS.out, HNS.out] at hown'
        obtain ⟨ga', gc', hv', S'⟩ := S.step (by omega) hk HL.out (by omega) HBL.out z3 hre hown' hgrow hob
        clear hown' hgrow hown hnc hn1 hob
        rw [hv']
        go_wp2
        go_roundw
        case rel => exact ⟨j + 1, _, ga', gc', rfl, rfl, by go_num, S'⟩
        case measure => simp [intOf]; omega
      · have hcn' : ¬ (c : Int) < (N : Int) - (k : Int) := by omega
        obtain ⟨r, hr⟩ : ∃ r, r = N - k := ⟨_, rfl⟩
        have hNk : (N : Int) - (k : Int) = (r : Int) := by omega
        have hr0 : 0 < r := by omega
        have hr0' : (0 : Int) < (r : Int) := by omega
        have hrc : r ≤ c := by omega
        have hrN : k + r ≤ N := by omega
        have hrm : r = min (N - k) c := by omega
        have HRM : Hid (r = min (N - k) c) := hrm
        clear hr hrm hcn'
        go_wp2_with fail
        refine (read9_some zb g1 w3.heap.size k (N - k) c r last (xs.drop k) bs wr hzr (by omega) hp hbr HBL.out (by omega) HRM.out (by omega)).mono ?_
        rintro e w6 ⟨rfl, hre⟩
        obtain ⟨os, ns, hos, hns, hown, hnl, hnc, hn1, hsz6⟩ := S.ready HL.out (by omega) z3 hre
        have HOS : Hid (os = (xs.take k).map (Value.int .u8)) := hos
        have HNS : Hid (ns = ((xs.drop k).take r).map (Value.int .u8)) := hns
        have hob : ∀ b, (Value.slice ga k gc).ownBlock = some b → w3.heap.size + 1 ≤ b := fun b hb => (hown.lt b hb).1
        have HNL : Hid (ns.length = r * 1) := hnl
        clear hos hns hnl
        go_wp2_with (at_builtin; refine wpList_append_own _ rfl _ _ 22 rfl (w3.heap.size + 1) 5 i0 (.int .u8 0) 1 1 Tryd.underlying22 hi hz0 hz1 hz2 rfl (by decide) _ _ _ rfl hown ⟨w3.heap.size, 0, none⟩ _ _ ns rfl HNL.out hnc hn1 ?c3b ?c4b hsz6 ?_)
        case c3b => unfold maxLen; omega
        case c4b => omega
        intro v' w7 hown' hgrow _
        rw [HOS.out, HNS.out] at hown'
        obtain ⟨ga', gc', hv', S'⟩ := S.step (by omega) hk HL.out HRM.out HBL.out z3 hre hown' hgrow hob
        clear hown' hgrow hown hnc hn1 hob
        rw [hv']
        go_wp2
        go_roundw
        case rel => exact ⟨j + 1, _, ga', gc', rfl, rfl, by go_num, S'⟩
        case measure => simp [intOf]; omega
    · obtain rfl : k = N := by omega
      rw [Nat.sub_self] at hzr
      have hEr : Errs wr := S.kept.errs (Q3.errs hE (fun h => h) (fun h => h)) (by omega) (by omega)
      have hgot : IsB wr ga k xs := by
        have := S.got.isB
        rwa [List.take_of_length_le (by rw [HL.out]; exact Nat.le_refl _)] at this
      have horig : IsB wr a2 k xs := by
        refine ⟨HL.out, fun h0 => ?_⟩
        obtain ⟨ha, hl, hr⟩ := HG2.out h0
        exact ⟨g2, 0, ha, ((S.kept.row hr (by omega)).isB' HL.out).2 h0 |>.elim fun b hb => hb.elim fun off hb => by
          obtain ⟨he, hc⟩ := hb
          simp at he
          obtain ⟨rfl, rfl⟩ := he
          exact hc⟩
      go_wp2_with fail
      refine (wait8_end zb az 0 last wr hzr hEr).mono ?_
      rintro e w4 ⟨⟨t1, x1, rfl⟩, q4⟩
      have hz4 := q4.isZ hzr (fun h => h)
      have hE4 := q4.errs hEr (fun h => h) (fun h => h)
      have hg4 := q4.isB hgot (fun _ _ h => h)
      have ho4 := q4.isB horig (fun _ _ h => h)
      clear hgot horig
      go_wp2_with fail
      refine (eq10 ga a2 k gc k xs w4 hn hg4 ho4).mono ?_
      rintro e w5 ⟨rfl, q, rfl⟩
      have q5 : Kept (fun _ => False) w4 (w4.drewN q) := Kept.drewN _ _ _
      have hz5 := q5.isZ hz4 (fun h => h)
      have hE5 := q5.errs hE4 (fun h => h) (fun h => h)
      go_wp2_with fail
      refine (read9_end zb 0 az _ last _ hz5 hE5).mono ?_
      rintro e w6 ⟨⟨t2, x2, rfl⟩, q6⟩
      have hz6 := q6.isZ hz5 (fun h => h)
      have hE6 := q6.errs hE5 (fun h => h) (fun h => h)
      go_wp2_with fail
      refine (wait8_end zb az 0 last w6 hz6 hE6).mono ?_
      rintro e w7 ⟨⟨t3, x3, rfl⟩, q7⟩
      have hz7 := q7.isZ hz6 (fun h => h)
      go_wp2_with fail
      refine (part11 zb _ w7 hz7.c0).mono ?_
      rintro e w7 ⟨rfl, rfl⟩
      have fin : Kept (fun _ => False) w w7 := ((((Q3.then_new S.kept (fun j hj => by omega)).trans q4).trans q5).trans q6).trans q7
      go_wp2
      go_ret
      exact ⟨rfl, fin⟩

set_option maxHeartbeats 400000 in
theorem drains_long (a : Option Addr) (n c : Nat) (k : Int) (last : Bool) (w : World) (hn : 1048576 < n) :
    Calls Tryd.prog 3 #[.slice a n c, .bool last, .int .i64 k] w fun e w' => e = .returned (.bool true) ∧ Kept (fun _ => False) w w' := by
  go_enter Tryd.func3, Tryd.ntmps3
  go_wp2_with (go_at_call 5; refine (bytes5_no a n c last k _ hn).mono ?_; rintro e w ⟨rfl, rfl⟩)
  go_ret
  exact ⟨rfl, Kept.refl _ _⟩

set_option maxHeartbeats 400000 in
theorem drains_low (a : Option Addr) (n c : Nat) (k : Int) (last : Bool) (w : World) (hn : n ≤ 1048576) (hk : k < 1) :
    Calls Tryd.prog 3 #[.slice a n c, .bool last, .int .i64 k] w fun e w' => e = .returned (.bool true) ∧ Kept (fun _ => False) w w' := by
  go_enter Tryd.func3, Tryd.ntmps3
  go_wp2_with (go_at_call 5; refine (bytes5 a n c last k _ hn).mono ?_; rintro e w ⟨rfl, rfl⟩)
  go_ret
  exact ⟨rfl, Kept.refl _ _⟩

set_option maxHeartbeats 400000 in
theorem drains_high (a : Option Addr) (n c : Nat) (k : Int) (last : Bool) (w : World) (hn : n ≤ 1048576) (hk0 : ¬ k < 1) (hk : 65536 < k) :
    Calls Tryd.prog 3 #[.slice a n c, .bool last, .int .i64 k] w fun e w' => e = .returned (.bool true) ∧ Kept (fun _ => False) w w' := by
  go_enter Tryd.func3, Tryd.ntmps3
  go_wp2_with (go_at_call 5; refine (bytes5 a n c last k _ hn).mono ?_; rintro e w ⟨rfl, rfl⟩)
  go_ret
  exact ⟨rfl, Kept.refl _ _⟩

/-- THE LAW: for every slice of bytes, flag and number. -/
theorem drains_any (a : Option Addr) (n c : Nat) (k : Int) (xs : List Int) (last : Bool) (w : World) (hB : IsB w a n xs) (hnil : a = none → n = 0 ∧ c = 0) (hE : Errs w) :
    Calls Tryd.prog 3 #[.slice a n c, .bool last, .int .i64 k] w fun e w' => e = .returned (.bool true) ∧ Kept (fun _ => False) w w' := by
  by_cases hn : n ≤ 1048576
  · by_cases hk : k < 1
    · exact drains_low a n c k last w hn hk
    · by_cases hk' : 65536 < k
      · exact drains_high a n c k last w hn hk hk'
      · obtain ⟨m, rfl⟩ := Int.eq_ofNat_of_zero_le (show 0 ≤ k by omega)
        exact drains_main a n c m xs last w hB hnil hE hn (by omega) (by omega)
  · exact drains_long a n c k last w (by omega)

end Go.Proofs.Qxb6616311aDoor
