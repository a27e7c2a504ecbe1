/-
  THE WALKS of seat b6616614a, 10: FnAtWalkAcrossTwoLeaves.
-/
import Derived.Test.Qxb6616614aT8
import Derived.Test.Qxb6616614aT9
import Derived.Lib.Builder
namespace Go.Proofs.Qxb6616614a
open Go.RowKit
set_option linter.unusedVariables false
set_option linter.unusedSimpArgs false
set_option maxRecDepth 40000

theorem ptrSame (b : Nat) (w : World) : (binOp .neq 29 (.pointer (some ⟨b, 0, none⟩)) (.pointer (some ⟨b, 0, none⟩))).run Try.prog w = .ok (.bool false) w := by
  have h : (Try.prog.info? 55).isSome = true := by kernel_rfl
  obtain ⟨j, hj⟩ := Option.isSome_iff_exists.1 h
  exact Lib.run_neq_ptr_same w ⟨b, 0, none⟩ Try.underlying29 hj

theorem walk6_big (a : Option Addr) (n c : Nat) (k : Int) (w : World) (hn : ¬ n ≤ 131072) :
    Calls Try.prog 6 #[.slice a n c, .int .i64 k] w fun e w' => e = .returned (.bool true) ∧ Kept w w' := by
  have h1 : (n : Int) > 131072 := by omega
  by_cases h2 : n ≤ 1048576
  · have H := bytes14 a n c k w h2
    go_enter Try.func6, Try.ntmps6
    go_wp2_with fail
    refine H.mono ?_
    rintro e w1 ⟨rfl, rfl⟩
    go_wp2
    go_ret
    exact ⟨rfl, Kept.refl _⟩
  · have H := bytes14_big a n c k w h2
    go_enter Try.func6, Try.ntmps6
    go_wp2_with fail
    refine H.mono ?_
    rintro e w1 ⟨rfl, rfl⟩
    go_wp2
    go_ret
    exact ⟨rfl, Kept.refl _⟩

theorem walk6_out (a : Option Addr) (n c : Nat) (k : Int) (w : World) (hn : n ≤ 131072) (ho : n < 2 ∨ (2 ≤ n ∧ k < 1) ∨ (2 ≤ n ∧ 1 ≤ k ∧ (n : Int) ≤ k)) :
    Calls Try.prog 6 #[.slice a n c, .int .i64 k] w fun e w' => e = .returned (.bool true) ∧ Kept w w' := by
  have H := bytes14 a n c k w (by omega)
  have e1 : ¬ (n : Int) > 131072 := by omega
  rcases ho with h | ⟨h, h'⟩ | ⟨h, h', h''⟩
  · have e2 : (n : Int) < 2 := by omega
    go_enter Try.func6, Try.ntmps6
    go_wp2_with fail
    refine H.mono ?_
    rintro e w1 ⟨rfl, rfl⟩
    go_wp2
    go_ret
    exact ⟨rfl, Kept.refl _⟩
  · have e2 : ¬ (n : Int) < 2 := by omega
    go_enter Try.func6, Try.ntmps6
    go_wp2_with fail
    refine H.mono ?_
    rintro e w1 ⟨rfl, rfl⟩
    go_wp2
    go_ret
    exact ⟨rfl, Kept.refl _⟩
  · have e2 : ¬ (n : Int) < 2 := by omega
    have e3 : ¬ k < 1 := by omega
    go_enter Try.func6, Try.ntmps6
    go_wp2_with fail
    refine H.mono ?_
    rintro e w1 ⟨rfl, rfl⟩
    go_wp2
    go_ret
    exact ⟨rfl, Kept.refl _⟩

set_option maxHeartbeats 3200000 in
theorem walk6_some (x : Addr) (n c p : Nat) (ts : Nat → Int) (w : World) (hn : n ≤ 131072) (hp0 : 1 ≤ p) (hpn : p < n) (hT : IsT w (some x) n ts) :
    Calls Try.prog 6 #[.slice (some x) n c, .int .i64 (p : Int)] w fun e w' => e = .returned (.bool true) ∧ Kept w w' := by
  have hn0 : 0 < n := by omega
  have H := bytes14 (some x) n c p w (by omega)
  have hq := fun w => Lib.run_eql_slice_nil (P := Try.prog) w 27 2 (some x) n c 0 0 Try.underlying27
  have hmk := run_make_row' (P := Try.prog) 27 2 (.int .i64 0) 8 Try.underlying27 Try.info2 rfl .i64 .i64 n (by omega) (by omega)
  obtain ⟨w2, hcp, hc, k2⟩ := copied w x n c ts hn0 hT
  have lo := hT.lo
  have hi := hT.hi
  have e1 : decide ((131072 : Int) < (n : Int)) = false := by simp; omega
  have e2 : decide ((n : Int) < 2) = false := by simp; omega
  have e3 : decide ((p : Int) < 1) = false := by simp; omega
  have e4 : decide (n ≤ p) = false := by simp; omega
  have HP0 : Hid (1 ≤ p) := hp0
  have HPN : Hid (p < n) := hpn
  clear hp0 hpn
  clear hT
  have HC : Hid (∀ i, i < n → w2.cell? ⟨w.heap.size, i, none⟩ = some (.int .i64 (ts i))) := hc
  have HK : Hid (Kept w w2) := k2
  clear hc k2
  go_enter Try.func6, Try.ntmps6
  go_wp2_with fail
  refine H.mono ?_
  rintro e w1 ⟨rfl, rfl⟩
  go_wp2
  clear hmk hcp hq H
  go_loopw [6] (fun i wr => ∃ k : Nat, 1 ≤ k ∧ k ≤ n ∧ i = .int .i64 k ∧ UpTo ts k ∧ Kept w2 wr) (fun i _ => n - (intOf i).toNat)
  case atStart => exact ⟨1, Nat.le_refl _, hn0, rfl, fun i hi => by omega, Kept.refl _⟩
  case round =>
    obtain ⟨k, hk1, hk, rfl, hup, kr⟩ := hrel
    by_cases hlt : k < n
    · have c1 := kr.cell (HC.out k hlt)
      obtain ⟨j, rfl⟩ : ∃ j, k = j + 1 := ⟨k - 1, by omega⟩
      have c0 := kr.cell (HC.out j (by omega))
      have hl : ((j : Int) + 1) < (n : Int) := by omega
      have hl0 : (j : Int) < (n : Int) := by omega
      by_cases hs : ts (j + 1) < ts j
      · go_wp2
        go_region
        go_wp2
        go_ret
        exact ⟨rfl, HK.out.trans (kr.trans (Kept.drew _))⟩
      · go_wp2
        go_region
        go_wp2
        go_roundw
        case rel =>
          exact ⟨j + 2, by omega, by omega, by go_num, fun i hi => by
            by_cases e : i + 1 < j + 1
            · exact hup i e
            · obtain rfl : i = j := by omega
              omega, kr.trans (Kept.drew _)⟩
        case measure => simp [intOf]; omega
    · obtain rfl : n = k := by omega
      have hl : ¬ (n : Int) < (n : Int) := by omega
      have T0 : IsT wr (some ⟨w1.heap.size, 0, none⟩) n ts := ⟨fun _ => ⟨_, 0, rfl, fun i hi => by rw [Nat.zero_add]; exact kr.cell (HC.out i hi)⟩, lo, hi⟩
      have hp0 := HP0.out
      have hpn := HPN.out
      have kl : (p : Int) ≤ (n : Int) := by omega
      have TL : Hid (IsT wr (some ⟨w1.heap.size, 0, none⟩) p ts) := T0.first (by omega)
      have TR : Hid (IsT wr (some ⟨w1.heap.size, p, none⟩) (n - p) (fun i => ts (p + i))) := (T0.rest (p := p) (by omega)).out
      have HUP : Hid (UpTo ts n) := hup
      have HLO : Hid (∀ i, i < n → -9223372036854775808 ≤ ts i) := lo
      have HHI : Hid (∀ i, i < n → ts i ≤ 9223372036854775807) := hi
      have KR : Hid (Kept w1 wr) := HK.out.trans kr
      have CC : Hid (∀ i, i < n → wr.cell? ⟨w1.heap.size, i, none⟩ = some (.int .i64 (ts i))) := fun i hi => kr.cell (HC.out i hi)
      clear T0 hup lo hi kr e1 e2 e3 e4 HC HK
      go_wp2_with fail
      refine (leaf10 _ p n ts _ (by omega) TL.out).mono ?_
      rintro e w3 ⟨lb, rfl, L3, k3⟩
      go_wp2_with fail
      refine (leaf10 _ (n - p) (n - p) (fun i => ts (p + i)) _ (by omega) (k3.isT TR.out)).mono ?_
      rintro e w4 ⟨rb, rfl, L4, k4⟩
      go_wp2_with fail
      refine (zspan11_leaf lb p ts _ (by omega) hp0 (L3.kept k4) (fun i hi => HLO.out i (by omega)) (fun i hi => HHI.out i (by omega))).mono ?_
      rintro e w6 ⟨rfl, k6⟩
      go_wp2_with fail
      refine (zspan11_rest rb n p ts _ hn (by omega) (L4.kept k6) HLO.out HHI.out).mono ?_
      rintro e w7 ⟨rfl, k7⟩
      go_wp2_with fail
      refine (parent13 lb rb _ _ _ _ _ _ _ ⟨HLO.out 0 (by omega), HHI.out 0 (by omega)⟩ ⟨HLO.out (p - 1) (by omega), HHI.out (p - 1) (by omega)⟩ ⟨HLO.out p (by omega), HHI.out p (by omega)⟩ ⟨HLO.out (n - 1) (by omega), HHI.out (n - 1) (by omega)⟩).mono ?_
      rintro e w8 ⟨tb, rfl, L8, k8⟩
      go_wp2_with fail
      refine (zspan11_top tb _ _ _ L8 (HLO.out 0 (by omega)) (HHI.out 0 (by omega)) (HLO.out (n - 1) (by omega)) (HHI.out (n - 1) (by omega))).mono ?_
      rintro e w9 ⟨rfl, k9⟩
      have LL : Hid (IsLeaf w9 lb p ts) := ((((L3.kept k4).kept k6).kept k7).kept k8).kept k9
      have LR : Hid (IsLeaf w9 rb (n - p) (fun i => ts (p + i))) := (((L4.kept k6).kept k7).kept k8).kept k9
      have K9 : Hid (Kept wr w9) := (((((k3.trans k4).trans k6).trans k7).trans k8).trans k9)
      have C9 : Hid (∀ i, i < n → w9.cell? ⟨w1.heap.size, i, none⟩ = some (.int .i64 (ts i))) := fun i hi => K9.out.cell (CC.out i hi)
      clear L3 L4 L8 k3 k4 k6 k7 k8 k9 CC TL TR
      go_wp2
      go_loopw [17] (fun i wq => ∃ k : Nat, k ≤ n ∧ i = .int .i64 k ∧ Kept w9 wq) (fun i _ => n - (intOf i).toNat)
      case atStart => exact ⟨0, Nat.zero_le _, rfl, Kept.refl _⟩
      case round =>
        rename_i wq
        obtain ⟨k, hk, rfl, kq⟩ := hrel
        by_cases hlt : k < n
        · have hl' : (k : Int) < (n : Int) := by omega
          have b0 := HLO.out k hlt
          have b1 := HHI.out k hlt
          have s0 : decide (ts k < ts 0) = false := by have := HUP.out.le' (Nat.zero_le k) hlt; simp; omega
          have s1 : decide (ts (n - 1) < ts k) = false := by have := HUP.out.le' (i := k) (j := n - 1) (by omega) (by omega); simp; omega
          by_cases hkp : k < p
          · have hkp' : (k : Int) < (p : Int) := by omega
            go_wp2_with fail
            refine (cursor16 tb lb _ _ _).mono ?_
            rintro e w11 ⟨cb, rfl, C11, q11⟩
            go_wp2_with fail
            refine (zat15 cb lb p k ts _ (by omega) hkp C11 ((LL.out.kept kq).kept q11) b0 b1).mono ?_
            rintro e w12 ⟨rfl, q12⟩
            have c1 := ((kq.trans q11).trans q12).cell (C9.out k hlt)
            have hpe := fun w => ptrSame lb w
            go_upto_region 28 with fail
            refine wp_region_quietS ?_
            repeat (go_big_quiet_step (fail))
            refine wpQuiet_nil ?_
            rintro _ ⟨nq, rfl⟩
            go_wp2
            all_goals refine ⟨⟨k + 1, by omega, ?_, ((kq.trans q11).trans q12).trans (Kept.drewN _ _)⟩, ?_⟩
            all_goals first | (congr 1; done) | (congr 1; omega) | (simp [intOf]; done) | (simp [intOf]; omega)
          · obtain ⟨j, rfl⟩ : ∃ j, k = p + j := ⟨k - p, by omega⟩
            have hkp' : ¬ ((p + j : Nat) : Int) < (p : Int) := by omega
            have hpj : (p : Int) + (j : Int) - (p : Int) = (j : Int) := by omega
            have hjn : j < n - p := by omega
            have hpe := fun w => ptrSame rb w
            go_wp2_with fail
            refine (cursor16 tb rb _ _ _).mono ?_
            rintro e w11 ⟨cb, rfl, C11, q11⟩
            go_wp2_with fail
            refine (zat15 cb rb (n - p) j (fun i => ts (p + i)) _ (by omega) hjn C11 ((LR.out.kept kq).kept q11) b0 b1).mono ?_
            rintro e w12 ⟨rfl, q12⟩
            have c1 := ((kq.trans q11).trans q12).cell (C9.out (p + j) hlt)
            go_upto_region 33 with fail
            refine wp_region_quietS ?_
            repeat (go_big_quiet_step (fail))
            refine wpQuiet_nil ?_
            rintro _ ⟨nq, rfl⟩
            go_wp2
            all_goals first
              | refine ⟨⟨p + j + 1, by omega, ?_, ((kq.trans q11).trans q12).trans (Kept.drewN _ _)⟩, ?_⟩
              | (exfalso; rename_i h1 h2; rw [show n - 1 = p + j by omega] at h2; simp at h2)
            all_goals first | (congr 1; done) | (congr 1; omega) | (simp [intOf]; done) | (simp [intOf]; omega)
        · obtain rfl : n = k := by omega
          go_wp2
          go_ret
          exact ⟨rfl, (KR.out.trans K9.out).trans kq⟩

theorem walk6 (a : Option Addr) (n c : Nat) (k : Int) (ts : Nat → Int) (w : World) (hT : IsT w a n ts) :
    Calls Try.prog 6 #[.slice a n c, .int .i64 k] w fun e w' => e = .returned (.bool true) ∧ Kept w w' := by
  by_cases hn : n ≤ 131072
  · by_cases ho : n < 2 ∨ (2 ≤ n ∧ k < 1) ∨ (2 ≤ n ∧ 1 ≤ k ∧ (n : Int) ≤ k)
    · exact walk6_out a n c k w hn ho
    · obtain ⟨p, rfl⟩ := Int.eq_ofNat_of_zero_le (show 0 ≤ k by omega)
      obtain ⟨b, off, rfl, _⟩ := hT.row (by omega)
      exact walk6_some _ n c p ts w hn (by omega) (by omega) hT
  · exact walk6_big a n c k w hn

end Go.Proofs.Qxb6616614a
