/-
  THE WALKS of seat b6616614a, 8: FnSpanAgreesAcrossAnyCut.
-/
import Derived.Test.Qxb6616614aT7
import Derived.Test.Qxb6616614aTq
import Derived.Deep.Cut
namespace Go.Proofs.Qxb6616614a
open Go.RowKit
set_option linter.unusedVariables false
set_option linter.unusedSimpArgs false
set_option maxRecDepth 40000

theorem IsT.first {w : World} {b n p : Nat} {ts : Nat → Int} (h : IsT w (some ⟨b, 0, none⟩) n ts) (hp : p ≤ n) : IsT w (some ⟨b, 0, none⟩) p ts :=
  ⟨fun h0 => by
    obtain ⟨b', off, hb, hc⟩ := h.row (by omega)
    exact ⟨b', off, hb, fun i hi => hc i (by omega)⟩, fun i hi => h.lo i (by omega), fun i hi => h.hi i (by omega)⟩
theorem IsT.rest {w : World} {b n p : Nat} {ts : Nat → Int} (h : IsT w (some ⟨b, 0, none⟩) n ts) (hp : p ≤ n) : Hid (IsT w (some ⟨b, p, none⟩) (n - p) (fun i => ts (p + i))) :=
  ⟨fun h0 => by
    obtain ⟨b', off, hb, hc⟩ := h.row (by omega)
    cases hb
    exact ⟨b, p, rfl, fun i hi => by have := hc (p + i) (by omega); rwa [Nat.zero_add] at this⟩, fun i hi => h.lo (p + i) (by omega), fun i hi => h.hi (p + i) (by omega)⟩

theorem zspan11_rest (rb n p : Nat) (ts : Nat → Int) (w : World) (hn : n ≤ 131072) (hp : p < n) (h : IsLeaf w rb (n - p) (fun i => ts (p + i))) (lo : ∀ i, i < n → -9223372036854775808 ≤ ts i) (hi : ∀ i, i < n → ts i ≤ 9223372036854775807) :
    Calls Try.prog 11 #[.pointer (some ⟨rb, 0, none⟩)] w fun e w' => e = .returned (.tuple #[.int .i64 (ts p), .int .i64 (ts (n - 1))]) ∧ Kept w w' := by
  have := zspan11_leaf rb (n - p) (fun i => ts (p + i)) w (by omega) (by omega) h (fun i hi => lo _ (by omega)) (fun i h => hi _ (by omega))
  simp only [Nat.add_zero, show p + (n - p - 1) = n - 1 by omega] at this
  exact this

theorem cut5_big (a : Option Addr) (n c : Nat) (k : Int) (w : World) (hn : ¬ n ≤ 131072) :
    Calls Try.prog 5 #[.slice a n c, .int .i64 k] w fun e w' => e = .returned (.bool true) ∧ Kept w w' := by
  have h1 : (n : Int) > 131072 := by omega
  by_cases h2 : n ≤ 1048576
  · have H := bytes12 a n c k w h2
    go_enter Try.func5, Try.ntmps5
    go_wp2_with fail
    refine H.mono ?_
    rintro e w1 ⟨rfl, rfl⟩
    go_wp2
    go_ret
    exact ⟨rfl, Kept.refl _⟩
  · have H := bytes12_big a n c k w h2
    go_enter Try.func5, Try.ntmps5
    go_wp2_with fail
    refine H.mono ?_
    rintro e w1 ⟨rfl, rfl⟩
    go_wp2
    go_ret
    exact ⟨rfl, Kept.refl _⟩

theorem cut5_out (a : Option Addr) (n c : Nat) (k : Int) (w : World) (hn : n ≤ 131072) (ho : n < 2 ∨ (2 ≤ n ∧ k < 1) ∨ (2 ≤ n ∧ 1 ≤ k ∧ (n : Int) ≤ k)) :
    Calls Try.prog 5 #[.slice a n c, .int .i64 k] w fun e w' => e = .returned (.bool true) ∧ Kept w w' := by
  have H := bytes12 a n c k w (by omega)
  have e1 : ¬ (n : Int) > 131072 := by omega
  rcases ho with h | ⟨h, h'⟩ | ⟨h, h', h''⟩
  · have e2 : (n : Int) < 2 := by omega
    go_enter Try.func5, Try.ntmps5
    go_wp2_with fail
    refine H.mono ?_
    rintro e w1 ⟨rfl, rfl⟩
    go_wp2
    go_ret
    exact ⟨rfl, Kept.refl _⟩
  · have e2 : ¬ (n : Int) < 2 := by omega
    go_enter Try.func5, Try.ntmps5
    go_wp2_with fail
    refine H.mono ?_
    rintro e w1 ⟨rfl, rfl⟩
    go_wp2
    go_ret
    exact ⟨rfl, Kept.refl _⟩
  · have e2 : ¬ (n : Int) < 2 := by omega
    have e3 : ¬ k < 1 := by omega
    go_enter Try.func5, Try.ntmps5
    go_wp2_with fail
    refine H.mono ?_
    rintro e w1 ⟨rfl, rfl⟩
    go_wp2
    go_ret
    exact ⟨rfl, Kept.refl _⟩

set_option maxHeartbeats 3200000 in
theorem cut5_some (x : Addr) (n c p : Nat) (ts : Nat → Int) (w : World) (hn : n ≤ 131072) (hp0 : 1 ≤ p) (hpn : p < n) (hT : IsT w (some x) n ts) :
    Calls Try.prog 5 #[.slice (some x) n c, .int .i64 (p : Int)] w fun e w' => e = .returned (.bool true) ∧ Kept w w' := by
  have hn0 : 0 < n := by omega
  have H := bytes12 (some x) n c p w (by omega)
  have hq := fun w => Lib.run_eql_slice_nil (P := Try.prog) w 27 2 (some x) n c 0 0 Try.underlying27
  have hmk := run_make_row' (P := Try.prog) 27 2 (.int .i64 0) 8 Try.underlying27 Try.info2 rfl .i64 .i64 n (by omega) (by omega)
  obtain ⟨w2, hcp, hc, k2⟩ := copied w x n c ts hn0 hT
  have lo := hT.lo
  have hi := hT.hi
  have e1 : decide ((131072 : Int) < (n : Int)) = false := by simp; omega
  have e2 : decide ((n : Int) < 2) = false := by simp; omega
  have e3 : decide ((p : Int) < 1) = false := by simp; omega
  have e4 : decide (n ≤ p) = false := by simp; omega
  have HP0 : Hid (1 ≤ p) := hp0
  have HPN : Hid (p < n) := hpn
  clear hp0 hpn
  clear hT
  have HC : Hid (∀ i, i < n → w2.cell? ⟨w.heap.size, i, none⟩ = some (.int .i64 (ts i))) := hc
  have HK : Hid (Kept w w2) := k2
  clear hc k2
  go_enter Try.func5, Try.ntmps5
  go_wp2_with fail
  refine H.mono ?_
  rintro e w1 ⟨rfl, rfl⟩
  go_wp2
  clear hmk hcp hq H
  go_loopw [6] (fun i wr => ∃ k : Nat, 1 ≤ k ∧ k ≤ n ∧ i = .int .i64 k ∧ UpTo ts k ∧ Kept w2 wr) (fun i _ => n - (intOf i).toNat)
  case atStart => exact ⟨1, Nat.le_refl _, hn0, rfl, fun i hi => by omega, Kept.refl _⟩
  case round =>
    obtain ⟨k, hk1, hk, rfl, hup, kr⟩ := hrel
    by_cases hlt : k < n
    · have c1 := kr.cell (HC.out k hlt)
      obtain ⟨j, rfl⟩ : ∃ j, k = j + 1 := ⟨k - 1, by omega⟩
      have c0 := kr.cell (HC.out j (by omega))
      have hl : ((j : Int) + 1) < (n : Int) := by omega
      have hl0 : (j : Int) < (n : Int) := by omega
      by_cases hs : ts (j + 1) < ts j
      · go_wp2
        go_region
        go_wp2
        go_ret
        exact ⟨rfl, HK.out.trans (kr.trans (Kept.drew _))⟩
      · go_wp2
        go_region
        go_wp2
        go_roundw
        case rel =>
          exact ⟨j + 2, by omega, by omega, by go_num, fun i hi => by
            by_cases e : i + 1 < j + 1
            · exact hup i e
            · obtain rfl : i = j := by omega
              omega, kr.trans (Kept.drew _)⟩
        case measure => simp [intOf]; omega
    · obtain rfl : n = k := by omega
      have hl : ¬ (n : Int) < (n : Int) := by omega
      have c0 := kr.cell (HC.out 0 hn0)
      have hl0 : (0 : Int) < (n : Int) := by omega
      go_wp2
      go_region
      go_wp2
      go_loopw [7, 8, 9] (fun a b i wr' => ∃ k : Nat, 1 ≤ k ∧ k ≤ n ∧ i = .int .i64 k ∧ a = .int .i64 (ts 0) ∧ b = .int .i64 (ts (k - 1)) ∧ wr' = wr.drew) (fun _ _ i _ => n - (intOf i).toNat)
      case atStart => exact ⟨1, Nat.le_refl _, hn0, rfl, rfl, rfl, rfl⟩
      case round =>
        rename_i wq
        obtain ⟨k, hk1, hk, rfl, rfl, rfl, rfl⟩ := hrel
        by_cases hlt : k < n
        · have c1 : (wr.drew).cell? _ = _ := kr.cell (HC.out k hlt)
          have s0 : ¬ ts k < ts 0 := by have := hup.le' (Nat.zero_le k) hlt; omega
          have hl : (k : Int) < (n : Int) := by omega
          by_cases s1 : ts (k - 1) < ts k
          · go_wp2
            go_roundw
            case rel => exact ⟨k + 1, by omega, by omega, by go_num, rfl, rfl, trivial⟩
            case measure => simp [intOf]; omega
          · have s2 : ts (k - 1) = ts (k + 1 - 1) := by have := hup.le' (i := k - 1) (j := k) (by omega) hlt; rw [Nat.add_sub_cancel]; omega
            have H2 : Hid (ts (k - 1) = ts (k + 1 - 1)) := s2
            clear s2
            go_wp2
            go_roundw
            case rel => exact ⟨k + 1, by omega, by omega, by go_num, rfl, by rw [H2.out], trivial⟩
            case measure => simp [intOf]; omega
        · obtain rfl : n = k := by omega
          have T0 : IsT wr.drew (some ⟨w1.heap.size, 0, none⟩) n ts := ⟨fun _ => ⟨_, 0, rfl, fun i hi => by rw [Nat.zero_add]; exact kr.cell (HC.out i hi)⟩, lo, hi⟩
          have hp0 := HP0.out
          have hpn := HPN.out
          have kl : (p : Int) ≤ (n : Int) := by omega
          have TL : Hid (IsT wr.drew (some ⟨w1.heap.size, 0, none⟩) p ts) := T0.first (by omega)
          have TR : Hid (IsT wr.drew (some ⟨w1.heap.size, p, none⟩) (n - p) (fun i => ts (p + i))) := (T0.rest (p := p) (by omega)).out
          have TW : Hid (IsT wr.drew (some ⟨w1.heap.size, 0, none⟩) n ts) := T0
          have HUP : Hid (UpTo ts n) := hup
          have HLO : Hid (∀ i, i < n → -9223372036854775808 ≤ ts i) := lo
          have HHI : Hid (∀ i, i < n → ts i ≤ 9223372036854775807) := hi
          have KR : Hid (Kept w1 wr.drew) := HK.out.trans (kr.trans (Kept.drew _))
          have cl : Hid (wr.drew.cell? ⟨w1.heap.size, p - 1, none⟩ = some (.int .i64 (ts (p - 1)))) := kr.cell (HC.out (p - 1) (by omega))
          have cr : Hid (wr.drew.cell? ⟨w1.heap.size, p, none⟩ = some (.int .i64 (ts p))) := kr.cell (HC.out p (by omega))
          clear T0 hup lo hi kr c0 hl0 e1 e2 e3 e4
          obtain ⟨wd, hwd⟩ : ∃ wd, wd = wr.drew := ⟨_, rfl⟩
          rw [← hwd] at TL TR TW KR cl cr ⊢
          clear hwd HC HK
          go_wp2_with fail
          refine (leaf10 _ p n ts _ (by omega) TL.out).mono ?_
          rintro e w3 ⟨lb, rfl, L3, k3⟩
          go_wp2_with fail
          refine (leaf10 _ (n - p) (n - p) (fun i => ts (p + i)) _ (by omega) (k3.isT TR.out)).mono ?_
          rintro e w4 ⟨rb, rfl, L4, k4⟩
          go_wp2_with fail
          refine (leaf10 _ n n ts _ hn ((k3.trans k4).isT TW.out)).mono ?_
          rintro e w5 ⟨wb, rfl, L5, k5⟩
          go_wp2_with fail
          refine (zspan11_leaf lb p ts _ (by omega) hp0 ((L3.kept k4).kept k5) (fun i hi => HLO.out i (by omega)) (fun i hi => HHI.out i (by omega))).mono ?_
          rintro e w6 ⟨rfl, k6⟩
          go_wp2_with fail
          refine (zspan11_rest rb n p ts _ hn (by omega) ((L4.kept k5).kept k6) HLO.out HHI.out).mono ?_
          rintro e w7 ⟨rfl, k7⟩
          go_wp2_with fail
          refine (parent13 lb rb _ _ _ _ _ _ _ ⟨HLO.out 0 (by omega), HHI.out 0 (by omega)⟩ ⟨HLO.out (p - 1) (by omega), HHI.out (p - 1) (by omega)⟩ ⟨HLO.out p (by omega), HHI.out p (by omega)⟩ ⟨HLO.out (n - 1) (by omega), HHI.out (n - 1) (by omega)⟩).mono ?_
          rintro e w8 ⟨tb, rfl, L8, k8⟩
          go_wp2_with fail
          refine (zspan11_top tb _ _ _ L8 (HLO.out 0 (by omega)) (HHI.out 0 (by omega)) (HLO.out (n - 1) (by omega)) (HHI.out (n - 1) (by omega))).mono ?_
          rintro e w9 ⟨rfl, k9⟩
          go_wp2_with fail
          refine (zspan11_leaf wb n ts _ hn hn0 ((((L5.kept k6).kept k7).kept k8).kept k9) HLO.out HHI.out).mono ?_
          rintro e wz ⟨rfl, kz⟩
          have KZ := (((((((k3.trans k4).trans k5).trans k6).trans k7).trans k8).trans k9).trans kz)
          have c1 := KZ.cell cl.out
          have c2 := KZ.cell cr.out
          have hle : ts (p - 1) ≤ ts p := HUP.out.le' (by omega) (by omega)
          have hl1 : (p : Int) < (n : Int) := by omega
          have hl2 : (p : Int) - 1 < (n : Int) := by omega
          have hl3 : (0 : Int) ≤ (p : Int) - 1 := by omega
          clear L3 L4 L5 L8 k3 k4 k5 k6 k7 k8 k9 kz
          go_upto_region 32 with fail
          refine wp_region_quietS ?_
          repeat (go_big_quiet_step (fail))
          refine wpQuiet_nil ?_
          rintro _ ⟨nq, rfl⟩
          go_wp2_with fail
          go_ret
          exact ⟨rfl, (KR.out.trans KZ).trans (Kept.drewN _ _)⟩

theorem cut5 (a : Option Addr) (n c : Nat) (k : Int) (ts : Nat → Int) (w : World) (hT : IsT w a n ts) :
    Calls Try.prog 5 #[.slice a n c, .int .i64 k] w fun e w' => e = .returned (.bool true) ∧ Kept w w' := by
  by_cases hn : n ≤ 131072
  · by_cases ho : n < 2 ∨ (2 ≤ n ∧ k < 1) ∨ (2 ≤ n ∧ 1 ≤ k ∧ (n : Int) ≤ k)
    · exact cut5_out a n c k w hn ho
    · obtain ⟨p, rfl⟩ := Int.eq_ofNat_of_zero_le (show 0 ≤ k by omega)
      obtain ⟨b, off, rfl, _⟩ := hT.row (by omega)
      exact cut5_some _ n c p ts w hn (by omega) (by omega) hT
  · exact cut5_big a n c k w hn

end Go.Proofs.Qxb6616614a
