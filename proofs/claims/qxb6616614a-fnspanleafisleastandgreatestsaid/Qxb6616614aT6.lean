/-
  THE WALKS of seat b6616614a, 6: FnSpanLeafIsLeastAndGreatest.
-/
import Derived.Test.Qxb6616614aT5
namespace Go.Proofs.Qxb6616614a
open Go.RowKit
set_option linter.unusedVariables false
set_option linter.unusedSimpArgs false

theorem leaf4_big (a : Option Addr) (n c : Nat) (w : World) (hn : ¬ n ≤ 131072) :
    Calls Try.prog 4 #[.slice a n c] w fun e w' => e = .returned (.bool true) ∧ Kept w w' := by
  have h1 : (n : Int) > 131072 := by omega
  by_cases h2 : n ≤ 1048576
  · have H := bytes9 a n c w h2
    go_enter Try.func4, Try.ntmps4
    go_wp2_with fail
    refine H.mono ?_
    rintro e w1 ⟨rfl, rfl⟩
    go_wp2
    go_ret
    exact ⟨rfl, Kept.refl _⟩
  · have H := bytes9_big a n c w h2
    go_enter Try.func4, Try.ntmps4
    go_wp2_with fail
    refine H.mono ?_
    rintro e w1 ⟨rfl, rfl⟩
    go_wp2
    go_ret
    exact ⟨rfl, Kept.refl _⟩

theorem leaf4_none (a : Option Addr) (c : Nat) (w : World) :
    Calls Try.prog 4 #[.slice a 0 c] w fun e w' => e = .returned (.bool true) ∧ Kept w w' := by
  have H := bytes9 a 0 c w (by omega)
  go_enter Try.func4, Try.ntmps4
  go_wp2_with fail
  refine H.mono ?_
  rintro e w1 ⟨rfl, rfl⟩
  go_wp2
  go_ret
  exact ⟨rfl, Kept.refl _⟩

set_option maxRecDepth 40000 in
set_option maxHeartbeats 1600000 in
theorem leaf4_some (x : Addr) (n c : Nat) (ts : Nat → Int) (w : World) (hn : n ≤ 131072) (hn0 : 0 < n) (hT : IsT w (some x) n ts) :
    Calls Try.prog 4 #[.slice (some x) n c] w fun e w' => e = .returned (.bool true) ∧ Kept w w' := by
  have H := bytes9 (some x) n c w (by omega)
  have hq := fun w => Lib.run_eql_slice_nil (P := Try.prog) w 27 2 (some x) n c 0 0 Try.underlying27
  have hmk := run_make_row' (P := Try.prog) 27 2 (.int .i64 0) 8 Try.underlying27 Try.info2 rfl .i64 .i64 n (by omega) (by omega)
  obtain ⟨w2, hcp, hc, k2⟩ := copied w x n c ts hn0 hT
  have lo := hT.lo
  have hi := hT.hi
  have e1 : ¬ (n : Int) > 131072 := by omega
  have e2 : ((n : Int) == 0) = false := by simp; omega
  clear hT
  have HC : Hid (∀ i, i < n → w2.cell? ⟨w.heap.size, i, none⟩ = some (.int .i64 (ts i))) := hc
  have HK : Hid (Kept w w2) := k2
  clear hc k2
  go_enter Try.func4, Try.ntmps4
  go_wp2_with fail
  refine H.mono ?_
  rintro e w1 ⟨rfl, rfl⟩
  go_wp2
  clear hmk hcp hq H
  go_loopw [4] (fun i wr => ∃ k : Nat, 1 ≤ k ∧ k ≤ n ∧ i = .int .i64 k ∧ UpTo ts k ∧ Kept w2 wr) (fun i _ => n - (intOf i).toNat)
  case atStart => exact ⟨1, Nat.le_refl _, hn0, rfl, fun i hi => by omega, Kept.refl _⟩
  case round =>
    obtain ⟨k, hk1, hk, rfl, hup, kr⟩ := hrel
    by_cases hlt : k < n
    · have c1 := kr.cell (HC.out k hlt)
      obtain ⟨j, rfl⟩ : ∃ j, k = j + 1 := ⟨k - 1, by omega⟩
      have c0 := kr.cell (HC.out j (by omega))
      have hl : ((j : Int) + 1) < (n : Int) := by omega
      have hl0 : (j : Int) < (n : Int) := by omega
      by_cases hs : ts (j + 1) < ts j
      · go_wp2
        go_region
        go_wp2
        go_ret
        exact ⟨rfl, HK.out.trans (kr.trans (Kept.drew _))⟩
      · go_wp2
        go_region
        go_wp2
        go_roundw
        case rel =>
          exact ⟨j + 2, by omega, by omega, by go_num, fun i hi => by
            by_cases e : i + 1 < j + 1
            · exact hup i e
            · obtain rfl : i = j := by omega
              omega, kr.trans (Kept.drew _)⟩
        case measure => simp [intOf]; omega
    · obtain rfl : n = k := by omega
      have hl : ¬ (n : Int) < (n : Int) := by omega
      have c0 := kr.cell (HC.out 0 hn0)
      have hl0 : (0 : Int) < (n : Int) := by omega
      go_wp2
      go_region
      go_wp2
      go_loopw [5, 6, 7] (fun a b i wr' => ∃ k : Nat, 1 ≤ k ∧ k ≤ n ∧ i = .int .i64 k ∧ a = .int .i64 (ts 0) ∧ b = .int .i64 (ts (k - 1)) ∧ wr' = wr.drew) (fun _ _ i _ => n - (intOf i).toNat)
      case atStart => exact ⟨1, Nat.le_refl _, hn0, rfl, rfl, rfl, rfl⟩
      case round =>
        rename_i wq
        obtain ⟨k, hk1, hk, rfl, rfl, rfl, rfl⟩ := hrel
        by_cases hlt : k < n
        · have c1 : (wr.drew).cell? _ = _ := kr.cell (HC.out k hlt)
          have s0 : ¬ ts k < ts 0 := by have := hup.le' (Nat.zero_le k) hlt; omega
          have hl : (k : Int) < (n : Int) := by omega
          by_cases s1 : ts (k - 1) < ts k
          · go_wp2
            go_roundw
            case rel => exact ⟨k + 1, by omega, by omega, by go_num, rfl, rfl, trivial⟩
            case measure => simp [intOf]; omega
          · have s2 : ts (k - 1) = ts (k + 1 - 1) := by have := hup.le' (i := k - 1) (j := k) (by omega) hlt; rw [Nat.add_sub_cancel]; omega
            have H2 : Hid (ts (k - 1) = ts (k + 1 - 1)) := s2
            clear s2
            go_wp2
            go_roundw
            case rel => exact ⟨k + 1, by omega, by omega, by go_num, rfl, by rw [H2.out], trivial⟩
            case measure => simp [intOf]; omega
        · obtain rfl : n = k := by omega
          have T0 : IsT wr.drew (some ⟨w1.heap.size, 0, none⟩) n ts := ⟨fun _ => ⟨_, 0, rfl, fun i hi => by rw [Nat.zero_add]; exact kr.cell (HC.out i hi)⟩, lo, hi⟩
          go_wp2_with fail
          refine (leaf10 _ n n ts _ hn T0).mono ?_
          rintro e w3 ⟨nb, rfl, L3, k3⟩
          go_wp2_with fail
          refine (zspan11_leaf nb n ts _ hn hn0 L3 lo hi).mono ?_
          rintro e w4 ⟨rfl, k4⟩
          go_wp2
          go_ret
          exact ⟨rfl, ((HK.out.trans (kr.trans (Kept.drew _))).trans k3).trans k4⟩

theorem leaf4 (a : Option Addr) (n c : Nat) (ts : Nat → Int) (w : World) (hT : IsT w a n ts) :
    Calls Try.prog 4 #[.slice a n c] w fun e w' => e = .returned (.bool true) ∧ Kept w w' := by
  by_cases hn : n ≤ 131072
  · by_cases hn0 : 0 < n
    · obtain ⟨b, off, rfl, _⟩ := hT.row hn0
      exact leaf4_some _ n c ts w hn hn0 hT
    · obtain rfl : n = 0 := by omega
      exact leaf4_none a c w
  · exact leaf4_big a n c w hn

end Go.Proofs.Qxb6616614a
