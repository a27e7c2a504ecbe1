/-
  THE WALKS of seat b6616331aZD, k: zzInsert.
-/
import Derived.Test.Qxb6616331aGreatDoorZi
import Derived.Laws.MakeOwn
namespace Go.Proofs.Qxb6616331aGreatDoor
open Go.RowKit
set_option linter.unusedVariables false
set_option linter.unusedSimpArgs false
set_option linter.unnecessarySimpa false
set_option maxRecDepth 40000

theorem Kept.own {w w1 w2 : World} {B : Nat} (q : Kept w w1) (h : Below B w1 w2) (hB : w.heap.size ≤ B) : Kept w w2 :=
  Kept.of_below (q.below.trans (h.mono hB))

/-- 'make([]string, 0, n)'. -/
theorem make0 (w : World) (C : Int) (n : Nat) (hC : C = (n : Int)) (hn : n ≤ 1099511627776) :
    ∃ w', (Instr.makeSlice 23 (.int .i64 0) (.int .i64 C)).run Tryz.prog w = .ok (.slice (some ⟨w.heap.size, 0, none⟩) 0 n) w' ∧ OwnS w' w.heap.size (.slice (some ⟨w.heap.size, 0, none⟩) 0 n) [] ∧ Kept w w' := by
  obtain ⟨i0, hi, hz0, hz1, hz2⟩ := info_parts Tryz.info9
  subst hC
  obtain ⟨w', hrun, r1, r2⟩ := run_make_own (P := Tryz.prog) w w.heap.size 23 9 i0 (sv []) 1 Tryz.underlying23 hi hz0 hz1 .i64 .i64 n (by rw [hz2]; omega) (by unfold maxLen; omega) (Nat.le_refl _)
  exact ⟨w', hrun, r1, Kept.of_below ((Below.refl _ w).grown r2 (Nat.le_refl _) (fun k e => by cases e))⟩

theorem drop_snoc (pre xs : List Str) (k j : Nat) (hk : k ≤ j) (h : j < xs.length) : pre ++ (xs.drop k).take (j - k) ++ [xs.getD j []] = pre ++ (xs.drop k).take (j + 1 - k) := by
  have e : xs.getD j [] = (xs.drop k).getD (j - k) [] := by
    simp [List.getD_eq_getElem?_getD, show k + (j - k) = j by omega]
  rw [List.append_assoc, e, take_snoc _ _ (by simp; omega), show j - k + 1 = j + 1 - k by omega]

set_option maxHeartbeats 3200000 in
theorem insert23 (a : Option Addr) (n c : Nat) (xs : List Str) (e : Str) (w : World) (hn : n ≤ 4194304) (hL : IsL w a n xs) :
    Calls Tryz.prog 23 #[.slice a n c, sv e] w fun r w' => (∃ v, r = .returned v ∧ OwnS w' w.heap.size v (ins e xs)) ∧ Kept w w' := by
  have hlen := hL.len
  obtain ⟨w0, hmk, O0, K0⟩ := make0 w ((n : Int) + 1) (n + 1) (by simp) (by omega)
  have HO : Hid (OwnS w0 w.heap.size (.slice (some ⟨w.heap.size, 0, none⟩) 0 (n + 1)) []) := O0
  have HK : Hid (Kept w w0) := K0
  have HL : Hid (IsL w a n xs) := hL
  have HE : Hid (xs.length = n) := hlen
  clear O0 K0 hL hlen
  go_enter Tryz.func23, Tryz.ntmps23
  go_wp2
  go_loopw [5, 6] (fun v i wr => ∃ (k : Nat), k ≤ n ∧ i = .int .i64 k ∧ Hid (OwnS wr w.heap.size v (xs.take k)) ∧ Hid (∀ i, i < k → xs.getD i [] < e) ∧ Hid (Kept w wr)) (fun _ i _ => n - (intOf i).toNat)
  case atStart => exact ⟨0, by omega, rfl, HO.out, fun i h => by omega, HK.out⟩
  case round =>
    obtain ⟨k, hk, rfl, OV, HU, KR⟩ := hrel
    obtain ⟨pre0, hp0⟩ : ∃ pre0, pre0 = xs.take k := ⟨_, rfl⟩
    have hl0 : pre0.length = k := by rw [hp0, List.length_take, HE.out]; omega
    have HL0 : Hid (pre0.length = k) := hl0
    rw [← hp0] at OV
    have HP0 : Hid (pre0 = xs.take k) := hp0
    clear hp0 hl0
    have hB := KR.out.size
    by_cases hlt : k < n
    · obtain ⟨b, off, rfl, hc⟩ := HL.out.row (by omega)
      have c0 := KR.out.cell (hc k hlt)
      have hl : (k : Int) < (n : Int) := by omega
      have hge : decide ((n : Int) ≤ k) = false := by simp; omega
      clear hc
      obtain ⟨x, hx⟩ : ∃ x, x = xs.getD k [] := ⟨_, rfl⟩
      rw [← hx] at c0
      have HX : Hid (x = xs.getD k []) := hx
      clear hx
      cases hb : Op.bytesLess x e
      · -- the first that is not below e
        by_cases hxe : x = e
        · subst hxe
          go_wp2
          go_loopw [5, 6] (fun v i ws => ∃ (j : Nat), k ≤ j ∧ j ≤ n ∧ i = .int .i64 j ∧ Hid (OwnS ws w.heap.size v (pre0 ++ (xs.drop k).take (j - k))) ∧ Hid (Kept w ws)) (fun _ i _ => n - (intOf i).toNat)
          case atStart => exact ⟨k, by omega, by omega, rfl, by have h := OV.out; show OwnS _ _ _ _; first | exact h | simpa using h, (KR.out)⟩
          case round =>
            obtain ⟨j, hkj, hj, rfl, OV2, KR2⟩ := hrel
            obtain ⟨pre2, hp2⟩ : ∃ pre2, pre2 = pre0 ++ (xs.drop k).take (j - k) := ⟨_, rfl⟩
            have HL2 : Hid (pre2.length ≤ j + 1) := by
              show pre2.length ≤ j + 1
              have := HL0.out
              have hh := HE.out
              rw [hp2]
              simp
              omega
            rw [← hp2] at OV2
            have HP2 : Hid (pre2 = pre0 ++ (xs.drop k).take (j - k)) := hp2
            clear hp2
            have hB2 := KR2.out.size
            by_cases hlt2 : j < n
            · obtain ⟨b2, off2, hab, hc2⟩ := HL.out.row (by omega)
              have cj := KR2.out.cell (hc2 j hlt2)
              obtain ⟨rfl, rfl⟩ : b2 = b ∧ off2 = off := by cases hab; exact ⟨rfl, rfl⟩
              have hl2 : (j : Int) < (n : Int) := by omega
              clear hc2
              obtain ⟨y, hy⟩ : ∃ y, y = xs.getD j [] := ⟨_, rfl⟩
              rw [← hy] at cj
              have HY : Hid (y = xs.getD j []) := hy
              clear hy
              go_wp2_with (at_builtin; refine wpList_app1 rfl _ _ rfl rfl _ w.heap.size _ pre2 y OV2.out (by have := HL2.out; omega) hB2 rfl rfl ?_; intro g2 cg2 w2 HO2 B2 _; have K2 : Hid (Kept w w2) := KR2.out.own B2.out (Nat.le_refl _))
              go_roundw
              case rel =>
                have hO : Hid (OwnS w2 w.heap.size (.slice (some ⟨g2, 0, none⟩) (pre2.length + 1) cg2) (pre0 ++ (xs.drop k).take (j + 1 - k))) := by
                  have := HO2.out
                  rw [HP2.out, HY.out, drop_snoc _ _ _ _ hkj (by rw [HE.out]; exact hlt2)] at this
                  rw [HP2.out]
                  exact this
                first | exact ⟨j + 1, by omega, by omega, by go_num, hO, K2⟩ | exact ⟨j + 1, by omega, by omega, by go_num, hO⟩
              case measure => simp [intOf]; omega
            · obtain rfl : j = n := by omega
              have hl2 : ¬ (j : Int) < (j : Int) := by omega
              go_wp2
              go_ret
              refine ⟨⟨_, rfl, ?_⟩, KR2.out⟩
              have := OV2.out
              rw [HP2.out] at this
              rw [ins_split x xs k (by rw [HE.out]; omega) HU.out (fun _ => by rw [← HX.out]; rw [bytesLess_eq] at hb; simpa using hb), if_pos ⟨by rw [HE.out]; exact hlt, HX.out.symm⟩]
              rw [List.take_of_length_le (by simp [HE.out]), HP0.out] at this
              first | exact this | simpa using this
        · have hne : (x == e) = false := by simpa using hxe
          go_wp2_with (at_builtin; refine wpList_app1 rfl _ _ rfl rfl wr w.heap.size _ pre0 e OV.out (by rw [HL0.out]; omega) hB rfl rfl ?_; intro g cg w1 HO1 B1 _; have K1 : Hid (Kept w w1) := KR.out.own B1.out (Nat.le_refl _))
          go_loopw [5, 6] (fun v i ws => ∃ (j : Nat), k ≤ j ∧ j ≤ n ∧ i = .int .i64 j ∧ Hid (OwnS ws w.heap.size v ((pre0 ++ [e]) ++ (xs.drop k).take (j - k))) ∧ Hid (Kept w ws)) (fun _ i _ => n - (intOf i).toNat)
          case atStart => exact ⟨k, by omega, by omega, rfl, by have h := HO1.out; show OwnS _ _ _ _; first | exact h | simpa using h, (K1.out)⟩
          case round =>
            obtain ⟨j, hkj, hj, rfl, OV2, KR2⟩ := hrel
            obtain ⟨pre2, hp2⟩ : ∃ pre2, pre2 = (pre0 ++ [e]) ++ (xs.drop k).take (j - k) := ⟨_, rfl⟩
            have HL2 : Hid (pre2.length ≤ j + 1) := by
              show pre2.length ≤ j + 1
              have := HL0.out
              have hh := HE.out
              rw [hp2]
              simp
              omega
            rw [← hp2] at OV2
            have HP2 : Hid (pre2 = (pre0 ++ [e]) ++ (xs.drop k).take (j - k)) := hp2
            clear hp2
            have hB2 := KR2.out.size
            by_cases hlt2 : j < n
            · obtain ⟨b2, off2, hab, hc2⟩ := HL.out.row (by omega)
              have cj := KR2.out.cell (hc2 j hlt2)
              obtain ⟨rfl, rfl⟩ : b2 = b ∧ off2 = off := by cases hab; exact ⟨rfl, rfl⟩
              have hl2 : (j : Int) < (n : Int) := by omega
              clear hc2
              obtain ⟨y, hy⟩ : ∃ y, y = xs.getD j [] := ⟨_, rfl⟩
              rw [← hy] at cj
              have HY : Hid (y = xs.getD j []) := hy
              clear hy
              go_wp2_with (at_builtin; refine wpList_app1 rfl _ _ rfl rfl _ w.heap.size _ pre2 y OV2.out (by have := HL2.out; omega) hB2 rfl rfl ?_; intro g2 cg2 w2 HO2 B2 _; have K2 : Hid (Kept w w2) := KR2.out.own B2.out (Nat.le_refl _))
              go_roundw
              case rel =>
                have hO : Hid (OwnS w2 w.heap.size (.slice (some ⟨g2, 0, none⟩) (pre2.length + 1) cg2) ((pre0 ++ [e]) ++ (xs.drop k).take (j + 1 - k))) := by
                  have := HO2.out
                  rw [HP2.out, HY.out, drop_snoc _ _ _ _ hkj (by rw [HE.out]; exact hlt2)] at this
                  rw [HP2.out]
                  exact this
                first | exact ⟨j + 1, by omega, by omega, by go_num, hO, K2⟩ | exact ⟨j + 1, by omega, by omega, by go_num, hO⟩
              case measure => simp [intOf]; omega
            · obtain rfl : j = n := by omega
              have hl2 : ¬ (j : Int) < (j : Int) := by omega
              go_wp2
              go_ret
              refine ⟨⟨_, rfl, ?_⟩, KR2.out⟩
              have := OV2.out
              rw [HP2.out] at this
              rw [ins_split e xs k (by rw [HE.out]; omega) HU.out (fun _ => by rw [← HX.out]; rw [bytesLess_eq] at hb; simpa using hb), if_neg (fun h => hxe (HX.out.trans h.2))]
              rw [List.take_of_length_le (by simp [HE.out]), HP0.out] at this
              first | exact this | simpa using this
      · go_wp2_with (at_builtin; refine wpList_app1 rfl _ _ rfl rfl wr w.heap.size _ pre0 x OV.out (by rw [HL0.out]; omega) hB rfl rfl ?_; intro g cg w1 HO1 B1 _; have K1 : Hid (Kept w w1) := KR.out.own B1.out (Nat.le_refl _))
        go_roundw
        case rel =>
          refine ⟨k + 1, by omega, by go_num, ?_, fun i hi => ?_, K1.out⟩
          · have := HO1.out
            rw [HP0.out, HX.out, take_snoc _ _ (by rw [HE.out]; exact hlt)] at this
            rw [HP0.out]
            exact this
          · by_cases h : i < k
            · exact HU.out i h
            · obtain rfl : i = k := by omega
              rw [← HX.out]
              rw [bytesLess_eq] at hb
              simpa using hb
        case measure => simp [intOf]; omega
    · obtain rfl : n = k := by omega
      have hl : ¬ (n : Int) < (n : Int) := by omega
      go_wp2_with (at_builtin; refine wpList_app1 rfl _ _ rfl rfl wr w.heap.size _ pre0 e OV.out (by rw [HL0.out]; omega) hB rfl rfl ?_; intro g cg w1 HO1 B1 _; have K1 : Hid (Kept w w1) := KR.out.own B1.out (Nat.le_refl _))
      go_loopw [5, 6] (fun v i ws => ∃ (j : Nat), n ≤ j ∧ j ≤ n ∧ i = .int .i64 j ∧ Hid (OwnS ws w.heap.size v ((pre0 ++ [e]) ++ (xs.drop n).take (j - n))) ∧ Hid (Kept w ws)) (fun _ i _ => n - (intOf i).toNat)
      case atStart => exact ⟨n, by omega, by omega, rfl, by have h := HO1.out; show OwnS _ _ _ _; first | exact h | simpa using h, (K1.out)⟩
      case round =>
        obtain ⟨j, hkj, hj, rfl, OV2, KR2⟩ := hrel
        obtain ⟨pre2, hp2⟩ : ∃ pre2, pre2 = (pre0 ++ [e]) ++ (xs.drop n).take (j - n) := ⟨_, rfl⟩
        have HL2 : Hid (pre2.length ≤ j + 1) := by
          show pre2.length ≤ j + 1
          have := HL0.out
          have hh := HE.out
          rw [hp2]
          simp
          omega
        rw [← hp2] at OV2
        have HP2 : Hid (pre2 = (pre0 ++ [e]) ++ (xs.drop n).take (j - n)) := hp2
        clear hp2
        have hB2 := KR2.out.size
        obtain rfl : n = j := by omega
        have hl2 : ¬ (n : Int) < (n : Int) := by omega
        go_wp2
        go_ret
        refine ⟨⟨_, rfl, ?_⟩, KR2.out⟩
        have := OV2.out
        rw [HP2.out] at this
        rw [ins_split e xs n (by rw [HE.out]; omega) HU.out (fun h => by rw [HE.out] at h; omega), if_neg (fun h => by have := h.1; rw [HE.out] at this; omega)]
        rw [List.take_of_length_le (by simp [HE.out]), HP0.out] at this
        first | exact this | simpa using this

end Go.Proofs.Qxb6616331aGreatDoor
