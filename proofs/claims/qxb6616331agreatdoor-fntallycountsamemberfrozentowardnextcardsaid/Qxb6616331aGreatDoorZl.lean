/-
  THE WALKS of seat b6616331aZD, l: zzListOf.
-/
import Derived.Test.Qxb6616331aGreatDoorZj
import Derived.Test.Qxb6616331aGreatDoorZk
namespace Go.Proofs.Qxb6616331aGreatDoor
open Go.RowKit
set_option linter.unusedVariables false
set_option linter.unusedSimpArgs false
set_option linter.unnecessarySimpa false
set_option maxRecDepth 40000

theorem map_snoc (P : List Str) (f : Str → Str) (xs : List Str) (k : Nat) (h : k < xs.length) : P ++ (xs.take k).map f ++ [f (xs.getD k [])] = P ++ (xs.take (k + 1)).map f := by
  rw [← take_snoc xs k h]; simp

set_option maxHeartbeats 3200000 in
theorem listOf12_in (N : Nat) (ab al ac : Option Addr) (nb cb nl cl nc cc : Nat) (xb xl xc : List Str) (w : World) (hN : N < 18446744073709551616) (h1 : IsL w ab nb xb) (h2 : IsL w al nl xl) (h3 : IsL w ac nc xc) (n1 : nb ≤ 2097152) (n2 : nl ≤ 2097152) (n3 : nc ≤ 2097152) (s1 : ∀ i, i < nb → (xb.getD i []).length ≤ 1048576) (s2 : ∀ i, i < nl → (xl.getD i []).length ≤ 1048576) :
    Calls Tryz.prog 12 #[.agg #[.int .u64 N, .slice ab nb cb, .slice al nl cl, .slice ac nc cc]] w fun e w' => (∃ k v, 1 ≤ k ∧ k ≤ 16 ∧ N < 16 ^ k ∧ e = .returned v ∧ OwnS w' w.heap.size v ([64 :: hexK N k] ++ xb.map (fun x => 61 :: x) ++ xl.map (fun x => 126 :: x) ++ xc)) ∧ Kept w w' := by
  obtain ⟨W, hW⟩ : ∃ W, W = w.alloc (.cells #[.int .u64 N, .slice ab nb cb, .slice al nl cl, .slice ac nc cc] 25) := ⟨_, rfl⟩
  have hsW : W.heap.size = w.heap.size + 1 := by rw [hW]; simp
  have KW : Hid (Kept w W) := by rw [hW]; exact Kept.alloc _ _
  obtain ⟨w0, hmk, O0, K0⟩ := make0 W (1 + (nb : Int) + nl + nc) (1 + nb + nl + nc) (by simp) (by omega)
  have HB : Hid (∀ w', Kept W w' → w'.cell? ⟨w.heap.size, 0, none⟩ = some (.int .u64 N) ∧ w'.cell? ⟨w.heap.size, 1, none⟩ = some (.slice ab nb cb) ∧ w'.cell? ⟨w.heap.size, 2, none⟩ = some (.slice al nl cl) ∧ w'.cell? ⟨w.heap.size, 3, none⟩ = some (.slice ac nc cc)) := fun w' q => q.box4 (by rw [hW]; exact heap_alloc_new w _)
  have H1 : Hid (∀ w', Kept W w' → IsL w' ab nb xb) := fun w' q => (h1.kept KW.out).kept q
  have H2 : Hid (∀ w', Kept W w' → IsL w' al nl xl) := fun w' q => (h2.kept KW.out).kept q
  have H3 : Hid (∀ w', Kept W w' → IsL w' ac nc xc) := fun w' q => (h3.kept KW.out).kept q
  have E1 : Hid (xb.length = nb) := h1.len
  have E2 : Hid (xl.length = nl) := h2.len
  have E3 : Hid (xc.length = nc) := h3.len
  rw [hsW] at O0 hmk
  have HO : Hid (OwnS w0 (w.heap.size + 1) (.slice (some ⟨w.heap.size + 1, 0, none⟩) 0 (1 + nb + nl + nc)) []) := O0
  have HK : Hid (Kept W w0) := K0
  rw [hW] at hmk
  obtain ⟨c0, c1, c2, c3⟩ := HB.out w0 K0
  have HSW : Hid (W.heap.size = w.heap.size + 1) := hsW
  have hs0 := K0.size
  rw [hsW] at hs0
  have S1 : Hid (∀ i, i < nb → (xb.getD i []).length ≤ 1048576) := s1
  have S2 : Hid (∀ i, i < nl → (xl.getD i []).length ≤ 1048576) := s2
  clear s1 s2
  clear h1 h2 h3 O0 K0 hW hsW
  go_enter Tryz.func12, Tryz.ntmps12
  go_wp2_with fail
  refine (hex31 N _ hN).mono ?_
  rintro e w1 ⟨⟨k0, hk1, hk2, hk3, rfl⟩, q1⟩
  have Q1 : Hid (Kept W w1) := HK.out.trans q1
  have O1 : Hid (OwnS w1 (w.heap.size + 1) (.slice (some ⟨w.heap.size + 1, 0, none⟩) 0 (1 + nb + nl + nc)) []) := HO.out.below q1
  have hs1 : w.heap.size + 1 ≤ w1.heap.size := by have := q1.size; omega
  have K3 : Hid (N < 16 ^ k0) := hk3
  clear q1 c0 c1 c2 c3 hk3
  obtain ⟨h, hh⟩ : ∃ h, h = hexK N k0 := ⟨_, rfl⟩
  rw [← hh]
  have hhl : ¬ 9223372036854775807 < 1 + h.length := by rw [hh, hexK_length]; omega
  have HH : Hid (h = hexK N k0) := hh
  clear hh
  go_wp2_with (at_builtin; refine wpList_app1 rfl _ _ rfl rfl w1 (w.heap.size + 1) _ [] (64 :: h) O1.out (by simp) hs1 rfl rfl ?_; intro g cg w2 HO2 B2 _; have Q2 : Hid (Kept W w2) := Q1.out.own B2.out (by rw [HSW.out]; exact Nat.le_refl _))
  obtain ⟨p1, hp1⟩ : ∃ p1 : List Str, p1 = [64 :: h] := ⟨_, rfl⟩
  have P1 : Hid (p1 = [64 :: h]) := hp1
  have L1 : Hid (p1.length = 1) := by rw [hp1]; exact rfl
  have OO1 : Hid (OwnS w2 (w.heap.size + 1) (.slice (some ⟨g, 0, none⟩) 1 cg) p1) := by rw [hp1]; exact HO2.out
  clear hp1 HO2
  go_loopw [3, 4] (fun v i wr => ∃ (k : Nat), k ≤ nb ∧ i = .int .i64 k ∧ Hid (OwnS wr (w.heap.size + 1) v (p1 ++ (xb.take k).map (fun x => 61 :: x))) ∧ Hid (Kept W wr)) (fun _ i _ => nb - (intOf i).toNat)
  case atStart => exact ⟨0, by omega, rfl, by have h := OO1.out; show OwnS _ _ _ _; simpa using h, Q2⟩
  case round =>
    obtain ⟨k, hk, rfl, OV, KR⟩ := hrel
    obtain ⟨pre, hp⟩ : ∃ pre, pre = p1 ++ (xb.take k).map (fun x => 61 :: x) := ⟨_, rfl⟩
    have HL : Hid (pre.length ≤ 8388608) := by
      show pre.length ≤ 8388608
      have h1 := L1.out
      
      have hE := E1.out
      rw [hp]
      simp
      omega
    rw [← hp] at OV
    have HP : Hid (pre = p1 ++ (xb.take k).map (fun x => 61 :: x)) := hp
    clear hp
    obtain ⟨c0, c1, c2, c3⟩ := HB.out _ KR.out
    have hsr : w.heap.size + 1 ≤ wr.heap.size := by have := KR.out.size; rw [HSW.out] at this; exact this
    by_cases hlt : k < nb
    · obtain ⟨b, off, rfl, hc⟩ := (H1.out _ KR.out).row (by omega)
      have cx := hc k hlt
      have hl : (k : Int) < (nb : Int) := by omega
      clear hc
      obtain ⟨x, hx⟩ : ∃ x, x = xb.getD k [] := ⟨_, rfl⟩
      rw [← hx] at cx
      have HX : Hid (x = xb.getD k []) := hx
      have hxl : ¬ 9223372036854775807 < 1 + x.length := by rw [hx]; have := S1.out k hlt; omega
      clear hx
      go_wp2_with (at_builtin; refine wpList_app1 rfl _ _ rfl rfl wr (w.heap.size + 1) _ pre (61 :: x) OV.out (by have := HL.out; omega) hsr rfl rfl ?_; intro g2 cg2 w2 HO2 B2 _; have Q2 : Hid (Kept W w2) := KR.out.own B2.out (by rw [HSW.out]; exact Nat.le_refl _))
      go_roundw
      case rel =>
        have hO : Hid (OwnS w2 (w.heap.size + 1) (.slice (some ⟨g2, 0, none⟩) (pre.length + 1) cg2) (p1 ++ (xb.take (k + 1)).map (fun x => 61 :: x))) := by
          have := HO2.out
          rw [HP.out, HX.out] at this
          rw [HP.out, ← map_snoc _ _ _ _ (by rw [E1.out]; exact hlt)]
          exact this
        first | exact ⟨k + 1, by omega, by go_num, hO, Q2⟩ | exact ⟨k + 1, by omega, by go_num, hO⟩
      case measure => simp [intOf]; omega
    · obtain rfl : nb = k := by omega
      have hl : ¬ (nb : Int) < (nb : Int) := by omega
      have OX : Hid (OwnS wr (w.heap.size + 1) _ pre) := OV
      go_wp2
      obtain ⟨p2, hp2⟩ : ∃ p2 : List Str, p2 = pre := ⟨_, rfl⟩
      have P2 : Hid (p2 = p1 ++ xb.map (fun x => 61 :: x)) := by
        have := HP.out
        rw [List.take_of_length_le (by rw [E1.out]; exact Nat.le_refl _)] at this
        rw [hp2]; exact this
      have L2 : Hid (p2.length ≤ 1 + nb) := by
        show p2.length ≤ 1 + nb
        rw [P2.out]; simp; have := L1.out; have := E1.out; omega
      rw [← hp2] at OX
      have O2 := OX
      have KK := KR
      clear hp2 HP HL OV OX KR
      go_loopw [3, 5] (fun v i wr => ∃ (k : Nat), k ≤ nl ∧ i = .int .i64 k ∧ Hid (OwnS wr (w.heap.size + 1) v (p2 ++ (xl.take k).map (fun x => 126 :: x))) ∧ Hid (Kept W wr)) (fun _ i _ => nl - (intOf i).toNat)
      case atStart => exact ⟨0, by omega, rfl, by have h := O2.out; show OwnS _ _ _ _; simpa using h, KK⟩
      case round =>
        obtain ⟨k, hk, rfl, OV, KR⟩ := hrel
        obtain ⟨pre, hp⟩ : ∃ pre, pre = p2 ++ (xl.take k).map (fun x => 126 :: x) := ⟨_, rfl⟩
        have HL : Hid (pre.length ≤ 8388608) := by
          show pre.length ≤ 8388608
          have h1 := L1.out
          have h2 := L2.out
          have hE := E2.out
          rw [hp]
          simp
          omega
        rw [← hp] at OV
        have HP : Hid (pre = p2 ++ (xl.take k).map (fun x => 126 :: x)) := hp
        clear hp
        obtain ⟨c0, c1, c2, c3⟩ := HB.out _ KR.out
        have hsr : w.heap.size + 1 ≤ wr.heap.size := by have := KR.out.size; rw [HSW.out] at this; exact this
        by_cases hlt : k < nl
        · obtain ⟨b, off, rfl, hc⟩ := (H2.out _ KR.out).row (by omega)
          have cx := hc k hlt
          have hl : (k : Int) < (nl : Int) := by omega
          clear hc
          obtain ⟨x, hx⟩ : ∃ x, x = xl.getD k [] := ⟨_, rfl⟩
          rw [← hx] at cx
          have HX : Hid (x = xl.getD k []) := hx
          have hxl : ¬ 9223372036854775807 < 1 + x.length := by rw [hx]; have := S2.out k hlt; omega
          clear hx
          go_wp2_with (at_builtin; refine wpList_app1 rfl _ _ rfl rfl wr (w.heap.size + 1) _ pre (126 :: x) OV.out (by have := HL.out; omega) hsr rfl rfl ?_; intro g2 cg2 w2 HO2 B2 _; have Q2 : Hid (Kept W w2) := KR.out.own B2.out (by rw [HSW.out]; exact Nat.le_refl _))
          go_roundw
          case rel =>
            have hO : Hid (OwnS w2 (w.heap.size + 1) (.slice (some ⟨g2, 0, none⟩) (pre.length + 1) cg2) (p2 ++ (xl.take (k + 1)).map (fun x => 126 :: x))) := by
              have := HO2.out
              rw [HP.out, HX.out] at this
              rw [HP.out, ← map_snoc _ _ _ _ (by rw [E2.out]; exact hlt)]
              exact this
            first | exact ⟨k + 1, by omega, by go_num, hO, Q2⟩ | exact ⟨k + 1, by omega, by go_num, hO⟩
          case measure => simp [intOf]; omega
        · obtain rfl : nl = k := by omega
          have hl : ¬ (nl : Int) < (nl : Int) := by omega
          have OX : Hid (OwnS wr (w.heap.size + 1) _ pre) := OV
          go_wp2
          obtain ⟨p3, hp3⟩ : ∃ p3 : List Str, p3 = pre := ⟨_, rfl⟩
          have P3 : Hid (p3 = p2 ++ xl.map (fun x => 126 :: x)) := by
            have := HP.out
            rw [List.take_of_length_le (by rw [E2.out]; exact Nat.le_refl _)] at this
            rw [hp3]; exact this
          have L3 : Hid (p3.length ≤ 1 + nb + nl) := by
            show p3.length ≤ 1 + nb + nl
            rw [P3.out]; simp; have := L2.out; have := E2.out; omega
          rw [← hp3] at OX
          have O3 := OX
          have KL := KR
          clear hp3 HP HL OV OX KR
          go_loopw [3, 6] (fun v i wr => ∃ (k : Nat), k ≤ nc ∧ i = .int .i64 k ∧ Hid (OwnS wr (w.heap.size + 1) v (p3 ++ (xc.take k))) ∧ Hid (Kept W wr)) (fun _ i _ => nc - (intOf i).toNat)
          case atStart => exact ⟨0, by omega, rfl, by have h := O3.out; show OwnS _ _ _ _; simpa using h, KL⟩
          case round =>
            obtain ⟨k, hk, rfl, OV, KR⟩ := hrel
            obtain ⟨pre, hp⟩ : ∃ pre, pre = p3 ++ (xc.take k) := ⟨_, rfl⟩
            have HL : Hid (pre.length ≤ 8388608) := by
              show pre.length ≤ 8388608
              have h1 := L1.out
              have h2 := L3.out
              have hE := E3.out
              rw [hp]
              simp
              omega
            rw [← hp] at OV
            have HP : Hid (pre = p3 ++ (xc.take k)) := hp
            clear hp
            obtain ⟨c0, c1, c2, c3⟩ := HB.out _ KR.out
            have hsr : w.heap.size + 1 ≤ wr.heap.size := by have := KR.out.size; rw [HSW.out] at this; exact this
            by_cases hlt : k < nc
            · obtain ⟨b, off, rfl, hc⟩ := (H3.out _ KR.out).row (by omega)
              have cx := hc k hlt
              have hl : (k : Int) < (nc : Int) := by omega
              clear hc
              obtain ⟨x, hx⟩ : ∃ x, x = xc.getD k [] := ⟨_, rfl⟩
              rw [← hx] at cx
              have HX : Hid (x = xc.getD k []) := hx
              
              clear hx
              go_wp2_with (at_builtin; refine wpList_app1 rfl _ _ rfl rfl wr (w.heap.size + 1) _ pre x OV.out (by have := HL.out; omega) hsr rfl rfl ?_; intro g2 cg2 w2 HO2 B2 _; have Q2 : Hid (Kept W w2) := KR.out.own B2.out (by rw [HSW.out]; exact Nat.le_refl _))
              go_roundw
              case rel =>
                have hO : Hid (OwnS w2 (w.heap.size + 1) (.slice (some ⟨g2, 0, none⟩) (pre.length + 1) cg2) (p3 ++ (xc.take (k + 1)))) := by
                  have := HO2.out
                  rw [HP.out, HX.out] at this
                  rw [HP.out, ← take_snoc _ _ (by rw [E3.out]; exact hlt), ← List.append_assoc]
                  exact this
                first | exact ⟨k + 1, by omega, by go_num, hO, Q2⟩ | exact ⟨k + 1, by omega, by go_num, hO⟩
              case measure => simp [intOf]; omega
            · obtain rfl : nc = k := by omega
              have hl : ¬ (nc : Int) < (nc : Int) := by omega
              have OX : Hid (OwnS wr (w.heap.size + 1) _ pre) := OV
              go_wp2
              go_ret
              refine ⟨⟨k0, hk1, hk2, K3.out, _, rfl, ?_⟩, KW.out.trans KR.out⟩
              have := OX.out
              rw [HP.out, List.take_of_length_le (by rw [E3.out]; exact Nat.le_refl _), P3.out, P2.out, P1.out, HH.out] at this
              refine OwnS.mono (B := w.heap.size + 1) ?_ (Nat.le_succ _)
              simpa using this

end Go.Proofs.Qxb6616331aGreatDoor
