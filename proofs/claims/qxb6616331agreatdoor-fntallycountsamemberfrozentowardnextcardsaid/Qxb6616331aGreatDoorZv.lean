/-
  THE WALKS of seat b6616331aZD, v: ParseUint at base 16.
-/
import Derived.Test.Qxb6616331aGreatDoorZj
import Derived.Test.Qxb6616331aGreatDoorShelf
namespace Go.Proofs.Qxb6616331aGreatDoor
open Go.RowKit
set_option linter.unusedVariables false
set_option linter.unusedSimpArgs false
set_option linter.unnecessarySimpa false
set_option maxRecDepth 40000

theorem hid_of' {p : Prop} (h : p) : Hid p := h

/-- The value of a byte as a digit of base 16. -/
def digP (c : UInt8) : Option Nat :=
  if 48 ≤ c.toNat ∧ c.toNat ≤ 57 then some (c.toNat - 48)
  else if 97 ≤ (c ||| 32).toNat ∧ (c ||| 32).toNat ≤ 102 then some ((c ||| 32).toNat - 87) else none
/-- ParseUint's loop at base 16, 64 bits: the number, and the error's number (0: none). -/
def parseGo : Nat → Str → Nat × Nat
  | n, [] => (n, 0)
  | n, c :: cs => match digP c with
    | none => (0, 2)
    | some d => if n < 1152921504606846976 then parseGo (n * 16 + d) cs else (18446744073709551615, 1)
def parseP (s : Str) : Nat := if s = [] then 0 else (parseGo 0 s).1

theorem wrapU (x : Int) (h0 : 0 ≤ x) (h1 : x < 18446744073709551616) : IntKind.u64.wrap x = x := by
  have hs : IntKind.u64.signed = false := rfl
  have hb : IntKind.u64.bits = 64 := rfl
  simp [IntKind.wrap, hs, hb]
  omega

/-- The error that the number stands for. -/
def errV : Nat → Value
  | 0 => .nilIface
  | k => .iface 99 (.int .i64 k)

theorem lower_or : ∀ c : Fin 256, bits .or .u8 (c.val : Int) 32 = (((UInt8.ofNat c.val) ||| 32).toNat : Int) := by decide +kernel
theorem lower_or' (c : UInt8) : bits .or .u8 (c.toNat : Int) 32 = ((c ||| 32).toNat : Int) := by
  have := lower_or ⟨c.toNat, c.toNat_lt⟩
  simpa using this
theorem digP_ge (c : UInt8) (h : ¬ (48 ≤ c.toNat ∧ c.toNat ≤ 57)) (h2 : ¬ (97 ≤ (c ||| 32).toNat ∧ (c ||| 32).toNat ≤ 102)) : digP c = none := by rw [digP, if_neg h, if_neg h2]

theorem bytes79 (s : Str) (w : World) : ∃ cap W1, (convert 9 79 (sv s)).run Tryz.prog w = .ok (.slice (some ⟨w.heap.size, 0, none⟩) s.length cap) W1 ∧ (∀ i, i < s.length → W1.cell? ⟨w.heap.size, i, none⟩ = some (.int .u8 ((s.getD i 0).toNat : Int))) ∧ Kept w W1 := by
  have h := run_bytes_of_string (P := Tryz.prog) w 9 79 5 ⟨s.toArray⟩ Tryz.underlying9 Tryz.underlying77 Tryz.underlying5
  have hsz : (⟨s.toArray⟩ : ByteArray).size = s.length := by simp [ByteArray.size]
  rw [hsz] at h
  refine ⟨_, _, h, fun i hi => ?_, ?_⟩
  · have := World.cell?_alloc_mark w.drew (bytesRow ⟨s.toArray⟩ (grownCap w s.length 0 5)) 5 ((bytesRow ⟨s.toArray⟩ (grownCap w s.length 0 5)).size, (bytesRow ⟨s.toArray⟩ (grownCap w s.length 0 5)).size + 1) i
    refine this.trans ?_
    rw [bytesRow_at _ _ _ (by simpa using hi)]
    simp [hi]
  · exact (Kept.drew w).trans (Kept.alloc _ _)

theorem parse_step (s : Str) (k n : Nat) (hk : k < s.length) : parseGo n (s.drop k) = match digP (s.getD k 0) with
    | none => (0, 2)
    | some d => if n < 1152921504606846976 then parseGo (n * 16 + d) (s.drop (k + 1)) else (18446744073709551615, 1) := by
  have e : s.drop k = s.getD k 0 :: s.drop (k + 1) := by
    rw [List.drop_eq_getElem_cons hk]
    simp [hk]
  rw [e]
  rfl

set_option maxHeartbeats 3200000 in
theorem parse55 (s : Str) (w : World) (hs : s.length ≤ 1048576) (h0 : s ≠ []) :
    Calls Tryz.prog 55 #[sv s, .int .i64 16, .int .i64 64] w fun e w' => (e = .returned (.tuple #[.int .u64 ((parseGo 0 s).1 : Nat), errV (parseGo 0 s).2])) ∧ Kept w w' := by
  have he : (s == ([] : Str)) = false := by simpa using h0
  obtain ⟨R, hR⟩ : ∃ R, R = parseGo 0 s := ⟨_, rfl⟩
  rw [← hR]
  have HR := hid_of' hR
  clear hR
  have hw1 : IntKind.u64.wrap (IntKind.u64.wrap 18446744073709551616 - 1) = 18446744073709551615 := by decide
  obtain ⟨cap, W1, hcv, hcells, kW⟩ := bytes79 s w
  have HC := hid_of' hcells
  have KW := hid_of' kW
  obtain ⟨L, hL⟩ : ∃ L, L = s.length := ⟨_, rfl⟩
  rw [← hL] at hcv hs
  have HL := hid_of' hL
  clear hcells kW hL
  go_enter Tryz.func55, Tryz.ntmps55
  go_wp2
  go_loopw [12, 13, 101] (fun un v i wr => ∃ (k n : Nat), un = .bool false ∧ k ≤ L ∧ i = .int .i64 k ∧ v = .int .u64 n ∧ n < 18446744073709551616 ∧ Hid (parseGo n (s.drop k) = R) ∧ Hid (Kept W1 wr)) (fun _ _ i _ => L - (intOf i).toNat)
  case atStart => exact ⟨0, 0, rfl, by omega, rfl, rfl, by omega, HR.out.symm, Kept.refl _⟩
  case round =>
    obtain ⟨k, n, rfl, hk, rfl, rfl, hn, HP, KR⟩ := hrel
    by_cases hlt : k < L
    · have hlt' : k < s.length := by rw [← HL.out]; exact hlt
      have cx := KR.out.cell (HC.out k hlt')
      have ST := hid_of' (parse_step s k n hlt')
      obtain ⟨c, hc⟩ : ∃ c, c = s.getD k 0 := ⟨_, rfl⟩
      rw [← hc] at cx ST
      clear hc
      have hl : (k : Int) < (L : Int) := by omega
      have hlo := lower_or' c
      obtain ⟨cn, hcn⟩ : ∃ cn, cn = c.toNat := ⟨_, rfl⟩
      obtain ⟨ln, hln⟩ : ∃ ln, ln = (c ||| 32).toNat := ⟨_, rfl⟩
      have hc256 : cn < 256 := by rw [hcn]; exact c.toNat_lt
      have hl256 : ln < 256 := by rw [hln]; exact (c ||| 32).toNat_lt
      rw [← hcn] at cx hlo
      rw [← hln] at hlo
      have CN := hid_of' hcn
      have LN := hid_of' hln
      clear hcn hln
      by_cases hd : 48 ≤ cn ∧ cn ≤ 57
      · obtain ⟨D, hD⟩ : ∃ D, D = cn - 48 := ⟨_, rfl⟩
        have HD : Hid (digP c = some D) := hid_of' (by rw [digP, if_pos (by rw [← CN.out]; exact hd), hD, CN.out])
        have hd1 : (48 : Int) ≤ cn := by omega
        have hd2 : (cn : Int) ≤ 57 := by omega
        have h95 : ((cn : Int) == 95) = false := by simp; omega
        have hD16 : D < 16 := by omega
        have hDe : (cn : Int) - 48 = D := by omega
        have hD2 : ¬ (16 : Int) ≤ D := by omega
        clear hD
        by_cases hn60 : n < 1152921504606846976
        · have hn6 : ¬ (1152921504606846976 : Int) ≤ n := by omega
          have hx1 : IntKind.u64.wrap ((n : Int) * 16) = (n : Int) * 16 := wrapU _ (by omega) (by omega)
          have hx2 : IntKind.u64.wrap ((n : Int) * 16 + D) = (n : Int) * 16 + D := wrapU _ (by omega) (by omega)
          have hx3 : ¬ ((n : Int) * 16 + D < (n : Int) * 16) := by omega
          have hx4 : ¬ (18446744073709551615 < (n : Int) * 16 + D) := by omega
          go_wp2
          go_roundw
          case rel =>
            have h := ST.out
            rw [HD.out] at h
            simp only [if_pos hn60] at h
            have hO : Hid (parseGo (n * 16 + D) (s.drop (k + 1)) = R) := h.symm.trans HP.out
            first
              | exact ⟨k + 1, n * 16 + D, rfl, by omega, by go_num, by first | go_num | simp, by omega, hO, KR⟩
              | exact ⟨k + 1, n * 16 + D, by omega, by go_num, by first | go_num | simp, by omega, hO, KR⟩
              | exact ⟨k + 1, n * 16 + D, rfl, by omega, by go_num, by first | go_num | simp, by omega, hO⟩
              | exact ⟨k + 1, n * 16 + D, by omega, by go_num, by first | go_num | simp, by omega, hO⟩
          case measure => simp [intOf]; omega
        · have hn6 : (1152921504606846976 : Int) ≤ n := by omega
          have HF : Hid (R = (18446744073709551615, 1)) := hid_of' (by
            have h := ST.out
            rw [HD.out] at h
            simp only [if_neg hn60] at h
            exact HP.out.symm.trans h)
          go_wp2
          go_ret2
          rw [HF.out]
          exact ⟨rfl, KW.out.trans KR.out⟩
      · have h3 : cn < 48 ∨ (57 < cn ∧ cn ≠ 95) ∨ (57 < cn ∧ cn = 95) := by omega
        rcases h3 with h3 | h3 | h3
        · have g48 : decide ((48 : Int) ≤ cn) = false := by simp; omega
          have h95 : ((cn : Int) == 95) = false := by simp; omega
          have h4 : ln < 97 ∨ (97 ≤ ln ∧ ln ≤ 102) ∨ (102 < ln ∧ ln ≤ 122) ∨ 122 < ln := by omega
          rcases h4 with h4 | h4 | h4 | h4
          · have g97 : decide ((97 : Int) ≤ ln) = false := by simp; omega
            have HF : Hid (R = (0, 2)) := hid_of' (by
              have h := ST.out
              rw [digP_ge c (by rw [← CN.out]; exact hd) (by rw [← LN.out]; omega)] at h
              exact HP.out.symm.trans h)
            go_wp2_with (go_at_call 62; refine (Tryz.internal_strconv_lower (cn : Int) _).mono ?_; rintro e w2 ⟨rfl, rfl⟩; rw [hlo])
            go_ret2
            rw [HF.out]
            exact ⟨rfl, KW.out.trans KR.out⟩
          · have g97 : decide ((97 : Int) ≤ ln) = true := by simp; omega
            have g122 : decide ((ln : Int) ≤ 122) = true := by simp; omega
            obtain ⟨D, hD⟩ : ∃ D, D = ln - 87 := ⟨_, rfl⟩
            have HD : Hid (digP c = some D) := hid_of' (by rw [digP, if_neg (by rw [← CN.out]; exact hd), if_pos (by rw [← LN.out]; omega), hD, LN.out])
            have hD16 : D < 16 := by omega
            have HDe : Hid ((ln : Int) - 97 + 10 = D) := hid_of' (by omega)
            have hb1 : (97 : Int) ≤ ln := by omega
            have hb2 : (ln : Int) ≤ 102 := by omega
            have hD2 : ¬ (16 : Int) ≤ (ln : Int) - 97 + 10 := by omega
            clear hD
            go_upto_region 48 with (go_at_call 62; refine (Tryz.internal_strconv_lower (cn : Int) _).mono ?_; rintro e w2 ⟨rfl, rfl⟩; rw [hlo])
            rw [HDe.out]
            by_cases hn60 : n < 1152921504606846976
            · have hn6 : ¬ (1152921504606846976 : Int) ≤ n := by omega
              have hx1 : IntKind.u64.wrap ((n : Int) * 16) = (n : Int) * 16 := wrapU _ (by omega) (by omega)
              have hx2 : IntKind.u64.wrap ((n : Int) * 16 + D) = (n : Int) * 16 + D := wrapU _ (by omega) (by omega)
              have hx3 : ¬ ((n : Int) * 16 + D < (n : Int) * 16) := by omega
              have hx4 : ¬ (18446744073709551615 < (n : Int) * 16 + D) := by omega
              go_wp2
              go_roundw
              case rel =>
                have h := ST.out
                rw [HD.out] at h
                simp only [if_pos hn60] at h
                have hO : Hid (parseGo (n * 16 + D) (s.drop (k + 1)) = R) := h.symm.trans HP.out
                first
                  | exact ⟨k + 1, n * 16 + D, rfl, by omega, by go_num, by first | go_num | simp, by omega, hO, KR⟩
                  | exact ⟨k + 1, n * 16 + D, by omega, by go_num, by first | go_num | simp, by omega, hO, KR⟩
                  | exact ⟨k + 1, n * 16 + D, rfl, by omega, by go_num, by first | go_num | simp, by omega, hO⟩
                  | exact ⟨k + 1, n * 16 + D, by omega, by go_num, by first | go_num | simp, by omega, hO⟩
              case measure => simp [intOf]; omega
            · have hn6 : (1152921504606846976 : Int) ≤ n := by omega
              have HF : Hid (R = (18446744073709551615, 1)) := hid_of' (by
                have h := ST.out
                rw [HD.out] at h
                simp only [if_neg hn60] at h
                exact HP.out.symm.trans h)
              go_wp2
              go_ret2
              rw [HF.out]
              exact ⟨rfl, KW.out.trans KR.out⟩
          · have g97 : decide ((97 : Int) ≤ ln) = true := by simp; omega
            have g122 : decide ((ln : Int) ≤ 122) = true := by simp; omega
            have hb1 : (97 : Int) ≤ ln := by omega
            have hb2 : (ln : Int) ≤ 122 := by omega
            have hD2 : (16 : Int) ≤ (ln : Int) - 97 + 10 := by omega
            have HF : Hid (R = (0, 2)) := hid_of' (by
              have h := ST.out
              rw [digP_ge c (by rw [← CN.out]; exact hd) (by rw [← LN.out]; omega)] at h
              exact HP.out.symm.trans h)
            go_wp2_with (go_at_call 62; refine (Tryz.internal_strconv_lower (cn : Int) _).mono ?_; rintro e w2 ⟨rfl, rfl⟩; rw [hlo])
            go_ret2
            rw [HF.out]
            exact ⟨rfl, KW.out.trans KR.out⟩
          · have g97 : decide ((97 : Int) ≤ ln) = true := by simp; omega
            have g122 : decide ((ln : Int) ≤ 122) = false := by simp; omega
            have HF : Hid (R = (0, 2)) := hid_of' (by
              have h := ST.out
              rw [digP_ge c (by rw [← CN.out]; exact hd) (by rw [← LN.out]; omega)] at h
              exact HP.out.symm.trans h)
            go_wp2_with (go_at_call 62; refine (Tryz.internal_strconv_lower (cn : Int) _).mono ?_; rintro e w2 ⟨rfl, rfl⟩; rw [hlo])
            go_ret2
            rw [HF.out]
            exact ⟨rfl, KW.out.trans KR.out⟩
        · have g48 : decide ((48 : Int) ≤ cn) = true := by simp; omega
          have g57 : decide ((cn : Int) ≤ 57) = false := by simp; omega
          have h95 : ((cn : Int) == 95) = false := by simp; omega
          have h4 : ln < 97 ∨ (97 ≤ ln ∧ ln ≤ 102) ∨ (102 < ln ∧ ln ≤ 122) ∨ 122 < ln := by omega
          rcases h4 with h4 | h4 | h4 | h4
          · have g97 : decide ((97 : Int) ≤ ln) = false := by simp; omega
            have HF : Hid (R = (0, 2)) := hid_of' (by
              have h := ST.out
              rw [digP_ge c (by rw [← CN.out]; exact hd) (by rw [← LN.out]; omega)] at h
              exact HP.out.symm.trans h)
            go_wp2_with (go_at_call 62; refine (Tryz.internal_strconv_lower (cn : Int) _).mono ?_; rintro e w2 ⟨rfl, rfl⟩; rw [hlo])
            go_ret2
            rw [HF.out]
            exact ⟨rfl, KW.out.trans KR.out⟩
          · have g97 : decide ((97 : Int) ≤ ln) = true := by simp; omega
            have g122 : decide ((ln : Int) ≤ 122) = true := by simp; omega
            obtain ⟨D, hD⟩ : ∃ D, D = ln - 87 := ⟨_, rfl⟩
            have HD : Hid (digP c = some D) := hid_of' (by rw [digP, if_neg (by rw [← CN.out]; exact hd), if_pos (by rw [← LN.out]; omega), hD, LN.out])
            have hD16 : D < 16 := by omega
            have HDe : Hid ((ln : Int) - 97 + 10 = D) := hid_of' (by omega)
            have hb1 : (97 : Int) ≤ ln := by omega
            have hb2 : (ln : Int) ≤ 102 := by omega
            have hD2 : ¬ (16 : Int) ≤ (ln : Int) - 97 + 10 := by omega
            clear hD
            go_upto_region 48 with (go_at_call 62; refine (Tryz.internal_strconv_lower (cn : Int) _).mono ?_; rintro e w2 ⟨rfl, rfl⟩; rw [hlo])
            rw [HDe.out]
            by_cases hn60 : n < 1152921504606846976
            · have hn6 : ¬ (1152921504606846976 : Int) ≤ n := by omega
              have hx1 : IntKind.u64.wrap ((n : Int) * 16) = (n : Int) * 16 := wrapU _ (by omega) (by omega)
              have hx2 : IntKind.u64.wrap ((n : Int) * 16 + D) = (n : Int) * 16 + D := wrapU _ (by omega) (by omega)
              have hx3 : ¬ ((n : Int) * 16 + D < (n : Int) * 16) := by omega
              have hx4 : ¬ (18446744073709551615 < (n : Int) * 16 + D) := by omega
              go_wp2
              go_roundw
              case rel =>
                have h := ST.out
                rw [HD.out] at h
                simp only [if_pos hn60] at h
                have hO : Hid (parseGo (n * 16 + D) (s.drop (k + 1)) = R) := h.symm.trans HP.out
                first
                  | exact ⟨k + 1, n * 16 + D, rfl, by omega, by go_num, by first | go_num | simp, by omega, hO, KR⟩
                  | exact ⟨k + 1, n * 16 + D, by omega, by go_num, by first | go_num | simp, by omega, hO, KR⟩
                  | exact ⟨k + 1, n * 16 + D, rfl, by omega, by go_num, by first | go_num | simp, by omega, hO⟩
                  | exact ⟨k + 1, n * 16 + D, by omega, by go_num, by first | go_num | simp, by omega, hO⟩
              case measure => simp [intOf]; omega
            · have hn6 : (1152921504606846976 : Int) ≤ n := by omega
              have HF : Hid (R = (18446744073709551615, 1)) := hid_of' (by
                have h := ST.out
                rw [HD.out] at h
                simp only [if_neg hn60] at h
                exact HP.out.symm.trans h)
              go_wp2
              go_ret2
              rw [HF.out]
              exact ⟨rfl, KW.out.trans KR.out⟩
          · have g97 : decide ((97 : Int) ≤ ln) = true := by simp; omega
            have g122 : decide ((ln : Int) ≤ 122) = true := by simp; omega
            have hb1 : (97 : Int) ≤ ln := by omega
            have hb2 : (ln : Int) ≤ 122 := by omega
            have hD2 : (16 : Int) ≤ (ln : Int) - 97 + 10 := by omega
            have HF : Hid (R = (0, 2)) := hid_of' (by
              have h := ST.out
              rw [digP_ge c (by rw [← CN.out]; exact hd) (by rw [← LN.out]; omega)] at h
              exact HP.out.symm.trans h)
            go_wp2_with (go_at_call 62; refine (Tryz.internal_strconv_lower (cn : Int) _).mono ?_; rintro e w2 ⟨rfl, rfl⟩; rw [hlo])
            go_ret2
            rw [HF.out]
            exact ⟨rfl, KW.out.trans KR.out⟩
          · have g97 : decide ((97 : Int) ≤ ln) = true := by simp; omega
            have g122 : decide ((ln : Int) ≤ 122) = false := by simp; omega
            have HF : Hid (R = (0, 2)) := hid_of' (by
              have h := ST.out
              rw [digP_ge c (by rw [← CN.out]; exact hd) (by rw [← LN.out]; omega)] at h
              exact HP.out.symm.trans h)
            go_wp2_with (go_at_call 62; refine (Tryz.internal_strconv_lower (cn : Int) _).mono ?_; rintro e w2 ⟨rfl, rfl⟩; rw [hlo])
            go_ret2
            rw [HF.out]
            exact ⟨rfl, KW.out.trans KR.out⟩
        · obtain ⟨h3a, h3b⟩ := h3
          have hlo2 : bits .or .u8 (95 : Int) 32 = 127 := by decide
          have hl127 : ln = 127 := by
            have h := hlo
            rw [h3b] at h
            have h2 : (ln : Int) = 127 := by rw [← h]; decide
            omega
          have HF : Hid (R = (0, 2)) := hid_of' (by
            have h := ST.out
            rw [digP_ge c (by rw [← CN.out]; exact hd) (by rw [← LN.out]; omega)] at h
            exact HP.out.symm.trans h)
          have CX : Hid (wr.cell? ⟨w.heap.size, k, none⟩ = some (.int .u8 95)) := hid_of' (by rw [h3b] at cx; exact cx)
          clear hd hlo hl127 cx
          have cx := CX.out
          clear h3b CN
          go_wp2_with (go_at_call 62; refine (Tryz.internal_strconv_lower 95 _).mono ?_; rintro e w2 ⟨rfl, rfl⟩; rw [hlo2])
          go_ret2
          rw [HF.out]
          exact ⟨rfl, KW.out.trans KR.out⟩
    · have hl : ¬ (k : Int) < (L : Int) := by omega
      have hf : parseGo n (s.drop k) = (n, 0) := by rw [List.drop_of_length_le (by rw [← HL.out]; omega)]; rfl
      have HF := hid_of' (hf.symm.trans HP.out)
      clear hf
      go_wp2
      go_ret2
      rw [← HF.out]
      exact ⟨rfl, KW.out.trans KR.out⟩

end Go.Proofs.Qxb6616331aGreatDoor
