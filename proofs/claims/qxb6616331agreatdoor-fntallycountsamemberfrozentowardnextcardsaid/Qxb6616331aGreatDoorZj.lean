/-
  THE WALKS of seat b6616331aZD, j: zzHex.
-/
import Derived.Test.Qxb6616331aGreatDoorZ4
import Derived.Laws.IdiomStrings
namespace Go.Proofs.Qxb6616331aGreatDoor
open Go.RowKit
set_option linter.unusedVariables false
set_option linter.unusedSimpArgs false
set_option maxRecDepth 40000

/-- A digit of base 16. -/
def hexD (d : Nat) : UInt8 := if d < 10 then UInt8.ofNat (48 + d) else UInt8.ofNat (87 + d)
/-- The k low digits of X, the highest first. -/
def hexK (X : Nat) : Nat → Str
  | 0 => []
  | k + 1 => hexD (X / 16 ^ k % 16) :: hexK X k
theorem hexK_length (X : Nat) : ∀ k, (hexK X k).length = k
  | 0 => rfl
  | k + 1 => by simp [hexK, hexK_length X k]
theorem hexK_get (X : Nat) : ∀ k i (h : i < (hexK X k).length), (hexK X k)[i] = hexD (X / 16 ^ (k - 1 - i) % 16)
  | 0, i, h => by simp [hexK] at h
  | k + 1, 0, h => by simp [hexK]
  | k + 1, i + 1, h => by
    have h' : i < (hexK X k).length := by simpa [hexK] using h
    have e := hexK_get X k i h'
    simp only [hexK, List.getElem_cons_succ, e]
    rw [show k + 1 - 1 - (i + 1) = k - 1 - i by omega]

/-- The row of 16 bytes at block b: its places from m on bear the digits. -/
structure HexAt (w : World) (b X m : Nat) : Prop where
  any : ∀ j, j < 16 → ∃ v, w.cell? ⟨b, j, none⟩ = some (.int .u8 v)
  free : ∀ j, j < 16 → w.frozen? ⟨b, j, none⟩ = false
  dig : ∀ j, m ≤ j → j < 16 → w.cell? ⟨b, j, none⟩ = some (.int .u8 ((hexD (X / 16 ^ (15 - j) % 16)).toNat : Int))

theorem HexAt.step {w : World} {b X m : Nat} (h : HexAt w b X (m + 1)) (hm : m < 16) (v : Int) (hv : v = ((hexD (X / 16 ^ (15 - m) % 16)).toNat : Int)) : HexAt (w.setCell ⟨b, m, none⟩ (.int .u8 v)) b X m := by
  refine ⟨fun j hj => ?_, fun j hj => ?_, fun j h1 h2 => ?_⟩
  · by_cases e : j = m
    · subst e; exact ⟨_, World.cell?_setCell_same' _ _ _ (by obtain ⟨v, hv⟩ := h.any j hj; rw [hv]; rfl)⟩
    · rw [World.cell?_setCell_other w _ _ _ (fun e' => by cases e'; exact e rfl)]; exact h.any j hj
  · rw [World.frozen?_setCell]; exact h.free j hj
  · by_cases e : j = m
    · subst e; rw [World.cell?_setCell_same' _ _ _ (by obtain ⟨v, hv⟩ := h.any j h2; rw [hv]; rfl), hv]
    · rw [World.cell?_setCell_other w _ _ _ (fun e' => by cases e'; exact e rfl)]; exact h.dig j (by omega) h2

theorem rep16 (j : Nat) (h : j < 16) : (#[Value.int IntKind.u8 0, Value.int IntKind.u8 0, Value.int IntKind.u8 0, Value.int IntKind.u8 0, Value.int IntKind.u8 0, Value.int IntKind.u8 0, Value.int IntKind.u8 0, Value.int IntKind.u8 0, Value.int IntKind.u8 0, Value.int IntKind.u8 0, Value.int IntKind.u8 0, Value.int IntKind.u8 0, Value.int IntKind.u8 0, Value.int IntKind.u8 0, Value.int IntKind.u8 0, Value.int IntKind.u8 0] : Array Value)[j]? = some (.int .u8 0) := by
  have e : (#[Value.int IntKind.u8 0, Value.int IntKind.u8 0, Value.int IntKind.u8 0, Value.int IntKind.u8 0, Value.int IntKind.u8 0, Value.int IntKind.u8 0, Value.int IntKind.u8 0, Value.int IntKind.u8 0, Value.int IntKind.u8 0, Value.int IntKind.u8 0, Value.int IntKind.u8 0, Value.int IntKind.u8 0, Value.int IntKind.u8 0, Value.int IntKind.u8 0, Value.int IntKind.u8 0, Value.int IntKind.u8 0] : Array Value) = (List.replicate 16 (Value.int IntKind.u8 0)).toArray := rfl
  rw [e]
  simp only [List.getElem?_toArray, List.getElem?_replicate, if_pos h]
theorem HexAt.new (w : World) (X : Nat) : HexAt (w.alloc (.cells #[Value.int IntKind.u8 0, Value.int IntKind.u8 0, Value.int IntKind.u8 0, Value.int IntKind.u8 0, Value.int IntKind.u8 0, Value.int IntKind.u8 0, Value.int IntKind.u8 0, Value.int IntKind.u8 0, Value.int IntKind.u8 0, Value.int IntKind.u8 0, Value.int IntKind.u8 0, Value.int IntKind.u8 0, Value.int IntKind.u8 0, Value.int IntKind.u8 0, Value.int IntKind.u8 0, Value.int IntKind.u8 0] 77)) w.heap.size X 16 := by
  refine ⟨fun j hj => ⟨0, ?_⟩, fun j hj => ?_, fun j h1 h2 => by omega⟩
  · rw [World.cell?_alloc_mark, rep16 j hj]
  · rw [World.frozen?_alloc_mark]; simp

theorem hex_and (x : Nat) (hx : x < 18446744073709551616) : bits .and .u64 (x : Int) 15 = ((x % 16 : Nat) : Int) := by
  have hb : IntKind.u64.bits = 64 := rfl
  simp only [bits, hb, BitVec.toNat_and, BitVec.ofInt_natCast]
  rw [show (15 : Int) = ((15 : Nat) : Int) from rfl, BitVec.ofInt_natCast]
  simp only [BitVec.toNat_ofNat]
  rw [show (2 : Nat) ^ IntKind.u64.bits = 18446744073709551616 from rfl, Nat.mod_eq_of_lt hx, Nat.mod_eq_of_lt (show 15 < 18446744073709551616 by decide), nat_mask4]
  have : x % 16 < 16 := Nat.mod_lt _ (by decide)
  simp [IntKind.wrap, hb]
  omega
theorem hex_lo : ∀ d : Fin 16, d.val < 10 → 48 + (d.val : Int) = ((hexD d.val).toNat : Int) := by decide
theorem hex_hi : ∀ d : Fin 16, ¬ d.val < 10 → 97 + (d.val : Int) - 10 = ((hexD d.val).toNat : Int) := by decide
theorem Tryz.underlying77 : Tryz.prog.underlying 79 = some (.slice 5) := by kernel_rfl

set_option maxHeartbeats 1600000 in
theorem hex31 (X : Nat) (w : World) (hX : X < 18446744073709551616) :
    Calls Tryz.prog 31 #[.int .u64 X] w fun e w' => (∃ k, 1 ≤ k ∧ k ≤ 16 ∧ X < 16 ^ k ∧ e = .returned (sv (hexK X k))) ∧ Kept w w' := by
  by_cases h0 : X = 0
  · subst h0
    go_enter Tryz.func31, Tryz.ntmps31
    go_wp2
    go_ret
    exact ⟨⟨1, by omega, by omega, by decide, rfl⟩, Kept.refl _⟩
  · have hz : ((X : Int) == 0) = false := by simp; omega
    go_enter Tryz.func31, Tryz.ntmps31
    go_wp2
    go_loopw [0, 4] (fun x i wr => ∃ m : Nat, m ≤ 16 ∧ i = .int .i64 m ∧ x = .int .u64 ((X / 16 ^ (16 - m) : Nat) : Int) ∧ (m = 16 → 0 < X) ∧ HexAt wr w.heap.size X m ∧ Kept w wr) (fun _ i _ => (intOf i).toNat)
    case atStart => exact ⟨16, by omega, rfl, by simp, by omega, HexAt.new w X, Kept.alloc _ _⟩
    case round =>
      obtain ⟨m, hm, rfl, rfl, hpos, hH, kr⟩ := hrel
      obtain ⟨x, hx⟩ : ∃ x, x = X / 16 ^ (16 - m) := ⟨_, rfl⟩
      rw [← hx]
      have HX : Hid (x = X / 16 ^ (16 - m)) := hx
      have HH : Hid (HexAt wr w.heap.size X m) := hH
      by_cases hx0 : x = 0
      · have hlt : X < 16 ^ (16 - m) := by
          rcases Nat.div_eq_zero_iff.1 (hx.symm.trans hx0) with h | h
          · exact absurd h (by have := Nat.pow_pos (n := 16 - m) (show 0 < 16 by decide); omega)
          · exact h
        have hm16 : m < 16 := by
          rcases Nat.lt_or_ge m 16 with h | h
          · exact h
          · have e : m = 16 := by omega
            rw [e] at hlt
            simp at hlt
            omega
        have hcv : (convert 79 9 (.slice (some ⟨w.heap.size, m, none⟩) (16 - m) (16 - m))).run Tryz.prog wr = .ok (sv (hexK X (16 - m))) wr := by
          have := run_convert_bytes_back (P := Tryz.prog) wr 79 9 5 ⟨w.heap.size, m, none⟩ (16 - m) (hexK X (16 - m)) Tryz.underlying77 Tryz.underlying5 Tryz.underlying9 (fun j hj => by
            have hj' : j < 16 - m := by simpa [hexK_length] using hj
            rw [Addr.add_lit, hH.dig (m + j) (by omega) (by omega), hexK_get X _ j hj]
            rw [show 15 - (m + j) = 16 - m - 1 - j by omega])
          rw [hexK_length] at this
          exact this
        have HL : Hid (X < 16 ^ (16 - m)) := hlt
        clear hlt
        subst hx0
        clear hx hH hpos
        have h1 : (m : Int) ≤ 16 := by omega
        have h2 : (0 : Int) ≤ m := by omega
        go_wp2
        go_ret
        exact ⟨⟨16 - m, by omega, by omega, HL.out, rfl⟩, kr⟩
      · have hm0 : 0 < m := by
          rcases Nat.eq_zero_or_pos m with h | h
          · subst h
            rw [Nat.div_eq_of_lt (by simpa using hX)] at hx
            exact absurd hx hx0
          · exact h
        obtain ⟨m, rfl⟩ : ∃ m', m = m' + 1 := ⟨m - 1, by omega⟩
        obtain ⟨v0, c0⟩ := hH.any m (by omega)
        have f0 := hH.free m (by omega)
        have hx' := hx
        clear hx hH hpos
        have hxp : (0 : Int) < x := by omega
        have ha := hex_and x (by rw [hx']; exact Nat.lt_of_le_of_lt (Nat.div_le_self _ _) hX)
        clear hx'
        have hm16 : (m : Int) < 16 := by omega
        have e1 : x / 16 = X / 16 ^ (16 - m) := by
          rw [HX.out, Nat.div_div_eq_div_mul, ← Nat.pow_succ]
          congr 2; omega
        have e2 : x % 16 = X / 16 ^ (15 - m) % 16 := by rw [HX.out]; congr 3; omega
        have E1 : Hid (x / 16 = X / 16 ^ (16 - m)) := e1
        have E2 : Hid (x % 16 = X / 16 ^ (15 - m) % 16) := e2
        clear e1 e2
        obtain ⟨d, hd⟩ : ∃ d, d = x % 16 := ⟨_, rfl⟩
        have hd16 : d < 16 := by omega
        rw [← hd] at ha
        have D : Hid (d = x % 16) := hd
        clear hd
        by_cases hd10 : d < 10
        · have hd' : (d : Int) < 10 := by omega
          go_wp2
          go_roundw
          case rel =>
            refine ⟨m, by omega, by go_num, ?_, fun h => by omega, ?_, ?_⟩
            · have := E1.out
              rw [← this]; simp
            · refine HH.out.step (by omega) _ ?_
              rw [← E2.out, ← D.out]
              exact hex_lo ⟨d, hd16⟩ hd10
            · exact kr.setNew _ (Nat.le_refl _) _
          case measure => simp [intOf]
        · have hd' : ¬ (d : Int) < 10 := by omega
          go_wp2
          go_roundw
          case rel =>
            refine ⟨m, by omega, by go_num, ?_, fun h => by omega, ?_, ?_⟩
            · have := E1.out
              rw [← this]; simp
            · refine HH.out.step (by omega) _ ?_
              rw [← E2.out, ← D.out]
              exact hex_hi ⟨d, hd16⟩ hd10
            · exact kr.setNew _ (Nat.le_refl _) _
          case measure => simp [intOf]

end Go.Proofs.Qxb6616331aGreatDoor
