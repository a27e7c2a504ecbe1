/-
  THE WALKS of seat b6616331aZD, 3: zzAscending, zzPlainChange.
-/
import Derived.Test.Qxb6616331aGreatDoorZ2
namespace Go.Proofs.Qxb6616331aGreatDoor
open Go.RowKit
set_option linter.unusedVariables false
set_option linter.unusedSimpArgs false

/-- A bool is returned, and P is said of it. -/
def RetB (e : Ending) (P : Bool → Prop) : Prop := ∃ b, e = .returned (.bool b) ∧ P b

/-- The list ascends, none twice. -/
def Asc (xs : List Str) : Prop := ∀ i, i + 1 < xs.length → Op.bytesLess (xs.getD i []) (xs.getD (i + 1) []) = true

set_option maxHeartbeats 800000 in
theorem ascending7 (a : Option Addr) (n c : Nat) (xs : List Str) (w : World) (hn : n ≤ 1048576) (hL : IsL w a n xs) :
    Calls Tryz.prog 7 #[.slice a n c] w fun e w' => RetB e (fun b => b = true → Asc xs) ∧ Kept w w' := by
  have hlen := hL.len
  go_enter Tryz.func7, Tryz.ntmps7
  go_wp2
  go_loopw [3] (fun i wr => ∃ (k : Nat), 1 ≤ k ∧ k ≤ n + 1 ∧ i = .int .i64 k ∧ (∀ i, i + 1 < k → i + 1 < n → Op.bytesLess (xs.getD i []) (xs.getD (i + 1) []) = true) ∧ Kept w wr) (fun i _ => n + 1 - (intOf i).toNat)
  case atStart => exact ⟨1, by omega, by omega, rfl, fun i h => by omega, Kept.refl _⟩
  case round =>
    obtain ⟨k, hk1, hk, rfl, hup, kr⟩ := hrel
    by_cases hlt : k < n
    · obtain ⟨b, off, rfl, hc⟩ := hL.row (by omega)
      obtain ⟨j, rfl⟩ : ∃ j, k = j + 1 := ⟨k - 1, by omega⟩
      have c0 := kr.cell (hc j (by omega))
      have c1 := kr.cell (hc (j + 1) (by omega))
      have hl : ((j : Int) + 1) < (n : Int) := by omega
      have hl0 : (j : Int) < (n : Int) := by omega
      have HU : Hid (∀ i, i + 1 < j + 1 → i + 1 < n → Op.bytesLess (xs.getD i []) (xs.getD (i + 1) []) = true) := hup
      clear hc hL hup
      obtain ⟨x, hx⟩ : ∃ x, x = xs.getD j [] := ⟨_, rfl⟩
      obtain ⟨y, hy⟩ : ∃ y, y = xs.getD (j + 1) [] := ⟨_, rfl⟩
      rw [← hx] at c0
      rw [← hy] at c1
      have HX : Hid (x = xs.getD j []) := hx
      have HY : Hid (y = xs.getD (j + 1) []) := hy
      clear hx hy hlen
      cases hb : Op.bytesLess x y
      · go_wp2
        go_region
        go_wp2
        go_ret
        exact ⟨⟨_, rfl, fun h => by cases h⟩, kr.trans (Kept.drew _)⟩
      · go_wp2
        go_region
        go_wp2
        go_roundw
        case rel =>
          exact ⟨j + 2, by omega, by omega, by go_num, fun i h1 h2 => by
            by_cases e : i + 1 < j + 1
            · exact HU.out i e h2
            · obtain rfl : i = j := by omega
              rw [← HX.out, ← HY.out]; exact hb, kr.trans (Kept.drew _)⟩
        case measure => simp [intOf]; omega
    · have hl : ¬ (k : Int) < (n : Int) := by omega
      go_wp2
      go_ret
      exact ⟨⟨_, rfl, fun _ i h => hup i (by omega) (by omega)⟩, kr⟩

/-- The first byte of a change is none of the three marks. -/
def Plain (s : Str) : Prop := ∀ c t, s = c :: t → c ≠ 64 ∧ c ≠ 61 ∧ c ≠ 126

set_option maxHeartbeats 800000 in
theorem plain8 (s : Str) (w : World) (hs : s.length ≤ 1048576) :
    Calls Tryz.prog 8 #[sv s] w fun e w' => RetB e (fun b => b = true → Plain s) ∧ w' = w := by
  cases s with
  | nil =>
    go_enter Tryz.func8, Tryz.ntmps8
    go_wp2
    go_ret
    exact ⟨⟨_, rfl, fun _ c t h => by cases h⟩, rfl⟩
  | cons c t =>
    go_enter Tryz.func8, Tryz.ntmps8
    go_wp2
    all_goals go_ret
    all_goals refine ⟨⟨_, rfl, fun h => ?_⟩, rfl⟩
    all_goals have e0 : (({ data := (c :: t).toArray } : ByteArray)[0]'(Nat.succ_pos _)) = c := rfl
    all_goals first
      | (exfalso; simp at h; omega)
      | (simp [e0] at h
         intro c' t' e
         cases e
         obtain h | ⟨⟨h1, h2⟩, h3⟩ := h
         · exfalso; omega
         · exact ⟨fun hc => h1 (by rw [hc]; rfl), fun hc => h2 (by rw [hc]; rfl), fun hc => h3 (by rw [hc]; rfl)⟩)

end Go.Proofs.Qxb6616331aGreatDoor
