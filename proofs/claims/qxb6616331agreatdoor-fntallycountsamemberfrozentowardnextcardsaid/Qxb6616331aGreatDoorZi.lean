/-
  THE WALKS of seat b6616331aZD, i: zzInsert.
-/
import Derived.Test.Qxb6616331aGreatDoorZg
import Derived.Test.Qxb6616331aGreatDoorZh
namespace Go.Proofs.Qxb6616331aGreatDoor
open Go.RowKit
set_option linter.unusedVariables false
set_option linter.unusedSimpArgs false
set_option maxRecDepth 40000

theorem take_snoc (xs : List Str) (k : Nat) (h : k < xs.length) : xs.take k ++ [xs.getD k []] = xs.take (k + 1) := by
  rw [List.take_add_one, List.getD_eq_getElem?_getD, List.getElem?_eq_getElem h]
  rfl

/-- zzInsert's way: what lies ahead of e. -/
theorem ins_split (e : Str) : ∀ (xs : List Str) (k : Nat), k ≤ xs.length → (∀ i, i < k → xs.getD i [] < e) → (k < xs.length → ¬ xs.getD k [] < e) →
    ins e xs = xs.take k ++ (if k < xs.length ∧ xs.getD k [] = e then [] else [e]) ++ xs.drop k
  | [], k, hk, _, _ => by
    have : k = 0 := by simpa using hk
    subst this; simp [ins]
  | x :: xs, 0, _, _, h => by
    have h0 := h (by simp)
    simp at h0
    unfold ins
    rw [if_neg (by simpa using h0)]
    by_cases hx : x = e
    · simp [hx]
    · simp [hx]
  | x :: xs, k + 1, hk, h1, h2 => by
    have h0 := h1 0 (by omega)
    simp at h0
    unfold ins
    rw [if_pos h0, ins_split e xs k (by simpa using hk) (fun i hi => by simpa using h1 (i + 1) (by omega)) (fun hl => by simpa using h2 (by simpa using hl))]
    simp

theorem ownS_made (w : World) (n : Nat) (hn : n ≤ 4398046511104) : OwnS (w.alloc (.cells (madeCells #[sv []] n) 9)) w.heap.size (.slice (some ⟨w.heap.size, 0, none⟩) 0 n) [] :=
  ⟨rfl, .inr ⟨w.heap.size, n, _, rfl, Nat.le_refl _, heap_alloc_new w _, Nat.zero_le _, by unfold maxLen; omega, by simp [madeCells], by simp⟩⟩

end Go.Proofs.Qxb6616331aGreatDoor
