/-
  THE PLAIN LAWS of seat b6616331aZD, h: sets of strings as ascending lists.
-/
import Derived.Test.Qxb6616331aGreatDoorZ3
import Derived.Sort.Walk0
import Derived.Lib.SlicesCompact
namespace Go.Proofs.Qxb6616331aGreatDoor
open Go.RowKit
set_option linter.unusedVariables false
set_option linter.unusedSimpArgs false

theorem lt_tri {x y : Str} (h1 : ¬ x < y) (h2 : ¬ y < x) : x = y := List.le_antisymm (List.not_lt.1 h2) (List.not_lt.1 h1)
theorem lt_of_le_ne {x y : Str} (h : x ≤ y) (hne : x ≠ y) : x < y := by
  by_cases h1 : x < y
  · exact h1
  · exact absurd (lt_tri h1 (List.not_lt.2 h)) hne

/-- e put in its place, once. -/
def ins (e : Str) : List Str → List Str
  | [] => [e]
  | x :: xs => if x < e then x :: ins e xs else if x = e then x :: xs else e :: x :: xs

theorem mem_ins (e z : Str) : ∀ xs : List Str, z ∈ ins e xs ↔ z = e ∨ z ∈ xs
  | [] => by simp [ins]
  | x :: xs => by
    unfold ins
    split
    · simp [mem_ins e z xs]; constructor
      · rintro (h | h | h) <;> simp [h]
      · rintro (h | h | h) <;> simp [h]
    · split
      · rename_i h; subst h; simp
      · simp

abbrev Up (xs : List Str) : Prop := xs.Pairwise (· < ·)

theorem ins_up (e : Str) : ∀ xs : List Str, Up xs → Up (ins e xs)
  | [], _ => by simp [ins, Up]
  | x :: xs, h => by
    obtain ⟨h1, h2⟩ := List.pairwise_cons.1 h
    unfold ins
    split
    · rename_i hlt
      refine List.pairwise_cons.2 ⟨fun z hz => ?_, ins_up e xs h2⟩
      rcases (mem_ins e z xs).1 hz with rfl | hz
      · exact hlt
      · exact h1 z hz
    · rename_i hlt
      split
      · exact h
      · rename_i hne
        have hex : e < x := by
          by_cases h' : e < x
          · exact h'
          · exact absurd (lt_tri hlt h') hne
        refine List.pairwise_cons.2 ⟨fun z hz => ?_, h⟩
        rcases List.mem_cons.1 hz with rfl | hz
        · exact hex
        · exact List.lt_trans hex (h1 z hz)

/-- The set of the elements of a list, ascending. -/
def setP : List Str → List Str
  | [] => []
  | x :: xs => ins x (setP xs)
theorem setP_up : ∀ xs, Up (setP xs)
  | [] => List.Pairwise.nil
  | x :: xs => ins_up x _ (setP_up xs)
theorem mem_setP (z : Str) : ∀ xs, z ∈ setP xs ↔ z ∈ xs
  | [] => by simp [setP]
  | x :: xs => by simp [setP, mem_ins, mem_setP z xs]

theorem up_uniq : ∀ {xs ys : List Str}, Up xs → Up ys → (∀ z, z ∈ xs ↔ z ∈ ys) → xs = ys
  | [], [], _, _, _ => rfl
  | [], y :: ys, _, _, h => by have := (h y).2 (by simp); simp at this
  | x :: xs, [], _, _, h => by have := (h x).1 (by simp); simp at this
  | x :: xs, y :: ys, h1, h2, h => by
    obtain ⟨a1, a2⟩ := List.pairwise_cons.1 h1
    obtain ⟨b1, b2⟩ := List.pairwise_cons.1 h2
    have hxy : x = y := by
      rcases List.mem_cons.1 ((h x).1 (by simp)) with e | hx
      · exact e
      · rcases List.mem_cons.1 ((h y).2 (by simp)) with e | hy
        · exact e.symm
        · exact absurd (List.lt_trans (a1 y hy) (b1 x hx)) (List.lt_irrefl x)
    subst hxy
    congr 1
    refine up_uniq a2 b2 fun z => ?_
    constructor
    · intro hz
      rcases List.mem_cons.1 ((h z).1 (List.mem_cons_of_mem _ hz)) with rfl | h'
      · exact absurd (a1 z hz) (List.lt_irrefl z)
      · exact h'
    · intro hz
      rcases List.mem_cons.1 ((h z).2 (List.mem_cons_of_mem _ hz)) with rfl | h'
      · exact absurd (b1 z hz) (List.lt_irrefl z)
      · exact h'

theorem setP_of_up {xs : List Str} (h : Up xs) : setP xs = xs := up_uniq (setP_up xs) h (fun z => mem_setP z xs)
theorem setP_snoc (xs : List Str) (m : Str) : setP (xs ++ [m]) = ins m (setP xs) :=
  up_uniq (setP_up _) (ins_up _ _ (setP_up _)) (fun z => by simp [mem_setP, mem_ins, or_comm])
theorem setP_eq {xs ys : List Str} (h : Up ys) (hm : ∀ z, z ∈ ys ↔ z ∈ xs) : ys = setP xs := up_uniq h (setP_up _) (fun z => (hm z).trans (mem_setP z xs).symm)

theorem length_ins_le (e : Str) : ∀ xs : List Str, (ins e xs).length ≤ xs.length + 1
  | [] => by simp [ins]
  | x :: xs => by
    unfold ins
    have := length_ins_le e xs
    split
    · simp; omega
    · split <;> simp
theorem length_setP_le : ∀ xs : List Str, (setP xs).length ≤ xs.length
  | [] => by simp [setP]
  | x :: xs => by
    have h1 := length_ins_le x (setP xs)
    have h2 := length_setP_le xs
    simp [setP]; omega

theorem asc_up {xs : List Str} (h : Asc xs) : Up xs := by
  have key : ∀ n i j : Nat, j = i + n + 1 → j < xs.length → xs.getD i [] < xs.getD j [] := by
    intro n
    induction n with
    | zero =>
      intro i j hj hl
      subst hj
      have := h i hl
      rw [Go.Proofs.bytesLess_eq] at this
      simpa using this
    | succ n ih =>
      intro i j hj hl
      have h1 := ih i (j - 1) (by omega) (by omega)
      have h2 := h (j - 1) (by omega)
      rw [Go.Proofs.bytesLess_eq, show j - 1 + 1 = j by omega] at h2
      exact List.lt_trans h1 (by simpa using h2)
  refine List.pairwise_iff_getElem.2 fun i j hi hj hij => ?_
  have := key (j - i - 1) i j (by omega) hj
  simpa [hi, hj] using this

theorem compact_set (d : Array Str) (hs : ∀ i j, i ≤ j → j < d.size → d[i]! ≤ d[j]!) : ∀ m, m ≤ d.size →
    Up (Lib.compactUpTo d m) ∧ ∀ z, z ∈ Lib.compactUpTo d m ↔ ∃ j, j < m ∧ d[j]! = z := by
  intro m
  induction m with
  | zero => intro _; simp [Lib.compactUpTo]
  | succ m ih =>
    intro hm
    obtain ⟨h1, h2⟩ := ih (by omega)
    rw [Lib.compactUpTo_succ]
    by_cases hk : Lib.keeps d m = true
    · rw [if_pos hk]
      refine ⟨List.pairwise_append.2 ⟨h1, List.pairwise_singleton _ _, fun a ha b hb => ?_⟩, fun z => ?_⟩
      · obtain ⟨j, hj, rfl⟩ := (h2 a).1 ha
        simp at hb
        subst hb
        have hm0 : m ≠ 0 := by omega
        have hne : d[m]! ≠ d[m - 1]! := by simpa [Lib.keeps, hm0] using hk
        have hle := hs j (m - 1) (by omega) (by omega)
        have hlt := lt_of_le_ne (hs (m - 1) m (by omega) (by omega)) (fun e => hne e.symm)
        by_cases he : d[j]! = d[m - 1]!
        · rw [he]; exact hlt
        · exact List.lt_trans (lt_of_le_ne hle he) hlt
      · rw [List.mem_append, h2]
        constructor
        · rintro (⟨j, hj, e⟩ | h)
          · exact ⟨j, by omega, e⟩
          · simp at h; exact ⟨m, by omega, h.symm⟩
        · rintro ⟨j, hj, e⟩
          by_cases hjm : j = m
          · subst hjm; right; simp [e]
          · left; exact ⟨j, by omega, e⟩
    · rw [if_neg hk, List.append_nil]
      refine ⟨h1, fun z => (h2 z).trans ?_⟩
      have hm0 : m ≠ 0 ∧ d[m]! = d[m - 1]! := by simpa [Lib.keeps] using hk
      constructor
      · rintro ⟨j, hj, e⟩
        exact ⟨j, by omega, e⟩
      · rintro ⟨j, hj, e⟩
        by_cases hjm : j = m
        · subst hjm; exact ⟨j - 1, by omega, by rw [← hm0.2, e]⟩
        · exact ⟨j, by omega, e⟩

theorem compact_sorted (zs : List Str) : Lib.compact (zs.mergeSort fun x y => decide (x ≤ y)) = setP zs := by
  obtain ⟨ys, hys⟩ : ∃ ys, ys = zs.mergeSort fun x y => decide (x ≤ y) := ⟨_, rfl⟩
  have hp : ys.Perm zs := by rw [hys]; exact List.mergeSort_perm _ _
  have hsrt : ys.Pairwise (fun x y => decide (x ≤ y) = true) := by
    rw [hys]
    refine List.pairwise_mergeSort (fun a b c h1 h2 => ?_) (fun a b => ?_) zs
    · simp at h1 h2 ⊢; exact List.le_trans h1 h2
    · simp; exact List.le_total a b
  rw [← hys]
  have hs : ∀ i j, i ≤ j → j < ys.toArray.size → ys.toArray[i]! ≤ ys.toArray[j]! := by
    intro i j hij hj
    have hj' : j < ys.length := by simpa using hj
    rcases Nat.lt_or_eq_of_le hij with h | rfl
    · have := List.pairwise_iff_getElem.1 hsrt i j (by omega) hj' h
      simpa [show i < ys.length by omega, hj'] using this
    · exact List.le_refl _
  obtain ⟨h1, h2⟩ := compact_set ys.toArray hs ys.length (by simp)
  refine setP_eq h1 fun z => (h2 z).trans ?_
  rw [← hp.mem_iff, List.mem_iff_getElem]
  constructor
  · rintro ⟨j, hj, e⟩
    exact ⟨j, hj, by simpa [hj] using e⟩
  · rintro ⟨j, hj, e⟩
    exact ⟨j, hj, by simpa [hj] using e⟩

end Go.Proofs.Qxb6616331aGreatDoor
