/-
  THE PLAIN LAW of seat b6616541a: sums over lists of nodes and members; no Go in sight.
-/
import Derived.WalkKit
namespace Go.Proofs.Qxb6616541a
open Go.RowKit

/-- Are two strings one? As the walk spells it. -/
def sEq (a b : ByteArray) : Bool := a.toList == b.toList
theorem sEq_comm (a b : ByteArray) : sEq a b = sEq b a := by
  unfold sEq; exact Bool.eq_iff_iff.2 ⟨fun h => by rw [beq_iff_eq] at *; exact h.symm, fun h => by rw [beq_iff_eq] at *; exact h.symm⟩
theorem sEq_refl (a : ByteArray) : sEq a a = true := by simp [sEq]
theorem sEq_left {a b : ByteArray} (h : sEq a b = true) (c : ByteArray) : sEq c a = sEq c b := by
  unfold sEq at *; rw [beq_iff_eq] at h; rw [h]

def sumTo (f : Nat → Int) : Nat → Int
  | 0 => 0
  | k + 1 => sumTo f k + f k
theorem sumTo_congr {f g : Nat → Int} : ∀ n, (∀ i, i < n → f i = g i) → sumTo f n = sumTo g n
  | 0, _ => rfl
  | n + 1, h => by simp only [sumTo]; rw [sumTo_congr n (fun i hi => h i (by omega)), h n (by omega)]
theorem sumTo_add (f g : Nat → Int) : ∀ n, sumTo (fun i => f i + g i) n = sumTo f n + sumTo g n
  | 0 => rfl
  | n + 1 => by simp only [sumTo]; rw [sumTo_add f g n]; omega
theorem sumTo_zero : ∀ n, sumTo (fun _ => 0) n = 0
  | 0 => rfl
  | n + 1 => by simp only [sumTo]; rw [sumTo_zero n]; rfl

/-- Is s among the first k? -/
def hasTo (mem : Nat → ByteArray) : Nat → ByteArray → Bool
  | 0, _ => false
  | k + 1, s => hasTo mem k s || sEq (mem k) s
theorem hasTo_congr {a b : ByteArray} (mem : Nat → ByteArray) (h : sEq a b = true) : ∀ k, hasTo mem k a = hasTo mem k b
  | 0 => rfl
  | k + 1 => by simp only [hasTo]; rw [hasTo_congr mem h k, sEq_left h]
theorem hasTo_iff (mem : Nat → ByteArray) (s : ByteArray) : ∀ k, hasTo mem k s = true ↔ ∃ i, i < k ∧ sEq (mem i) s = true
  | 0 => by simp [hasTo]
  | k + 1 => by
    simp only [hasTo, Bool.or_eq_true, hasTo_iff mem s k]
    constructor
    · rintro (⟨i, hi, h⟩ | h)
      · exact ⟨i, by omega, h⟩
      · exact ⟨k, by omega, h⟩
    · rintro ⟨i, hi, h⟩
      by_cases e : i = k
      · subst e; exact .inr h
      · exact .inl ⟨i, by omega, h⟩

/-- The votes of the nodes called s. -/
def votesOf (nm : Nat → ByteArray) (vt : Nat → Int) (n : Nat) (s : ByteArray) : Int := sumTo (fun i => if sEq (nm i) s then vt i else 0) n
/-- The votes of the nodes whose name is among the first m members. -/
def held (nm : Nat → ByteArray) (vt : Nat → Int) (n : Nat) (mem : Nat → ByteArray) (m : Nat) : Int := sumTo (fun i => if hasTo mem m (nm i) then vt i else 0) n
/-- Member by member. -/
def heldBy (nm : Nat → ByteArray) (vt : Nat → Int) (n : Nat) (mem : Nat → ByteArray) : Nat → Int := sumTo (fun j => if hasTo mem j (mem j) then 0 else votesOf nm vt n (mem j))

theorem held_succ (nm : Nat → ByteArray) (vt : Nat → Int) (n : Nat) (mem : Nat → ByteArray) (m : Nat) :
    held nm vt n mem (m + 1) = held nm vt n mem m + if hasTo mem m (mem m) then 0 else votesOf nm vt n (mem m) := by
  unfold held votesOf
  by_cases h : hasTo mem m (mem m) = true
  · rw [if_pos h, Int.add_zero]
    refine sumTo_congr n fun i _ => ?_
    by_cases e : sEq (mem m) (nm i) = true
    · have h' : hasTo mem m (nm i) = true := by rw [← hasTo_congr mem e m]; exact h
      simp [hasTo, h']
    · simp [hasTo, e]
  · rw [if_neg h, ← sumTo_add]
    refine sumTo_congr n fun i _ => ?_
    by_cases e : sEq (mem m) (nm i) = true
    · have h' : hasTo mem m (nm i) = false := by rw [← hasTo_congr mem e m]; simpa using h
      have e' : sEq (nm i) (mem m) = true := by rw [sEq_comm]; exact e
      simp [hasTo, h', e, e']
    · have e' : ¬ sEq (nm i) (mem m) = true := by rw [sEq_comm]; exact e
      simp [hasTo, e, e']
theorem heldBy_eq (nm : Nat → ByteArray) (vt : Nat → Int) (n : Nat) (mem : Nat → ByteArray) : ∀ m, heldBy nm vt n mem m = held nm vt n mem m
  | 0 => by simp [heldBy, held, sumTo, hasTo, sumTo_zero]
  | m + 1 => by
    rw [held_succ, ← heldBy_eq nm vt n mem m]
    rfl

/-- x put at place p. -/
def grown (mem : Nat → ByteArray) (p : Nat) (x : ByteArray) (j : Nat) : ByteArray := if j < p then mem j else if j = p then x else mem (j - 1)
theorem hasTo_grown (mem : Nat → ByteArray) (p m : Nat) (hp : p ≤ m) (x s : ByteArray) : hasTo (grown mem p x) (m + 1) s = (hasTo mem m s || sEq x s) := by
  rw [Bool.eq_iff_iff, Bool.or_eq_true, hasTo_iff, hasTo_iff]
  constructor
  · rintro ⟨i, hi, h⟩
    unfold grown at h
    by_cases c1 : i < p
    · rw [if_pos c1] at h; exact .inl ⟨i, by omega, h⟩
    · rw [if_neg c1] at h
      by_cases c2 : i = p
      · rw [if_pos c2] at h; exact .inr h
      · rw [if_neg c2] at h; exact .inl ⟨i - 1, by omega, h⟩
  · rintro (⟨i, hi, h⟩ | h)
    · by_cases c1 : i < p
      · exact ⟨i, by omega, by unfold grown; rw [if_pos c1]; exact h⟩
      · exact ⟨i + 1, by omega, by unfold grown; rw [if_neg (by omega), if_neg (by omega)]; exact h⟩
    · exact ⟨p, by omega, by unfold grown; rw [if_neg (by omega), if_pos rfl]; exact h⟩
theorem held_grown (nm : Nat → ByteArray) (vt : Nat → Int) (n : Nat) (mem : Nat → ByteArray) (p m : Nat) (hp : p ≤ m) (x : ByteArray) :
    held nm vt n (grown mem p x) (m + 1) = held nm vt n mem m + if hasTo mem m x then 0 else votesOf nm vt n x := by
  unfold held votesOf
  by_cases h : hasTo mem m x = true
  · rw [if_pos h, Int.add_zero]
    refine sumTo_congr n fun i _ => ?_
    rw [hasTo_grown mem p m hp]
    by_cases e : sEq x (nm i) = true
    · have h' : hasTo mem m (nm i) = true := by rw [← hasTo_congr mem e m]; exact h
      simp [h']
    · simp [e]
  · rw [if_neg h, ← sumTo_add]
    refine sumTo_congr n fun i _ => ?_
    rw [hasTo_grown mem p m hp]
    by_cases e : sEq x (nm i) = true
    · have h' : hasTo mem m (nm i) = false := by rw [← hasTo_congr mem e m]; simpa using h
      have e' : sEq (nm i) x = true := by rw [sEq_comm]; exact e
      simp [h', e, e']
    · have e' : ¬ sEq (nm i) x = true := by rw [sEq_comm]; exact e
      simp [e, e']

theorem wrap_left (a b : Int) : wrap64 (wrap64 a + b) = wrap64 (a + b) := by unfold wrap64; omega
theorem wrap_right (a b : Int) : wrap64 (a + wrap64 b) = wrap64 (a + b) := by unfold wrap64; omega
theorem wrap_idem (a : Int) : wrap64 (wrap64 a) = wrap64 a := by unfold wrap64; omega

end Go.Proofs.Qxb6616541a
