/-
  THE WALKS of seat b6616541a, 15: FnMostInsertOneMember, the law.
-/
import Derived.Test.Qxb6616541aVe
namespace Go.Proofs.Qxb6616541a
open Go.RowKit
set_option linter.unusedVariables false
set_option linter.unusedSimpArgs false

set_option maxRecDepth 40000 in
set_option maxHeartbeats 800000 in
theorem insert_out (a0 a1 am : Option Addr) (n0 c0 n1 c1 m cm : Nat) (nm0 nm1 mem : Nat → ByteArray) (vt0 vt1 : Nat → Int) (h0 h1 tw : Bool) (k0 k1 at1 : Int) (x tb : ByteArray) (w : World)
    (hN0 : IsN w a0 n0 nm0 vt0) (hN1 : IsN w a1 n1 nm1 vt1) (hS : IsS w am m mem) (ho : at1 < 0 ∨ (0 ≤ at1 ∧ (m : Int) < at1)) :
    Calls Try.prog 3 #[.slice a0 n0 c0, .bool h0, .int .i64 k0, .bool tw, .slice a1 n1 c1, .bool h1, .int .i64 k1, .slice am m cm, .int .i64 at1, .string x, .string tb] w fun e w' => e = .returned (.bool true) ∧ Kept No w w' := by
  go_enter Try.func3, Try.ntmps3
  go_wp2_with fail
  refine (bytes5 a0 a1 am n0 c0 n1 c1 m cm nm0 nm1 mem vt0 vt1 h0 h1 tw k0 k1 at1 x tb w hN0 hN1 hS).mono ?_
  rintro e w ⟨⟨b, rfl, hb⟩, rfl⟩
  cases b
  · go_wp2
    go_ret
    exact ⟨rfl, Kept.refl _ _⟩
  go_wp2_with fail
  refine (tooBig6 a0 a1 am n0 c0 n1 c1 m cm nm0 nm1 mem vt0 vt1 x tb w hN0 hN1 hS).mono ?_
  rintro e w ⟨⟨b, rfl, _⟩, rfl⟩
  cases b
  rotate_left
  · go_wp2
    go_ret
    exact ⟨rfl, Kept.refl _ _⟩
  rcases ho with h | ⟨h, h'⟩
  · go_wp2
    go_ret
    exact ⟨rfl, Kept.refl _ _⟩
  · have h2 : ¬ at1 < 0 := by omega
    go_wp2
    go_ret
    exact ⟨rfl, Kept.refl _ _⟩

theorem tbHeld_grown (tb : ByteArray) (mem : Nat → ByteArray) (p m : Nat) (hp : p ≤ m) (x : ByteArray) : tbHeld tb (grown mem p x) (m + 1) = (tbHeld tb mem m || (!tb.toList.isEmpty && (x.toList == tb.toList))) := by
  unfold tbHeld
  rw [hasTo_grown mem p m hp, show (x.toList == tb.toList) = sEq x tb from rfl]
  cases tb.toList.isEmpty <;> simp
theorem held_sum (nm : Nat → ByteArray) (vt : Nat → Int) (n : Nat) (mem : Nat → ByteArray) (p m : Nat) (hp : p ≤ m) (x : ByteArray) (k : Int) :
    (hasTo mem m x = false → (wrap64 (held nm vt n (grown mem p x) (m + 1) + k) == wrap64 (wrap64 (held nm vt n mem m + k) + wrap64 (votesOf nm vt n x))) = true) ∧
    (hasTo mem m x = true → (wrap64 (held nm vt n (grown mem p x) (m + 1) + k) == wrap64 (wrap64 (held nm vt n mem m + k))) = true) := by
  rw [held_grown nm vt n mem p m hp x]
  constructor
  · intro h
    rw [h, beq_iff_eq, wrap_left, wrap_right]
    congr 1
    simp only [Bool.false_eq_true, if_false]
    omega
  · intro h
    rw [h, beq_iff_eq, wrap_idem]
    congr 1
    simp

theorem insert_any (a0 a1 am : Option Addr) (n0 c0 n1 c1 m cm : Nat) (nm0 nm1 mem : Nat → ByteArray) (vt0 vt1 : Nat → Int) (h0 h1 tw : Bool) (k0 k1 at1 : Int) (x tb : ByteArray) (w : World)
    (hN0 : IsN w a0 n0 nm0 vt0) (hN1 : IsN w a1 n1 nm1 vt1) (hS : IsS w am m mem) (hnil0 : a0 = none → n0 = 0 ∧ c0 = 0) (hnil1 : a1 = none → n1 = 0 ∧ c1 = 0) (hmc : m ≤ cm) :
    Calls Try.prog 3 #[.slice a0 n0 c0, .bool h0, .int .i64 k0, .bool tw, .slice a1 n1 c1, .bool h1, .int .i64 k1, .slice am m cm, .int .i64 at1, .string x, .string tb] w fun e w' => e = .returned (.bool true) ∧ Kept No w w' := by
  by_cases ho : at1 < 0 ∨ (0 ≤ at1 ∧ (m : Int) < at1)
  · exact insert_out a0 a1 am n0 c0 n1 c1 m cm nm0 nm1 mem vt0 vt1 h0 h1 tw k0 k1 at1 x tb w hN0 hN1 hS ho
  · obtain ⟨p, rfl⟩ := Int.eq_ofNat_of_zero_le (show 0 ≤ at1 by omega)
    have hp : p ≤ m := by omega
    have E0 := held_sum nm0 vt0 n0 mem p m hp x (witOf h0 k0)
    have E1 := held_sum nm1 vt1 n1 mem p m hp x (witOf h0 k0)
    cases tw
    · exact insert_one _ _ _ _ 0 _ _ _ _ _ _ _ _ _ _ _ a0 a1 am n0 c0 n1 c1 m cm p nm0 nm1 mem vt0 vt1 h0 h1 k0 k1 x tb w hN0 hN1 hS hnil0 hnil1 hmc hp
        ⟨rfl, rfl, rfl, rfl⟩ ⟨rfl, rfl, rfl, rfl⟩ rfl ⟨rfl, rfl, rfl, rfl⟩ ⟨rfl, rfl, rfl, rfl⟩ rfl rfl rfl rfl E0.1 E0.2 E1.1 E1.2 (tbHeld_grown tb mem p m hp x)
    · exact insert_two _ _ _ _ 0 _ _ _ _ _ _ _ _ _ _ _ a0 a1 am n0 c0 n1 c1 m cm p nm0 nm1 mem vt0 vt1 h0 h1 k0 k1 x tb w hN0 hN1 hS hnil0 hnil1 hmc hp
        ⟨rfl, rfl, rfl, rfl⟩ ⟨rfl, rfl, rfl, rfl⟩ rfl ⟨rfl, rfl, rfl, rfl⟩ ⟨rfl, rfl, rfl, rfl⟩ rfl rfl rfl rfl E0.1 E0.2 E1.1 E1.2 (tbHeld_grown tb mem p m hp x)

end Go.Proofs.Qxb6616541a
