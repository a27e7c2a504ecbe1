/-
  THE WALKS of seat b6616541a, 11: zzMostIs says yes.
-/
import Derived.Test.Qxb6616541aVa
namespace Go.Proofs.Qxb6616541a
open Go.RowKit
set_option linter.unusedVariables false
set_option linter.unusedSimpArgs false

theorem drewN_shift (X : World) (a b m : Nat) : (X.drewN (a + b)).drewN m = X.drewN (a + (b + m)) := by rw [World.drewN_drewN, Nat.add_assoc]
theorem held20' (HB : Int) (a a' : Option Addr) (n c m c' : Nat) (nm : Nat → ByteArray) (vt : Nat → Int) (mem : Nat → ByteArray) (w : World) (hn : n ≤ 1048576) (hm : m ≤ 1048576) (hN : IsN w a n nm vt) (hS : IsS w a' m mem) (hmc : m ≤ c') (hHB : wrap64 (held nm vt n mem m) = HB) :
    Calls Try.prog 20 #[.slice a n c, .slice a' m c'] w fun e w' => e = .returned (.int .i64 HB) ∧ ∃ q, w' = w.drewN q := by
  subst hHB
  exact held20 a a' n c m c' nm vt mem w hn hm hN hS hmc
theorem has10' (B : Bool) (a : Option Addr) (n c : Nat) (mem : Nat → ByteArray) (s : ByteArray) (w : World) (hn : n ≤ 1048577) (h : IsS w a n mem) (hB : hasTo mem n s = B) :
    Calls Try.prog 10 #[.slice a n c, .string s] w fun e w' => e = .returned (.bool B) ∧ w' = w := by
  subst hB
  exact has10 a n c mem s w hn h
theorem total19' (ST : Int) (a : Option Addr) (n c : Nat) (nm : Nat → ByteArray) (vt : Nat → Int) (w : World) (hn : n ≤ 1048576) (h : IsN w a n nm vt) (hST : wrap64 (sumTo vt n) = ST) :
    Calls Try.prog 19 #[.slice a n c] w fun e w' => e = .returned (.int .i64 ST) ∧ w' = w := by
  subst hST
  exact total19 a n c nm vt w hn h
theorem wit13' (W : Int) (has : Bool) (k : Int) (w : World) (hW : witOf has k = W) :
    Calls Try.prog 13 #[.bool has, .int .i64 k] w fun e w' => e = .returned (.int .i64 W) ∧ w' = w := by
  subst hW
  exact wit13 has k w

set_option maxHeartbeats 1600000 in
theorem mostIs9_one_e (W HB ST : Int) (tb : ByteArray) (a0 am : Option Addr) (n0 c0 m cm : Nat) (nm0 mem : Nat → ByteArray) (vt0 : Nat → Int) (h0 : Bool) (k0 : Int) (v5 v6 v7 : Value) (w : World)
    (hn0 : n0 ≤ 1048576) (hm : m ≤ 1048576) (hmc : m ≤ cm) (hN0 : IsN w a0 n0 nm0 vt0) (hS : IsS w am m mem)
    (hW : Hid (witOf h0 k0 = W)) (hHB : Hid (wrap64 (held nm0 vt0 n0 mem m) = HB)) (hST : Hid (wrap64 (sumTo vt0 n0) = ST))
    (he : tb.toList.isEmpty = true) :
    Calls Try.prog 9 #[.agg (vCells (wrap64 (HB + W)) (wrap64 (ST + W)) (wrap64 (wrap64 ((wrap64 (ST + W)).tdiv 2) + 1)) tb false 0 0 0 false), .slice a0 n0 c0, .bool h0, .int .i64 k0, .bool false, v5, v6, v7, .slice am m cm, .string tb] w fun e w' => e = .returned (.bool true) ∧ Kept No w w' := by
  have HN : Hid (∀ o q, IsN ((w.alloc o).drewN q) a0 n0 nm0 vt0) := fun o q => ((Kept.alloc No _ _).trans (Kept.drewN _ _ _)).isN hN0
  have HS : Hid (∀ o q, IsS ((w.alloc o).drewN q) am m mem) := fun o q => ((Kept.alloc No _ _).trans (Kept.drewN _ _ _)).isS hS
  have HN' : Hid (∀ o, IsN (w.alloc o) a0 n0 nm0 vt0) := fun o => (Kept.alloc No _ _).isN hN0
  have HS' : Hid (∀ o, IsS (w.alloc o) am m mem) := fun o => (Kept.alloc No _ _).isS hS
  clear hN0 hS
  unfold vCells
  go_enter Try.func9, Try.ntmps9
  go_wp2_with fail
  refine (wit13' W h0 k0 _ hW.out).mono ?_
  rintro e w1 ⟨rfl, rfl⟩
  go_wp2_with fail
  refine (total19' ST a0 n0 c0 nm0 vt0 _ hn0 (HN'.out _) hST.out).mono ?_
  rintro e w2 ⟨rfl, rfl⟩
  go_wp2_with fail
  go_quiet ((go_at_call 20; exact Calls.quiet_of (held20' HB _ _ _ _ _ _ nm0 vt0 mem _ hn0 hm (HN.out _ _) (HS.out _ _) hmc hHB.out)))
  go_wp2
  go_ret
  exact ⟨rfl, (Kept.alloc No _ _).trans (Kept.drewN _ _ _)⟩

set_option maxHeartbeats 1600000 in
theorem mostIs9_one_n (W HB ST : Int) (B : Bool) (tb : ByteArray) (a0 am : Option Addr) (n0 c0 m cm : Nat) (nm0 mem : Nat → ByteArray) (vt0 : Nat → Int) (h0 : Bool) (k0 : Int) (v5 v6 v7 : Value) (w : World)
    (hn0 : n0 ≤ 1048576) (hm : m ≤ 1048576) (hmc : m ≤ cm) (hN0 : IsN w a0 n0 nm0 vt0) (hS : IsS w am m mem)
    (hW : Hid (witOf h0 k0 = W)) (hHB : Hid (wrap64 (held nm0 vt0 n0 mem m) = HB)) (hST : Hid (wrap64 (sumTo vt0 n0) = ST))
    (he : tb.toList.isEmpty = false) (hB : Hid (hasTo mem m tb = B)) :
    Calls Try.prog 9 #[.agg (vCells (wrap64 (HB + W)) (wrap64 (ST + W)) (wrap64 (wrap64 ((wrap64 (ST + W)).tdiv 2) + 1)) tb B 0 0 0 false), .slice a0 n0 c0, .bool h0, .int .i64 k0, .bool false, v5, v6, v7, .slice am m cm, .string tb] w fun e w' => e = .returned (.bool true) ∧ Kept No w w' := by
  have HN : Hid (∀ o q, IsN ((w.alloc o).drewN q) a0 n0 nm0 vt0) := fun o q => ((Kept.alloc No _ _).trans (Kept.drewN _ _ _)).isN hN0
  have HS : Hid (∀ o q, IsS ((w.alloc o).drewN q) am m mem) := fun o q => ((Kept.alloc No _ _).trans (Kept.drewN _ _ _)).isS hS
  have HN' : Hid (∀ o, IsN (w.alloc o) a0 n0 nm0 vt0) := fun o => (Kept.alloc No _ _).isN hN0
  have HS' : Hid (∀ o, IsS (w.alloc o) am m mem) := fun o => (Kept.alloc No _ _).isS hS
  clear hN0 hS
  unfold vCells
  go_enter Try.func9, Try.ntmps9
  go_wp2_with fail
  refine (wit13' W h0 k0 _ hW.out).mono ?_
  rintro e w1 ⟨rfl, rfl⟩
  go_wp2_with fail
  refine (total19' ST a0 n0 c0 nm0 vt0 _ hn0 (HN'.out _) hST.out).mono ?_
  rintro e w2 ⟨rfl, rfl⟩
  go_wp2_with fail
  refine (has10' B am m cm mem tb _ (by omega) (HS'.out _) hB.out).mono ?_
  rintro e w3 ⟨rfl, rfl⟩
  go_wp2_with fail
  go_quiet ((go_at_call 20; exact Calls.quiet_of (held20' HB _ _ _ _ _ _ nm0 vt0 mem _ hn0 hm (HN.out _ _) (HS.out _ _) hmc hHB.out)))
  go_wp2
  go_ret
  exact ⟨rfl, (Kept.alloc No _ _).trans (Kept.drewN _ _ _)⟩

set_option maxHeartbeats 1600000 in
theorem mostIs9_two_e (W HB ST : Int) (W1 HB1 ST1 : Int) (tb : ByteArray) (a0 am : Option Addr) (n0 c0 m cm : Nat) (nm0 mem : Nat → ByteArray) (vt0 : Nat → Int) (h0 : Bool) (k0 : Int) (a1 : Option Addr) (n1 c1 : Nat) (nm1 : Nat → ByteArray) (vt1 : Nat → Int) (h1 : Bool) (k1 : Int) (w : World)
    (hn0 : n0 ≤ 1048576) (hm : m ≤ 1048576) (hmc : m ≤ cm) (hN0 : IsN w a0 n0 nm0 vt0) (hS : IsS w am m mem)
    (hW : Hid (witOf h0 k0 = W)) (hHB : Hid (wrap64 (held nm0 vt0 n0 mem m) = HB)) (hST : Hid (wrap64 (sumTo vt0 n0) = ST))
    (hn1 : n1 ≤ 1048576) (hN1 : IsN w a1 n1 nm1 vt1) (hW1 : Hid (witOf h1 k1 = W1)) (hHB1 : Hid (wrap64 (held nm1 vt1 n1 mem m) = HB1)) (hST1 : Hid (wrap64 (sumTo vt1 n1) = ST1))
    (he : tb.toList.isEmpty = true) :
    Calls Try.prog 9 #[.agg (vCells (wrap64 (HB + W)) (wrap64 (ST + W)) (wrap64 (wrap64 ((wrap64 (ST + W)).tdiv 2) + 1)) tb false (wrap64 (HB1 + W)) (wrap64 (ST1 + W1)) (wrap64 (wrap64 ((wrap64 (ST1 + W1)).tdiv 2) + 1)) false), .slice a0 n0 c0, .bool h0, .int .i64 k0, .bool true, .slice a1 n1 c1, .bool h1, .int .i64 k1, .slice am m cm, .string tb] w fun e w' => e = .returned (.bool true) ∧ Kept No w w' := by
  have HN : Hid (∀ o q, IsN ((w.alloc o).drewN q) a0 n0 nm0 vt0) := fun o q => ((Kept.alloc No _ _).trans (Kept.drewN _ _ _)).isN hN0
  have HS : Hid (∀ o q, IsS ((w.alloc o).drewN q) am m mem) := fun o q => ((Kept.alloc No _ _).trans (Kept.drewN _ _ _)).isS hS
  have HN' : Hid (∀ o, IsN (w.alloc o) a0 n0 nm0 vt0) := fun o => (Kept.alloc No _ _).isN hN0
  have HS' : Hid (∀ o, IsS (w.alloc o) am m mem) := fun o => (Kept.alloc No _ _).isS hS
  have HM : Hid (∀ o q, IsN ((w.alloc o).drewN q) a1 n1 nm1 vt1) := fun o q => ((Kept.alloc No _ _).trans (Kept.drewN _ _ _)).isN hN1
  clear hN1
  clear hN0 hS
  unfold vCells
  go_enter Try.func9, Try.ntmps9
  go_wp2_with fail
  refine (wit13' W h0 k0 _ hW.out).mono ?_
  rintro e w1 ⟨rfl, rfl⟩
  go_wp2_with fail
  refine (total19' ST a0 n0 c0 nm0 vt0 _ hn0 (HN'.out _) hST.out).mono ?_
  rintro e w2 ⟨rfl, rfl⟩
  go_wp2_with fail
  go_quiet ((go_at_call 20; exact Calls.quiet_of (held20' HB _ _ _ _ _ _ nm0 vt0 mem _ hn0 hm (HN.out _ _) (HS.out _ _) hmc hHB.out)))
  go_wp2_with fail
  refine (total19' ST1 a1 n1 c1 nm1 vt1 _ hn1 (HM.out _ _) hST1.out).mono ?_
  rintro e w4 ⟨rfl, rfl⟩
  go_wp2_with fail
  refine (wit13' W1 h1 k1 _ hW1.out).mono ?_
  rintro e w5 ⟨rfl, rfl⟩
  go_wp2_with fail
  go_quiet ((go_at_call 20; exact (held20' HB1 _ _ _ _ _ _ nm1 vt1 mem _ hn1 hm (HM.out _ _) (HS.out _ _) hmc hHB1.out).mono (fun _ _ ⟨he, m, hm⟩ => ⟨he, _, hm.trans (drewN_shift _ _ _ _)⟩)))
  go_wp2
  go_ret
  exact ⟨rfl, ((Kept.alloc No _ _).trans (Kept.drewN _ _ _)).trans (Kept.drewN _ _ _)⟩

set_option maxHeartbeats 1600000 in
theorem mostIs9_two_n (W HB ST : Int) (W1 HB1 ST1 : Int) (B : Bool) (tb : ByteArray) (a0 am : Option Addr) (n0 c0 m cm : Nat) (nm0 mem : Nat → ByteArray) (vt0 : Nat → Int) (h0 : Bool) (k0 : Int) (a1 : Option Addr) (n1 c1 : Nat) (nm1 : Nat → ByteArray) (vt1 : Nat → Int) (h1 : Bool) (k1 : Int) (w : World)
    (hn0 : n0 ≤ 1048576) (hm : m ≤ 1048576) (hmc : m ≤ cm) (hN0 : IsN w a0 n0 nm0 vt0) (hS : IsS w am m mem)
    (hW : Hid (witOf h0 k0 = W)) (hHB : Hid (wrap64 (held nm0 vt0 n0 mem m) = HB)) (hST : Hid (wrap64 (sumTo vt0 n0) = ST))
    (hn1 : n1 ≤ 1048576) (hN1 : IsN w a1 n1 nm1 vt1) (hW1 : Hid (witOf h1 k1 = W1)) (hHB1 : Hid (wrap64 (held nm1 vt1 n1 mem m) = HB1)) (hST1 : Hid (wrap64 (sumTo vt1 n1) = ST1))
    (he : tb.toList.isEmpty = false) (hB : Hid (hasTo mem m tb = B)) :
    Calls Try.prog 9 #[.agg (vCells (wrap64 (HB + W)) (wrap64 (ST + W)) (wrap64 (wrap64 ((wrap64 (ST + W)).tdiv 2) + 1)) tb B (wrap64 (HB1 + W)) (wrap64 (ST1 + W1)) (wrap64 (wrap64 ((wrap64 (ST1 + W1)).tdiv 2) + 1)) B), .slice a0 n0 c0, .bool h0, .int .i64 k0, .bool true, .slice a1 n1 c1, .bool h1, .int .i64 k1, .slice am m cm, .string tb] w fun e w' => e = .returned (.bool true) ∧ Kept No w w' := by
  have HN : Hid (∀ o q, IsN ((w.alloc o).drewN q) a0 n0 nm0 vt0) := fun o q => ((Kept.alloc No _ _).trans (Kept.drewN _ _ _)).isN hN0
  have HS : Hid (∀ o q, IsS ((w.alloc o).drewN q) am m mem) := fun o q => ((Kept.alloc No _ _).trans (Kept.drewN _ _ _)).isS hS
  have HN' : Hid (∀ o, IsN (w.alloc o) a0 n0 nm0 vt0) := fun o => (Kept.alloc No _ _).isN hN0
  have HS' : Hid (∀ o, IsS (w.alloc o) am m mem) := fun o => (Kept.alloc No _ _).isS hS
  have HM : Hid (∀ o q, IsN ((w.alloc o).drewN q) a1 n1 nm1 vt1) := fun o q => ((Kept.alloc No _ _).trans (Kept.drewN _ _ _)).isN hN1
  clear hN1
  clear hN0 hS
  unfold vCells
  go_enter Try.func9, Try.ntmps9
  go_wp2_with fail
  refine (wit13' W h0 k0 _ hW.out).mono ?_
  rintro e w1 ⟨rfl, rfl⟩
  go_wp2_with fail
  refine (total19' ST a0 n0 c0 nm0 vt0 _ hn0 (HN'.out _) hST.out).mono ?_
  rintro e w2 ⟨rfl, rfl⟩
  go_wp2_with fail
  refine (has10' B am m cm mem tb _ (by omega) (HS'.out _) hB.out).mono ?_
  rintro e w3 ⟨rfl, rfl⟩
  go_wp2_with fail
  go_quiet ((go_at_call 20; exact Calls.quiet_of (held20' HB _ _ _ _ _ _ nm0 vt0 mem _ hn0 hm (HN.out _ _) (HS.out _ _) hmc hHB.out)))
  go_wp2_with fail
  refine (total19' ST1 a1 n1 c1 nm1 vt1 _ hn1 (HM.out _ _) hST1.out).mono ?_
  rintro e w4 ⟨rfl, rfl⟩
  go_wp2_with fail
  refine (wit13' W1 h1 k1 _ hW1.out).mono ?_
  rintro e w5 ⟨rfl, rfl⟩
  go_wp2_with fail
  go_quiet ((go_at_call 20; exact (held20' HB1 _ _ _ _ _ _ nm1 vt1 mem _ hn1 hm (HM.out _ _) (HS.out _ _) hmc hHB1.out).mono (fun _ _ ⟨he, m, hm⟩ => ⟨he, _, hm.trans (drewN_shift _ _ _ _)⟩)))
  go_wp2
  go_ret
  exact ⟨rfl, ((Kept.alloc No _ _).trans (Kept.drewN _ _ _)).trans (Kept.drewN _ _ _)⟩

/-- zzMostIs says yes to what Most answers: one list. -/
theorem mostIs9_one (tb : ByteArray) (a0 am : Option Addr) (n0 c0 m cm : Nat) (nm0 mem : Nat → ByteArray) (vt0 : Nat → Int) (h0 : Bool) (k0 : Int) (v5 v6 v7 : Value) (w : World)
    (hn0 : n0 ≤ 1048576) (hm : m ≤ 1048576) (hmc : m ≤ cm) (hN0 : IsN w a0 n0 nm0 vt0) (hS : IsS w am m mem) :
    Calls Try.prog 9 #[.agg (vCells (wrap64 (held nm0 vt0 n0 mem m + witOf h0 k0)) (wrap64 (sumTo vt0 n0 + witOf h0 k0)) (need (wrap64 (sumTo vt0 n0 + witOf h0 k0))) tb (tbHeld tb mem m) 0 0 0 false), .slice a0 n0 c0, .bool h0, .int .i64 k0, .bool false, v5, v6, v7, .slice am m cm, .string tb] w
      fun e w' => e = .returned (.bool true) ∧ Kept No w w' := by
  unfold need
  rw [← wrap_left (held nm0 vt0 n0 mem m), ← wrap_left (sumTo vt0 n0)]
  cases he : tb.toList.isEmpty
  · rw [show tbHeld tb mem m = hasTo mem m tb by simp [tbHeld, he]]
    exact mostIs9_one_n _ _ _ _ tb a0 am n0 c0 m cm nm0 mem vt0 h0 k0 v5 v6 v7 w hn0 hm hmc hN0 hS rfl rfl rfl he rfl
  · rw [show tbHeld tb mem m = false by simp [tbHeld, he]]
    exact mostIs9_one_e _ _ _ tb a0 am n0 c0 m cm nm0 mem vt0 h0 k0 v5 v6 v7 w hn0 hm hmc hN0 hS rfl rfl rfl he

/-- .. two lists. -/
theorem mostIs9_two (tb : ByteArray) (a0 am : Option Addr) (n0 c0 m cm : Nat) (nm0 mem : Nat → ByteArray) (vt0 : Nat → Int) (h0 : Bool) (k0 : Int) (a1 : Option Addr) (n1 c1 : Nat) (nm1 : Nat → ByteArray) (vt1 : Nat → Int) (h1 : Bool) (k1 : Int) (w : World)
    (hn0 : n0 ≤ 1048576) (hm : m ≤ 1048576) (hmc : m ≤ cm) (hN0 : IsN w a0 n0 nm0 vt0) (hS : IsS w am m mem) (hn1 : n1 ≤ 1048576) (hN1 : IsN w a1 n1 nm1 vt1) :
    Calls Try.prog 9 #[.agg (vCells (wrap64 (held nm0 vt0 n0 mem m + witOf h0 k0)) (wrap64 (sumTo vt0 n0 + witOf h0 k0)) (need (wrap64 (sumTo vt0 n0 + witOf h0 k0))) tb (tbHeld tb mem m)
        (wrap64 (held nm1 vt1 n1 mem m + witOf h0 k0)) (wrap64 (sumTo vt1 n1 + witOf h1 k1)) (need (wrap64 (sumTo vt1 n1 + witOf h1 k1))) (tbHeld tb mem m)), .slice a0 n0 c0, .bool h0, .int .i64 k0, .bool true, .slice a1 n1 c1, .bool h1, .int .i64 k1, .slice am m cm, .string tb] w
      fun e w' => e = .returned (.bool true) ∧ Kept No w w' := by
  unfold need
  rw [← wrap_left (held nm0 vt0 n0 mem m), ← wrap_left (sumTo vt0 n0), ← wrap_left (held nm1 vt1 n1 mem m), ← wrap_left (sumTo vt1 n1)]
  cases he : tb.toList.isEmpty
  · rw [show tbHeld tb mem m = hasTo mem m tb by simp [tbHeld, he]]
    exact mostIs9_two_n _ _ _ _ _ _ _ tb a0 am n0 c0 m cm nm0 mem vt0 h0 k0 a1 n1 c1 nm1 vt1 h1 k1 w hn0 hm hmc hN0 hS rfl rfl rfl hn1 hN1 rfl rfl rfl he rfl
  · rw [show tbHeld tb mem m = false by simp [tbHeld, he]]
    exact mostIs9_two_e _ _ _ _ _ _ tb a0 am n0 c0 m cm nm0 mem vt0 h0 k0 a1 n1 c1 nm1 vt1 h1 k1 w hn0 hm hmc hN0 hS rfl rfl rfl hn1 hN1 rfl rfl rfl he

end Go.Proofs.Qxb6616541a
