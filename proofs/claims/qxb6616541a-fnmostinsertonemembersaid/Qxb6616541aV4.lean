/-
  THE WALKS of seat b6616541a, 4: zzTooBig: it returns.
-/
import Derived.Test.Qxb6616541aV3
namespace Go.Proofs.Qxb6616541a
open Go.RowKit
set_option linter.unusedVariables false
set_option linter.unusedSimpArgs false

set_option maxHeartbeats 1600000 in
theorem tooBig6_in (a0 a1 am : Option Addr) (n0 c0 n1 c1 m cm : Nat) (nm0 nm1 mem : Nat → ByteArray) (vt0 vt1 : Nat → Int) (x tb : ByteArray) (w : World) (hN0 : IsN w a0 n0 nm0 vt0) (hN1 : IsN w a1 n1 nm1 vt1) (hS : IsS w am m mem)
    (h0 : ¬ 4096 < (n0 : Int)) (h1 : ¬ 4096 < (n1 : Int)) (hm : ¬ 4096 < (m : Int)) (hx : ¬ 1048576 < (x.size : Int)) (ht : ¬ 1048576 < (tb.size : Int)) (hxt : ¬ 1048576 < (x.size : Int) + (tb.size : Int)) :
    Calls Try.prog 6 #[.slice a0 n0 c0, .slice a1 n1 c1, .slice am m cm, .string x, .string tb] w (SzEnd True w) := by
  go_enter Try.func6, Try.ntmps6
  go_wp2
  go_loop [11, 12] (fun z i => ∃ (k : Nat) (s : Int), k ≤ n0 ∧ i = .int .i64 k ∧ z = .int .i64 s) (fun _ i => n0 - (intOf i).toNat)
  case atStart => exact ⟨0, _, Nat.zero_le _, rfl, rfl⟩
  case round =>
    obtain ⟨k, s, hk, rfl, rfl⟩ := hrel
    by_cases hlt : k < n0
    · obtain ⟨b, off, rfl, hc⟩ := hN0 (by omega)
      obtain ⟨c0, -⟩ := hc k hlt
      have hl : (k : Int) < (n0 : Int) := by omega
      clear hc hN0
      go_wp2
      all_goals first | (go_ret; exact ⟨⟨_, rfl, fun _ => trivial⟩, rfl⟩) | skip
      go_round
      case rel => exact ⟨k + 1, _, by omega, by go_num, rfl⟩
      case measure => simp [intOf]; omega
    · have hl : ¬ (k : Int) < (n0 : Int) := by omega
      go_wp2
      go_loop [11, 13] (fun z i => ∃ (k : Nat) (s : Int), k ≤ n1 ∧ i = .int .i64 k ∧ z = .int .i64 s) (fun _ i => n1 - (intOf i).toNat)
      case atStart => exact ⟨0, _, Nat.zero_le _, rfl, rfl⟩
      case round =>
        obtain ⟨k, s, hk, rfl, rfl⟩ := hrel
        by_cases hlt : k < n1
        · obtain ⟨b, off, rfl, hc⟩ := hN1 (by omega)
          obtain ⟨c0, -⟩ := hc k hlt
          have hl : (k : Int) < (n1 : Int) := by omega
          clear hc hN1
          go_wp2
          all_goals first | (go_ret; exact ⟨⟨_, rfl, fun _ => trivial⟩, rfl⟩) | skip
          go_round
          case rel => exact ⟨k + 1, _, by omega, by go_num, rfl⟩
          case measure => simp [intOf]; omega
        · have hl : ¬ (k : Int) < (n1 : Int) := by omega
          go_wp2
          go_loop [11, 14] (fun z i => ∃ (k : Nat) (s : Int), k ≤ m ∧ i = .int .i64 k ∧ z = .int .i64 s) (fun _ i => m - (intOf i).toNat)
          case atStart => exact ⟨0, _, Nat.zero_le _, rfl, rfl⟩
          case round =>
            obtain ⟨k, s, hk, rfl, rfl⟩ := hrel
            by_cases hlt : k < m
            · obtain ⟨b, off, rfl, hc⟩ := hS (by omega)
              have c0 := hc k hlt
              have hl : (k : Int) < (m : Int) := by omega
              clear hc hS
              go_wp2
              all_goals first | (go_ret; exact ⟨⟨_, rfl, fun _ => trivial⟩, rfl⟩) | skip
              go_round
              case rel => exact ⟨k + 1, _, by omega, by go_num, rfl⟩
              case measure => simp [intOf]; omega
            · have hl : ¬ (k : Int) < (m : Int) := by omega
              go_wp2
              go_ret
              exact ⟨⟨_, rfl, fun _ => trivial⟩, rfl⟩

set_option maxHeartbeats 400000 in
theorem tooBig6_o0 (a0 a1 am : Option Addr) (n0 c0 n1 c1 m cm : Nat) (x tb : ByteArray) (w : World)  (h0 : 4096 < (n0 : Int)) :
    Calls Try.prog 6 #[.slice a0 n0 c0, .slice a1 n1 c1, .slice am m cm, .string x, .string tb] w (SzEnd True w) := by
  go_enter Try.func6, Try.ntmps6
  go_wp2
  go_ret
  exact ⟨⟨_, rfl, fun _ => trivial⟩, rfl⟩

set_option maxHeartbeats 400000 in
theorem tooBig6_o1 (a0 a1 am : Option Addr) (n0 c0 n1 c1 m cm : Nat) (x tb : ByteArray) (w : World) (h0 : ¬ 4096 < (n0 : Int)) (h1 : 4096 < (n1 : Int)) :
    Calls Try.prog 6 #[.slice a0 n0 c0, .slice a1 n1 c1, .slice am m cm, .string x, .string tb] w (SzEnd True w) := by
  go_enter Try.func6, Try.ntmps6
  go_wp2
  go_ret
  exact ⟨⟨_, rfl, fun _ => trivial⟩, rfl⟩

set_option maxHeartbeats 400000 in
theorem tooBig6_o2 (a0 a1 am : Option Addr) (n0 c0 n1 c1 m cm : Nat) (x tb : ByteArray) (w : World) (h0 : ¬ 4096 < (n0 : Int)) (h1 : ¬ 4096 < (n1 : Int)) (hm : 4096 < (m : Int)) :
    Calls Try.prog 6 #[.slice a0 n0 c0, .slice a1 n1 c1, .slice am m cm, .string x, .string tb] w (SzEnd True w) := by
  go_enter Try.func6, Try.ntmps6
  go_wp2
  go_ret
  exact ⟨⟨_, rfl, fun _ => trivial⟩, rfl⟩

set_option maxHeartbeats 400000 in
theorem tooBig6_o3 (a0 a1 am : Option Addr) (n0 c0 n1 c1 m cm : Nat) (x tb : ByteArray) (w : World) (h0 : ¬ 4096 < (n0 : Int)) (h1 : ¬ 4096 < (n1 : Int)) (hm : ¬ 4096 < (m : Int)) (hx : 1048576 < (x.size : Int)) :
    Calls Try.prog 6 #[.slice a0 n0 c0, .slice a1 n1 c1, .slice am m cm, .string x, .string tb] w (SzEnd True w) := by
  go_enter Try.func6, Try.ntmps6
  go_wp2
  go_ret
  exact ⟨⟨_, rfl, fun _ => trivial⟩, rfl⟩

set_option maxHeartbeats 400000 in
theorem tooBig6_o4 (a0 a1 am : Option Addr) (n0 c0 n1 c1 m cm : Nat) (x tb : ByteArray) (w : World) (h0 : ¬ 4096 < (n0 : Int)) (h1 : ¬ 4096 < (n1 : Int)) (hm : ¬ 4096 < (m : Int)) (hx : ¬ 1048576 < (x.size : Int)) (ht : 1048576 < (tb.size : Int)) :
    Calls Try.prog 6 #[.slice a0 n0 c0, .slice a1 n1 c1, .slice am m cm, .string x, .string tb] w (SzEnd True w) := by
  go_enter Try.func6, Try.ntmps6
  go_wp2
  go_ret
  exact ⟨⟨_, rfl, fun _ => trivial⟩, rfl⟩

set_option maxHeartbeats 400000 in
theorem tooBig6_o5 (a0 a1 am : Option Addr) (n0 c0 n1 c1 m cm : Nat) (x tb : ByteArray) (w : World) (h0 : ¬ 4096 < (n0 : Int)) (h1 : ¬ 4096 < (n1 : Int)) (hm : ¬ 4096 < (m : Int)) (hx : ¬ 1048576 < (x.size : Int)) (ht : ¬ 1048576 < (tb.size : Int)) (hxt : 1048576 < (x.size : Int) + (tb.size : Int)) :
    Calls Try.prog 6 #[.slice a0 n0 c0, .slice a1 n1 c1, .slice am m cm, .string x, .string tb] w (SzEnd True w) := by
  go_enter Try.func6, Try.ntmps6
  go_wp2
  go_ret
  exact ⟨⟨_, rfl, fun _ => trivial⟩, rfl⟩

theorem tooBig6 (a0 a1 am : Option Addr) (n0 c0 n1 c1 m cm : Nat) (nm0 nm1 mem : Nat → ByteArray) (vt0 vt1 : Nat → Int) (x tb : ByteArray) (w : World) (hN0 : IsN w a0 n0 nm0 vt0) (hN1 : IsN w a1 n1 nm1 vt1) (hS : IsS w am m mem) :
    Calls Try.prog 6 #[.slice a0 n0 c0, .slice a1 n1 c1, .slice am m cm, .string x, .string tb] w (SzEnd True w) := by
  by_cases h0 : 4096 < (n0 : Int)
  · exact tooBig6_o0 a0 a1 am n0 c0 n1 c1 m cm x tb w h0
  by_cases h1 : 4096 < (n1 : Int)
  · exact tooBig6_o1 a0 a1 am n0 c0 n1 c1 m cm x tb w h0 h1
  by_cases hm : 4096 < (m : Int)
  · exact tooBig6_o2 a0 a1 am n0 c0 n1 c1 m cm x tb w h0 h1 hm
  by_cases hx : 1048576 < (x.size : Int)
  · exact tooBig6_o3 a0 a1 am n0 c0 n1 c1 m cm x tb w h0 h1 hm hx
  by_cases ht : 1048576 < (tb.size : Int)
  · exact tooBig6_o4 a0 a1 am n0 c0 n1 c1 m cm x tb w h0 h1 hm hx ht
  by_cases hxt : 1048576 < (x.size : Int) + (tb.size : Int)
  · exact tooBig6_o5 a0 a1 am n0 c0 n1 c1 m cm x tb w h0 h1 hm hx ht hxt
  exact tooBig6_in a0 a1 am n0 c0 n1 c1 m cm nm0 nm1 mem vt0 vt1 x tb w hN0 hN1 hS h0 h1 hm hx ht hxt

end Go.Proofs.Qxb6616541a
