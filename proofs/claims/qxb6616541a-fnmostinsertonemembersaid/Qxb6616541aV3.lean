/-
  THE WALKS of seat b6616541a, 3: the size guards that were laid by program.
-/
import Derived.Test.Qxb6616541aV2
namespace Go.Proofs.Qxb6616541a
open Go.RowKit
set_option linter.unusedVariables false
set_option linter.unusedSimpArgs false

/-- The three lists are short. -/
def Small (n0 n1 m : Nat) : Prop := n0 ≤ 1048576 ∧ n1 ≤ 1048576 ∧ m ≤ 1048576
/-- A guard's end: a bool; where it says yes, P holds. -/
def SzEnd (P : Prop) (w : World) (e : Ending) (w' : World) : Prop := (∃ b, e = .returned (.bool b) ∧ (b = true → P)) ∧ w' = w

set_option maxHeartbeats 1600000 in
theorem bytes5 (a0 a1 am : Option Addr) (n0 c0 n1 c1 m cm : Nat) (nm0 nm1 mem : Nat → ByteArray) (vt0 vt1 : Nat → Int) (h0 h1 tw : Bool) (k0 k1 at1 : Int) (x tb : ByteArray) (w : World) (hN0 : IsN w a0 n0 nm0 vt0) (hN1 : IsN w a1 n1 nm1 vt1) (hS : IsS w am m mem) :
    Calls Try.prog 5 #[.slice a0 n0 c0, .bool h0, .int .i64 k0, .bool tw, .slice a1 n1 c1, .bool h1, .int .i64 k1, .slice am m cm, .int .i64 at1, .string x, .string tb] w (SzEnd (Small n0 n1 m) w) := by
  by_cases hn0 : n0 ≤ 1048576
  · go_enter Try.func5, Try.ntmps5
    go_wp2
    go_loop [23, 24] (fun z i => ∃ (k : Nat) (s : Int), k ≤ n0 ∧ 0 ≤ s ∧ s ≤ 1048576 ∧ i = .int .i64 k ∧ z = .int .i64 s) (fun _ i => n0 - (intOf i).toNat)
    case atStart => exact ⟨0, _, Nat.zero_le _, by omega, by omega, rfl, rfl⟩
    case round =>
      obtain ⟨k, s1, hk, hs0, hs1, rfl, rfl⟩ := hrel
      by_cases hlt : k < n0
      · obtain ⟨b, off, rfl, hc⟩ := hN0 (by omega)
        obtain ⟨c0, -⟩ := hc k hlt
        have hl : (k : Int) < (n0 : Int) := by omega
        clear hc hN0
        go_wp2
        all_goals first | (go_ret; exact ⟨⟨_, rfl, fun h => by cases h⟩, rfl⟩) | skip
        go_round
        case rel => exact ⟨k + 1, _, by omega, by omega, by omega, by go_num, rfl⟩
        case measure => simp [intOf]; omega
      · have hl : ¬ (k : Int) < (n0 : Int) := by omega
        by_cases hn1 : n1 ≤ 1048576
        · have hn1' : (n1 : Int) ≤ 1048576 := by omega
          by_cases hs1n : s1 + n1 ≤ 1048576
          · go_wp2
            go_loop [23, 25] (fun z i => ∃ (k : Nat) (s : Int), k ≤ n1 ∧ 0 ≤ s ∧ s ≤ 1048576 ∧ i = .int .i64 k ∧ z = .int .i64 s) (fun _ i => n1 - (intOf i).toNat)
            case atStart => exact ⟨0, _, Nat.zero_le _, by omega, by omega, rfl, rfl⟩
            case round =>
              obtain ⟨k, s2, hk, hs0, hs1, rfl, rfl⟩ := hrel
              by_cases hlt : k < n1
              · obtain ⟨b, off, rfl, hc⟩ := hN1 (by omega)
                obtain ⟨c0, -⟩ := hc k hlt
                have hl : (k : Int) < (n1 : Int) := by omega
                clear hc hN1
                go_wp2
                all_goals first | (go_ret; exact ⟨⟨_, rfl, fun h => by cases h⟩, rfl⟩) | skip
                go_round
                case rel => exact ⟨k + 1, _, by omega, by omega, by omega, by go_num, rfl⟩
                case measure => simp [intOf]; omega
              · have hl : ¬ (k : Int) < (n1 : Int) := by omega
                by_cases hm : m ≤ 1048576
                · have hm' : (m : Int) ≤ 1048576 := by omega
                  by_cases hsm : s2 + m ≤ 1048576
                  · go_wp2
                    go_loop [23, 26] (fun z i => ∃ (k : Nat) (s : Int), k ≤ m ∧ 0 ≤ s ∧ s ≤ 1048576 ∧ i = .int .i64 k ∧ z = .int .i64 s) (fun _ i => m - (intOf i).toNat)
                    case atStart => exact ⟨0, _, Nat.zero_le _, by omega, by omega, rfl, rfl⟩
                    case round =>
                      obtain ⟨k, s3, hk, hs0, hs1, rfl, rfl⟩ := hrel
                      by_cases hlt : k < m
                      · obtain ⟨b, off, rfl, hc⟩ := hS (by omega)
                        have c0 := hc k hlt
                        have hl : (k : Int) < (m : Int) := by omega
                        clear hc hS
                        go_wp2
                        all_goals first | (go_ret; exact ⟨⟨_, rfl, fun h => by cases h⟩, rfl⟩) | skip
                        go_round
                        case rel => exact ⟨k + 1, _, by omega, by omega, by omega, by go_num, rfl⟩
                        case measure => simp [intOf]; omega
                      · have hl : ¬ (k : Int) < (m : Int) := by omega
                        go_wp2
                        all_goals (go_ret; exact ⟨⟨_, rfl, fun _ => ⟨hn0, hn1, hm⟩⟩, rfl⟩)
                  · go_wp2
                    go_ret
                    exact ⟨⟨_, rfl, fun h => by cases h⟩, rfl⟩
                · have hm' : ¬ (m : Int) ≤ 1048576 := by omega
                  go_wp2
                  go_ret
                  exact ⟨⟨_, rfl, fun h => by cases h⟩, rfl⟩
          · go_wp2
            go_ret
            exact ⟨⟨_, rfl, fun h => by cases h⟩, rfl⟩
        · have hn1' : ¬ (n1 : Int) ≤ 1048576 := by omega
          go_wp2
          go_ret
          exact ⟨⟨_, rfl, fun h => by cases h⟩, rfl⟩
  · go_enter Try.func5, Try.ntmps5
    go_wp2
    go_ret
    exact ⟨⟨_, rfl, fun h => by cases h⟩, rfl⟩

set_option maxHeartbeats 1600000 in
theorem bytes12 (a0 a1 am : Option Addr) (n0 c0 n1 c1 m cm : Nat) (nm0 nm1 mem : Nat → ByteArray) (vt0 vt1 : Nat → Int) (h0 h1 : Bool) (k0 k1 : Int) (tb : ByteArray) (w : World) (hN0 : IsN w a0 n0 nm0 vt0) (hN1 : IsN w a1 n1 nm1 vt1) (hS : IsS w am m mem) :
    Calls Try.prog 12 #[.slice a0 n0 c0, .bool h0, .int .i64 k0, .slice a1 n1 c1, .bool h1, .int .i64 k1, .slice am m cm, .string tb] w (SzEnd (Small n0 n1 m) w) := by
  by_cases hn0 : n0 ≤ 1048576
  · go_enter Try.func12, Try.ntmps12
    go_wp2
    go_loop [17, 18] (fun z i => ∃ (k : Nat) (s : Int), k ≤ n0 ∧ 0 ≤ s ∧ s ≤ 1048576 ∧ i = .int .i64 k ∧ z = .int .i64 s) (fun _ i => n0 - (intOf i).toNat)
    case atStart => exact ⟨0, _, Nat.zero_le _, by omega, by omega, rfl, rfl⟩
    case round =>
      obtain ⟨k, s1, hk, hs0, hs1, rfl, rfl⟩ := hrel
      by_cases hlt : k < n0
      · obtain ⟨b, off, rfl, hc⟩ := hN0 (by omega)
        obtain ⟨c0, -⟩ := hc k hlt
        have hl : (k : Int) < (n0 : Int) := by omega
        clear hc hN0
        go_wp2
        all_goals first | (go_ret; exact ⟨⟨_, rfl, fun h => by cases h⟩, rfl⟩) | skip
        go_round
        case rel => exact ⟨k + 1, _, by omega, by omega, by omega, by go_num, rfl⟩
        case measure => simp [intOf]; omega
      · have hl : ¬ (k : Int) < (n0 : Int) := by omega
        by_cases hn1 : n1 ≤ 1048576
        · have hn1' : (n1 : Int) ≤ 1048576 := by omega
          by_cases hs1n : s1 + n1 ≤ 1048576
          · go_wp2
            go_loop [17, 19] (fun z i => ∃ (k : Nat) (s : Int), k ≤ n1 ∧ 0 ≤ s ∧ s ≤ 1048576 ∧ i = .int .i64 k ∧ z = .int .i64 s) (fun _ i => n1 - (intOf i).toNat)
            case atStart => exact ⟨0, _, Nat.zero_le _, by omega, by omega, rfl, rfl⟩
            case round =>
              obtain ⟨k, s2, hk, hs0, hs1, rfl, rfl⟩ := hrel
              by_cases hlt : k < n1
              · obtain ⟨b, off, rfl, hc⟩ := hN1 (by omega)
                obtain ⟨c0, -⟩ := hc k hlt
                have hl : (k : Int) < (n1 : Int) := by omega
                clear hc hN1
                go_wp2
                all_goals first | (go_ret; exact ⟨⟨_, rfl, fun h => by cases h⟩, rfl⟩) | skip
                go_round
                case rel => exact ⟨k + 1, _, by omega, by omega, by omega, by go_num, rfl⟩
                case measure => simp [intOf]; omega
              · have hl : ¬ (k : Int) < (n1 : Int) := by omega
                by_cases hm : m ≤ 1048576
                · have hm' : (m : Int) ≤ 1048576 := by omega
                  by_cases hsm : s2 + m ≤ 1048576
                  · go_wp2
                    go_loop [17, 20] (fun z i => ∃ (k : Nat) (s : Int), k ≤ m ∧ 0 ≤ s ∧ s ≤ 1048576 ∧ i = .int .i64 k ∧ z = .int .i64 s) (fun _ i => m - (intOf i).toNat)
                    case atStart => exact ⟨0, _, Nat.zero_le _, by omega, by omega, rfl, rfl⟩
                    case round =>
                      obtain ⟨k, s3, hk, hs0, hs1, rfl, rfl⟩ := hrel
                      by_cases hlt : k < m
                      · obtain ⟨b, off, rfl, hc⟩ := hS (by omega)
                        have c0 := hc k hlt
                        have hl : (k : Int) < (m : Int) := by omega
                        clear hc hS
                        go_wp2
                        all_goals first | (go_ret; exact ⟨⟨_, rfl, fun h => by cases h⟩, rfl⟩) | skip
                        go_round
                        case rel => exact ⟨k + 1, _, by omega, by omega, by omega, by go_num, rfl⟩
                        case measure => simp [intOf]; omega
                      · have hl : ¬ (k : Int) < (m : Int) := by omega
                        go_wp2
                        all_goals (go_ret; exact ⟨⟨_, rfl, fun _ => ⟨hn0, hn1, hm⟩⟩, rfl⟩)
                  · go_wp2
                    go_ret
                    exact ⟨⟨_, rfl, fun h => by cases h⟩, rfl⟩
                · have hm' : ¬ (m : Int) ≤ 1048576 := by omega
                  go_wp2
                  go_ret
                  exact ⟨⟨_, rfl, fun h => by cases h⟩, rfl⟩
          · go_wp2
            go_ret
            exact ⟨⟨_, rfl, fun h => by cases h⟩, rfl⟩
        · have hn1' : ¬ (n1 : Int) ≤ 1048576 := by omega
          go_wp2
          go_ret
          exact ⟨⟨_, rfl, fun h => by cases h⟩, rfl⟩
  · go_enter Try.func12, Try.ntmps12
    go_wp2
    go_ret
    exact ⟨⟨_, rfl, fun h => by cases h⟩, rfl⟩

end Go.Proofs.Qxb6616541a
