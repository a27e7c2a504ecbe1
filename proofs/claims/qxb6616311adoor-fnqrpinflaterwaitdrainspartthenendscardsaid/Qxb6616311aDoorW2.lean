import Derived.Test.Qxb6616311aDoorProg
import Derived.WalkKit
import Derived.WalkSpells
import Derived.WalkLawsBesides
import Derived.RegionTactic
import Derived.Deep.Draws
namespace Go.Proofs.Qxb6616311aDoor
open Go.RowKit

/-- The slice 'a' of length n reads as the bytes xs. -/
def IsB (w : World) (a : Option Addr) (n : Nat) (xs : List Int) : Prop :=
  xs.length = n ∧ (0 < n → ∃ b off, a = some ⟨b, off, none⟩ ∧ ∀ i, i < n → w.cell? ⟨b, off + i, none⟩ = some (.int .u8 (xs.getD i 0)))

set_option maxHeartbeats 400000 in
theorem eq10_zero (a a' : Option Addr) (c c' : Nat) (w : World) :
    Calls Tryd.prog 10 #[.slice a 0 c, .slice a' 0 c'] w fun e w' => e = .returned (.bool true) ∧ ∃ q, w' = w.drewN q := by
  go_enter Tryd.func10, Tryd.ntmps10
  go_wp2
  refine wp_loop_rounds 1 ?_; rw [rounds_succ]; go_wp2
  go_ret
  exact ⟨rfl, 0, rfl⟩

set_option maxHeartbeats 400000 in
theorem eq10_some (b off n c b' off' c' : Nat) (xs : List Int) (w : World) (hn : n ≤ 1048576)
    (h1 : ∀ i, i < n → w.cell? ⟨b, off + i, none⟩ = some (.int .u8 (xs.getD i 0))) (h2 : ∀ i, i < n → w.cell? ⟨b', off' + i, none⟩ = some (.int .u8 (xs.getD i 0))) :
    Calls Tryd.prog 10 #[.slice (some ⟨b, off, none⟩) n c, .slice (some ⟨b', off', none⟩) n c'] w fun e w' => e = .returned (.bool true) ∧ ∃ q, w' = w.drewN q := by
  go_enter Tryd.func10, Tryd.ntmps10
  go_wp2
  go_loopw [5] (fun i wr => ∃ k : Nat, k ≤ n ∧ i = .int .i64 k ∧ ∃ q, wr = w.drewN q) (fun i _ => n - (intOf i).toNat)
  case atStart => exact ⟨0, Nat.zero_le _, rfl, 0, rfl⟩
  case round =>
    obtain ⟨k, hk, rfl, q, rfl⟩ := hrel
    by_cases hlt : k < n
    · have c1 := h1 k hlt
      have c2 := h2 k hlt
      have hl : (k : Int) < (n : Int) := by omega
      go_wp2
      go_region
      all_goals go_wp2
      go_roundw
      case rel => exact ⟨k + 1, by omega, by go_num, q + 1, rfl⟩
      case measure => simp [intOf]; omega
    · go_wp2
      go_ret
      exact ⟨rfl, q, rfl⟩

theorem eq10 (a a' : Option Addr) (n c c' : Nat) (xs : List Int) (w : World) (hn : n ≤ 1048576) (h1 : IsB w a n xs) (h2 : IsB w a' n xs) :
    Calls Tryd.prog 10 #[.slice a n c, .slice a' n c'] w fun e w' => e = .returned (.bool true) ∧ ∃ q, w' = w.drewN q := by
  by_cases h0 : n = 0
  · subst h0
    exact eq10_zero a a' c c' w
  · obtain ⟨b, off, rfl, g1⟩ := h1.2 (by omega)
    obtain ⟨b', off', rfl, g2⟩ := h2.2 (by omega)
    exact eq10_some b off n c b' off' c' xs w hn g1 g2

end Go.Proofs.Qxb6616311aDoor
