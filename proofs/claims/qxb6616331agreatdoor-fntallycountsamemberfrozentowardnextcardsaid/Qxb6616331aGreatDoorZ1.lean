/-
  THE WALKS of seat b6616331aZD, 1: the sums of sizes (their number does not matter).
-/
import Derived.Test.Qxb6616331aGreatDoorZ0
namespace Go.Proofs.Qxb6616331aGreatDoor
open Go.RowKit
set_option linter.unusedVariables false
set_option linter.unusedSimpArgs false

set_option maxHeartbeats 800000 in
theorem strsBytes28 (t lim : Int) (a : Option Addr) (n c : Nat) (xs : List Str) (w : World) (hn : n ≤ 1048576) (hL : IsL w a n xs) :
    Calls Tryz.prog 28 #[.int .i64 t, .slice a n c, .int .i64 lim] w fun e w' => (∃ r, e = .returned (.int .i64 r)) ∧ w' = w := by
  by_cases h0 : lim < t
  · go_enter Tryz.func28, Tryz.ntmps28
    go_wp2
    go_ret
    exact ⟨⟨_, rfl⟩, rfl⟩
  · go_enter Tryz.func28, Tryz.ntmps28
    go_wp2
    go_loopw [0, 7] (fun v i wr => ∃ (k : Nat) (r : Int), k ≤ n ∧ i = .int .i64 k ∧ v = .int .i64 r ∧ wr = w) (fun _ i _ => n - (intOf i).toNat)
    case atStart => exact ⟨0, _, Nat.zero_le _, rfl, rfl, rfl⟩
    case round =>
      obtain ⟨k, r, hk, rfl, rfl, rfl⟩ := hrel
      by_cases hlt : k < n
      · obtain ⟨b, off, rfl, hc⟩ := hL.row (by omega)
        have c0 := hc k hlt
        have hl : (k : Int) < (n : Int) := by omega
        clear hc hL
        by_cases hr : r ≤ lim
        · go_wp2
          go_roundw
          case rel => exact ⟨k + 1, _, by omega, by go_num, rfl, by trivial⟩
          case measure => simp [intOf]; omega
        · go_wp2
          go_ret
          exact ⟨⟨_, rfl⟩, rfl⟩
      · obtain rfl : n = k := by omega
        go_wp2
        go_ret
        exact ⟨⟨_, rfl⟩, rfl⟩

set_option maxHeartbeats 800000 in
theorem listsBytes29 (t lim : Int) (a : Option Addr) (n c : Nat) (xss : List (List Str)) (w : World) (hn : n ≤ 1048576) (hL : IsLL w a n xss) (hs : ∀ i, i < n → (xss.getD i []).length ≤ 1048576) :
    Calls Tryz.prog 29 #[.int .i64 t, .slice a n c, .int .i64 lim] w fun e w' => (∃ r, e = .returned (.int .i64 r)) ∧ w' = w := by
  by_cases h0 : lim < t
  · go_enter Tryz.func29, Tryz.ntmps29
    go_wp2
    go_ret
    exact ⟨⟨_, rfl⟩, rfl⟩
  · go_enter Tryz.func29, Tryz.ntmps29
    go_wp2
    go_loopw [0, 7] (fun v i wr => ∃ (k : Nat) (r : Int), k ≤ n ∧ i = .int .i64 k ∧ v = .int .i64 r ∧ wr = w) (fun _ i _ => n - (intOf i).toNat)
    case atStart => exact ⟨0, _, Nat.zero_le _, rfl, rfl, rfl⟩
    case round =>
      obtain ⟨k, r, hk, rfl, rfl, rfl⟩ := hrel
      by_cases hlt : k < n
      · obtain ⟨b, off, rfl, hc⟩ := hL.row (by omega)
        obtain ⟨ai, ni, ci, c0, hLi⟩ := hc k hlt
        have hni := hs k hlt
        rw [hLi.len] at hni
        have hl : (k : Int) < (n : Int) := by omega
        clear hc hL hs
        by_cases hr : r ≤ lim
        · go_wp2_with fail
          refine (strsBytes28 _ _ ai ni ci _ _ hni hLi).mono ?_
          rintro e w1 ⟨⟨r2, rfl⟩, rfl⟩
          go_wp2
          go_roundw
          case rel => exact ⟨k + 1, _, by omega, by go_num, rfl, by trivial⟩
          case measure => simp [intOf]; omega
        · go_wp2
          go_ret
          exact ⟨⟨_, rfl⟩, rfl⟩
      · obtain rfl : n = k := by omega
        go_wp2
        go_ret
        exact ⟨⟨_, rfl⟩, rfl⟩

/-- Each list of a view is of at most 2^20 elements. -/
structure Small (V : View) : Prop where
  base : V.base.length ≤ 1048576
  last : V.last.length ≤ 1048576
  changes : V.changes.length ≤ 1048576

set_option maxHeartbeats 800000 in
theorem viewBytes27 (t lim : Int) (v : Value) (V : View) (w : World) (hV : IsV w v V) (hs : Small V) :
    Calls Tryz.prog 27 #[.int .i64 t, v, .int .i64 lim] w fun e w' => (∃ r, e = .returned (.int .i64 r)) ∧ Kept w w' := by
  obtain ⟨ab, nb, cb, al, nl, cl, ac, nc, cc, rfl, h1, h2, h3⟩ := hV.ex
  have n1 := hs.base
  have n2 := hs.last
  have n3 := hs.changes
  rw [h1.len] at n1
  rw [h2.len] at n2
  rw [h3.len] at n3
  go_enter Tryz.func27, Tryz.ntmps27
  go_wp2_with fail
  refine (strsBytes28 _ _ ab nb cb _ _ n1 (h1.kept (Kept.alloc _ _))).mono ?_
  rintro e w1 ⟨⟨r1, rfl⟩, rfl⟩
  go_wp2_with fail
  refine (strsBytes28 _ _ al nl cl _ _ n2 (h2.kept (Kept.alloc _ _))).mono ?_
  rintro e w1 ⟨⟨r2, rfl⟩, rfl⟩
  go_wp2_with fail
  refine (strsBytes28 _ _ ac nc cc _ _ n3 (h3.kept (Kept.alloc _ _))).mono ?_
  rintro e w1 ⟨⟨r3, rfl⟩, rfl⟩
  go_wp2
  go_ret
  exact ⟨⟨_, rfl⟩, Kept.alloc _ _⟩

end Go.Proofs.Qxb6616331aGreatDoor
