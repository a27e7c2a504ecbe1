/-
  THE WALKS of seat b6616541a, 1: the functions that only read: zzHas, zzVotesOf, zzTotal, zzWit, slices.Index, slices.Contains, zzHeld.
-/
import Derived.Test.Qxb6616541aProg
import Derived.Test.Qxb6616541aV0
import Derived.WalkKit
import Derived.WalkSpells
import Derived.WalkLawsBesides
import Derived.Deep.Draws
import Derived.Deep.QuietTactic
import Derived.BigQuiet
namespace Go.Proofs.Qxb6616541a
open Go.RowKit
set_option linter.unusedVariables false
set_option linter.unusedSimpArgs false

/-- A slice of strings reads as mem 0, .., mem (n - 1). -/
def IsS (w : World) (a : Option Addr) (n : Nat) (mem : Nat → ByteArray) : Prop :=
  0 < n → ∃ b off, a = some ⟨b, off, none⟩ ∧ ∀ i, i < n → w.cell? ⟨b, off + i, none⟩ = some (.string (mem i))
/-- A slice of nodes reads as (nm i, vt i). -/
def IsN (w : World) (a : Option Addr) (n : Nat) (nm : Nat → ByteArray) (vt : Nat → Int) : Prop :=
  0 < n → ∃ b off, a = some ⟨b, off, none⟩ ∧ ∀ i, i < n → w.cell? ⟨b, off + i * 2, none⟩ = some (.string (nm i)) ∧ w.cell? ⟨b, off + i * 2 + 1, none⟩ = some (.int .i64 (vt i))

theorem w0 : (0 : Int) = wrap64 0 := by unfold wrap64; omega
theorem ret_bool {a b : Bool} (h : a = b) : Ending.returned (.bool a) = .returned (.bool b) := by rw [h]
theorem ret_int {k : IntKind} {a b : Int} (h : a = b) : Ending.returned (.int k a) = .returned (.int k b) := by rw [h]

set_option maxHeartbeats 400000 in
theorem has10 (a : Option Addr) (n c : Nat) (mem : Nat → ByteArray) (s : ByteArray) (w : World) (hn : n ≤ 1048577) (h : IsS w a n mem) :
    Calls Try.prog 10 #[.slice a n c, .string s] w fun e w' => e = .returned (.bool (hasTo mem n s)) ∧ w' = w := by
  by_cases h0 : n = 0
  · subst h0
    go_enter Try.func10, Try.ntmps10
    go_wp2
    refine wp_loop_rounds 1 ?_; rw [rounds_succ]; go_wp2
    go_ret
    exact ⟨rfl, rfl⟩
  · obtain ⟨b, off, rfl, hc⟩ := h (by omega)
    go_enter Try.func10, Try.ntmps10
    go_wp2
    go_loop [5] (fun i => ∃ k : Nat, k ≤ n ∧ i = .int .i64 k ∧ hasTo mem k s = false) (fun i => n - (intOf i).toNat)
    case atStart => exact ⟨0, Nat.zero_le _, rfl, rfl⟩
    case round =>
      obtain ⟨k, hk, rfl, hno⟩ := hrel
      have HN : Hid (hasTo mem k s = false) := hno
      clear hno
      by_cases hlt : k < n
      · have c0 := hc k hlt
        have hl : (k : Int) < (n : Int) := by omega
        clear hc
        go_wp2
        · have he : ((mem k).toList == s.toList) = true := by assumption
          go_ret
          exact ⟨ret_bool ((hasTo_iff mem s n).2 ⟨k, hlt, he⟩).symm, rfl⟩
        · have he : ((mem k).toList == s.toList) = false := by assumption
          go_round
          case rel => exact ⟨k + 1, by omega, by go_num, by simp only [hasTo, HN.out, Bool.false_or]; exact he⟩
          case measure => simp [intOf]; omega
      · obtain rfl : k = n := by omega
        go_wp2
        go_ret
        exact ⟨ret_bool HN.out.symm, rfl⟩

set_option maxHeartbeats 400000 in
theorem votesOf11 (a : Option Addr) (n c : Nat) (nm : Nat → ByteArray) (vt : Nat → Int) (s : ByteArray) (w : World) (hn : n ≤ 1048576) (h : IsN w a n nm vt) :
    Calls Try.prog 11 #[.slice a n c, .string s] w fun e w' => e = .returned (.int .i64 (wrap64 (votesOf nm vt n s))) ∧ w' = w := by
  by_cases h0 : n = 0
  · subst h0
    go_enter Try.func11, Try.ntmps11
    go_wp2
    refine wp_loop_rounds 1 ?_; rw [rounds_succ]; go_wp2
    go_ret
    exact ⟨ret_int w0, rfl⟩
  · obtain ⟨b, off, rfl, hc⟩ := h (by omega)
    go_enter Try.func11, Try.ntmps11
    go_wp2
    go_loop [5, 6] (fun v i => ∃ k : Nat, k ≤ n ∧ i = .int .i64 k ∧ v = .int .i64 (wrap64 (votesOf nm vt k s))) (fun _ i => n - (intOf i).toNat)
    case atStart => exact ⟨0, Nat.zero_le _, rfl, congrArg (Value.int .i64) w0⟩
    case round =>
      obtain ⟨k, hk, rfl, rfl⟩ := hrel
      obtain ⟨u, hu⟩ : ∃ u, u = wrap64 (votesOf nm vt k s) := ⟨_, rfl⟩
      rw [← hu]
      have HU : Hid (u = wrap64 (votesOf nm vt k s)) := hu
      clear hu
      by_cases hlt : k < n
      · obtain ⟨c0, c1⟩ := hc k hlt
        have hl : (k : Int) < (n : Int) := by omega
        clear hc
        go_wp2
        · have he : ((nm k).toList == s.toList) = true := by assumption
          go_round
          case rel => exact ⟨k + 1, by omega, by go_num, by rw [HU.out, wrap_left]; simp only [votesOf, sumTo]; rw [if_pos (show sEq (nm k) s = true from he)]⟩
          case measure => simp [intOf]; omega
        · have he : ((nm k).toList == s.toList) = false := by assumption
          go_round
          case rel => exact ⟨k + 1, by omega, by go_num, by rw [HU.out]; simp only [votesOf, sumTo]; rw [if_neg (by unfold sEq; rw [he]; simp), Int.add_zero]⟩
          case measure => simp [intOf]; omega
      · obtain rfl : k = n := by omega
        go_wp2
        go_ret
        exact ⟨ret_int HU.out, rfl⟩

set_option maxHeartbeats 400000 in
theorem total19 (a : Option Addr) (n c : Nat) (nm : Nat → ByteArray) (vt : Nat → Int) (w : World) (hn : n ≤ 1048576) (h : IsN w a n nm vt) :
    Calls Try.prog 19 #[.slice a n c] w fun e w' => e = .returned (.int .i64 (wrap64 (sumTo vt n))) ∧ w' = w := by
  by_cases h0 : n = 0
  · subst h0
    go_enter Try.func19, Try.ntmps19
    go_wp2
    refine wp_loop_rounds 1 ?_; rw [rounds_succ]; go_wp2
    go_ret
    exact ⟨ret_int w0, rfl⟩
  · obtain ⟨b, off, rfl, hc⟩ := h (by omega)
    go_enter Try.func19, Try.ntmps19
    go_wp2
    go_loop [3, 4] (fun v i => ∃ k : Nat, k ≤ n ∧ i = .int .i64 k ∧ v = .int .i64 (wrap64 (sumTo vt k))) (fun _ i => n - (intOf i).toNat)
    case atStart => exact ⟨0, Nat.zero_le _, rfl, congrArg (Value.int .i64) w0⟩
    case round =>
      obtain ⟨k, hk, rfl, rfl⟩ := hrel
      obtain ⟨u, hu⟩ : ∃ u, u = wrap64 (sumTo vt k) := ⟨_, rfl⟩
      rw [← hu]
      have HU : Hid (u = wrap64 (sumTo vt k)) := hu
      clear hu
      by_cases hlt : k < n
      · obtain ⟨c0, c1⟩ := hc k hlt
        have hl : (k : Int) < (n : Int) := by omega
        clear hc
        go_wp2
        go_round
        case rel => exact ⟨k + 1, by omega, by go_num, by rw [HU.out, wrap_left]; rfl⟩
        case measure => simp [intOf]; omega
      · obtain rfl : k = n := by omega
        go_wp2
        go_ret
        exact ⟨ret_int HU.out, rfl⟩

/-- The witness's votes. -/
def witOf (has : Bool) (n : Int) : Int := if has then n else 0

set_option maxHeartbeats 400000 in
theorem wit13 (has : Bool) (k : Int) (w : World) :
    Calls Try.prog 13 #[.bool has, .int .i64 k] w fun e w' => e = .returned (.int .i64 (witOf has k)) ∧ w' = w := by
  cases has
  all_goals
    go_enter Try.func13, Try.ntmps13
    go_wp2
    go_ret
    exact ⟨rfl, rfl⟩

/-- Where s is first met among the first n; -1 where it is not. -/
def idxTo (mem : Nat → ByteArray) (s : ByteArray) (n : Nat) (r : Int) : Prop := (hasTo mem n s = true ∧ 0 ≤ r) ∨ (hasTo mem n s = false ∧ r = -1)

set_option maxHeartbeats 400000 in
theorem index25 (a : Option Addr) (n c : Nat) (mem : Nat → ByteArray) (s : ByteArray) (w : World) (hn : n ≤ 1048577) (h : IsS w a n mem) :
    Calls Try.prog 25 #[.slice a n c, .string s] w fun e w' => (∃ r, e = .returned (.int .i64 r) ∧ idxTo mem s n r) ∧ w' = w := by
  by_cases h0 : n = 0
  · subst h0
    go_enter Try.func25, Try.ntmps25
    go_wp2
    refine wp_loop_rounds 1 ?_; rw [rounds_succ]; go_wp2
    go_ret
    exact ⟨⟨-1, rfl, .inr ⟨rfl, rfl⟩⟩, rfl⟩
  · obtain ⟨b, off, rfl, hc⟩ := h (by omega)
    go_enter Try.func25, Try.ntmps25
    go_wp2
    go_loop [8] (fun i => ∃ k : Nat, k ≤ n ∧ i = .int .i64 k ∧ hasTo mem k s = false) (fun i => n - (intOf i).toNat)
    case atStart => exact ⟨0, Nat.zero_le _, rfl, rfl⟩
    case round =>
      obtain ⟨k, hk, rfl, hno⟩ := hrel
      have HN : Hid (hasTo mem k s = false) := hno
      clear hno
      by_cases hlt : k < n
      · have c0 := hc k hlt
        have hl : (k : Int) < (n : Int) := by omega
        clear hc
        go_wp2
        · have he : (s.toList == (mem k).toList) = true := by assumption
          go_ret
          exact ⟨⟨k, rfl, .inl ⟨(hasTo_iff mem s n).2 ⟨k, hlt, by rw [sEq_comm]; exact he⟩, by omega⟩⟩, rfl⟩
        · have he : (s.toList == (mem k).toList) = false := by assumption
          go_round
          case rel => exact ⟨k + 1, by omega, by go_num, by simp only [hasTo, HN.out, Bool.false_or]; rw [sEq_comm]; exact he⟩
          case measure => simp [intOf]; omega
      · obtain rfl : k = n := by omega
        go_wp2
        go_ret
        exact ⟨⟨-1, rfl, .inr ⟨HN.out, rfl⟩⟩, rfl⟩

set_option maxHeartbeats 400000 in
theorem contains24 (a : Option Addr) (n c : Nat) (mem : Nat → ByteArray) (s : ByteArray) (w : World) (hn : n ≤ 1048577) (h : IsS w a n mem) :
    Calls Try.prog 24 #[.slice a n c, .string s] w fun e w' => e = .returned (.bool (hasTo mem n s)) ∧ w' = w := by
  go_enter Try.func24, Try.ntmps24
  go_wp2_with fail
  refine (index25 a n c mem s _ hn h).mono ?_
  rintro e w ⟨⟨r, rfl, hr⟩, rfl⟩
  rcases hr with ⟨hb, hr⟩ | ⟨hb, hr⟩
  · have HB : Hid (hasTo mem n s = true) := hb
    clear hb
    go_wp2
    go_ret
    exact ⟨ret_bool (by rw [HB.out]), rfl⟩
  · have HB : Hid (hasTo mem n s = false) := hb
    clear hb
    subst hr
    go_wp2
    go_ret
    exact ⟨ret_bool (by rw [HB.out]), rfl⟩

end Go.Proofs.Qxb6616541a
