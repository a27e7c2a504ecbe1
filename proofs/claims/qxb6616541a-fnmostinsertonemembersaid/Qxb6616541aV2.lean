/-
  THE WALKS of seat b6616541a, 2: zzHeld; the two size guards.
-/
import Derived.Test.Qxb6616541aV1
namespace Go.Proofs.Qxb6616541a
open Go.RowKit
set_option linter.unusedVariables false
set_option linter.unusedSimpArgs false

theorem IsS.sub {w : World} {b off n k : Nat} {mem : Nat → ByteArray} (hc : ∀ i, i < n → w.cell? ⟨b, off + i, none⟩ = some (.string (mem i))) (hk : k ≤ n) (q : Nat) : IsS (w.drewN q) (some ⟨b, off, none⟩) k mem :=
  fun _ => ⟨b, off, rfl, fun i hi => hc i (by omega)⟩

set_option maxHeartbeats 800000 in
theorem held20 (a a' : Option Addr) (n c m c' : Nat) (nm : Nat → ByteArray) (vt : Nat → Int) (mem : Nat → ByteArray) (w : World) (hn : n ≤ 1048576) (hm : m ≤ 1048576) (hN : IsN w a n nm vt) (hS : IsS w a' m mem) (hmc : m ≤ c') :
    Calls Try.prog 20 #[.slice a n c, .slice a' m c'] w fun e w' => e = .returned (.int .i64 (wrap64 (held nm vt n mem m))) ∧ ∃ q, w' = w.drewN q := by
  by_cases h0 : m = 0
  · subst h0
    go_enter Try.func20, Try.ntmps20
    go_wp2
    refine wp_loop_rounds 1 ?_; rw [rounds_succ]; go_wp2
    go_ret
    exact ⟨ret_int (by rw [← heldBy_eq]; exact w0), 0, rfl⟩
  · obtain ⟨b, off, rfl, hc⟩ := hS (by omega)
    go_enter Try.func20, Try.ntmps20
    go_wp2
    go_loopw [5, 6] (fun v i wr => ∃ k : Nat, k ≤ m ∧ i = .int .i64 k ∧ v = .int .i64 (wrap64 (heldBy nm vt n mem k)) ∧ ∃ q, wr = w.drewN q) (fun _ i _ => m - (intOf i).toNat)
    case atStart => exact ⟨0, Nat.zero_le _, rfl, congrArg (Value.int .i64) w0, 0, rfl⟩
    case round =>
      obtain ⟨k, hk, rfl, rfl, q, rfl⟩ := hrel
      obtain ⟨u, hu⟩ : ∃ u, u = wrap64 (heldBy nm vt n mem k) := ⟨_, rfl⟩
      rw [← hu]
      have HU : Hid (u = wrap64 (heldBy nm vt n mem k)) := hu
      clear hu
      by_cases hlt : k < m
      · have c0 := hc k hlt
        have hl : (k : Int) < (m : Int) := by omega
        have hkc : (k : Int) ≤ (c' : Int) := by omega
        have HS : Hid (∀ q, IsS (w.drewN q) (some ⟨b, off, none⟩) k mem) := fun q => IsS.sub hc (by omega) q
        have HN : Hid (∀ q, IsN (w.drewN q) a n nm vt) := fun q => hN
        clear hc hS hN
        go_wp2
        go_quiet ((go_at_call 10; exact (has10 _ k _ mem _ _ (by omega) (HS.out _)).mono (fun _ _ ⟨he, hw⟩ => ⟨he, _, hw⟩)))
        go_wp2_with (go_at_call 11; refine (votesOf11 a n c nm vt _ _ hn (HN.out _)).mono ?_; rintro e w' ⟨rfl, rfl⟩)
        · have hh : hasTo mem k (mem k) = true := by assumption
          go_roundw
          case rel => exact ⟨k + 1, by omega, by go_num, by rw [HU.out]; simp only [heldBy, sumTo]; rw [if_pos hh, Int.add_zero], _, rfl⟩
          case measure => simp [intOf]; omega
        · have hh : ¬ hasTo mem k (mem k) = true := by rw [show hasTo mem k (mem k) = false by assumption]; simp
          go_roundw
          case rel => exact ⟨k + 1, by omega, by go_num, by rw [HU.out, wrap_left, wrap_right]; simp only [heldBy, sumTo]; rw [if_neg hh], _, rfl⟩
          case measure => simp [intOf]; omega
      · obtain rfl : k = m := by omega
        go_wp2
        go_ret
        exact ⟨ret_int (by rw [← heldBy_eq]; exact HU.out), _, rfl⟩

end Go.Proofs.Qxb6616541a
