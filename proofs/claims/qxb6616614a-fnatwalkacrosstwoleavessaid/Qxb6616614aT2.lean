/-
  THE WALKS of seat b6616614a, 2: Time.Sub against the zero time; ZZtime, ZZns.
-/
import Derived.Test.Qxb6616614aT1
namespace Go.Proofs.Qxb6616614a
open Go.RowKit
set_option linter.unusedVariables false
set_option linter.unusedSimpArgs false

theorem and_right_zero (n : Int) (h0 : 0 ≤ n) (h1 : n < 1073741824) : bits .and .u64 n 0 = 0 := by
  rw [u64_and n _ h0 (by omega) (by omega) (by omega)]
  simp

theorem back (d : Int) (h0 : -9223372036854775808 ≤ d) (h1 : d ≤ 9223372036854775807) : wrap64 (wrap64 (d / 1000000000 * 1000000000) + d % 1000000000) = d := by
  unfold wrap64
  omega

theorem Kept.tm {w w' : World} (h : Kept w w') {b : Nat} {n s : Int} (hb : w.heap[b]? = some (.cells #[.int .u64 n, .int .i64 s, .pointer none] 45 (0, 0))) :
    w'.cell? ⟨b, 0, none⟩ = some (.int .u64 n) ∧ w'.cell? ⟨b, 1, none⟩ = some (.int .i64 s) ∧ w'.cell? ⟨b, 2, none⟩ = some (.pointer none) := by
  have := h.blk hb
  refine ⟨?_, ?_, ?_⟩ <;> simp [World.cell?, this]

theorem add21' (d n s : Int) (w : World) (h0 : -9223372036854775808 ≤ d) (h1 : d ≤ 9223372036854775807) (hn : n = d % 1000000000) (hs : s = d / 1000000000) :
    Calls Try.prog 21 #[.agg #[.int .u64 0, .int .i64 0, .pointer none], .int .i64 d] w fun e w' => e = .returned (.agg #[.int .u64 n, .int .i64 s, .pointer none]) ∧ Kept w w' := by
  subst hn; subst hs
  exact add21 d w h0 h1

set_option maxHeartbeats 1600000 in
theorem sub22_in (d n s : Int) (w : World) (h0 : -9223372036854775808 ≤ d) (h1 : d ≤ 9223372036854775807) (hn : Hid (n = d % 1000000000)) (hs : Hid (s = d / 1000000000)) (n0 : 0 ≤ n) (n1 : n < 1000000000) (s0 : -9223372037 ≤ s) (s1 : s ≤ 9223372036)
    (hd : wrap64 (wrap64 (s * 1000000000) + n) = d) :
    Calls Try.prog 22 #[tmV n s, tmV 0 0] w fun e w' => e = .returned (.int .i64 d) ∧ Kept w w' := by
  have ha := and_right_zero n n0 (by omega)
  have hz := and_top 0 (by omega) (by omega)
  unfold tmV
  go_enter Try.func22, Try.ntmps22
  go_wp2_with (first | (go_at_call_of 24 (Value.pointer (some ⟨w.heap.size, 0, none⟩)); refine (nsec24 _ n _ (by omega) (by omega) (by simp)).mono ?_; rintro e w' ⟨rfl, rfl⟩) | (go_at_call_of 28 (Value.pointer (some ⟨w.heap.size, 0, none⟩)); refine (sec28 _ n s _ (by omega) (by omega) (by simp) (by simp)).mono ?_; rintro e w' ⟨rfl, rfl⟩) | (go_at_call 24; refine (nsec24 _ 0 _ (by omega) (by omega) (by simp)).mono ?_; rintro e w' ⟨rfl, rfl⟩) | (go_at_call 28; refine (sec28 _ 0 0 _ (by omega) (by omega) (by simp) (by simp)).mono ?_; rintro e w' ⟨rfl, rfl⟩))
  rw [hd]
  have HT : Hid (((w.alloc (.cells #[.int .u64 n, .int .i64 s, .pointer none] 45)).alloc (.cells #[.int .u64 0, .int .i64 0, .pointer none] 45)).heap[w.heap.size]? = some (.cells #[.int .u64 n, .int .i64 s, .pointer none] 45 (0, 0))) :=
    (Below.heap_alloc _ _ _ (by simp)).trans (heap_alloc_new w _)
  clear hd
  go_region_with (first | (go_at_call 21; refine (add21' d n s _ h0 h1 hn.out hs.out).mono ?_; rintro e w1 ⟨rfl, q1⟩; obtain ⟨x0, x1, x2⟩ := q1.tm (by exact HT.out)) | (go_at_call 29; refine (equal29 n s _ n0 n1).mono ?_; rintro e w2 ⟨rfl, q2⟩))
  all_goals go_wp2
  all_goals go_ret
  all_goals exact ⟨rfl, ((((Kept.alloc _ _).more _).trans (Kept.drew _)).trans q1).trans q2⟩

theorem sub22 (d : Int) (w : World) (h0 : -9223372036854775808 ≤ d) (h1 : d ≤ 9223372036854775807) :
    Calls Try.prog 22 #[tmOf d, .agg #[.int .u64 0, .int .i64 0, .pointer none]] w fun e w' => e = .returned (.int .i64 d) ∧ Kept w w' :=
  sub22_in d (d % 1000000000) (d / 1000000000) w h0 h1 rfl rfl (by omega) (by omega) (by omega) (by omega) (back d h0 h1)

set_option maxHeartbeats 400000 in
theorem ns19 (d : Int) (w : World) (h0 : -9223372036854775808 ≤ d) (h1 : d ≤ 9223372036854775807) :
    Calls Try.prog 19 #[tmOf d] w fun e w' => e = .returned (.int .i64 d) ∧ Kept w w' := by
  have H : Hid (∀ w, Calls Try.prog 22 #[tmOf d, .agg #[.int .u64 0, .int .i64 0, .pointer none]] w fun e w' => e = .returned (.int .i64 d) ∧ Kept w w') := fun w => sub22 d w h0 h1
  unfold tmOf tmV at H ⊢
  go_enter Try.func19, Try.ntmps19
  go_wp2_with (go_at_call 22; refine (H.out _).mono ?_; rintro e w1 ⟨rfl, q1⟩)
  go_ret
  exact ⟨rfl, (Kept.alloc _ _).trans q1⟩

set_option maxHeartbeats 400000 in
theorem time17 (d : Int) (w : World) (h0 : -9223372036854775808 ≤ d) (h1 : d ≤ 9223372036854775807) :
    Calls Try.prog 17 #[.int .i64 d] w fun e w' => e = .returned (tmOf d) ∧ Kept w w' := by
  obtain ⟨n, hn⟩ : ∃ n, n = d % 1000000000 := ⟨_, rfl⟩
  obtain ⟨s, hs⟩ : ∃ s, s = d / 1000000000 := ⟨_, rfl⟩
  have ht : tmOf d = .agg #[.int .u64 n, .int .i64 s, .pointer none] := by rw [hn, hs]; rfl
  have HN : Hid (n = d % 1000000000) := hn
  have HS : Hid (s = d / 1000000000) := hs
  clear hn hs
  rw [ht]
  clear ht
  go_enter Try.func17, Try.ntmps17
  go_wp2_with fail
  refine (add21' d n s _ h0 h1 HN.out HS.out).mono ?_
  rintro e w1 ⟨rfl, q1⟩
  have hb : w1.heap[w.heap.size]? = some (.cells #[.int .u64 0, .int .i64 0, .pointer none] 45 (0, 0)) := q1.blk (heap_alloc_new w _)
  obtain ⟨x0, x1, x2⟩ := (Kept.refl w1).tm hb
  have f0 : ∀ j, w1.frozen? ⟨w.heap.size, j, none⟩ = false := fun j => by simp [World.frozen?, hb]
  have f0' := f0 0
  have f1' := f0 1
  have f2' := f0 2
  clear f0
  go_wp2_with fail
  refine bodyPost_ret (v := .agg #[.int .u64 n, .int .i64 s, .pointer none]) (by simp [results, Try.results17, go_sem, x0, x1, x2]) rfl ⟨rfl, ?_⟩
  exact (((((Kept.alloc _ _).trans q1).setNew _ (Nat.le_refl _) _).setNew _ (Nat.le_refl _) _).setNew _ (Nat.le_refl _) _)

end Go.Proofs.Qxb6616614a
