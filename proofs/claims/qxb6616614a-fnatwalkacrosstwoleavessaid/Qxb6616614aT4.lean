/-
  THE WALKS of seat b6616614a, 4: node.span, ZZspan.
-/
import Derived.Test.Qxb6616614aT3
import Derived.BigRegion
namespace Go.Proofs.Qxb6616614a
open Go.RowKit
set_option linter.unusedVariables false
set_option linter.unusedSimpArgs false

set_option maxHeartbeats 1600000 in
theorem span18_leaf (nb eb n : Nat) (N0 S0 N1 S1 : Int) (w : World) (hn : n ≤ 131072) (hn0 : 0 < n)
    (h0 : w.cell? ⟨nb, 0, none⟩ = some (.slice (some ⟨eb, 0, none⟩) n n)) (h2 : w.cell? ⟨nb, 2, none⟩ = some (.slice none 0 0))
    (a0 : w.cell? ⟨eb, 0, none⟩ = some (.int .u64 N0)) (a1 : w.cell? ⟨eb, 1, none⟩ = some (.int .i64 S0)) (a2 : w.cell? ⟨eb, 2, none⟩ = some (.pointer none))
    (b0 : w.cell? ⟨eb, (n - 1) * 5, none⟩ = some (.int .u64 N1)) (b1 : w.cell? ⟨eb, (n - 1) * 5 + 1, none⟩ = some (.int .i64 S1)) (b2 : w.cell? ⟨eb, (n - 1) * 5 + 2, none⟩ = some (.pointer none)) :
    Calls Try.prog 18 #[.pointer (some ⟨nb, 0, none⟩)] w fun e w' => e = .returned (.tuple #[.agg #[.int .u64 N0, .int .i64 S0, .pointer none], .agg #[.int .u64 N1, .int .i64 S1, .pointer none]]) ∧ Kept w w' := by
  have hq := fun w => Lib.run_eql_slice_nil (P := Try.prog) w 52 62 none 0 0 0 0 Try.underlying52
  have hnb : nb < w.heap.size := World.block_lt_of_cell? w _ h0
  have heb : eb < w.heap.size := World.block_lt_of_cell? w _ a0
  obtain ⟨m, rfl⟩ : ∃ m, n = m + 1 := ⟨n - 1, by omega⟩
  rw [Nat.add_sub_cancel] at b0 b1 b2
  have hl0 : (0 : Int) < (m : Int) + 1 := by omega
  have hl1 : (m : Int) < (m : Int) + 1 := by omega
  go_enter Try.func18, Try.ntmps18
  go_wp2
  go_region
  go_wp2
  refine bodyPost_ret (v := .tuple #[.agg #[.int .u64 N0, .int .i64 S0, .pointer none], .agg #[.int .u64 N1, .int .i64 S1, .pointer none]]) (by simp [results, Try.results18, go_sem]) rfl ⟨rfl, ?_⟩
  exact ((Kept.alloc _ _).more _).trans (Kept.drew _)

set_option maxHeartbeats 1600000 in
theorem span18_top (nb bb : Nat) (N0 S0 N1 S1 : Int) (w : World)
    (h2 : w.cell? ⟨nb, 2, none⟩ = some (.slice (some ⟨bb, 0, none⟩) 2 2))
    (a0 : w.cell? ⟨bb, 1, none⟩ = some (.int .u64 N0)) (a1 : w.cell? ⟨bb, 2, none⟩ = some (.int .i64 S0)) (a2 : w.cell? ⟨bb, 3, none⟩ = some (.pointer none))
    (b0 : w.cell? ⟨bb, 14, none⟩ = some (.int .u64 N1)) (b1 : w.cell? ⟨bb, 15, none⟩ = some (.int .i64 S1)) (b2 : w.cell? ⟨bb, 16, none⟩ = some (.pointer none)) :
    Calls Try.prog 18 #[.pointer (some ⟨nb, 0, none⟩)] w fun e w' => e = .returned (.tuple #[.agg #[.int .u64 N0, .int .i64 S0, .pointer none], .agg #[.int .u64 N1, .int .i64 S1, .pointer none]]) ∧ Kept w w' := by
  have hq := fun w => Lib.run_eql_slice_nil (P := Try.prog) w 52 62 (some ⟨bb, 0, none⟩) 2 2 0 0 Try.underlying52
  have hnb : nb < w.heap.size := World.block_lt_of_cell? w _ h2
  have heb : bb < w.heap.size := World.block_lt_of_cell? w _ a0
  go_enter Try.func18, Try.ntmps18
  go_wp2
  go_region
  go_wp2
  refine bodyPost_ret (v := .tuple #[.agg #[.int .u64 N0, .int .i64 S0, .pointer none], .agg #[.int .u64 N1, .int .i64 S1, .pointer none]]) (by simp [results, Try.results18, go_sem]) rfl ⟨rfl, ?_⟩
  exact ((Kept.alloc _ _).more _).trans (Kept.drew _)

set_option maxHeartbeats 1600000 in
theorem zspan11_in (nb : Nat) (d d' N0 S0 N1 S1 : Int) (w : World) (h0 : -9223372036854775808 ≤ d) (h1 : d ≤ 9223372036854775807) (h0' : -9223372036854775808 ≤ d') (h1' : d' ≤ 9223372036854775807)
    (hN0 : Hid (N0 = d % 1000000000)) (hS0 : Hid (S0 = d / 1000000000)) (hN1 : Hid (N1 = d' % 1000000000)) (hS1 : Hid (S1 = d' / 1000000000))
    (hsp : Hid (Calls Try.prog 18 #[.pointer (some ⟨nb, 0, none⟩)] w fun e w' => e = .returned (.tuple #[.agg #[.int .u64 N0, .int .i64 S0, .pointer none], .agg #[.int .u64 N1, .int .i64 S1, .pointer none]]) ∧ Kept w w')) :
    Calls Try.prog 11 #[.pointer (some ⟨nb, 0, none⟩)] w fun e w' => e = .returned (.tuple #[.int .i64 d, .int .i64 d']) ∧ Kept w w' := by
  have H1 : Hid (∀ w, Calls Try.prog 19 #[.agg #[.int .u64 N0, .int .i64 S0, .pointer none]] w fun e w' => e = .returned (.int .i64 d) ∧ Kept w w') := fun w => by rw [hN0.out, hS0.out]; exact ns19 d w h0 h1
  have H2 : Hid (∀ w, Calls Try.prog 19 #[.agg #[.int .u64 N1, .int .i64 S1, .pointer none]] w fun e w' => e = .returned (.int .i64 d') ∧ Kept w w') := fun w => by rw [hN1.out, hS1.out]; exact ns19 d' w h0' h1'
  go_enter Try.func11, Try.ntmps11
  go_wp2_with fail
  refine hsp.out.mono ?_
  rintro e w1 ⟨rfl, q1⟩
  have T1 : Hid (((w1.alloc (.cells #[.int .u64 N0, .int .i64 S0, .pointer none] 45)).alloc (.cells #[.int .u64 N1, .int .i64 S1, .pointer none] 45)).heap[w1.heap.size]? = some (.cells #[.int .u64 N0, .int .i64 S0, .pointer none] 45 (0, 0))) :=
    (Below.heap_alloc _ _ _ (by simp)).trans (heap_alloc_new w1 _)
  have T2 : Hid (((w1.alloc (.cells #[.int .u64 N0, .int .i64 S0, .pointer none] 45)).alloc (.cells #[.int .u64 N1, .int .i64 S1, .pointer none] 45)).heap[w1.heap.size + 1]? = some (.cells #[.int .u64 N1, .int .i64 S1, .pointer none] 45 (0, 0))) := by
    have := heap_alloc_new (w1.alloc (.cells #[.int .u64 N0, .int .i64 S0, .pointer none] 45)) (.cells #[.int .u64 N1, .int .i64 S1, .pointer none] 45)
    rwa [World.size_alloc] at this
  go_wp2_with fail
  go_region_with (first | (go_at_call_of 19 (Value.int IntKind.u64 N0); refine (H1.out _).mono ?_; rintro e w2 ⟨rfl, q2⟩; obtain ⟨y0, y1, y2⟩ := q2.tm (by exact T2.out)) | (go_at_call_of 19 (Value.int IntKind.u64 N1); refine (H2.out _).mono ?_; rintro e w3 ⟨rfl, q3⟩))
  all_goals go_wp2_with fail
  all_goals go_ret2
  all_goals exact ⟨rfl, ((((q1.more _).more _).trans (Kept.drew _)).trans q2).trans q3⟩

/-- ZZspan of a leaf: its first and its last time. -/
theorem zspan11_leaf (nb n : Nat) (ts : Nat → Int) (w : World) (hn : n ≤ 131072) (hn0 : 0 < n) (h : IsLeaf w nb n ts) (lo : ∀ i, i < n → -9223372036854775808 ≤ ts i) (hi : ∀ i, i < n → ts i ≤ 9223372036854775807) :
    Calls Try.prog 11 #[.pointer (some ⟨nb, 0, none⟩)] w fun e w' => e = .returned (.tuple #[.int .i64 (ts 0), .int .i64 (ts (n - 1))]) ∧ Kept w w' := by
  obtain ⟨eb, h0, hE⟩ := h.es
  have x0 := hE.c0 0 hn0
  have x1 := hE.c1 0 hn0
  have y0 := hE.c0 (n - 1) (by omega)
  have y1 := hE.c1 (n - 1) (by omega)
  rw [if_pos hn0] at x0 x1
  rw [if_pos (by omega)] at y0 y1
  refine zspan11_in nb (ts 0) (ts (n - 1)) _ _ _ _ w (lo 0 hn0) (hi 0 hn0) (lo _ (by omega)) (hi _ (by omega)) rfl rfl rfl rfl ?_
  exact span18_leaf nb eb n _ _ _ _ w hn hn0 h0 h.br (by simpa using x0) (by simpa using x1) (by simpa using hE.c2 0 hn0) y0 y1 (hE.c2 (n - 1) (by omega))

end Go.Proofs.Qxb6616614a
