/-
  THE WALKS of seat b6616614a, 9: ZZcursor2, cursor.at, ZZat.
-/
import Derived.Test.Qxb6616614aT7
import Derived.BigRegion
namespace Go.Proofs.Qxb6616614a
open Go.RowKit
set_option linter.unusedVariables false
set_option linter.unusedSimpArgs false
set_option maxRecDepth 40000

/-- Block cb is a cursor of two places, the lower at index i of leaf l. -/
structure IsCur (w : World) (cb l : Nat) (i : Int) : Prop where
  ex : ∃ pb, w.cell? ⟨cb, 0, none⟩ = some (.slice (some ⟨pb, 0, none⟩) 2 2) ∧ w.cell? ⟨pb, 2, none⟩ = some (.pointer (some ⟨l, 0, none⟩)) ∧ w.cell? ⟨pb, 3, none⟩ = some (.int .i64 i)

set_option maxHeartbeats 1600000 in
theorem cursor16 (t l : Nat) (b i : Int) (w : World) :
    Calls Try.prog 16 #[.pointer (some ⟨t, 0, none⟩), .int .i64 b, .pointer (some ⟨l, 0, none⟩), .int .i64 i] w fun e w' => ∃ cb, e = .returned (.pointer (some ⟨cb, 0, none⟩)) ∧ IsCur w' cb l i ∧ Kept w w' := by
  go_enter Try.func16, Try.ntmps16
  go_wp2
  go_ret
  refine ⟨w.heap.size + 1, rfl, ⟨w.heap.size, ?_, ?_, ?_⟩, (Kept.alloc _ _).more _⟩
  all_goals simp

set_option maxHeartbeats 3200000 in
theorem at20_in (cb pb l eb n i : Nat) (N S : Int) (w : World) (hn : n ≤ 131072) (hi : i < n)
    (h0 : w.cell? ⟨cb, 0, none⟩ = some (.slice (some ⟨pb, 0, none⟩) 2 2)) (h1 : w.cell? ⟨pb, 2, none⟩ = some (.pointer (some ⟨l, 0, none⟩))) (h2 : w.cell? ⟨pb, 3, none⟩ = some (.int .i64 (i : Int)))
    (h3 : w.cell? ⟨l, 0, none⟩ = some (.slice (some ⟨eb, 0, none⟩) n n))
    (a0 : w.cell? ⟨eb, i * 5, none⟩ = some (.int .u64 N)) (a1 : w.cell? ⟨eb, i * 5 + 1, none⟩ = some (.int .i64 S)) (a2 : w.cell? ⟨eb, i * 5 + 2, none⟩ = some (.pointer none))
    (a3 : w.cell? ⟨eb, i * 5 + 3, none⟩ = some (.int .i64 0)) (a4 : w.cell? ⟨eb, i * 5 + 4, none⟩ = some (.pointer none)) :
    Calls Try.prog 20 #[.pointer (some ⟨cb, 0, none⟩)] w fun e w' => e = .returned (.tuple #[.agg #[.int .u64 N, .int .i64 S, .pointer none, .int .i64 0, .pointer none], .pointer (some ⟨l, 0, none⟩), .int .i64 (i : Int)]) ∧ Kept w w' := by
  have l0 : cb < w.heap.size := World.block_lt_of_cell? w _ h0
  have l1 : pb < w.heap.size := World.block_lt_of_cell? w _ h1
  have l2 : l < w.heap.size := World.block_lt_of_cell? w _ h3
  have l3 : eb < w.heap.size := World.block_lt_of_cell? w _ a0
  have hii : (i : Int) < (n : Int) := by omega
  go_enter Try.func20, Try.ntmps20
  go_wp2
  go_region
  go_wp2
  go_region
  go_wp2
  refine bodyPost_ret (v := .tuple #[.agg #[.int .u64 N, .int .i64 S, .pointer none, .int .i64 0, .pointer none], .pointer (some ⟨l, 0, none⟩), .int .i64 (i : Int)]) (by simp [results, Try.results20, go_sem]) rfl ⟨rfl, ?_⟩
  exact (((Kept.alloc _ _).more _).trans (Kept.drew _)).trans (Kept.drew _)

theorem at20 (cb l n i : Nat) (ts : Nat → Int) (w : World) (hn : n ≤ 131072) (hi : i < n) (hC : IsCur w cb l (i : Int)) (hL : IsLeaf w l n ts) :
    Calls Try.prog 20 #[.pointer (some ⟨cb, 0, none⟩)] w fun e w' => e = .returned (.tuple #[.agg (entryCells (ts i % 1000000000) (ts i / 1000000000)), .pointer (some ⟨l, 0, none⟩), .int .i64 (i : Int)]) ∧ Kept w w' := by
  obtain ⟨pb, h0, h1, h2⟩ := hC.ex
  obtain ⟨eb, h3, hE⟩ := hL.es
  have x0 := hE.c0 i hi
  have x1 := hE.c1 i hi
  rw [if_pos hi] at x0 x1
  exact at20_in cb pb l eb n i _ _ w hn hi h0 h1 h2 h3 x0 x1 (hE.c2 i hi) (hE.c3 i hi) (hE.c4 i hi)

theorem Kept.ent {w w' : World} (h : Kept w w') {b : Nat} {n s : Int} (hb : w.heap[b]? = some (.cells #[.int .u64 n, .int .i64 s, .pointer none, .int .i64 0, .pointer none] 50 (0, 0))) :
    w'.cell? ⟨b, 3, none⟩ = some (.int .i64 0) ∧ w'.cell? ⟨b, 4, none⟩ = some (.pointer none) := by
  have := h.blk hb
  constructor <;> simp [World.cell?, this]

set_option maxHeartbeats 3200000 in
theorem zat15_in (cb l : Nat) (i d N S : Int) (w : World) (hd0 : -9223372036854775808 ≤ d) (hd1 : d ≤ 9223372036854775807) (hN : Hid (N = d % 1000000000)) (hS : Hid (S = d / 1000000000))
    (hat : Hid (Calls Try.prog 20 #[.pointer (some ⟨cb, 0, none⟩)] w fun e w' => e = .returned (.tuple #[.agg #[.int .u64 N, .int .i64 S, .pointer none, .int .i64 0, .pointer none], .pointer (some ⟨l, 0, none⟩), .int .i64 i]) ∧ Kept w w')) :
    Calls Try.prog 15 #[.pointer (some ⟨cb, 0, none⟩)] w fun e w' => e = .returned (.tuple #[.int .i64 d, .int .i64 0, .pointer none, .pointer (some ⟨l, 0, none⟩), .int .i64 i]) ∧ Kept w w' := by
  have H1 : Hid (∀ w, Calls Try.prog 19 #[.agg #[.int .u64 N, .int .i64 S, .pointer none]] w fun e w' => e = .returned (.int .i64 d) ∧ Kept w w') := fun w => by rw [hN.out, hS.out]; exact ns19 d w hd0 hd1
  clear hN hS
  go_enter Try.func15, Try.ntmps15
  go_wp2_with fail
  refine hat.out.mono ?_
  rintro e w1 ⟨rfl, q1⟩
  go_wp2_with fail
  have T1 : Hid ((w1.alloc (.cells #[.int .u64 N, .int .i64 S, .pointer none, .int .i64 0, .pointer none] 50)).heap[w1.heap.size]? = some (.cells #[.int .u64 N, .int .i64 S, .pointer none, .int .i64 0, .pointer none] 50 (0, 0))) := heap_alloc_new w1 _
  go_region_with (go_at_call_of 19 (Value.int IntKind.u64 N); refine (H1.out _).mono ?_; rintro e w2 ⟨rfl, q2⟩; obtain ⟨y3, y4⟩ := q2.ent (by exact T1.out))
  all_goals go_wp2_with fail
  all_goals refine bodyPost_ret (v := .tuple #[.int .i64 d, .int .i64 0, .pointer none, .pointer (some ⟨l, 0, none⟩), .int .i64 i]) (by simp [results, Try.results15, go_sem]) rfl ⟨rfl, ?_⟩
  all_goals exact ((q1.more _).trans (Kept.drew _)).trans q2

theorem zat15 (cb l n i : Nat) (ts : Nat → Int) (w : World) (hn : n ≤ 131072) (hi : i < n) (hC : IsCur w cb l (i : Int)) (hL : IsLeaf w l n ts) (lo : -9223372036854775808 ≤ ts i) (hi' : ts i ≤ 9223372036854775807) :
    Calls Try.prog 15 #[.pointer (some ⟨cb, 0, none⟩)] w fun e w' => e = .returned (.tuple #[.int .i64 (ts i), .int .i64 0, .pointer none, .pointer (some ⟨l, 0, none⟩), .int .i64 (i : Int)]) ∧ Kept w w' :=
  zat15_in cb l i (ts i) _ _ w lo hi' rfl rfl (at20 cb l n i ts w hn hi hC hL)

end Go.Proofs.Qxb6616614a
