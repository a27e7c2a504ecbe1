/-
  THE WALKS of seat b6616541a, 9: Voters.Count.
-/
import Derived.Test.Qxb6616541aV8
namespace Go.Proofs.Qxb6616541a
open Go.RowKit
set_option linter.unusedVariables false
set_option linter.unusedSimpArgs false

theorem Kept.set9 {w X : World} (h : Kept No w X) (rb : Nat) (hrb : w.heap.size ≤ rb) (v0 v1 v2 v3 v4 v5 v6 v7 v8 : Value) :
    Kept No w (((((((((X.setCell ⟨rb, 0, none⟩ v0).setCell ⟨rb, 1, none⟩ v1).setCell ⟨rb, 2, none⟩ v2).setCell ⟨rb, 3, none⟩ v3).setCell ⟨rb, 4, none⟩ v4).setCell ⟨rb, 5, none⟩ v5).setCell ⟨rb, 6, none⟩ v6).setCell ⟨rb, 7, none⟩ v7).setCell ⟨rb, 8, none⟩ v8) :=
  (((((((((h.setNew _ hrb _).setNew _ hrb _).setNew _ hrb _).setNew _ hrb _).setNew _ hrb _).setNew _ hrb _).setNew _ hrb _).setNew _ hrb _).setNew _ hrb _)
theorem Kept.more {w X : World} (h : Kept No w X) (o : Obj) : Kept No w (X.alloc o) := h.trans (Kept.alloc _ _ _)

set_option maxHeartbeats 1600000 in
theorem count16_one (lb m cm : Nat) (am : Option Addr) (mem : Nat → ByteArray) (tb : ByteArray) (n0 : Nat) (nm0 : Nat → ByteArray) (vt0 : Nat → Int) (h0 : Bool) (k0 : Int) (n1 : Nat) (nm1 : Nat → ByteArray) (vt1 : Nat → Int) (h1 : Bool) (k1 : Int) (w : World)
    (hn0 : n0 ≤ 1048576) (hm : m ≤ 1048577) (h : IsVs w lb false n0 nm0 vt0 h0 k0 n1 nm1 vt1 h1 k1) (hS : IsS w am m mem) :
    Calls Try.prog 16 #[.agg #[.slice (some ⟨lb, 0, none⟩) 1 1], .slice am m cm, .string tb] w fun e w' =>
      e = .returned (.agg (vCells (wrap64 (held nm0 vt0 n0 mem m)) (wrap64 (sumTo vt0 n0 + witOf h0 k0)) (need (wrap64 (sumTo vt0 n0 + witOf h0 k0))) tb (tbHeld tb mem m) 0 0 0 false)) ∧ Kept No w w' := by
  obtain ⟨cb, hc, hi⟩ := h.c0
  have hlb : lb < w.heap.size := World.block_lt_of_cell? w _ hc
  go_enter Try.func16, Try.ntmps16
  go_wp2_with fail
  refine (count21 cb n0 m cm am nm0 mem vt0 h0 k0 tb _ hn0 hm (hi.kept ((Kept.alloc No _ _).trans (Kept.alloc No _ _))) (((Kept.alloc No _ _).trans (Kept.alloc No _ _)).isS hS)).mono ?_
  rintro e w1 ⟨rfl, q1⟩
  obtain ⟨V, hV⟩ : ∃ V, V = vCells (wrap64 (held nm0 vt0 n0 mem m)) (wrap64 (sumTo vt0 n0 + witOf h0 k0)) (need (wrap64 (sumTo vt0 n0 + witOf h0 k0))) tb (tbHeld tb mem m) 0 0 0 false := ⟨_, rfl⟩
  obtain ⟨H, T, ND, B, hV'⟩ : ∃ H T ND B, V = vCells H T ND tb B 0 0 0 false := ⟨_, _, _, _, hV⟩
  have HV : Hid (vCells H T ND tb B 0 0 0 false = vCells (wrap64 (held nm0 vt0 n0 mem m)) (wrap64 (sumTo vt0 n0 + witOf h0 k0)) (need (wrap64 (sumTo vt0 n0 + witOf h0 k0))) tb (tbHeld tb mem m) 0 0 0 false) := hV'.symm.trans hV
  rw [← hV, hV']
  clear hV hV'
  have b1 : w1.heap[w.heap.size]? = some (.cells #[.slice (some ⟨lb, 0, none⟩) 1 1] 28 (0, 0)) := (q1.block _ (by simp; omega) (fun x => x)).trans ((Below.heap_alloc _ _ _ (by simp)).trans (heap_alloc_new w _))
  have r1 : w1.heap[w.heap.size + 1]? = some (.cells (vCells 0 0 0 ⟨#[]⟩ false 0 0 0 false) 33 (0, 0)) := by
    refine (q1.block _ (by simp) (fun x => x)).trans ?_
    have := heap_alloc_new (w.alloc (.cells #[.slice (some ⟨lb, 0, none⟩) 1 1] 28)) (.cells (vCells 0 0 0 ⟨#[]⟩ false 0 0 0 false) 33)
    rwa [World.size_alloc] at this
  have cb1 := cell_of_one b1
  obtain ⟨r0', r1', r2', r3', r4', r5', r6', r7', r8'⟩ := v_cells r1
  have f0 := v_free r1 0
  have f1 := v_free r1 1
  have f2 := v_free r1 2
  have f3 := v_free r1 3
  have f4 := v_free r1 4
  have f5 := v_free r1 5
  have f6 := v_free r1 6
  have f7 := v_free r1 7
  have f8 := v_free r1 8
  have hlt := lt_of_block r1
  have hlt0 := lt_of_block b1
  have Q : Kept No w w1 := ((Kept.alloc No _ _).trans (Kept.alloc No _ _)).trans q1
  unfold vCells
  go_wp2_with fail
  refine bodyPost_ret (v := .agg (vCells H T ND tb B 0 0 0 false)) (by simp [results, Try.results16, go_sem, vCells, r0', r1', r2', r3', r4', r5', r6', r7', r8', hlt, hlt0]) rfl ⟨by rw [HV.out], ?_⟩
  exact (Q.set9 _ (by omega) _ _ _ _ _ _ _ _ _).more _

set_option maxHeartbeats 1600000 in
theorem count16_two (lb m cm : Nat) (am : Option Addr) (mem : Nat → ByteArray) (tb : ByteArray) (n0 : Nat) (nm0 : Nat → ByteArray) (vt0 : Nat → Int) (h0 : Bool) (k0 : Int) (n1 : Nat) (nm1 : Nat → ByteArray) (vt1 : Nat → Int) (h1 : Bool) (k1 : Int) (w : World)
    (hn0 : n0 ≤ 1048576) (hn1 : n1 ≤ 1048576) (hm : m ≤ 1048577) (h : IsVs w lb true n0 nm0 vt0 h0 k0 n1 nm1 vt1 h1 k1) (hS : IsS w am m mem) :
    Calls Try.prog 16 #[.agg #[.slice (some ⟨lb, 0, none⟩) 2 2], .slice am m cm, .string tb] w fun e w' =>
      e = .returned (.agg (vCells (wrap64 (held nm0 vt0 n0 mem m)) (wrap64 (sumTo vt0 n0 + witOf h0 k0)) (need (wrap64 (sumTo vt0 n0 + witOf h0 k0))) tb (tbHeld tb mem m)
        (wrap64 (held nm1 vt1 n1 mem m)) (wrap64 (sumTo vt1 n1 + witOf h1 k1)) (need (wrap64 (sumTo vt1 n1 + witOf h1 k1))) (tbHeld tb mem m))) ∧ Kept No w w' := by
  obtain ⟨cb, hc, hi⟩ := h.c0
  obtain ⟨cb', hc', hi'⟩ := h.c1 rfl
  have hlb : lb < w.heap.size := World.block_lt_of_cell? w _ hc
  go_enter Try.func16, Try.ntmps16
  go_wp2_with fail
  refine (count21 cb n0 m cm am nm0 mem vt0 h0 k0 tb _ hn0 hm (hi.kept ((Kept.alloc No _ _).trans (Kept.alloc No _ _))) (((Kept.alloc No _ _).trans (Kept.alloc No _ _)).isS hS)).mono ?_
  rintro e w1 ⟨rfl, q1⟩
  obtain ⟨V, hV⟩ : ∃ V, V = vCells (wrap64 (held nm0 vt0 n0 mem m)) (wrap64 (sumTo vt0 n0 + witOf h0 k0)) (need (wrap64 (sumTo vt0 n0 + witOf h0 k0))) tb (tbHeld tb mem m) 0 0 0 false := ⟨_, rfl⟩
  obtain ⟨H, T, ND, B, eH, eT, eN, eB, hV'⟩ : ∃ H T ND B, Hid (H = wrap64 (held nm0 vt0 n0 mem m)) ∧ Hid (T = wrap64 (sumTo vt0 n0 + witOf h0 k0)) ∧ Hid (ND = need (wrap64 (sumTo vt0 n0 + witOf h0 k0))) ∧ Hid (B = tbHeld tb mem m) ∧ V = vCells H T ND tb B 0 0 0 false := ⟨_, _, _, _, rfl, rfl, rfl, rfl, hV⟩
  rw [← hV, hV']
  clear hV hV'
  have b1 : w1.heap[w.heap.size]? = some (.cells #[.slice (some ⟨lb, 0, none⟩) 2 2] 28 (0, 0)) := (q1.block _ (by simp; omega) (fun x => x)).trans ((Below.heap_alloc _ _ _ (by simp)).trans (heap_alloc_new w _))
  have r1 : w1.heap[w.heap.size + 1]? = some (.cells (vCells 0 0 0 ⟨#[]⟩ false 0 0 0 false) 33 (0, 0)) := by
    refine (q1.block _ (by simp) (fun x => x)).trans ?_
    have := heap_alloc_new (w.alloc (.cells #[.slice (some ⟨lb, 0, none⟩) 2 2] 28)) (.cells (vCells 0 0 0 ⟨#[]⟩ false 0 0 0 false) 33)
    rwa [World.size_alloc] at this
  have cb1 := cell_of_one b1
  have hlt := lt_of_block r1
  have hlt0 := lt_of_block b1
  have Q : Kept No w w1 := ((Kept.alloc No _ _).trans (Kept.alloc No _ _)).trans q1
  have lc1 := Q.cell hc' (fun x => x)
  have llt : lb < w1.heap.size := World.block_lt_of_cell? w1 _ lc1
  have v1 := heap_alloc_new w1 (.cells (vCells H T ND tb B 0 0 0 false) 33)
  have HV1 : Hid _ := v1
  clear v1
  unfold vCells
  go_wp2_with fail
  refine (count21 cb' n1 m cm am nm1 mem vt1 h1 k1 tb _ hn1 hm (hi'.kept (Q.more _)) ((Q.more _).isS hS)).mono ?_
  rintro e w2 ⟨rfl, q2⟩
  obtain ⟨V, hV⟩ : ∃ V, V = vCells (wrap64 (held nm1 vt1 n1 mem m)) (wrap64 (sumTo vt1 n1 + witOf h1 k1)) (need (wrap64 (sumTo vt1 n1 + witOf h1 k1))) tb (tbHeld tb mem m) 0 0 0 false := ⟨_, rfl⟩
  obtain ⟨H', T', ND', B', eH', eT', eN', eB', hV'⟩ : ∃ H T ND B, Hid (H = wrap64 (held nm1 vt1 n1 mem m)) ∧ Hid (T = wrap64 (sumTo vt1 n1 + witOf h1 k1)) ∧ Hid (ND = need (wrap64 (sumTo vt1 n1 + witOf h1 k1))) ∧ Hid (B = tbHeld tb mem m) ∧ V = vCells H T ND tb B 0 0 0 false := ⟨_, _, _, _, rfl, rfl, rfl, rfl, hV⟩
  rw [← hV, hV']
  clear hV hV'
  have b2 : w2.heap[w.heap.size]? = some (.cells #[.slice (some ⟨lb, 0, none⟩) 2 2] 28 (0, 0)) := (q2.block _ (by simp; omega) (fun x => x)).trans ((Below.heap_alloc _ _ _ hlt0).trans b1)
  have r2 : w2.heap[w.heap.size + 1]? = some (.cells (vCells 0 0 0 ⟨#[]⟩ false 0 0 0 false) 33 (0, 0)) := (q2.block _ (by simp; omega) (fun x => x)).trans ((Below.heap_alloc _ _ _ hlt).trans r1)
  have v2 : w2.heap[w1.heap.size]? = some (.cells (vCells H T ND tb B 0 0 0 false) 33 (0, 0)) := (q2.block _ (by simp) (fun x => x)).trans HV1.out
  have cb2 := cell_of_one b2
  obtain ⟨r0', r1', r2', r3', r4', r5', r6', r7', r8'⟩ := v_cells r2
  obtain ⟨s0, s1, s2, s3, s4, s5, s6, s7, s8⟩ := v_cells v2
  have f0 := v_free r2 0
  have f1 := v_free r2 1
  have f2 := v_free r2 2
  have f3 := v_free r2 3
  have f4 := v_free r2 4
  have f5 := v_free r2 5
  have f6 := v_free r2 6
  have f7 := v_free r2 7
  have f8 := v_free r2 8
  have g5 := v_free v2 5
  have g6 := v_free v2 6
  have g7 := v_free v2 7
  have g8 := v_free v2 8
  have mlt := lt_of_block r2
  have mlt0 := lt_of_block b2
  have mlt1 := lt_of_block v2
  have Q2 : Kept No w w2 := (Q.more _).trans q2
  clear cb1 lc1 b1 r1 b2 r2 v2
  unfold vCells
  go_wp2_with fail
  refine bodyPost_ret (v := .agg (vCells H T ND tb B H' T' ND' B')) (by simp [results, Try.results16, go_sem, vCells, r0', r1', r2', r3', r4', r5', r6', r7', r8', s0, s1, s2, s3, s4, s5, s6, s7, s8, mlt, mlt0, mlt1, hlt, hlt0]) rfl ⟨by rw [eH.out, eT.out, eN.out, eB.out, eH'.out, eT'.out, eN'.out, eB'.out], ?_⟩
  have hw1 : w.heap.size ≤ w1.heap.size := Nat.le_of_lt hlt0
  exact ((((((Q2.setNew _ hw1 _).setNew _ hw1 _).setNew _ hw1 _).setNew _ hw1 _).set9 _ (by omega) _ _ _ _ _ _ _ _ _).more _)

end Go.Proofs.Qxb6616541a
