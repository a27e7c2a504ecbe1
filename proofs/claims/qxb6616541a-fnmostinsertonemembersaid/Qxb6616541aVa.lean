/-
  THE WALKS of seat b6616541a, 10: Voters.Most.
-/
import Derived.Test.Qxb6616541aV9
namespace Go.Proofs.Qxb6616541a
open Go.RowKit
set_option linter.unusedVariables false
set_option linter.unusedSimpArgs false

set_option maxHeartbeats 1600000 in
theorem most8_one (lb m cm : Nat) (am : Option Addr) (mem : Nat → ByteArray) (tb : ByteArray) (n0 : Nat) (nm0 : Nat → ByteArray) (vt0 : Nat → Int) (h0 : Bool) (k0 : Int) (n1 : Nat) (nm1 : Nat → ByteArray) (vt1 : Nat → Int) (h1 : Bool) (k1 : Int) (w : World)
    (hn0 : n0 ≤ 1048576) (hm : m ≤ 1048577) (h : IsVs w lb false n0 nm0 vt0 h0 k0 n1 nm1 vt1 h1 k1) (hS : IsS w am m mem) :
    Calls Try.prog 8 #[.agg #[.slice (some ⟨lb, 0, none⟩) 1 1], .slice am m cm, .string tb] w fun e w' =>
      e = .returned (.agg (vCells (wrap64 (held nm0 vt0 n0 mem m + witOf h0 k0)) (wrap64 (sumTo vt0 n0 + witOf h0 k0)) (need (wrap64 (sumTo vt0 n0 + witOf h0 k0))) tb (tbHeld tb mem m) 0 0 0 false)) ∧ Kept No w w' := by
  go_enter Try.func8, Try.ntmps8
  go_wp2_with fail
  refine (count16_one lb m cm am mem tb n0 nm0 vt0 h0 k0 n1 nm1 vt1 h1 k1 _ hn0 hm (h.kept ((Kept.alloc No _ _).trans (Kept.alloc No _ _))) (((Kept.alloc No _ _).trans (Kept.alloc No _ _)).isS hS)).mono ?_
  rintro e w1 ⟨rfl, q1⟩
  obtain ⟨V, hV⟩ : ∃ V, V = vCells (wrap64 (held nm0 vt0 n0 mem m)) (wrap64 (sumTo vt0 n0 + witOf h0 k0)) (need (wrap64 (sumTo vt0 n0 + witOf h0 k0))) tb (tbHeld tb mem m) 0 0 0 false := ⟨_, rfl⟩
  obtain ⟨H, T, ND, B, H', T', ND', B', eH, eH', eR, hV'⟩ : ∃ (H T ND : Int) (B : Bool) (H' T' ND' : Int) (B' : Bool), Hid (H = wrap64 (held nm0 vt0 n0 mem m)) ∧ Hid (H' = 0) ∧
      Hid (∀ x y, vCells x T ND tb B y T' ND' B' = vCells x (wrap64 (sumTo vt0 n0 + witOf h0 k0)) (need (wrap64 (sumTo vt0 n0 + witOf h0 k0))) tb (tbHeld tb mem m) y 0 0 false) ∧ V = vCells H T ND tb B H' T' ND' B' :=
    ⟨_, _, _, _, _, _, _, _, rfl, rfl, fun _ _ => rfl, hV⟩
  rw [← hV, hV']
  clear hV hV'
  have b1 : w1.heap[w.heap.size]? = some (.cells #[.slice (some ⟨lb, 0, none⟩) 1 1] 28 (0, 0)) := (q1.block _ (by simp; omega) (fun x => x)).trans ((Below.heap_alloc _ _ _ (by simp)).trans (heap_alloc_new w _))
  have r1 : w1.heap[w.heap.size + 1]? = some (.cells (vCells 0 0 0 ⟨#[]⟩ false 0 0 0 false) 33 (0, 0)) := by
    refine (q1.block _ (by simp) (fun x => x)).trans ?_
    have := heap_alloc_new (w.alloc (.cells #[.slice (some ⟨lb, 0, none⟩) 1 1] 28)) (.cells (vCells 0 0 0 ⟨#[]⟩ false 0 0 0 false) 33)
    rwa [World.size_alloc] at this
  have cb1 := cell_of_one b1
  have hlt := lt_of_block r1
  have hlt0 := lt_of_block b1
  have Q : Kept No w w1 := ((Kept.alloc No _ _).trans (Kept.alloc No _ _)).trans q1
  have v1 := heap_alloc_new w1 (.cells (vCells H T ND tb B H' T' ND' B') 33)
  have HV1 : Hid _ := v1
  clear v1
  unfold vCells
  go_wp2_with fail
  refine (wit18_one lb n0 nm0 vt0 h0 k0 n1 nm1 vt1 h1 k1 _ (h.kept (Q.more _))).mono ?_
  rintro e w2 ⟨rfl, q2⟩
  have v2 : w2.heap[w1.heap.size]? = some (.cells (vCells H T ND tb B H' T' ND' B') 33 (0, 0)) := (q2.block _ (by simp) (fun x => x)).trans HV1.out
  have r2 : w2.heap[w.heap.size + 1]? = some (.cells (vCells 0 0 0 ⟨#[]⟩ false 0 0 0 false) 33 (0, 0)) := (q2.block _ (by simp; omega) (fun x => x)).trans ((Below.heap_alloc _ _ _ hlt).trans r1)
  have Q2 : Kept No w w2 := (Q.more _).trans q2
  go_wp2_with fail
  refine (add17 w1.heap.size H T ND tb B H' T' ND' B' (witOf h0 k0) 0 ⟨#[]⟩ 0 0 0 0 w2 v2).mono ?_
  rintro e w3 ⟨rfl, v3, q3⟩
  have r3 : w3.heap[w.heap.size + 1]? = some (.cells (vCells 0 0 0 ⟨#[]⟩ false 0 0 0 false) 33 (0, 0)) := (q3.block _ (lt_of_block r2) (by show ¬ w.heap.size + 1 = w1.heap.size; omega)).trans r2
  obtain ⟨r0', r1', r2', r3', r4', r5', r6', r7', r8'⟩ := v_cells r3
  obtain ⟨s0, s1, s2, s3, s4, s5, s6, s7, s8⟩ := v_cells v3
  have f0 := v_free r3 0
  have f1 := v_free r3 1
  have f2 := v_free r3 2
  have f3 := v_free r3 3
  have f4 := v_free r3 4
  have f5 := v_free r3 5
  have f6 := v_free r3 6
  have f7 := v_free r3 7
  have f8 := v_free r3 8
  have mlt := lt_of_block r3
  have mlt1 := lt_of_block v3
  have Q3 : Kept No w w3 := ⟨q3.os.trans Q2.os, q3.tape.trans Q2.tape, q3.output.trans Q2.output, Nat.le_trans Q2.size q3.size, fun k hk hs => (q3.block k (Nat.lt_of_lt_of_le hk Q2.size) (by show ¬ k = w1.heap.size; omega)).trans (Q2.block k hk hs)⟩
  clear b1 r1 r2 v2 r3 v3 cb1
  go_wp2_with fail
  refine bodyPost_ret (v := .agg (vCells (wrap64 (H + witOf h0 k0)) T ND tb B (wrap64 (H' + 0)) T' ND' B')) (by simp [results, Try.results8, go_sem, vCells, r0', r1', r2', r3', r4', r5', r6', r7', r8', s0, s1, s2, s3, s4, s5, s6, s7, s8, mlt, mlt1, hlt, hlt0]) rfl ⟨?_, ?_⟩
  · rw [eR.out, eH.out, eH'.out, wrap_left, show wrap64 (0 + 0) = (0 : Int) from w0.symm]
  · exact Q3.set9 _ (by omega) _ _ _ _ _ _ _ _ _

set_option maxHeartbeats 1600000 in
theorem most8_two (lb m cm : Nat) (am : Option Addr) (mem : Nat → ByteArray) (tb : ByteArray) (n0 : Nat) (nm0 : Nat → ByteArray) (vt0 : Nat → Int) (h0 : Bool) (k0 : Int) (n1 : Nat) (nm1 : Nat → ByteArray) (vt1 : Nat → Int) (h1 : Bool) (k1 : Int) (w : World)
    (hn0 : n0 ≤ 1048576) (hn1 : n1 ≤ 1048576) (hm : m ≤ 1048577) (h : IsVs w lb true n0 nm0 vt0 h0 k0 n1 nm1 vt1 h1 k1) (hS : IsS w am m mem) :
    Calls Try.prog 8 #[.agg #[.slice (some ⟨lb, 0, none⟩) 2 2], .slice am m cm, .string tb] w fun e w' =>
      e = .returned (.agg (vCells (wrap64 (held nm0 vt0 n0 mem m + witOf h0 k0)) (wrap64 (sumTo vt0 n0 + witOf h0 k0)) (need (wrap64 (sumTo vt0 n0 + witOf h0 k0))) tb (tbHeld tb mem m) (wrap64 (held nm1 vt1 n1 mem m + witOf h0 k0)) (wrap64 (sumTo vt1 n1 + witOf h1 k1)) (need (wrap64 (sumTo vt1 n1 + witOf h1 k1))) (tbHeld tb mem m))) ∧ Kept No w w' := by
  go_enter Try.func8, Try.ntmps8
  go_wp2_with fail
  refine (count16_two lb m cm am mem tb n0 nm0 vt0 h0 k0 n1 nm1 vt1 h1 k1 _ hn0 hn1 hm (h.kept ((Kept.alloc No _ _).trans (Kept.alloc No _ _))) (((Kept.alloc No _ _).trans (Kept.alloc No _ _)).isS hS)).mono ?_
  rintro e w1 ⟨rfl, q1⟩
  obtain ⟨V, hV⟩ : ∃ V, V = vCells (wrap64 (held nm0 vt0 n0 mem m)) (wrap64 (sumTo vt0 n0 + witOf h0 k0)) (need (wrap64 (sumTo vt0 n0 + witOf h0 k0))) tb (tbHeld tb mem m) (wrap64 (held nm1 vt1 n1 mem m)) (wrap64 (sumTo vt1 n1 + witOf h1 k1)) (need (wrap64 (sumTo vt1 n1 + witOf h1 k1))) (tbHeld tb mem m) := ⟨_, rfl⟩
  obtain ⟨H, T, ND, B, H', T', ND', B', eH, eH', eR, hV'⟩ : ∃ (H T ND : Int) (B : Bool) (H' T' ND' : Int) (B' : Bool), Hid (H = wrap64 (held nm0 vt0 n0 mem m)) ∧ Hid (H' = wrap64 (held nm1 vt1 n1 mem m)) ∧
      Hid (∀ x y, vCells x T ND tb B y T' ND' B' = vCells x (wrap64 (sumTo vt0 n0 + witOf h0 k0)) (need (wrap64 (sumTo vt0 n0 + witOf h0 k0))) tb (tbHeld tb mem m) y (wrap64 (sumTo vt1 n1 + witOf h1 k1)) (need (wrap64 (sumTo vt1 n1 + witOf h1 k1))) (tbHeld tb mem m)) ∧ V = vCells H T ND tb B H' T' ND' B' :=
    ⟨_, _, _, _, _, _, _, _, rfl, rfl, fun _ _ => rfl, hV⟩
  rw [← hV, hV']
  clear hV hV'
  have b1 : w1.heap[w.heap.size]? = some (.cells #[.slice (some ⟨lb, 0, none⟩) 2 2] 28 (0, 0)) := (q1.block _ (by simp; omega) (fun x => x)).trans ((Below.heap_alloc _ _ _ (by simp)).trans (heap_alloc_new w _))
  have r1 : w1.heap[w.heap.size + 1]? = some (.cells (vCells 0 0 0 ⟨#[]⟩ false 0 0 0 false) 33 (0, 0)) := by
    refine (q1.block _ (by simp) (fun x => x)).trans ?_
    have := heap_alloc_new (w.alloc (.cells #[.slice (some ⟨lb, 0, none⟩) 2 2] 28)) (.cells (vCells 0 0 0 ⟨#[]⟩ false 0 0 0 false) 33)
    rwa [World.size_alloc] at this
  have cb1 := cell_of_one b1
  have hlt := lt_of_block r1
  have hlt0 := lt_of_block b1
  have Q : Kept No w w1 := ((Kept.alloc No _ _).trans (Kept.alloc No _ _)).trans q1
  have v1 := heap_alloc_new w1 (.cells (vCells H T ND tb B H' T' ND' B') 33)
  have HV1 : Hid _ := v1
  clear v1
  unfold vCells
  go_wp2_with fail
  refine (wit18_two lb n0 nm0 vt0 h0 k0 n1 nm1 vt1 h1 k1 _ (h.kept (Q.more _))).mono ?_
  rintro e w2 ⟨rfl, q2⟩
  have v2 : w2.heap[w1.heap.size]? = some (.cells (vCells H T ND tb B H' T' ND' B') 33 (0, 0)) := (q2.block _ (by simp) (fun x => x)).trans HV1.out
  have r2 : w2.heap[w.heap.size + 1]? = some (.cells (vCells 0 0 0 ⟨#[]⟩ false 0 0 0 false) 33 (0, 0)) := (q2.block _ (by simp; omega) (fun x => x)).trans ((Below.heap_alloc _ _ _ hlt).trans r1)
  have Q2 : Kept No w w2 := (Q.more _).trans q2
  go_wp2_with fail
  refine (add17 w1.heap.size H T ND tb B H' T' ND' B' (witOf h0 k0) (witOf h0 k0) ⟨#[]⟩ 0 0 0 0 w2 v2).mono ?_
  rintro e w3 ⟨rfl, v3, q3⟩
  have r3 : w3.heap[w.heap.size + 1]? = some (.cells (vCells 0 0 0 ⟨#[]⟩ false 0 0 0 false) 33 (0, 0)) := (q3.block _ (lt_of_block r2) (by show ¬ w.heap.size + 1 = w1.heap.size; omega)).trans r2
  obtain ⟨r0', r1', r2', r3', r4', r5', r6', r7', r8'⟩ := v_cells r3
  obtain ⟨s0, s1, s2, s3, s4, s5, s6, s7, s8⟩ := v_cells v3
  have f0 := v_free r3 0
  have f1 := v_free r3 1
  have f2 := v_free r3 2
  have f3 := v_free r3 3
  have f4 := v_free r3 4
  have f5 := v_free r3 5
  have f6 := v_free r3 6
  have f7 := v_free r3 7
  have f8 := v_free r3 8
  have mlt := lt_of_block r3
  have mlt1 := lt_of_block v3
  have Q3 : Kept No w w3 := ⟨q3.os.trans Q2.os, q3.tape.trans Q2.tape, q3.output.trans Q2.output, Nat.le_trans Q2.size q3.size, fun k hk hs => (q3.block k (Nat.lt_of_lt_of_le hk Q2.size) (by show ¬ k = w1.heap.size; omega)).trans (Q2.block k hk hs)⟩
  clear b1 r1 r2 v2 r3 v3 cb1
  go_wp2_with fail
  refine bodyPost_ret (v := .agg (vCells (wrap64 (H + witOf h0 k0)) T ND tb B (wrap64 (H' + (witOf h0 k0))) T' ND' B')) (by simp [results, Try.results8, go_sem, vCells, r0', r1', r2', r3', r4', r5', r6', r7', r8', s0, s1, s2, s3, s4, s5, s6, s7, s8, mlt, mlt1, hlt, hlt0]) rfl ⟨?_, ?_⟩
  · rw [eR.out, eH.out, eH'.out, wrap_left, wrap_left]
  · exact Q3.set9 _ (by omega) _ _ _ _ _ _ _ _ _

end Go.Proofs.Qxb6616541a
