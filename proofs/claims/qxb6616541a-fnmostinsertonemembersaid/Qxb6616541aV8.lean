/-
  THE WALKS of seat b6616541a, 8: Voters.Witness, Votes.add, Voters.Count, Voters.Most.
-/
import Derived.Test.Qxb6616541aV7
namespace Go.Proofs.Qxb6616541a
open Go.RowKit
set_option linter.unusedVariables false
set_option linter.unusedSimpArgs false

set_option maxHeartbeats 800000 in
theorem wit18_one (lb : Nat) (n0 : Nat) (nm0 : Nat → ByteArray) (vt0 : Nat → Int) (h0 : Bool) (k0 : Int) (n1 : Nat) (nm1 : Nat → ByteArray) (vt1 : Nat → Int) (h1 : Bool) (k1 : Int) (w : World)
    (h : IsVs w lb false n0 nm0 vt0 h0 k0 n1 nm1 vt1 h1 k1) :
    Calls Try.prog 18 #[.agg #[.slice (some ⟨lb, 0, none⟩) 1 1]] w fun e w' => e = .returned (.agg (vCells (witOf h0 k0) 0 0 ⟨#[]⟩ false 0 0 0 false)) ∧ Kept No w w' := by
  obtain ⟨cb, hc, hi⟩ := h.c0
  have hlb : lb < w.heap.size := World.block_lt_of_cell? w _ hc
  go_enter Try.func18, Try.ntmps18
  go_wp2_with (go_at_call 22; refine (witness22 cb n0 nm0 vt0 h0 k0 _ (hi.kept ((Kept.alloc No _ _).trans (Kept.alloc No _ _)))).mono ?_; rintro e w' ⟨rfl, rfl⟩)
  refine bodyPost_ret (v := .agg (vCells (witOf h0 k0) 0 0 ⟨#[]⟩ false 0 0 0 false)) (by simp [results, Try.results18, go_sem, vCells]) rfl ⟨rfl, ?_⟩
  exact ((Kept.alloc _ _ _).trans (Kept.alloc _ _ _)).trans (Kept.alloc _ _ _)

set_option maxHeartbeats 800000 in
theorem wit18_two (lb : Nat) (n0 : Nat) (nm0 : Nat → ByteArray) (vt0 : Nat → Int) (h0 : Bool) (k0 : Int) (n1 : Nat) (nm1 : Nat → ByteArray) (vt1 : Nat → Int) (h1 : Bool) (k1 : Int) (w : World)
    (h : IsVs w lb true n0 nm0 vt0 h0 k0 n1 nm1 vt1 h1 k1) :
    Calls Try.prog 18 #[.agg #[.slice (some ⟨lb, 0, none⟩) 2 2]] w fun e w' => e = .returned (.agg (vCells (witOf h0 k0) 0 0 ⟨#[]⟩ false (witOf h0 k0) 0 0 false)) ∧ Kept No w w' := by
  obtain ⟨cb, hc, hi⟩ := h.c0
  have hlb : lb < w.heap.size := World.block_lt_of_cell? w _ hc
  go_enter Try.func18, Try.ntmps18
  go_wp2_with (go_at_call 22; refine (witness22 cb n0 nm0 vt0 h0 k0 _ (hi.kept ((Kept.alloc No _ _).trans (Kept.alloc No _ _)))).mono ?_; rintro e w' ⟨rfl, rfl⟩)
  refine bodyPost_ret (v := .agg (vCells (witOf h0 k0) 0 0 ⟨#[]⟩ false (witOf h0 k0) 0 0 false)) (by simp [results, Try.results18, go_sem, vCells]) rfl ⟨rfl, ?_⟩
  exact ((Kept.alloc _ _ _).trans (Kept.alloc _ _ _)).trans (Kept.alloc _ _ _)

theorem add_end {w : World} {vb : Nat} {h t nd : Int} {tb : ByteArray} {x : Bool} {lh lt ln : Int} {lb : Bool} (hv : w.heap[vb]? = some (.cells (vCells h t nd tb x lh lt ln lb) 33 (0, 0))) (a b : Int) (o : Obj) :
    (((((w.setCell ⟨vb, 0, none⟩ (.int .i64 a)).setCell ⟨vb, 4, none⟩ (.bool x)).setCell ⟨vb, 5, none⟩ (.int .i64 b)).setCell ⟨vb, 8, none⟩ (.bool lb)).alloc o).drew.drew.heap[vb]? = some (.cells (vCells a t nd tb x b lt ln lb) 33 (0, 0)) ∧
      Kept (fun k => k = vb) w (((((w.setCell ⟨vb, 0, none⟩ (.int .i64 a)).setCell ⟨vb, 4, none⟩ (.bool x)).setCell ⟨vb, 5, none⟩ (.int .i64 b)).setCell ⟨vb, 8, none⟩ (.bool lb)).alloc o).drew.drew := by
  have h1 := setCell_block (setCell_block (setCell_block (setCell_block hv 0 (.int .i64 a)) 4 (.bool x)) 5 (.int .i64 b)) 8 (.bool lb)
  have hlt := lt_of_block h1
  refine ⟨(Below.heap_alloc _ _ _ hlt).trans h1, rfl, rfl, rfl, by simp, fun k hk hs => ?_⟩
  show ((((w.setCell ⟨vb, 0, none⟩ (.int .i64 a)).setCell ⟨vb, 4, none⟩ (.bool x)).setCell ⟨vb, 5, none⟩ (.int .i64 b)).setCell ⟨vb, 8, none⟩ (.bool lb)).alloc o |>.heap[k]? = _
  rw [Below.heap_alloc _ _ _ (by simpa using hk), Below.heap_setCell _ _ _ _ hs, Below.heap_setCell _ _ _ _ hs, Below.heap_setCell _ _ _ _ hs, Below.heap_setCell _ _ _ _ hs]

set_option maxHeartbeats 1600000 in
theorem add17 (vb : Nat) (h t nd : Int) (tb : ByteArray) (x : Bool) (lh lt ln : Int) (lb : Bool) (g l : Int) (tb' : ByteArray) (t' nd' lt' ln' : Int) (w : World) (hv : w.heap[vb]? = some (.cells (vCells h t nd tb x lh lt ln lb) 33 (0, 0))) :
    Calls Try.prog 17 #[.pointer (some ⟨vb, 0, none⟩), .agg (vCells g t' nd' tb' false l lt' ln' false)] w fun e w' => e = .returned (.tuple #[]) ∧ w'.heap[vb]? = some (.cells (vCells (wrap64 (h + g)) t nd tb x (wrap64 (lh + l)) lt ln lb) 33 (0, 0)) ∧ Kept (fun b => b = vb) w w' := by
  obtain ⟨c0, c1, c2, c3, c4, c5, c6, c7, c8⟩ := v_cells hv
  have f0 := v_free hv 0
  have f4 := v_free hv 4
  have f5 := v_free hv 5
  have f8 := v_free hv 8
  have hlt := lt_of_block hv
  have E := add_end hv (wrap64 (h + g)) (wrap64 (lh + l)) (.cells (vCells g t' nd' tb' false l lt' ln' false) 33)
  obtain ⟨V, hV⟩ : ∃ V, V = vCells (wrap64 (h + g)) t nd tb x (wrap64 (lh + l)) lt ln lb := ⟨_, rfl⟩
  rw [← hV] at E ⊢
  have HE : Hid _ := E
  clear hV E
  unfold vCells at HE ⊢
  cases x <;> cases lb
  all_goals
    go_enter Try.func17, Try.ntmps17
    go_wp2
    go_region
    go_wp2
    go_region
    go_wp2
    go_end0
    exact ⟨rfl, HE.out⟩

end Go.Proofs.Qxb6616541a
