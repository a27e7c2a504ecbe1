/-
  THE WALKS of seat b6616614a, 5: the bounds on length; the copy; the heads of the three laws.
-/
import Derived.Test.Qxb6616614aT4
import Derived.Laws.CopyOwn
import Derived.Deep.OwnRows
namespace Go.Proofs.Qxb6616614a
open Go.RowKit
set_option linter.unusedVariables false
set_option linter.unusedSimpArgs false

theorem bytes9 (a : Option Addr) (n c : Nat) (w : World) (hn : n ≤ 1048576) :
    Calls Try.prog 9 #[.slice a n c] w fun e w' => e = .returned (.bool true) ∧ w' = w := by
  have h1 : ¬ (n : Int) > 1048576 := by omega
  go_enter Try.func9, Try.ntmps9
  go_wp2
  go_ret
  exact ⟨rfl, rfl⟩
theorem bytes9_big (a : Option Addr) (n c : Nat) (w : World) (hn : ¬ n ≤ 1048576) :
    Calls Try.prog 9 #[.slice a n c] w fun e w' => e = .returned (.bool false) ∧ w' = w := by
  have h1 : (n : Int) > 1048576 := by omega
  go_enter Try.func9, Try.ntmps9
  go_wp2
  go_ret
  exact ⟨rfl, rfl⟩
theorem bytes12 (a : Option Addr) (n c : Nat) (k : Int) (w : World) (hn : n ≤ 1048576) :
    Calls Try.prog 12 #[.slice a n c, .int .i64 k] w fun e w' => e = .returned (.bool true) ∧ w' = w := by
  have h1 : ¬ (n : Int) > 1048576 := by omega
  go_enter Try.func12, Try.ntmps12
  go_wp2
  go_ret
  exact ⟨rfl, rfl⟩
theorem bytes12_big (a : Option Addr) (n c : Nat) (k : Int) (w : World) (hn : ¬ n ≤ 1048576) :
    Calls Try.prog 12 #[.slice a n c, .int .i64 k] w fun e w' => e = .returned (.bool false) ∧ w' = w := by
  have h1 : (n : Int) > 1048576 := by omega
  go_enter Try.func12, Try.ntmps12
  go_wp2
  go_ret
  exact ⟨rfl, rfl⟩
theorem bytes14 (a : Option Addr) (n c : Nat) (k : Int) (w : World) (hn : n ≤ 1048576) :
    Calls Try.prog 14 #[.slice a n c, .int .i64 k] w fun e w' => e = .returned (.bool true) ∧ w' = w := by
  have h1 : ¬ (n : Int) > 1048576 := by omega
  go_enter Try.func14, Try.ntmps14
  go_wp2
  go_ret
  exact ⟨rfl, rfl⟩
theorem bytes14_big (a : Option Addr) (n c : Nat) (k : Int) (w : World) (hn : ¬ n ≤ 1048576) :
    Calls Try.prog 14 #[.slice a n c, .int .i64 k] w fun e w' => e = .returned (.bool false) ∧ w' = w := by
  have h1 : (n : Int) > 1048576 := by omega
  go_enter Try.func14, Try.ntmps14
  go_wp2
  go_ret
  exact ⟨rfl, rfl⟩

theorem Try.info2 : (Try.prog.info? 2).map (fun i => (i.zero, i.size, i.bytes)) = some (some (.int .i64 0), 1, 8) := by kernel_rfl
theorem Try.size2 : (Try.prog.info? 2).map (·.size) = some 1 := by kernel_rfl

/-- The copy into a new row: the row reads as the list did. -/
theorem copied (w : World) (x : Addr) (n c : Nat) (ts : Nat → Int) (h0 : 0 < n) (hT : IsT w (some x) n ts) :
    ∃ w2, (Builtin.copy_ #[27, 27] 3 #[.slice (some ⟨w.heap.size, 0, none⟩) n n, .slice (some x) n c]).run Try.prog (w.alloc (.cells (madeCells #[Value.int .i64 0] n) 2)) = .ok (.int .i64 n) w2 ∧
      (∀ i, i < n → w2.cell? ⟨w.heap.size, i, none⟩ = some (.int .i64 (ts i))) ∧ Kept w w2 := by
  obtain ⟨b, off, hx, hc⟩ := hT.row h0
  cases hx
  have hlt : b < w.heap.size := World.block_lt_of_cell? w ⟨b, off + 0, none⟩ (hc 0 h0)
  have hg := heap_alloc_new w (.cells (madeCells #[Value.int .i64 0] n) 2)
  have hr := run_copy_row (P := Try.prog) (w.alloc (.cells (madeCells #[Value.int .i64 0] n) 2)) 27 27 3 2 w.heap.size 0 n n ⟨b, off, none⟩ n c _ 2 ((List.range n).map fun i => Value.int .i64 (ts i)) Try.underlying27 Try.size2 hg (by simp)
    (fun j v hj => by
      have hj' : j < n := by simpa using (List.getElem?_eq_some_iff.1 hj).1
      rw [Addr.add_lit, World.cell?_alloc_lt w _ _ hlt, hc j hj']
      simp [hj'] at hj
      simp [hj', ← hj]) (by simp [madeCells]) (fun v hv => by
      obtain ⟨i, _, rfl⟩ := List.mem_map.1 hv; rfl)
  refine ⟨_, by simpa [goInt] using hr, fun i hi => ?_, ?_⟩
  · simp only [World.cell?]
    rw [setRow_heap _ _ _ _ 2 _ hg]
    simp
    rw [List.getElem?_append_left (by simpa using hi)]
    simp [hi]
  · refine ⟨rfl, rfl, rfl, by simp [World.setRow], fun k hk => ?_⟩
    rw [setRow_other _ _ _ _ (by omega)]
    exact Below.heap_alloc _ _ _ hk

/-- The list is in order. -/
def UpTo (ts : Nat → Int) (k : Nat) : Prop := ∀ i, i + 1 < k → ts i ≤ ts (i + 1)
theorem UpTo.le {ts : Nat → Int} {k : Nat} (h : UpTo ts k) : ∀ d i, i + d < k → ts i ≤ ts (i + d)
  | 0, i, _ => Int.le_refl _
  | d + 1, i, hk => Int.le_trans (h.le d i (by omega)) (h (i + d) (by omega))
theorem UpTo.le' {ts : Nat → Int} {k i j : Nat} (h : UpTo ts k) (hij : i ≤ j) (hj : j < k) : ts i ≤ ts j := by
  have := h.le (j - i) i (by omega)
  rwa [show i + (j - i) = j by omega] at this

end Go.Proofs.Qxb6616614a
