/-
  THE WALKS of seat b6616331aZD, 4: zzCopyStrs, zzCopyLists.
-/
import Derived.Test.Qxb6616331aGreatDoorZ3
import Derived.Laws.CopyOwn
import Derived.Deep.OwnRows
namespace Go.Proofs.Qxb6616331aGreatDoor
open Go.RowKit
set_option linter.unusedVariables false
set_option linter.unusedSimpArgs false

theorem Tryz.info9 : (Tryz.prog.info? 9).map (fun i => (i.zero, i.size, i.bytes)) = some (some (sv []), 1, 16) := by kernel_rfl
theorem Tryz.size9 : (Tryz.prog.info? 9).map (·.size) = some 1 := by kernel_rfl
theorem Tryz.info23 : (Tryz.prog.info? 23).map (fun i => (i.zero, i.size, i.bytes)) = some (some (.slice none 0 0), 1, 24) := by kernel_rfl

/-- The built-in copy into a new row of strings. -/
theorem copied (w : World) (a : Option Addr) (n c : Nat) (xs : List Str) (hL : IsL w a n xs) :
    ∃ w2, (Builtin.copy_ #[23, 23] 3 #[.slice (some ⟨w.heap.size, 0, none⟩) n n, .slice a n c]).run Tryz.prog (w.alloc (.cells (madeCells #[sv []] n) 9)) = .ok (.int .i64 n) w2 ∧
      IsL w2 (some ⟨w.heap.size, 0, none⟩) n xs ∧ Kept w w2 := by
  by_cases h0 : n = 0
  · subst h0
    refine ⟨w.alloc (.cells (madeCells #[sv []] 0) 9), ?_, ⟨hL.len, fun h => absurd h (Nat.lt_irrefl _)⟩, Kept.alloc _ _⟩
    have := run_copy_none (P := Tryz.prog) (w.alloc (.cells (madeCells #[sv []] 0) 9)) 23 23 3 9 (some ⟨w.heap.size, 0, none⟩) a 0 0 0 c Tryz.underlying23 Tryz.size9 rfl
    simpa [goInt] using this
  obtain ⟨b, off, rfl, hc⟩ := hL.row (by omega)
  have hlen := hL.len
  have hlt : b < w.heap.size := World.block_lt_of_cell? w ⟨b, off + 0, none⟩ (hc 0 (by omega))
  have hg := heap_alloc_new w (.cells (madeCells #[sv []] n) 9)
  have hr := run_copy_row (P := Tryz.prog) (w.alloc (.cells (madeCells #[sv []] n) 9)) 23 23 3 9 w.heap.size 0 n n ⟨b, off, none⟩ n c _ 9 (xs.map sv) Tryz.underlying23 Tryz.size9 hg (by simp [hlen])
    (fun j v hj => by
      have hj' : j < xs.length := by simpa using (List.getElem?_eq_some_iff.1 hj).1
      rw [Addr.add_lit, World.cell?_alloc_lt w _ _ hlt, hc j (by omega)]
      simp [hj'] at hj
      simp [hj', ← hj]) (by simp [madeCells, hlen]) (fun v hv => by
      obtain ⟨i, _, rfl⟩ := List.mem_map.1 hv; rfl)
  refine ⟨_, by simpa [goInt, hlen] using hr, ⟨hlen, fun _ => ⟨_, 0, rfl, fun i hi => ?_⟩⟩, ?_⟩
  · simp only [World.cell?]
    rw [setRow_heap _ _ _ _ 9 _ hg]
    simp
    rw [List.getElem?_append_left (by simp; omega)]
    simp [show i < xs.length by omega]
  · refine ⟨rfl, rfl, rfl, by simp [World.setRow], fun k hk => ?_⟩
    rw [setRow_other _ _ _ _ (by omega)]
    exact Below.heap_alloc _ _ _ hk

/-- An address that lies in no block below h. -/
def Fresh (h : Nat) (a : Option Addr) : Prop := ∀ x, a = some x → h ≤ x.block
theorem Fresh.mono {h h' : Nat} {a : Option Addr} (f : Fresh h a) (hh : h' ≤ h) : Fresh h' a := fun x e => Nat.le_trans hh (f x e)
theorem IsL.set {w : World} {a : Option Addr} {n : Nat} {xs : List Str} (h : IsL w a n xs) (k o : Nat) (v : Value) (f : Fresh (k + 1) a) : IsL (w.setCell ⟨k, o, none⟩ v) a n xs :=
  ⟨h.len, fun h0 => by
    obtain ⟨b, off, ha, hc⟩ := h.row h0
    refine ⟨b, off, ha, fun i hi => ?_⟩
    have := f _ ha
    simp at this
    rw [World.cell?_setCell_other w _ _ _ (fun e => by cases e; omega)]
    exact hc i hi⟩

set_option maxHeartbeats 800000 in
theorem copyStrs10 (a : Option Addr) (n c : Nat) (xs : List Str) (w : World) (hn : n ≤ 2097152) (hL : IsL w a n xs) :
    Calls Tryz.prog 10 #[.slice a n c] w fun e w' => (∃ a' c', e = .returned (.slice a' n c') ∧ IsL w' a' n xs ∧ Fresh w.heap.size a' ∧ n ≤ c') ∧ Kept w w' := by
  have hq := fun w => Lib.run_eql_slice_nil (P := Tryz.prog) w 23 9 a n c 0 0 Tryz.underlying23
  cases a with
  | none =>
    obtain rfl : n = 0 := by
      rcases Nat.eq_zero_or_pos n with h | h
      · exact h
      · obtain ⟨b, off, h', _⟩ := hL.row h
        cases h'
    go_enter Tryz.func10, Tryz.ntmps10
    go_wp2
    go_ret
    exact ⟨⟨none, 0, rfl, hL, (fun x e => by cases e), Nat.le_refl _⟩, Kept.refl _⟩
  | some x =>
    have hmk := run_make_row' (P := Tryz.prog) 23 9 (sv []) 16 Tryz.underlying23 Tryz.info9 rfl .i64 .i64 n (by omega) (by omega)
    obtain ⟨w2, hcp, hc, k2⟩ := copied w (some x) n c xs hL
    have HC : Hid (IsL w2 (some ⟨w.heap.size, 0, none⟩) n xs) := hc
    clear hc hL
    go_enter Tryz.func10, Tryz.ntmps10
    go_wp2
    go_ret
    exact ⟨⟨_, _, rfl, HC.out, (fun x e => by cases e; exact Nat.le_refl _), Nat.le_refl _⟩, k2⟩

end Go.Proofs.Qxb6616331aGreatDoor
