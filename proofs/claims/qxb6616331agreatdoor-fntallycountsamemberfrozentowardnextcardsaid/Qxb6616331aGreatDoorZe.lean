/-
  THE WALKS of seat b6616331aZD, 14: zzCopyAnswers, zzAnswers.
-/
import Derived.Test.Qxb6616331aGreatDoorZd
namespace Go.Proofs.Qxb6616331aGreatDoor
open Go.RowKit
set_option linter.unusedVariables false
set_option linter.unusedSimpArgs false

def ansCells : Array Value := #[.int .i64 0, .slice none 0 0, .slice none 0 0, .bool false, .slice none 0 0, .bool false, sv [], .slice none 0 0, .bool false, .bool false, .bool false]

/-- The state at the head of a round: of the first k answers the copies lie in block w.heap.size. -/
structure AnsSt (w wr : World) (n : Nat) (As : List Ans) (k : Nat) : Prop where
  kept : Kept w wr
  lt : w.heap.size < wr.heap.size
  there : ∀ i j, i < n → j < 11 → (wr.cell? ⟨w.heap.size, i * 11 + j, none⟩).isSome = true
  done : ∀ i, i < k → NewAns wr (w.heap.size + 1) w.heap.size (i * 11) (As.getD i noAns)
  free : ∀ o, wr.frozen? ⟨w.heap.size, o, none⟩ = false

theorem AnsSt.start (w : World) (n : Nat) (As : List Ans) (t : TypeId) : AnsSt w (w.alloc (.cells (madeCells ansCells (n * 11)) t)) n As 0 := by
  refine ⟨Kept.alloc _ _, by simp, fun i j hi hj => ?_, fun i h => absurd h (Nat.not_lt_zero i), fun o => World.frozen?_alloc_new w _ t o⟩
  rw [World.cell?_alloc_new]
  have : i * 11 + j < n * 11 := by omega
  simp [madeCells, this]

theorem setAns_cell {w : World} {b o j : Nat} {A : Ans} {x1 x2 x4 x7 : Option Addr} {n1 d1 n2 d2 n4 d4 n7 d7 : Nat} (h : (w.cell? ⟨b, j, none⟩).isSome = true) : ((setAns w b o A x1 x2 x4 x7 n1 d1 n2 d2 n4 d4 n7 d7).cell? ⟨b, j, none⟩).isSome = true := by
  have one : ∀ (w : World) (i : Nat) (v : Value), (w.cell? ⟨b, j, none⟩).isSome = true → ((w.setCell ⟨b, i, none⟩ v).cell? ⟨b, j, none⟩).isSome = true := fun w i v h => by
    obtain ⟨u, e⟩ := Option.isSome_iff_exists.1 h
    by_cases hij : i = j
    · subst hij; rw [World.cell?_setCell_same _ _ _ e]; rfl
    · rw [World.cell?_setCell_other w _ _ _ (fun e => hij (by cases e; rfl))]; exact h
  unfold setAns
  exact (one _ _ _ (one _ _ _ (one _ _ _ (one _ _ _ (one _ _ _ (one _ _ _ (one _ _ _ (one _ _ _ (one _ _ _ (one _ _ _ (one _ _ _ h)))))))))))

theorem AnsSt.step {w wr w1 : World} {n : Nat} {As : List Ans} {k : Nat} (S : AnsSt w wr n As k) (hk : k < n) (q : Kept wr w1) {x1 x2 x4 x7 : Option Addr} {n1 d1 n2 d2 n4 d4 n7 d7 : Nat}
    (g1 : IsL w1 x1 n1 (As.getD k noAns).view) (f1 : Fresh (w.heap.size + 1) x1) (g2 : IsL w1 x2 n2 (As.getD k noAns).next) (f2 : Fresh (w.heap.size + 1) x2) (g4 : NewLL w1 (w.heap.size + 1) x4 n4 (As.getD k noAns).before) (g7 : NewLL w1 (w.heap.size + 1) x7 n7 (As.getD k noAns).unsure) :
    AnsSt w (setAns w1 w.heap.size (k * 11) (As.getD k noAns) x1 x2 x4 x7 n1 d1 n2 d2 n4 d4 n7 d7) n As (k + 1) := by
  have hs := q.size
  have hlt := S.lt
  have th : ∀ i j, i < n → j < 11 → (w1.cell? ⟨w.heap.size, i * 11 + j, none⟩).isSome = true := fun i j hi hj => by
    obtain ⟨u, e⟩ := Option.isSome_iff_exists.1 (S.there i j hi hj)
    rw [q.cell e]; rfl
  refine ⟨?_, ?_, fun i j hi hj => setAns_cell (th i j hi hj), fun i hi => ?_, fun o => ?_⟩
  · unfold setAns
    exact ((((((((((((S.kept.trans q).setNew _ (Nat.le_refl _) _).setNew _ (Nat.le_refl _) _).setNew _ (Nat.le_refl _) _).setNew _ (Nat.le_refl _) _).setNew _ (Nat.le_refl _) _).setNew _ (Nat.le_refl _) _).setNew _ (Nat.le_refl _) _).setNew _ (Nat.le_refl _) _).setNew _ (Nat.le_refl _) _).setNew _ (Nat.le_refl _) _).setNew _ (Nat.le_refl _) _)
  · unfold setAns
    simp
    omega
  · by_cases e : i = k
    · subst e
      exact setAns_new (Nat.lt_succ_self _) (fun j hj => th i j hk hj) g1 f1 g2 f2 g4 g7
    · exact setAns_other (Nat.lt_succ_self _) ((S.done i (by omega)).kept q) (by omega)
  · have := q.free (p := ⟨w.heap.size, o, none⟩) hlt (S.free o)
    simpa [setAns] using this

end Go.Proofs.Qxb6616331aGreatDoor
