/-
  THE WALKS of seat b6616331aZD, g: one string is appended to a slice of the call's own.
-/
import Derived.Test.Qxb6616331aGreatDoorZ4
import Derived.OwnWalk
import Derived.Maps.AppendAt
namespace Go.Proofs.Qxb6616331aGreatDoor
open Go.RowKit
set_option linter.unusedVariables false
set_option linter.unusedSimpArgs false

/-- v is a slice of the strings xs in a row of the call's own (from block B on). -/
def OwnS (w : World) (B : Nat) (v : Value) (xs : List Str) : Prop := w.ownsRow B 9 1 v xs.length (xs.map sv)

theorem ownS_nil (w : World) (B : Nat) : OwnS w B (.slice none 0 0) [] := World.ownsRow_nil _ _ _ _
theorem OwnS.isL {w : World} {B : Nat} {v : Value} {xs : List Str} (h : OwnS w B v xs) : ∃ a c, v = .slice a xs.length c ∧ IsL w a xs.length xs ∧ Fresh B a ∧ xs.length ≤ c := by
  rcases h.2 with ⟨rfl, h0⟩ | ⟨g, cap, cur, rfl, hb, hg, h1, h2, h3, h4⟩
  · refine ⟨none, 0, by rw [h0], ⟨rfl, fun h => by omega⟩, (fun x e => by cases e), by omega⟩
  · refine ⟨_, _, rfl, ⟨rfl, fun _ => ⟨g, 0, rfl, fun i hi => ?_⟩⟩, (fun x e => by cases e; exact hb), h1⟩
    have := h.cells (g := g) rfl i (sv (xs.getD i [])) (by simp [hi])
    rw [Addr.add_lit] at this
    exact this
theorem OwnS.below {w w' : World} {B : Nat} {v : Value} {xs : List Str} (h : OwnS w B v xs) (q : Kept w w') : OwnS w' B v xs := by
  refine ⟨h.1, ?_⟩
  rcases h.2 with h | ⟨g, cap, cur, rfl, hb, hg, h1, h2, h3, h4⟩
  · exact .inl h
  · exact .inr ⟨g, cap, cur, rfl, hb, q.blk hg, h1, h2, h3, h4⟩
theorem OwnS.mono {w : World} {B B' : Nat} {v : Value} {xs : List Str} (h : OwnS w B v xs) (hB : B' ≤ B) : OwnS w B' v xs := by
  refine ⟨h.1, ?_⟩
  rcases h.2 with h | ⟨g, cap, cur, rfl, hb, hg, h1, h2, h3, h4⟩
  · exact .inl h
  · exact .inr ⟨g, cap, cur, rfl, Nat.le_trans hB hb, hg, h1, h2, h3, h4⟩

/-- The append of one string: what it leaves. -/
theorem app1 (w : World) (B : Nat) (v : Value) (xs : List Str) (x : Str) (h : OwnS w B v xs) (hn : xs.length ≤ 4398046511104) (hB : B ≤ w.heap.size) :
    ∃ g c w', (Builtin.append_ #[23, 23] 23 #[v, .slice (some ⟨w.heap.size, 0, none⟩) 1 1]).run Tryz.prog (w.alloc (.cells #[sv x] 9)) = .ok (.slice (some ⟨g, 0, none⟩) (xs.length + 1) c) w' ∧
      OwnS w' B (.slice (some ⟨g, 0, none⟩) (xs.length + 1) c) (xs ++ [x]) ∧ Below B w w' ∧ (∀ b, b < w.heap.size → some b ≠ v.ownBlock → w'.heap[b]? = w.heap[b]?) := by
  obtain ⟨i0, hi, hz0, hz1, hz2⟩ := info_parts Tryz.info9
  obtain ⟨v', w', hr, h2, h3, h4⟩ := run_append_own (P := Tryz.prog) (w.alloc (.cells #[sv x] 9)) B 23 23 9 i0 (sv []) 1 16 Tryz.underlying23 hi hz0 hz1 hz2 rfl (by decide) v xs.length (xs.map sv) (h.alloc _) ⟨w.heap.size, 0, none⟩ 1 1 [sv x] rfl
    (cell_one_new _ _ _) (by simp [Value.oneCell']) (by unfold maxLen; omega) (by omega) (by simp; omega)
  have hbel : Below B w w' := ((Below.refl B w).alloc hB _).grown h3 (by simp; omega) (fun k e => (h.lt k e).1)
  have hblk : ∀ b, b < w.heap.size → some b ≠ v.ownBlock → w'.heap[b]? = w.heap[b]? := fun b hb hne => (h3.block b (by simp; omega) hne).trans (Below.heap_alloc _ _ _ hb)
  rcases h2.2 with ⟨_, h0⟩ | ⟨g, cap, cur, rfl, hb, hg, g1, g2, g3, g4⟩
  · exact absurd h0 (by omega)
  · refine ⟨g, cap, w', hr, ⟨by simp, .inr ⟨g, cap, cur, by simp, hb, hg, by simpa using g1, g2, g3, by simpa using g4⟩⟩, hbel, hblk⟩

/-- .. at the operation. -/
theorem wpList_app1 {ops : Array Oper} {rest : List Oper} {o : Oper} {a : Act} {Q : Exit → Act → World → Prop} (hgd : o.guard = none) (s x : Operand)
    (ho : o.op = .call { callee := .builtin .append, args := #[s, x], argTypes := #[23, 23] }) (hty : o.type = 23)
    (w : World) (B : Nat) (v : Value) (xs : List Str) (y : Str) (h : OwnS w B v xs) (hn : xs.length ≤ 4398046511104) (hB : B ≤ w.heap.size) (hs : a.eval s = v) (hx : a.eval x = .slice (some ⟨w.heap.size, 0, none⟩) 1 1)
    (K : ∀ g c w', Hid (OwnS w' B (.slice (some ⟨g, 0, none⟩) (xs.length + 1) c) (xs ++ [y])) → Hid (Below B w w') → Hid (∀ b, b < w.heap.size → some b ≠ v.ownBlock → w'.heap[b]? = w.heap[b]?) → wpList Tryz.prog ops Q rest (a.put o.dst (.slice (some ⟨g, 0, none⟩) (xs.length + 1) c)) w') :
    wpList Tryz.prog ops Q (o :: rest) a (w.alloc (.cells #[sv y] 9)) := by
  obtain ⟨g, c, w', hr, h1, h2, h3⟩ := app1 w B v xs y h hn hB
  refine wpList_plain hgd fun _ hK => ?_
  unfold Oper.wp execOp
  simp only [ho, hty, resolve, invoke, builtin, Sem.run_bind, Sem.run_pure, Result.andThen_ok, List.map_toArray, List.map_cons, List.map_nil, hs, hx, hr]
  exact hK _ _ (K g c w' h1 h2 h3)

end Go.Proofs.Qxb6616331aGreatDoor
