/-
  THE WALKS of seat b6616331aZD, x: newView's plain function; appends beside other slices.
-/
import Derived.Test.Qxb6616331aGreatDoorZw
import Derived.Test.Qxb6616331aGreatDoorZu
namespace Go.Proofs.Qxb6616331aGreatDoor
open Go.RowKit
set_option linter.unusedVariables false
set_option linter.unusedSimpArgs false
set_option linter.unnecessarySimpa false
set_option maxRecDepth 40000

/-- The append of one string, and where the new slice lies. -/
theorem app1x (w : World) (B : Nat) (v : Value) (xs : List Str) (x : Str) (h : OwnS w B v xs) (hn : xs.length ≤ 4398046511104) (hB : B ≤ w.heap.size) :
    ∃ g c w', (Builtin.append_ #[23, 23] 23 #[v, .slice (some ⟨w.heap.size, 0, none⟩) 1 1]).run Tryz.prog (w.alloc (.cells #[sv x] 9)) = .ok (.slice (some ⟨g, 0, none⟩) (xs.length + 1) c) w' ∧
      OwnS w' B (.slice (some ⟨g, 0, none⟩) (xs.length + 1) c) (xs ++ [x]) ∧ Below B w w' ∧ (∀ b, b < w.heap.size → some b ≠ v.ownBlock → w'.heap[b]? = w.heap[b]?) ∧ (v.ownBlock = some g ∨ w.heap.size ≤ g) := by
  obtain ⟨i0, hi, hz0, hz1, hz2⟩ := info_parts Tryz.info9
  obtain ⟨v', w', hr, h2, h3, h4, h5⟩ := run_append_own_at (P := Tryz.prog) (w.alloc (.cells #[sv x] 9)) B 23 23 9 i0 (sv []) 1 16 Tryz.underlying23 hi hz0 hz1 hz2 rfl (by decide) v xs.length (xs.map sv) (h.alloc _) ⟨w.heap.size, 0, none⟩ 1 1 [sv x] rfl
    (cell_one_new _ _ _) (by simp [Value.oneCell']) (by unfold maxLen; omega) (by omega) (by simp; omega)
  have hbel : Below B w w' := ((Below.refl B w).alloc hB _).grown h3 (by simp; omega) (fun k e => (h.lt k e).1)
  have hblk : ∀ b, b < w.heap.size → some b ≠ v.ownBlock → w'.heap[b]? = w.heap[b]? := fun b hb hne => (h3.block b (by simp; omega) hne).trans (Below.heap_alloc _ _ _ hb)
  rcases h2.2 with ⟨_, h0⟩ | ⟨g, cap, cur, rfl, hb, hg, g1, g2, g3, g4⟩
  · exact absurd h0 (by omega)
  · refine ⟨g, cap, w', hr, ⟨by simp, .inr ⟨g, cap, cur, by simp, hb, hg, by simpa using g1, g2, g3, by simpa using g4⟩⟩, hbel, hblk, ?_⟩
    rcases h5 with e | e
    · exact .inl (by rw [← e]; rfl)
    · refine .inr ?_
      simp [Value.ownBlock] at e
      omega

theorem wpList_app1x {ops : Array Oper} {rest : List Oper} {o : Oper} {a : Act} {Q : Exit → Act → World → Prop} (hgd : o.guard = none) (s x : Operand)
    (ho : o.op = .call { callee := .builtin .append, args := #[s, x], argTypes := #[23, 23] }) (hty : o.type = 23)
    (w : World) (B : Nat) (v : Value) (xs : List Str) (y : Str) (h : OwnS w B v xs) (hn : xs.length ≤ 4398046511104) (hB : B ≤ w.heap.size) (hs : a.eval s = v) (hx : a.eval x = .slice (some ⟨w.heap.size, 0, none⟩) 1 1)
    (K : ∀ g c w', Hid (OwnS w' B (.slice (some ⟨g, 0, none⟩) (xs.length + 1) c) (xs ++ [y])) → Hid (Below B w w') → Hid (∀ b, b < w.heap.size → some b ≠ v.ownBlock → w'.heap[b]? = w.heap[b]?) → Hid (v.ownBlock = some g ∨ w.heap.size ≤ g) → wpList Tryz.prog ops Q rest (a.put o.dst (.slice (some ⟨g, 0, none⟩) (xs.length + 1) c)) w') :
    wpList Tryz.prog ops Q (o :: rest) a (w.alloc (.cells #[sv y] 9)) := by
  obtain ⟨g, c, w', hr, h1, h2, h3, h4⟩ := app1x w B v xs y h hn hB
  refine wpList_plain hgd fun _ hK => ?_
  unfold Oper.wp execOp
  simp only [ho, hty, resolve, invoke, builtin, Sem.run_bind, Sem.run_pure, Result.andThen_ok, List.map_toArray, List.map_cons, List.map_nil, hs, hx, hr]
  exact hK _ _ (K g c w' h1 h2 h3 h4)

/-- Two slices of the call's own lie in different blocks. -/
def Apt (u v : Value) : Prop := ∀ b, u.ownBlock = some b → v.ownBlock ≠ some b
theorem apt_nil (v : Value) : Apt v (.slice none 0 0) := fun b _ e => by cases e
theorem apt_nil' (v : Value) : Apt (.slice none 0 0) v := fun b e => by cases e
theorem Apt.symm {u v : Value} (h : Apt u v) : Apt v u := fun b e1 e2 => h b e2 e1

theorem OwnS.beside {w w' : World} {B : Nat} {u v : Value} {ys : List Str} (h : OwnS w B v ys) (ha : Apt u v) (hblk : ∀ b, b < w.heap.size → some b ≠ u.ownBlock → w'.heap[b]? = w.heap[b]?) : OwnS w' B v ys := by
  refine ⟨h.1, ?_⟩
  rcases h.2 with h' | ⟨g, cap, cur, rfl, hb, hg, h1, h2, h3, h4⟩
  · exact .inl h'
  · refine .inr ⟨g, cap, cur, rfl, hb, ?_, h1, h2, h3, h4⟩
    rw [hblk g (lt_of_blk hg) (fun e => ha g e.symm rfl)]
    exact hg
theorem Apt.grown {w : World} {B : Nat} {u v : Value} {ys : List Str} (ha : Apt u v) (h : OwnS w B v ys) {g n c : Nat} (hg : u.ownBlock = some g ∨ w.heap.size ≤ g) : Apt (.slice (some ⟨g, 0, none⟩) n c) v := by
  intro b e1 e2
  have hbg : b = g := by simpa [Value.ownBlock] using e1.symm
  subst hbg
  rcases hg with e | e
  · exact ha b e e2
  · have := (h.lt b e2).2
    omega

/-- What newView gathers of one entry. -/
def rawStep (R : View) (e : Str) : View :=
  match e with
  | [] => ⟨R.count, R.base, R.last, R.changes ++ [[]]⟩
  | c :: t => if c = 64 then ⟨(parseP t : Nat), R.base, R.last, R.changes⟩ else if c = 61 then ⟨R.count, R.base ++ [t], R.last, R.changes⟩ else if c = 126 then ⟨R.count, R.base, R.last ++ [t], R.changes⟩ else ⟨R.count, R.base, R.last, R.changes ++ [c :: t]⟩
def rawP (l : List Str) : View := l.foldl rawStep zeroV
/-- The view whose list form is l. -/
def newViewP (l : List Str) : View := ⟨(rawP l).count, setP (rawP l).base, setP (rawP l).last, setP (rawP l).changes⟩
theorem rawP_snoc (l : List Str) (k : Nat) (h : k < l.length) : rawP (l.take (k + 1)) = rawStep (rawP (l.take k)) (l.getD k []) := by
  unfold rawP
  rw [← take_snoc l k h, List.foldl_append]
  rfl
theorem rawStep_len (R : View) (e : Str) : (rawStep R e).base.length ≤ R.base.length + 1 ∧ (rawStep R e).last.length ≤ R.last.length + 1 ∧ (rawStep R e).changes.length ≤ R.changes.length + 1 := by
  unfold rawStep
  split
  · simp
  · repeat' split
    all_goals simp
theorem rawP_len (l : List Str) : (rawP l).base.length ≤ l.length ∧ (rawP l).last.length ≤ l.length ∧ (rawP l).changes.length ≤ l.length := by
  have key : ∀ (l : List Str) (R : View) (m : Nat), R.base.length ≤ m → R.last.length ≤ m → R.changes.length ≤ m → (l.foldl rawStep R).base.length ≤ m + l.length ∧ (l.foldl rawStep R).last.length ≤ m + l.length ∧ (l.foldl rawStep R).changes.length ≤ m + l.length := by
    intro l
    induction l with
    | nil => intro R m h1 h2 h3; exact ⟨h1, h2, h3⟩
    | cons e l ih =>
      intro R m h1 h2 h3
      have h := rawStep_len R e
      have := ih (rawStep R e) (m + 1) (by omega) (by omega) (by omega)
      simp only [List.foldl_cons, List.length_cons]
      omega
  have := key l zeroV 0 (Nat.le_refl _) (Nat.le_refl _) (Nat.le_refl _)
  simpa [rawP] using this
theorem rawStep_count (R : View) (e : Str) (h : 0 ≤ R.count ∧ R.count < 18446744073709551616) : 0 ≤ (rawStep R e).count ∧ (rawStep R e).count < 18446744073709551616 := by
  unfold rawStep
  split
  · exact h
  · rename_i c t
    have := parseP_lt t
    repeat' split
    · simp; omega
    · exact h
    · exact h
    · exact h
theorem rawP_count (l : List Str) : 0 ≤ (rawP l).count ∧ (rawP l).count < 18446744073709551616 := by
  have key : ∀ (l : List Str) (R : View), (0 ≤ R.count ∧ R.count < 18446744073709551616) → 0 ≤ (l.foldl rawStep R).count ∧ (l.foldl rawStep R).count < 18446744073709551616 := by
    intro l
    induction l with
    | nil => intro R h; exact h
    | cons e l ih => intro R h; exact ih _ (rawStep_count R e h)
  exact key l zeroV ⟨by decide, by decide⟩

/-- The two boxes of newView: the result's, and the view that is built. -/
structure NV (w' : World) (h : Nat) (N : Int) : Prop where
  a : w'.heap[h]? = some (.cells #[.int .u64 0, .slice none 0 0, .slice none 0 0, .slice none 0 0] 42 (0, 0))
  b : w'.heap[h + 1]? = some (.cells #[.int .u64 N, .slice none 0 0, .slice none 0 0, .slice none 0 0] 42 (0, 0))
theorem NV.other {w w' : World} {h : Nat} {N : Int} (H : NV w h N) (e1 : w'.heap[h]? = w.heap[h]?) (e2 : w'.heap[h + 1]? = w.heap[h + 1]?) : NV w' h N := ⟨e1.trans H.a, e2.trans H.b⟩
theorem setCell_blk {w : World} {h o : Nat} {c : Array Value} {t : TypeId} {f : Nat × Nat} (v : Value) (e : w.heap[h]? = some (.cells c t f)) : (w.setCell ⟨h, o, none⟩ v).heap[h]? = some (.cells (c.setIfInBounds o v) t f) := by
  obtain ⟨hlt, hk⟩ := Array.getElem?_eq_some_iff.1 e
  show (w.heap.modify h _)[h]? = _
  rw [Array.getElem?_eq_getElem (by rw [Array.size_modify]; exact hlt), Array.getElem_modify_self, hk]
  rfl
theorem NV.set {w : World} {h : Nat} {N : Int} (H : NV w h N) (N' : Int) : NV (w.setCell ⟨h + 1, 0, none⟩ (.int .u64 N')) h N' :=
  ⟨(Below.heap_setCell _ _ _ _ (by simp)).trans H.a, by rw [setCell_blk _ H.b]; rfl⟩
theorem NV.cells {w : World} {h : Nat} {N : Int} (H : NV w h N) : w.cell? ⟨h + 1, 0, none⟩ = some (.int .u64 N) ∧ w.cell? ⟨h + 1, 1, none⟩ = some (.slice none 0 0) ∧ w.cell? ⟨h + 1, 2, none⟩ = some (.slice none 0 0) ∧ w.cell? ⟨h + 1, 3, none⟩ = some (.slice none 0 0) ∧ w.frozen? ⟨h + 1, 0, none⟩ = false ∧ w.frozen? ⟨h + 1, 1, none⟩ = false ∧ w.frozen? ⟨h + 1, 2, none⟩ = false ∧ w.frozen? ⟨h + 1, 3, none⟩ = false := by
  have := H.b
  refine ⟨?_, ?_, ?_, ?_, ?_, ?_, ?_, ?_⟩ <;> simp [World.cell?, World.frozen?, this]
theorem NV.cellsA {w : World} {h : Nat} {N : Int} (H : NV w h N) : w.cell? ⟨h, 0, none⟩ = some (.int .u64 0) ∧ w.cell? ⟨h, 1, none⟩ = some (.slice none 0 0) ∧ w.cell? ⟨h, 2, none⟩ = some (.slice none 0 0) ∧ w.cell? ⟨h, 3, none⟩ = some (.slice none 0 0) ∧ w.frozen? ⟨h, 0, none⟩ = false ∧ w.frozen? ⟨h, 1, none⟩ = false ∧ w.frozen? ⟨h, 2, none⟩ = false ∧ w.frozen? ⟨h, 3, none⟩ = false := by
  have := H.a
  refine ⟨?_, ?_, ?_, ?_, ?_, ?_, ?_, ?_⟩ <;> simp [World.cell?, World.frozen?, this]

end Go.Proofs.Qxb6616331aGreatDoor
