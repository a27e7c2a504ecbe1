/-
  THE WALKS of seat b6616331aZD, Y3: tally's plain function and its state.
-/
import Derived.Test.Qxb6616331aGreatDoorY1
import Derived.Test.Qxb6616331aGreatDoorY2
namespace Go.Proofs.Qxb6616331aGreatDoor
open Go.RowKit
set_option linter.unusedVariables false
set_option linter.unusedSimpArgs false
set_option linter.unnecessarySimpa false
set_option maxRecDepth 40000

/-- What tally has gathered. -/
structure Tal where
  pairs : List (Str × Str)
  before : List View
  forgot : Bool
  unsure : List View
  larger : View

def tTake (F N : View) (to : List Str) (T : Tal) (A : Ans) : Tal :=
  ⟨T.pairs ++ [(to.getD A.sender.toNat [], A.mark)], T.before ++ betweenP F N A.before, T.forgot || (A.frozen && !A.known), T.unsure ++ betweenP F N A.unsure, T.larger⟩
def tJoin (T : Tal) (A : Ans) : Tal := ⟨T.pairs, T.before, T.forgot, T.unsure, unionP T.larger (newViewP A.next)⟩
/-- tally's loop: what it has gathered at the end, or the newer view. -/
def tGo (F N : View) (to : List Str) : List Ans → Tal → Tal ⊕ View
  | [], T => .inl T
  | A :: As, T => if containsP F (newViewP A.view) then (if equalP (newViewP A.next) N then tGo F N to As (tTake F N to T A) else tGo F N to As (tJoin T A)) else .inr (newViewP A.view)
def tZero (N : View) : Tal := ⟨[], [], false, [], N⟩

theorem tGo_append (F N : View) (to : List Str) : ∀ (As Bs : List Ans) (T : Tal), tGo F N to (As ++ Bs) T = match tGo F N to As T with
    | .inl T' => tGo F N to Bs T'
    | .inr V => .inr V
  | [], Bs, T => rfl
  | A :: As, Bs, T => by
    simp only [List.cons_append, tGo]
    by_cases h1 : containsP F (newViewP A.view) = true
    · simp only [h1, if_true]
      by_cases h2 : equalP (newViewP A.next) N = true
      · simp only [h2, if_true]; exact tGo_append F N to As Bs _
      · simp only [h2, if_false]; exact tGo_append F N to As Bs _
    · simp only [h1, if_false]
      simp

/-- Bounds on an answer. -/
structure OkA (nt : Nat) (A : Ans) : Prop where
  s0 : 0 ≤ A.sender
  s1 : A.sender < nt
  vw : A.view.length ≤ 3145729
  nx : A.next.length ≤ 3145729
  vs : ∀ j, j < A.view.length → (A.view.getD j []).length ≤ 1048577
  ns : ∀ j, j < A.next.length → (A.next.getD j []).length ≤ 1048577
  mr : A.mark.length ≤ 1048577
  bn : A.before.length ≤ 1048576
  un : A.unsure.length ≤ 1048576
  bs : ∀ i, i < A.before.length → (A.before.getD i []).length ≤ 4194304 ∧ ∀ j, j < (A.before.getD i []).length → ((A.before.getD i []).getD j []).length ≤ 1048577
  us : ∀ i, i < A.unsure.length → (A.unsure.getD i []).length ≤ 4194304 ∧ ∀ j, j < (A.unsure.getD i []).length → ((A.unsure.getD i []).getD j []).length ≤ 1048577

/-- Bounds on what is gathered after k answers. -/
structure OkT (k : Nat) (T : Tal) : Prop where
  p : T.pairs.length ≤ k
  b : T.before.length ≤ k * 1048576
  u : T.unsure.length ≤ k * 1048576
  c : T.larger.changes.length ≤ (k + 1) * 3145729
  l : T.larger.last.length ≤ 4194304

theorem newView_len (l : List Str) : (newViewP l).base.length ≤ l.length ∧ (newViewP l).last.length ≤ l.length ∧ (newViewP l).changes.length ≤ l.length := by
  have := rawP_len l
  have h1 := length_setP_le (rawP l).base
  have h2 := length_setP_le (rawP l).last
  have h3 := length_setP_le (rawP l).changes
  exact ⟨by simp [newViewP]; omega, by simp [newViewP]; omega, by simp [newViewP]; omega⟩

theorem join_len (A B : View) : (joinP A B).changes.length ≤ A.changes.length + B.changes.length ∧ (joinP A B).last.length = A.last.length := by
  unfold joinP
  split
  · exact ⟨by omega, rfl⟩
  · have h1 := length_setP_le (A.changes ++ pickP B.changes A.last false)
    have h2 := pickP_le B.changes A.last false
    simp [withP] at h1 ⊢
    omega
theorem add_bound {a b k m : Nat} (h1 : a ≤ k * m) (h2 : b ≤ m) : a + b ≤ (k + 1) * m := by rw [Nat.add_mul, Nat.one_mul]; exact Nat.add_le_add h1 h2
theorem mul_bound {a k m : Nat} (h1 : a ≤ k * m) : a ≤ (k + 1) * m := Nat.le_trans h1 (Nat.mul_le_mul_right _ (Nat.le_succ _))
theorem OkT.take {k nt : Nat} {T : Tal} {A : Ans} (h : OkT k T) (hA : OkA nt A) (F N : View) (to : List Str) : OkT (k + 1) (tTake F N to T A) := by
  refine ⟨?_, ?_, ?_, ?_, ?_⟩
  · have := h.p
    show (T.pairs ++ [(to.getD A.sender.toNat [], A.mark)]).length ≤ k + 1
    rw [List.length_append]
    exact Nat.add_le_add this (Nat.le_refl _)
  · show (T.before ++ betweenP F N A.before).length ≤ _
    rw [List.length_append]
    exact add_bound h.b (Nat.le_trans (between_le F N A.before) hA.bn)
  · show (T.unsure ++ betweenP F N A.unsure).length ≤ _
    rw [List.length_append]
    exact add_bound h.u (Nat.le_trans (between_le F N A.unsure) hA.un)
  · exact mul_bound h.c
  · exact h.l
theorem OkT.join {k nt : Nat} {T : Tal} {A : Ans} (h : OkT k T) (hA : OkA nt A) : OkT (k + 1) (tJoin T A) := by
  have h1 := (newView_len A.next).2.2
  have h2 := (newView_len A.next).2.1
  have h3 := Nat.le_trans h1 hA.nx
  have h4 : (newViewP A.next).last.length ≤ 4194304 := Nat.le_trans h2 (Nat.le_trans hA.nx (by decide))
  refine ⟨Nat.le_trans h.p (Nat.le_succ _), mul_bound h.b, mul_bound h.u, ?_, ?_⟩
  · show (unionP T.larger (newViewP A.next)).changes.length ≤ _
    unfold unionP
    split
    · exact Nat.le_trans (join_len (newViewP A.next) T.larger).1 (by rw [Nat.add_comm]; exact add_bound h.c h3)
    · exact Nat.le_trans (join_len T.larger (newViewP A.next)).1 (add_bound h.c h3)
  · show (unionP T.larger (newViewP A.next)).last.length ≤ _
    unfold unionP
    split
    · rw [(join_len (newViewP A.next) T.larger).2]; exact h4
    · rw [(join_len T.larger (newViewP A.next)).2]; exact h.l

/-- The block of f. -/
def fCells (vb : Value) (fg : Bool) (vu : Value) (m : Nat) (l0 l1 l2 l3 : Value) : Array Value := #[.slice none 0 0, .map (some m), vb, .bool fg, vu, l0, l1, l2, l3]

/-- The state of tally's loop: h: its first block (the boxes of from and next, f, newer, the map). -/
structure TSg (h : Nat) (wr : World) (vf : Value) (fz : List Str) (ps : List (Str × Str)) (vb : Value) (Bf : List View) (fg : Bool) (vu : Value) (Un : List View) (l0 l1 l2 l3 : Value) (Lg : View) : Prop where
  f : wr.heap[h + 2]? = some (.cells (fCells vb fg vu (h + 4) l0 l1 l2 l3) 44 (0, 0))
  ex : ∃ us ut G,
    OwnS wr (h + 5) vf fz ∧ OwnV wr (h + 5) vb us ∧ AllV wr G us Bf ∧ OwnV wr (h + 5) vu ut ∧ AllV wr G ut Un ∧
    RV wr G (.agg #[l0, l1, l2, l3]) Lg ∧ Apt vf vb ∧ Apt vf vu ∧ Apt vb vu ∧
    (∀ k, h ≤ k → k < h + 5 → G k) ∧ (∀ g, vf.ownBlock = some g → G g) ∧ (∀ g, vb.ownBlock = some g → G g) ∧ (∀ g, vu.ownBlock = some g → G g) ∧ (∀ k, G k → h ≤ k ∧ k < wr.heap.size)
  mp : IsMp wr (h + 4) ps
  sz : h + 5 ≤ wr.heap.size

section
variable {h : Nat} {wr w' : World} {vf : Value} {fz : List Str} {ps : List (Str × Str)} {vb : Value} {Bf : List View} {fg : Bool} {vu : Value} {Un : List View} {l0 l1 l2 l3 : Value} {Lg : View}

theorem TSg.kept (H : TSg h wr vf fz ps vb Bf fg vu Un l0 l1 l2 l3 Lg) (q : Kept wr w') : TSg h w' vf fz ps vb Bf fg vu Un l0 l1 l2 l3 Lg := by
  obtain ⟨us, ut, G, e2, e3, e4, e5, e6, e7, e8, e9, e10, e11, e12, e13, e14, e15⟩ := H.ex
  exact ⟨q.blk H.f, ⟨us, ut, G, e2.below q, e3.below q, e4.kept q, e5.below q, e6.kept q, e7.kept q, e8, e9, e10, e11, e12, e13, e14, fun k hk => ⟨(e15 k hk).1, Nat.lt_of_lt_of_le (e15 k hk).2 q.size⟩⟩, H.mp.kept q, Nat.le_trans H.sz q.size⟩

/-- froze = append(froze, x). -/
theorem TSg.froze (H : TSg h wr vf fz ps vb Bf fg vu Un l0 l1 l2 l3 Lg) (x : Str) (hn : fz.length ≤ 1099511627776) :
    ∃ v' w', (Builtin.append_ #[23, 23] 23 #[vf, .slice (some ⟨wr.heap.size, 0, none⟩) 1 1]).run Tryz.prog (wr.alloc (.cells #[sv x] 9)) = .ok v' w' ∧ Below (h + 5) wr w' ∧ TSg h w' v' (fz ++ [x]) ps vb Bf fg vu Un l0 l1 l2 l3 Lg ∧ (∀ b, b < wr.heap.size → some b ≠ vf.ownBlock → w'.heap[b]? = wr.heap[b]?) := by
  obtain ⟨us, ut, G, e2, e3, e4, e5, e6, e7, e8, e9, e10, e11, e12, e13, e14, e15⟩ := H.ex
  have hsz := H.sz
  obtain ⟨g, c, w', hr, r1, r2, r3, r4⟩ := app1x wr (h + 5) vf _ x e2 (by omega) hsz
  have hlow : ∀ b, b < h + 5 → w'.heap[b]? = wr.heap[b]? := fun b hb => r2.block b hb
  have hG : ∀ k, k < wr.heap.size → (G k ∨ k = g) → G k := fun k hk hh => by
    rcases hh with hh | hh
    · exact hh
    · rcases r4 with e | e
      · rw [hh]; exact e12 g e
      · omega
  have hO : Outer (fun k => G k ∨ k = g) wr w' := fun b hb hg => r3 b hb (fun e => hg (.inl (e12 b e.symm)))
  have hg' := r1.lt g rfl
  refine ⟨_, w', hr, r2, ⟨(hlow _ (by omega)).trans H.f, ⟨us, ut, (fun k => G k ∨ k = g), r1, e3.beside e8 r3, e4.grow hG hO, e5.beside e9 r3, e6.grow hG hO, e7.grow hG hO, ?_, ?_, e10, fun k h1 h2 => .inl (e11 k h1 h2), ?_, fun g h => .inl (e13 g h), fun g h => .inl (e14 g h), ?_⟩, H.mp.block (hlow _ (by omega)), Nat.le_trans hsz r2.size⟩, r3⟩
  · intro b h1 h2
    have hbg : b = g := by simpa [Value.ownBlock] using h1.symm
    subst hbg
    rcases r4 with e | e
    · exact e8 b e h2
    · have := (e3.lt b h2).2; omega
  · intro b h1 h2
    have hbg : b = g := by simpa [Value.ownBlock] using h1.symm
    subst hbg
    rcases r4 with e | e
    · exact e9 b e h2
    · have := (e5.lt b h2).2; omega
  · intro g' hg
    exact .inr (by simpa [Value.ownBlock] using hg.symm)
  · intro k hk
    rcases hk with hk | hk
    · exact ⟨(e15 k hk).1, Nat.lt_of_lt_of_le (e15 k hk).2 r2.size⟩
    · rw [hk]; exact ⟨by omega, hg'.2⟩

/-- f.marks[x] = m. -/
theorem TSg.mark (H : TSg h wr vf fz ps vb Bf fg vu Un l0 l1 l2 l3 Lg) (x m : Str) (hn : ps.length ≤ 1073741824) (hx : x.length ≤ 1073741824) (hm : m.length ≤ 1073741824) :
    ∃ w', (Instr.mapUpdate 39 (.map (some (h + 4))) (sv x) (sv m)).run Tryz.prog wr = .ok () w' ∧ wr.grownBy w' (some (h + 4)) ∧ TSg h w' vf fz (ps ++ [(x, m)]) vb Bf fg vu Un l0 l1 l2 l3 Lg := by
  obtain ⟨us, ut, G, e2, e3, e4, e5, e6, e7, e8, e9, e10, e11, e12, e13, e14, e15⟩ := H.ex
  obtain ⟨w', hr, r1, r2⟩ := H.mp.store hn x m hx hm
  have hgb := r2.grown
  have hsz := H.sz
  have hb : ∀ b, b < wr.heap.size → b ≠ h + 4 → w'.heap[b]? = wr.heap[b]? := fun b hl hb => hgb.block b hl (fun e => hb (by cases e; rfl))
  have hO : Outer G wr w' := fun b hl hg => hb b hl (fun e => hg (by rw [e]; exact e11 _ (by omega) (by omega)))
  have hOS : ∀ (v : Value) (ys : List Str), OwnS wr (h + 5) v ys → OwnS w' (h + 5) v ys := fun v ys o => by
    refine ⟨o.1, ?_⟩
    rcases o.2 with o' | ⟨g, cap, cur, rfl, k1, k2, k3, k4, k5, k6⟩
    · exact .inl o'
    · exact .inr ⟨g, cap, cur, rfl, k1, (hb g (lt_of_blk k2) (by omega)).trans k2, k3, k4, k5, k6⟩
  have hOV : ∀ (v : Value) (ys : List Value), OwnV wr (h + 5) v ys → OwnV w' (h + 5) v ys := fun v ys o => by
    refine ⟨o.1, ?_⟩
    rcases o.2 with o' | ⟨g, cap, cur, rfl, k1, k2, k3, k4, k5, k6⟩
    · exact .inl o'
    · exact .inr ⟨g, cap, cur, rfl, k1, (hb g (lt_of_blk k2) (by omega)).trans k2, k3, k4, k5, k6⟩
  refine ⟨w', hr, hgb, ⟨(hb _ (by omega) (by omega)).trans H.f, ⟨us, ut, G, hOS _ _ e2, hOV _ _ e3, e4.grow (fun _ _ h => h) hO, hOV _ _ e5, e6.grow (fun _ _ h => h) hO, e7.grow (fun _ _ h => h) hO, e8, e9, e10, e11, e12, e13, e14, fun k hk => ⟨(e15 k hk).1, Nat.lt_of_lt_of_le (e15 k hk).2 hgb.size⟩⟩, r1, Nat.le_trans hsz hgb.size⟩⟩

/-- A store into f. -/
theorem TSg.cellsF (H : TSg h wr vf fz ps vb Bf fg vu Un l0 l1 l2 l3 Lg) : wr.cell? ⟨h + 2, 0, none⟩ = some (.slice none 0 0) ∧ wr.cell? ⟨h + 2, 1, none⟩ = some (.map (some (h + 4))) ∧ wr.cell? ⟨h + 2, 2, none⟩ = some vb ∧ wr.cell? ⟨h + 2, 3, none⟩ = some (.bool fg) ∧ wr.cell? ⟨h + 2, 4, none⟩ = some vu ∧ wr.cell? ⟨h + 2, 5, none⟩ = some l0 ∧ wr.cell? ⟨h + 2, 6, none⟩ = some l1 ∧ wr.cell? ⟨h + 2, 7, none⟩ = some l2 ∧ wr.cell? ⟨h + 2, 8, none⟩ = some l3 := by
  have := H.f
  refine ⟨?_, ?_, ?_, ?_, ?_, ?_, ?_, ?_, ?_⟩ <;> simp [World.cell?, this, fCells]
theorem TSg.freeF (H : TSg h wr vf fz ps vb Bf fg vu Un l0 l1 l2 l3 Lg) (j : Nat) : wr.frozen? ⟨h + 2, j, none⟩ = false := by
  have := H.f
  simp [World.frozen?, this]


theorem TSg.outF (H : TSg h wr vf fz ps vb Bf fg vu Un l0 l1 l2 l3 Lg) (j : Nat) (v : Value) : ∃ us ut G,
    OwnS (wr.setCell ⟨h + 2, j, none⟩ v) (h + 5) vf fz ∧ OwnV (wr.setCell ⟨h + 2, j, none⟩ v) (h + 5) vb us ∧ AllV (wr.setCell ⟨h + 2, j, none⟩ v) G us Bf ∧ OwnV (wr.setCell ⟨h + 2, j, none⟩ v) (h + 5) vu ut ∧ AllV (wr.setCell ⟨h + 2, j, none⟩ v) G ut Un ∧
    RV (wr.setCell ⟨h + 2, j, none⟩ v) G (.agg #[l0, l1, l2, l3]) Lg ∧ Apt vf vb ∧ Apt vf vu ∧ Apt vb vu ∧
    (∀ k, h ≤ k → k < h + 5 → G k) ∧ (∀ g, vf.ownBlock = some g → G g) ∧ (∀ g, vb.ownBlock = some g → G g) ∧ (∀ g, vu.ownBlock = some g → G g) ∧ (∀ k, G k → h ≤ k ∧ k < (wr.setCell ⟨h + 2, j, none⟩ v).heap.size) := by
  obtain ⟨us, ut, G, e2, e3, e4, e5, e6, e7, e8, e9, e10, e11, e12, e13, e14, e15⟩ := H.ex
  have hO : Outer G wr (wr.setCell ⟨h + 2, j, none⟩ v) := outer_set wr (h + 2) j v (e11 _ (by omega) (by omega))
  exact ⟨us, ut, G, e2.setCell _ (by simp) _, e3.setCell _ (by simp) _, e4.grow (fun _ _ h => h) hO, e5.setCell _ (by simp) _, e6.grow (fun _ _ h => h) hO, e7.grow (fun _ _ h => h) hO, e8, e9, e10, e11, e12, e13, e14, fun k hk => by simpa using e15 k hk⟩
theorem TSg.mpF (H : TSg h wr vf fz ps vb Bf fg vu Un l0 l1 l2 l3 Lg) (j : Nat) (v : Value) : IsMp (wr.setCell ⟨h + 2, j, none⟩ v) (h + 4) ps := H.mp.block (Below.heap_setCell _ _ _ _ (by simp))
theorem TSg.setForgot (H : TSg h wr vf fz ps vb Bf fg vu Un l0 l1 l2 l3 Lg) (b : Bool) : TSg h (wr.setCell ⟨h + 2, 3, none⟩ (.bool b)) vf fz ps vb Bf b vu Un l0 l1 l2 l3 Lg :=
  ⟨by rw [setCell_blk _ H.f]; rfl, H.outF _ _, H.mpF _ _, by simpa using H.sz⟩
theorem TSg.addB (H : TSg h wr vf fz ps vb Bf fg vu Un l0 l1 l2 l3 Lg) (a : Option Addr) (n c : Nat) (ut' : List Value) (Ut' : List View) (w1 : World) (H1 : TSg h w1 vf fz ps vb Bf fg vu Un l0 l1 l2 l3 Lg) (hO : OwnV wr w1.heap.size (.slice a n c) ut') (hn : ut'.length = n) (hA : AllV wr (fun k => k < w1.heap.size) ut' Ut') (hb : Bf.length + n ≤ 1759218604441) :
    ∃ a' n' c' w', (Builtin.append_ #[40, 40] 40 #[vb, .slice a n c]).run Tryz.prog wr = .ok (.slice a' n' c') w' ∧ Below (h + 5) wr w' ∧ TSg h (w'.setCell ⟨h + 2, 2, none⟩ (.slice a' n' c')) vf fz ps (.slice a' n' c') (Bf ++ Ut') fg vu Un l0 l1 l2 l3 Lg ∧ w'.cell? ⟨h + 2, 2, none⟩ = some vb ∧ w'.frozen? ⟨h + 2, 2, none⟩ = false ∧ (∀ b, b < wr.heap.size → some b ≠ vb.ownBlock → w'.heap[b]? = wr.heap[b]?) := by
  obtain ⟨us, ut, G, e2, e3, e4, e5, e6, e7, e8, e9, e10, e11, e12, e13, e14, e15⟩ := H.ex
  obtain ⟨us1, ut1, G1, d2, d3, -, d5, -, -, -, -, -, -, -, -, -, -⟩ := H1.ex
  have hsz := H.sz
  have hsz1 := H1.sz
  have hfl := hA.flat
  have hlen := hA.1
  have hl4 := e4.1
  obtain ⟨a', c', w', hr, r1, r2, r3, r4⟩ := appV wr (h + 5) vb us e3 a n c ut' hn (by rw [hfl.1]; omega) hfl.2
    (fun e => by
      subst e
      rcases hO.2 with ⟨e', h0⟩ | ⟨g, cap, cur, e', _⟩
      · cases e'; exact ⟨rfl, rfl⟩
      · cases e')
    (fun ad e j u hj => by
      subst e
      have hj' := (List.getElem?_eq_some_iff.1 hj).1
      obtain ⟨b, e', -, -, hc⟩ := hO.cells (by
        rcases Nat.eq_zero_or_pos ut'.length with h0 | h0
        · rw [List.eq_nil_of_length_eq_zero h0] at hj'; simp at hj'
        · exact h0)
      cases e'
      rw [Addr.add_lit, Nat.zero_add]
      exact hc j u hj) (by omega) hsz
  have hlow : ∀ b, b < h + 5 → w'.heap[b]? = wr.heap[b]? := fun b hb => r2.block b hb
  obtain ⟨K, hK⟩ : ∃ K : Nat → Prop, K = fun k => (h ≤ k ∧ k < h + 5) ∨ vf.ownBlock = some k ∨ vb.ownBlock = some k ∨ vu.ownBlock = some k := ⟨_, rfl⟩
  have hKG : ∀ k, K k → G k := fun k hk => by
    rw [hK] at hk
    rcases hk with hk | hk | hk | hk
    · exact e11 k hk.1 hk.2
    · exact e12 k hk
    · exact e13 k hk
    · exact e14 k hk
  have hK1 : ∀ k, K k → k < w1.heap.size := fun k hk => by
    rw [hK] at hk
    rcases hk with hk | hk | hk | hk
    · omega
    · exact (d2.lt k hk).2
    · exact (d3.lt k hk).2
    · exact (d5.lt k hk).2
  have hVK : ∀ g, vb.ownBlock = some g → K g := fun g hg => by rw [hK]; exact .inr (.inr (.inl hg))
  have hG : ∀ k, k < wr.heap.size → (K k ∨ (k = wr.heap.size ∧ k < w'.heap.size)) → K k := fun k hk hh => by
    rcases hh with hh | hh
    · exact hh
    · omega
  have hO' : Outer (fun k => K k ∨ (k = wr.heap.size ∧ k < w'.heap.size)) wr w' := fun b hb hg => r3 b hb (fun e => hg (.inl (hVK b e.symm)))
  have m4 : AllV w' (fun k => K k ∨ (k = wr.heap.size ∧ k < w'.heap.size)) us Bf := (e4.mono (fun k _ hk => hKG k hk)).grow hG hO'
  have m6 : AllV w' (fun k => K k ∨ (k = wr.heap.size ∧ k < w'.heap.size)) ut Un := (e6.mono (fun k _ hk => hKG k hk)).grow hG hO'
  have m7 : RV w' (fun k => K k ∨ (k = wr.heap.size ∧ k < w'.heap.size)) (.agg #[l0, l1, l2, l3]) Lg := (e7.mono (fun k _ hk => hKG k hk)).grow hG hO'
  have mA : AllV w' (fun k => K k ∨ (k = wr.heap.size ∧ k < w'.heap.size)) ut' Ut' := (hA.mono (fun k _ hk => hK1 k hk)).grow hG hO'
  have hKh : ∀ k, h ≤ k → k < h + 5 → K k := fun k h1 h2 => by rw [hK]; exact .inl ⟨h1, h2⟩
  have hS : Outer (fun k => K k ∨ (k = wr.heap.size ∧ k < w'.heap.size)) w' (w'.setCell ⟨h + 2, 2, none⟩ (.slice a' (us.length + n) c')) := outer_set w' (h + 2) 2 _ (.inl (hKh _ (by omega) (by omega)))
  have hf' : w'.heap[h + 2]? = some (.cells (fCells vb fg vu (h + 4) l0 l1 l2 l3) 44 (0, 0)) := (hlow _ (by omega)).trans H.f
  have hnew : ∀ g, (Value.slice a' (us.length + n) c').ownBlock = some g → K g ∨ (g = wr.heap.size ∧ g < w'.heap.size) := fun g hg => by
    rcases r4 with e | e
    · exact .inl (hVK g (by rw [← e]; exact hg))
    · have hlt := (r1.lt g hg).2
      rw [e] at hg; cases hg; exact .inr ⟨rfl, hlt⟩
  have apt : ∀ (v : Value), Apt v vb → (∀ g, v.ownBlock = some g → g < wr.heap.size) → Apt v (.slice a' (us.length + n) c') := fun v hv hl b h1 h2 => by
    rcases r4 with e | e
    · rw [e] at h2; exact hv b h1 h2
    · rw [e] at h2; cases h2; have := hl _ h1; omega
  refine ⟨a', _, c', w', hr, r2, ⟨by rw [setCell_blk _ hf']; rfl, ⟨us ++ ut', ut, (fun k => K k ∨ (k = wr.heap.size ∧ k < w'.heap.size)), (e2.beside e8.symm r3).setCell _ (by simp) _, (by simpa [hn] using r1 : OwnV w' (h + 5) (.slice a' (us.length + n) c') (us ++ ut')).setCell _ (by simp) _, (m4.append mA).grow (fun _ _ h => h) hS, (e5.beside e10 r3).setCell _ (by simp) _, m6.grow (fun _ _ h => h) hS, m7.outer hS, apt vf e8 (fun g hg => (e2.lt g hg).2), e9, (apt vu e10.symm (fun g hg => (e5.lt g hg).2)).symm, fun k h1 h2 => .inl (hKh k h1 h2), fun g hg => .inl (by rw [hK]; exact .inr (.inl hg)), hnew, fun g hg => .inl (by rw [hK]; exact .inr (.inr (.inr hg))), ?_⟩, (H.mp.block (hlow _ (by omega))).block (Below.heap_setCell _ _ _ _ (by simp)), by simpa using Nat.le_trans hsz r2.size⟩, by simp [World.cell?, hf', fCells], by simp [World.frozen?, hf'], r3⟩
  intro k hk
  rcases hk with hk | hk
  · have := e15 k (hKG k hk)
    exact ⟨this.1, by simpa using Nat.lt_of_lt_of_le this.2 r2.size⟩
  · exact ⟨by omega, by simpa using hk.2⟩
theorem TSg.addU (H : TSg h wr vf fz ps vb Bf fg vu Un l0 l1 l2 l3 Lg) (a : Option Addr) (n c : Nat) (ut' : List Value) (Ut' : List View) (w1 : World) (H1 : TSg h w1 vf fz ps vb Bf fg vu Un l0 l1 l2 l3 Lg) (hO : OwnV wr w1.heap.size (.slice a n c) ut') (hn : ut'.length = n) (hA : AllV wr (fun k => k < w1.heap.size) ut' Ut') (hb : Un.length + n ≤ 1759218604441) :
    ∃ a' n' c' w', (Builtin.append_ #[40, 40] 40 #[vu, .slice a n c]).run Tryz.prog wr = .ok (.slice a' n' c') w' ∧ Below (h + 5) wr w' ∧ TSg h (w'.setCell ⟨h + 2, 4, none⟩ (.slice a' n' c')) vf fz ps vb Bf fg (.slice a' n' c') (Un ++ Ut') l0 l1 l2 l3 Lg ∧ w'.cell? ⟨h + 2, 4, none⟩ = some vu ∧ w'.frozen? ⟨h + 2, 4, none⟩ = false ∧ (∀ b, b < wr.heap.size → some b ≠ vu.ownBlock → w'.heap[b]? = wr.heap[b]?) := by
  obtain ⟨us, ut, G, e2, e3, e4, e5, e6, e7, e8, e9, e10, e11, e12, e13, e14, e15⟩ := H.ex
  obtain ⟨us1, ut1, G1, d2, d3, -, d5, -, -, -, -, -, -, -, -, -, -⟩ := H1.ex
  have hsz := H.sz
  have hsz1 := H1.sz
  have hfl := hA.flat
  have hlen := hA.1
  have hl4 := e6.1
  obtain ⟨a', c', w', hr, r1, r2, r3, r4⟩ := appV wr (h + 5) vu ut e5 a n c ut' hn (by rw [hfl.1]; omega) hfl.2
    (fun e => by
      subst e
      rcases hO.2 with ⟨e', h0⟩ | ⟨g, cap, cur, e', _⟩
      · cases e'; exact ⟨rfl, rfl⟩
      · cases e')
    (fun ad e j u hj => by
      subst e
      have hj' := (List.getElem?_eq_some_iff.1 hj).1
      obtain ⟨b, e', -, -, hc⟩ := hO.cells (by
        rcases Nat.eq_zero_or_pos ut'.length with h0 | h0
        · rw [List.eq_nil_of_length_eq_zero h0] at hj'; simp at hj'
        · exact h0)
      cases e'
      rw [Addr.add_lit, Nat.zero_add]
      exact hc j u hj) (by omega) hsz
  have hlow : ∀ b, b < h + 5 → w'.heap[b]? = wr.heap[b]? := fun b hb => r2.block b hb
  obtain ⟨K, hK⟩ : ∃ K : Nat → Prop, K = fun k => (h ≤ k ∧ k < h + 5) ∨ vf.ownBlock = some k ∨ vb.ownBlock = some k ∨ vu.ownBlock = some k := ⟨_, rfl⟩
  have hKG : ∀ k, K k → G k := fun k hk => by
    rw [hK] at hk
    rcases hk with hk | hk | hk | hk
    · exact e11 k hk.1 hk.2
    · exact e12 k hk
    · exact e13 k hk
    · exact e14 k hk
  have hK1 : ∀ k, K k → k < w1.heap.size := fun k hk => by
    rw [hK] at hk
    rcases hk with hk | hk | hk | hk
    · omega
    · exact (d2.lt k hk).2
    · exact (d3.lt k hk).2
    · exact (d5.lt k hk).2
  have hVK : ∀ g, vu.ownBlock = some g → K g := fun g hg => by rw [hK]; exact .inr (.inr (.inr hg))
  have hG : ∀ k, k < wr.heap.size → (K k ∨ (k = wr.heap.size ∧ k < w'.heap.size)) → K k := fun k hk hh => by
    rcases hh with hh | hh
    · exact hh
    · omega
  have hO' : Outer (fun k => K k ∨ (k = wr.heap.size ∧ k < w'.heap.size)) wr w' := fun b hb hg => r3 b hb (fun e => hg (.inl (hVK b e.symm)))
  have m4 : AllV w' (fun k => K k ∨ (k = wr.heap.size ∧ k < w'.heap.size)) us Bf := (e4.mono (fun k _ hk => hKG k hk)).grow hG hO'
  have m6 : AllV w' (fun k => K k ∨ (k = wr.heap.size ∧ k < w'.heap.size)) ut Un := (e6.mono (fun k _ hk => hKG k hk)).grow hG hO'
  have m7 : RV w' (fun k => K k ∨ (k = wr.heap.size ∧ k < w'.heap.size)) (.agg #[l0, l1, l2, l3]) Lg := (e7.mono (fun k _ hk => hKG k hk)).grow hG hO'
  have mA : AllV w' (fun k => K k ∨ (k = wr.heap.size ∧ k < w'.heap.size)) ut' Ut' := (hA.mono (fun k _ hk => hK1 k hk)).grow hG hO'
  have hKh : ∀ k, h ≤ k → k < h + 5 → K k := fun k h1 h2 => by rw [hK]; exact .inl ⟨h1, h2⟩
  have hS : Outer (fun k => K k ∨ (k = wr.heap.size ∧ k < w'.heap.size)) w' (w'.setCell ⟨h + 2, 4, none⟩ (.slice a' (ut.length + n) c')) := outer_set w' (h + 2) 4 _ (.inl (hKh _ (by omega) (by omega)))
  have hf' : w'.heap[h + 2]? = some (.cells (fCells vb fg vu (h + 4) l0 l1 l2 l3) 44 (0, 0)) := (hlow _ (by omega)).trans H.f
  have hnew : ∀ g, (Value.slice a' (ut.length + n) c').ownBlock = some g → K g ∨ (g = wr.heap.size ∧ g < w'.heap.size) := fun g hg => by
    rcases r4 with e | e
    · exact .inl (hVK g (by rw [← e]; exact hg))
    · have hlt := (r1.lt g hg).2
      rw [e] at hg; cases hg; exact .inr ⟨rfl, hlt⟩
  have apt : ∀ (v : Value), Apt v vu → (∀ g, v.ownBlock = some g → g < wr.heap.size) → Apt v (.slice a' (ut.length + n) c') := fun v hv hl b h1 h2 => by
    rcases r4 with e | e
    · rw [e] at h2; exact hv b h1 h2
    · rw [e] at h2; cases h2; have := hl _ h1; omega
  refine ⟨a', _, c', w', hr, r2, ⟨by rw [setCell_blk _ hf']; rfl, ⟨us, ut ++ ut', (fun k => K k ∨ (k = wr.heap.size ∧ k < w'.heap.size)), (e2.beside e9.symm r3).setCell _ (by simp) _, (e3.beside e10.symm r3).setCell _ (by simp) _, m4.grow (fun _ _ h => h) hS, (by simpa [hn] using r1 : OwnV w' (h + 5) (.slice a' (ut.length + n) c') (ut ++ ut')).setCell _ (by simp) _, (m6.append mA).grow (fun _ _ h => h) hS, m7.outer hS, e8, apt vf e9 (fun g hg => (e2.lt g hg).2), apt vb e10 (fun g hg => (e3.lt g hg).2), fun k h1 h2 => .inl (hKh k h1 h2), fun g hg => .inl (by rw [hK]; exact .inr (.inl hg)), fun g hg => .inl (by rw [hK]; exact .inr (.inr (.inl hg))), hnew, ?_⟩, (H.mp.block (hlow _ (by omega))).block (Below.heap_setCell _ _ _ _ (by simp)), by simpa using Nat.le_trans hsz r2.size⟩, by simp [World.cell?, hf', fCells], by simp [World.frozen?, hf'], r3⟩
  intro k hk
  rcases hk with hk | hk
  · have := e15 k (hKG k hk)
    exact ⟨this.1, by simpa using Nat.lt_of_lt_of_le this.2 r2.size⟩
  · exact ⟨by omega, by simpa using hk.2⟩
end

end Go.Proofs.Qxb6616331aGreatDoor
