/-
  THE WALKS of seat b6616331aZD, Y4: tally.
-/
import Derived.Test.Qxb6616331aGreatDoorY3
import Derived.Deep.CutRange
namespace Go.Proofs.Qxb6616331aGreatDoor
open Go.RowKit
set_option linter.unusedVariables false
set_option linter.unusedSimpArgs false
set_option linter.unnecessarySimpa false
set_option maxRecDepth 40000

/-- The blocks that the walk of tally writes. -/
def KK (h : Nat) (vf vb vu : Value) : Nat → Prop := fun k => (h ≤ k ∧ k < h + 5) ∨ vf.ownBlock = some k ∨ vb.ownBlock = some k ∨ vu.ownBlock = some k
section
variable {h : Nat} {wr w' : World} {vf : Value} {fz : List Str} {ps : List (Str × Str)} {vb : Value} {Bf : List View} {fg : Bool} {vu : Value} {Un : List View} {l0 l1 l2 l3 : Value} {Lg : View}
theorem TSg.rvK (H : TSg h wr vf fz ps vb Bf fg vu Un l0 l1 l2 l3 Lg) : RV wr (KK h vf vb vu) (.agg #[l0, l1, l2, l3]) Lg ∧ ∀ k, KK h vf vb vu k → k < wr.heap.size := by
  obtain ⟨us, ut, G, e2, e3, e4, e5, e6, e7, e8, e9, e10, e11, e12, e13, e14, e15⟩ := H.ex
  have hk : ∀ k, KK h vf vb vu k → G k := fun k hk => by
    rcases hk with hk | hk | hk | hk
    · exact e11 k hk.1 hk.2
    · exact e12 k hk
    · exact e13 k hk
    · exact e14 k hk
  exact ⟨e7.mono (fun k _ h => hk k h), fun k h => (e15 k (hk k h)).2⟩
theorem set1_blk {w : World} {b : Nat} {c : Array Value} {t : TypeId} (e : w.heap[b]? = some (.cells c t (0, 0))) (o : Nat) (v : Value) (c' : Array Value) (hc : c.setIfInBounds o v = c') : (w.setCell ⟨b, o, none⟩ v).heap[b]? = some (.cells c' t (0, 0)) := by
  rw [setCell_blk _ e, hc]
theorem TSg.setLarger (H : TSg h wr vf fz ps vb Bf fg vu Un l0 l1 l2 l3 Lg) (m0 m1 m2 m3 : Value) (L' : View) (hL : RV wr (KK h vf vb vu) (.agg #[m0, m1, m2, m3]) L') (X : World)
    (hX : X = (((wr.setCell ⟨h + 2, 5, none⟩ m0).setCell ⟨h + 2, 6, none⟩ m1).setCell ⟨h + 2, 7, none⟩ m2).setCell ⟨h + 2, 8, none⟩ m3) : TSg h X vf fz ps vb Bf fg vu Un m0 m1 m2 m3 L' := by
  subst hX
  obtain ⟨us, ut, G, e2, e3, e4, e5, e6, e7, e8, e9, e10, e11, e12, e13, e14, e15⟩ := H.ex
  have hk : ∀ k, KK h vf vb vu k → G k := fun k hk => by
    rcases hk with hk | hk | hk | hk
    · exact e11 k hk.1 hk.2
    · exact e12 k hk
    · exact e13 k hk
    · exact e14 k hk
  have hK : KK h vf vb vu (h + 2) := .inl ⟨by omega, by omega⟩
  have hO : Outer (KK h vf vb vu) wr ((((wr.setCell ⟨h + 2, 5, none⟩ m0).setCell ⟨h + 2, 6, none⟩ m1).setCell ⟨h + 2, 7, none⟩ m2).setCell ⟨h + 2, 8, none⟩ m3) := fun b hb hg => by
    have hne : b ≠ h + 2 := fun e => hg (by rw [e]; exact hK)
    rw [Below.heap_setCell _ _ _ _ (by simpa using hne), Below.heap_setCell _ _ _ _ (by simpa using hne), Below.heap_setCell _ _ _ _ (by simpa using hne), Below.heap_setCell _ _ _ _ (by simpa using hne)]
  have mono4 : ∀ {us : List Value} {Vs : List View}, AllV wr G us Vs → AllV ((((wr.setCell ⟨h + 2, 5, none⟩ m0).setCell ⟨h + 2, 6, none⟩ m1).setCell ⟨h + 2, 7, none⟩ m2).setCell ⟨h + 2, 8, none⟩ m3) (KK h vf vb vu) us Vs := fun ha => (ha.mono (fun k _ h => hk k h)).grow (fun _ _ h => h) hO
  refine ⟨?_, ⟨us, ut, KK h vf vb vu, (((e2.setCell _ (by simp) _).setCell _ (by simp) _).setCell _ (by simp) _).setCell _ (by simp) _, (((e3.setCell _ (by simp) _).setCell _ (by simp) _).setCell _ (by simp) _).setCell _ (by simp) _, mono4 e4, (((e5.setCell _ (by simp) _).setCell _ (by simp) _).setCell _ (by simp) _).setCell _ (by simp) _, mono4 e6, hL.outer hO, e8, e9, e10, fun k h1 h2 => .inl ⟨h1, h2⟩, fun g hg => .inr (.inl hg), fun g hg => .inr (.inr (.inl hg)), fun g hg => .inr (.inr (.inr hg)), fun k hk' => by simpa using e15 k (hk k hk')⟩, ?_, by simpa using H.sz⟩
  · exact set1_blk (set1_blk (set1_blk (set1_blk H.f 5 m0 _ rfl) 6 m1 _ rfl) 7 m2 _ rfl) 8 m3 _ rfl
  · exact (((H.mp.block (Below.heap_setCell _ _ _ _ (by simp))).block (Below.heap_setCell _ _ _ _ (by simp))).block (Below.heap_setCell _ _ _ _ (by simp))).block (Below.heap_setCell _ _ _ _ (by simp))
end

/-- The value reads as what tally has found. -/
def FrzIs (B : Nat) (w' : World) (v : Value) (T : Tal) : Prop := ∃ az cz m vb us vu ut l0 l1 l2 l3, v = .agg #[.slice az (setP (T.pairs.map (·.1))).length cz, .map (some m), vb, .bool T.forgot, vu, l0, l1, l2, l3] ∧
  IsL w' az (setP (T.pairs.map (·.1))).length (setP (T.pairs.map (·.1))) ∧ IsMp w' m T.pairs ∧ OwnV w' B vb us ∧ AllV w' (fun _ => False) us T.before ∧ OwnV w' B vu ut ∧ AllV w' (fun _ => False) ut T.unsure ∧ IsV w' (.agg #[l0, l1, l2, l3]) T.larger
def zeroFrz : Value := .agg #[.slice none 0 0, .map none, .slice none 0 0, .bool false, .slice none 0 0, .int .u64 0, .slice none 0 0, .slice none 0 0, .slice none 0 0]
def zeroVw : Value := .agg #[.int .u64 0, .slice none 0 0, .slice none 0 0, .slice none 0 0]
def RetT (B : Nat) (w' : World) (e : Ending) : Tal ⊕ View → Prop
  | .inl T => ∃ v, e = .returned (.tuple #[v, zeroVw]) ∧ FrzIs B w' v T
  | .inr V => ∃ v, e = .returned (.tuple #[zeroFrz, v]) ∧ IsV w' v V

theorem Outer.refl (G : Nat → Prop) (w : World) : Outer G w w := fun _ _ _ => rfl
theorem Outer.setC {G : Nat → Prop} {w X : World} (h : Outer G w X) (k o : Nat) (v : Value) (hk : G k) : Outer G w (X.setCell ⟨k, o, none⟩ v) := fun b hb hg => (Below.heap_setCell _ _ _ _ (fun e => hg (by rw [e]; exact hk))).trans (h b hb hg)
theorem Outer.al {G : Nat → Prop} {w X : World} (h : Outer G w X) (hs : w.heap.size ≤ X.heap.size) (o : Obj) : Outer G w (X.alloc o) := fun b hb hg => (Below.heap_alloc _ _ _ (by omega)).trans (h b hb hg)

/-- 4 cells are laid. -/
def put4 (w : World) (b : Nat) (x0 x1 x2 x3 : Value) : World := ((((w.setCell ⟨b, 0, none⟩ x0).setCell ⟨b, 1, none⟩ x1).setCell ⟨b, 2, none⟩ x2).setCell ⟨b, 3, none⟩ x3)
theorem put4_blk {w : World} {b : Nat} {t : TypeId} {c0 c1 c2 c3 : Value} (e : w.heap[b]? = some (.cells #[c0, c1, c2, c3] t (0, 0))) (x0 x1 x2 x3 : Value) : (put4 w b x0 x1 x2 x3).heap[b]? = some (.cells #[x0, x1, x2, x3] t (0, 0)) := by
  have e0 := set1_blk e 0 x0 #[x0, c1, c2, c3] rfl
  have e1 := set1_blk e0 1 x1 #[x0, x1, c2, c3] rfl
  have e2 := set1_blk e1 2 x2 #[x0, x1, x2, c3] rfl
  have e3 := set1_blk e2 3 x3 #[x0, x1, x2, x3] rfl
  exact e3
theorem put4_other (w : World) (b : Nat) (x0 x1 x2 x3 : Value) (k : Nat) (h : k ≠ b) : (put4 w b x0 x1 x2 x3).heap[k]? = w.heap[k]? := by
  unfold put4
  rw [Below.heap_setCell _ _ _ _ h, Below.heap_setCell _ _ _ _ h, Below.heap_setCell _ _ _ _ h, Below.heap_setCell _ _ _ _ h]
theorem Kept.put4 {w X : World} (q : Kept w X) (b : Nat) (hb : w.heap.size ≤ b) (x0 x1 x2 x3 : Value) : Kept w (_root_.Go.Proofs.Qxb6616331aGreatDoor.put4 X b x0 x1 x2 x3) := by
  have q := q.setNew ⟨b, 0, none⟩ hb x0
  have q := q.setNew ⟨b, 1, none⟩ hb x1
  have q := q.setNew ⟨b, 2, none⟩ hb x2
  have q := q.setNew ⟨b, 3, none⟩ hb x3
  exact q
theorem Outer.put4 {G : Nat → Prop} {w X : World} (q : Outer G w X) (b : Nat) (hb : G b) (x0 x1 x2 x3 : Value) : Outer G w (_root_.Go.Proofs.Qxb6616331aGreatDoor.put4 X b x0 x1 x2 x3) := by
  have q := q.setC b 0 x0 hb
  have q := q.setC b 1 x1 hb
  have q := q.setC b 2 x2 hb
  have q := q.setC b 3 x3 hb
  exact q
/-- 9 cells are laid. -/
def put9 (w : World) (b : Nat) (x0 x1 x2 x3 x4 x5 x6 x7 x8 : Value) : World := (((((((((w.setCell ⟨b, 0, none⟩ x0).setCell ⟨b, 1, none⟩ x1).setCell ⟨b, 2, none⟩ x2).setCell ⟨b, 3, none⟩ x3).setCell ⟨b, 4, none⟩ x4).setCell ⟨b, 5, none⟩ x5).setCell ⟨b, 6, none⟩ x6).setCell ⟨b, 7, none⟩ x7).setCell ⟨b, 8, none⟩ x8)
theorem put9_blk {w : World} {b : Nat} {t : TypeId} {c0 c1 c2 c3 c4 c5 c6 c7 c8 : Value} (e : w.heap[b]? = some (.cells #[c0, c1, c2, c3, c4, c5, c6, c7, c8] t (0, 0))) (x0 x1 x2 x3 x4 x5 x6 x7 x8 : Value) : (put9 w b x0 x1 x2 x3 x4 x5 x6 x7 x8).heap[b]? = some (.cells #[x0, x1, x2, x3, x4, x5, x6, x7, x8] t (0, 0)) := by
  have e0 := set1_blk e 0 x0 #[x0, c1, c2, c3, c4, c5, c6, c7, c8] rfl
  have e1 := set1_blk e0 1 x1 #[x0, x1, c2, c3, c4, c5, c6, c7, c8] rfl
  have e2 := set1_blk e1 2 x2 #[x0, x1, x2, c3, c4, c5, c6, c7, c8] rfl
  have e3 := set1_blk e2 3 x3 #[x0, x1, x2, x3, c4, c5, c6, c7, c8] rfl
  have e4 := set1_blk e3 4 x4 #[x0, x1, x2, x3, x4, c5, c6, c7, c8] rfl
  have e5 := set1_blk e4 5 x5 #[x0, x1, x2, x3, x4, x5, c6, c7, c8] rfl
  have e6 := set1_blk e5 6 x6 #[x0, x1, x2, x3, x4, x5, x6, c7, c8] rfl
  have e7 := set1_blk e6 7 x7 #[x0, x1, x2, x3, x4, x5, x6, x7, c8] rfl
  have e8 := set1_blk e7 8 x8 #[x0, x1, x2, x3, x4, x5, x6, x7, x8] rfl
  exact e8
theorem put9_other (w : World) (b : Nat) (x0 x1 x2 x3 x4 x5 x6 x7 x8 : Value) (k : Nat) (h : k ≠ b) : (put9 w b x0 x1 x2 x3 x4 x5 x6 x7 x8).heap[k]? = w.heap[k]? := by
  unfold put9
  rw [Below.heap_setCell _ _ _ _ h, Below.heap_setCell _ _ _ _ h, Below.heap_setCell _ _ _ _ h, Below.heap_setCell _ _ _ _ h, Below.heap_setCell _ _ _ _ h, Below.heap_setCell _ _ _ _ h, Below.heap_setCell _ _ _ _ h, Below.heap_setCell _ _ _ _ h, Below.heap_setCell _ _ _ _ h]
theorem Kept.put9 {w X : World} (q : Kept w X) (b : Nat) (hb : w.heap.size ≤ b) (x0 x1 x2 x3 x4 x5 x6 x7 x8 : Value) : Kept w (_root_.Go.Proofs.Qxb6616331aGreatDoor.put9 X b x0 x1 x2 x3 x4 x5 x6 x7 x8) := by
  have q := q.setNew ⟨b, 0, none⟩ hb x0
  have q := q.setNew ⟨b, 1, none⟩ hb x1
  have q := q.setNew ⟨b, 2, none⟩ hb x2
  have q := q.setNew ⟨b, 3, none⟩ hb x3
  have q := q.setNew ⟨b, 4, none⟩ hb x4
  have q := q.setNew ⟨b, 5, none⟩ hb x5
  have q := q.setNew ⟨b, 6, none⟩ hb x6
  have q := q.setNew ⟨b, 7, none⟩ hb x7
  have q := q.setNew ⟨b, 8, none⟩ hb x8
  exact q
theorem Outer.put9 {G : Nat → Prop} {w X : World} (q : Outer G w X) (b : Nat) (hb : G b) (x0 x1 x2 x3 x4 x5 x6 x7 x8 : Value) : Outer G w (_root_.Go.Proofs.Qxb6616331aGreatDoor.put9 X b x0 x1 x2 x3 x4 x5 x6 x7 x8) := by
  have q := q.setC b 0 x0 hb
  have q := q.setC b 1 x1 hb
  have q := q.setC b 2 x2 hb
  have q := q.setC b 3 x3 hb
  have q := q.setC b 4 x4 hb
  have q := q.setC b 5 x5 hb
  have q := q.setC b 6 x6 hb
  have q := q.setC b 7 x7 hb
  have q := q.setC b 8 x8 hb
  exact q

/-- A new box of a view. -/
def Bx0 (w : World) (b : Nat) : Prop := (w.cell? ⟨b, 0, none⟩ = some (.int .u64 0) ∧ w.cell? ⟨b, 1, none⟩ = some (.slice none 0 0) ∧ w.cell? ⟨b, 2, none⟩ = some (.slice none 0 0) ∧ w.cell? ⟨b, 3, none⟩ = some (.slice none 0 0)) ∧ (w.frozen? ⟨b, 0, none⟩ = false ∧ w.frozen? ⟨b, 1, none⟩ = false ∧ w.frozen? ⟨b, 2, none⟩ = false ∧ w.frozen? ⟨b, 3, none⟩ = false)
theorem bx0_new (w w1 : World) (b : Nat) (hb : w.heap.size = b) (q : Kept (w.alloc (.cells #[.int .u64 0, .slice none 0 0, .slice none 0 0, .slice none 0 0] 42)) w1) : Bx0 w1 b := by
  subst hb
  have h := q.blk (heap_alloc_new w _)
  refine ⟨⟨?_, ?_, ?_, ?_⟩, ⟨?_, ?_, ?_, ?_⟩⟩ <;> simp [World.cell?, World.frozen?, h]
theorem Bx0.kept {w w' : World} {b : Nat} (h : Bx0 w b) (q : Kept w w') : Bx0 w' b := by
  obtain ⟨⟨h0, h1, h2, h3⟩, ⟨f0, f1, f2, f3⟩⟩ := h
  have hb := World.block_lt_of_cell? w _ h0
  exact ⟨⟨q.cell h0, q.cell h1, q.cell h2, q.cell h3⟩, ⟨q.free hb f0, q.free hb f1, q.free hb f2, q.free hb f3⟩⟩

/-- What stands behind the two calls of newView. -/
structure Cut6 (A wc : World) (q13 q14 : Nat) (x0 x1 x2 x3 y0 y1 y2 y3 : Value) (V1 V2 : View) : Prop where
  a : wc.cell? ⟨q13, 0, none⟩ = some x0 ∧ wc.cell? ⟨q13, 1, none⟩ = some x1 ∧ wc.cell? ⟨q13, 2, none⟩ = some x2 ∧ wc.cell? ⟨q13, 3, none⟩ = some x3
  b : wc.cell? ⟨q14, 0, none⟩ = some y0 ∧ wc.cell? ⟨q14, 1, none⟩ = some y1 ∧ wc.cell? ⟨q14, 2, none⟩ = some y2 ∧ wc.cell? ⟨q14, 3, none⟩ = some y3
  v1 : RV wc (fun k => k < A.heap.size) (.agg #[x0, x1, x2, x3]) V1
  v2 : RV wc (fun k => k < A.heap.size) (.agg #[y0, y1, y2, y3]) V2
  k : Kept A wc
  s13 : A.heap.size ≤ q13
  s14 : A.heap.size ≤ q14

/-- The boxes that the loop leaves as they are. -/
structure TBx (w wr : World) (b0 b1 : Array Value) : Prop where
  a : wr.heap[w.heap.size]? = some (.cells b0 42 (0, 0))
  b : wr.heap[w.heap.size + 1]? = some (.cells b1 42 (0, 0))
  c : wr.heap[w.heap.size + 1 + 1 + 1]? = some (.cells #[.int .u64 0, .slice none 0 0, .slice none 0 0, .slice none 0 0] 42 (0, 0))
theorem TBx.kept {w wr w' : World} {b0 b1 : Array Value} (h : TBx w wr b0 b1) (q : Kept wr w') : TBx w w' b0 b1 := ⟨q.blk h.a, q.blk h.b, q.blk h.c⟩
theorem TBx.low {w wr w' : World} {b0 b1 : Array Value} (h : TBx w wr b0 b1) (q : ∀ b, b < w.heap.size + 5 → b ≠ w.heap.size + 2 → b ≠ w.heap.size + 4 → w'.heap[b]? = wr.heap[b]?) : TBx w w' b0 b1 :=
  ⟨(q _ (by omega) (by omega) (by omega)).trans h.a, (q _ (by omega) (by omega) (by omega)).trans h.b, (q _ (by omega) (by omega) (by omega)).trans h.c⟩
theorem TBx.c4 {w wr : World} {x0 x1 x2 x3 y0 y1 y2 y3 : Value} (h : TBx w wr #[x0, x1, x2, x3] #[y0, y1, y2, y3]) :
    (wr.cell? ⟨w.heap.size, 0, none⟩ = some x0 ∧ wr.cell? ⟨w.heap.size, 1, none⟩ = some x1 ∧ wr.cell? ⟨w.heap.size, 2, none⟩ = some x2 ∧ wr.cell? ⟨w.heap.size, 3, none⟩ = some x3) ∧ (wr.cell? ⟨w.heap.size + 1, 0, none⟩ = some y0 ∧ wr.cell? ⟨w.heap.size + 1, 1, none⟩ = some y1 ∧ wr.cell? ⟨w.heap.size + 1, 2, none⟩ = some y2 ∧ wr.cell? ⟨w.heap.size + 1, 3, none⟩ = some y3) := by
  have h1 := h.a
  have h2 := h.b
  refine ⟨⟨?_, ?_, ?_, ?_⟩, ⟨?_, ?_, ?_, ?_⟩⟩ <;> simp [World.cell?, h1, h2]

theorem TSg.cF {h : Nat} {wr : World} {vf : Value} {fz : List Str} {ps : List (Str × Str)} {vb : Value} {Bf : List View} {fg : Bool} {vu : Value} {Un : List View} {l0 l1 l2 l3 : Value} {Lg : View} (H : TSg h wr vf fz ps vb Bf fg vu Un l0 l1 l2 l3 Lg) : wr.cell? ⟨h + 1 + 1, 0, none⟩ = some (.slice none 0 0) ∧ wr.cell? ⟨h + 1 + 1, 1, none⟩ = some (.map (some (h + 1 + 1 + 1 + 1))) ∧ wr.cell? ⟨h + 1 + 1, 2, none⟩ = some vb ∧ wr.cell? ⟨h + 1 + 1, 3, none⟩ = some (.bool fg) ∧ wr.cell? ⟨h + 1 + 1, 4, none⟩ = some vu ∧ wr.cell? ⟨h + 1 + 1, 5, none⟩ = some l0 ∧ wr.cell? ⟨h + 1 + 1, 6, none⟩ = some l1 ∧ wr.cell? ⟨h + 1 + 1, 7, none⟩ = some l2 ∧ wr.cell? ⟨h + 1 + 1, 8, none⟩ = some l3 := H.cellsF
theorem TSg.fF {h : Nat} {wr : World} {vf : Value} {fz : List Str} {ps : List (Str × Str)} {vb : Value} {Bf : List View} {fg : Bool} {vu : Value} {Un : List View} {l0 l1 l2 l3 : Value} {Lg : View} (H : TSg h wr vf fz ps vb Bf fg vu Un l0 l1 l2 l3 Lg) : wr.frozen? ⟨h + 1 + 1, 0, none⟩ = false ∧ wr.frozen? ⟨h + 1 + 1, 1, none⟩ = false ∧ wr.frozen? ⟨h + 1 + 1, 2, none⟩ = false ∧ wr.frozen? ⟨h + 1 + 1, 3, none⟩ = false ∧ wr.frozen? ⟨h + 1 + 1, 4, none⟩ = false ∧ wr.frozen? ⟨h + 1 + 1, 5, none⟩ = false ∧ wr.frozen? ⟨h + 1 + 1, 6, none⟩ = false ∧ wr.frozen? ⟨h + 1 + 1, 7, none⟩ = false ∧ wr.frozen? ⟨h + 1 + 1, 8, none⟩ = false := ⟨H.freeF _, H.freeF _, H.freeF _, H.freeF _, H.freeF _, H.freeF _, H.freeF _, H.freeF _, H.freeF _⟩
theorem TBx.cC {w wr : World} {b0 b1 : Array Value} (h : TBx w wr b0 b1) : (wr.cell? ⟨w.heap.size + 1 + 1 + 1, 0, none⟩ = some (.int .u64 0) ∧ wr.cell? ⟨w.heap.size + 1 + 1 + 1, 1, none⟩ = some (.slice none 0 0) ∧ wr.cell? ⟨w.heap.size + 1 + 1 + 1, 2, none⟩ = some (.slice none 0 0) ∧ wr.cell? ⟨w.heap.size + 1 + 1 + 1, 3, none⟩ = some (.slice none 0 0)) ∧ (wr.frozen? ⟨w.heap.size + 1 + 1 + 1, 0, none⟩ = false ∧ wr.frozen? ⟨w.heap.size + 1 + 1 + 1, 1, none⟩ = false ∧ wr.frozen? ⟨w.heap.size + 1 + 1 + 1, 2, none⟩ = false ∧ wr.frozen? ⟨w.heap.size + 1 + 1 + 1, 3, none⟩ = false) := by
  have h1 := h.c
  refine ⟨⟨?_, ?_, ?_, ?_⟩, ⟨?_, ?_, ?_, ?_⟩⟩ <;> simp [World.cell?, World.frozen?, h1]

theorem ready_append {o : Oper} {a : Act} {w w' : World} {K : Act → World → Prop} {Q : Exit → Act → World → Prop} {ys : Nat → Option Bool} (hgd : o.guard = none) (s x : Operand)
    (ho : o.op = .call { callee := .builtin .append, args := #[s, x], argTypes := #[40, 40] }) (hty : o.type = 40) (v y v' : Value) (hs : a.eval s = v) (hx : a.eval x = y)
    (hr : (Builtin.append_ #[40, 40] 40 #[v, y]).run Tryz.prog w = .ok v' w') (h : K (a.put o.dst v') w') : if Region.wanted o ys = true then Oper.wp Tryz.prog o a w K Q else K (a.put o.dst undef) w := by
  have hw : Region.wanted o ys = true := by unfold Region.wanted; rw [hgd]
  rw [if_pos hw]
  unfold Oper.wp execOp
  simp only [ho, hty, resolve, invoke, builtin, Sem.run_bind, Sem.run_pure, Result.andThen_ok, List.map_toArray, List.map_cons, List.map_nil, hs, hx, hr]
  exact h

theorem OwnV.blocks {w w' : World} {B : Nat} {v : Value} {us : List Value} (h : OwnV w B v us) (hb : ∀ b, B ≤ b → w'.heap[b]? = w.heap[b]?) : OwnV w' B v us := by
  refine ⟨h.1, ?_⟩
  rcases h.2 with h' | ⟨g, cap, cur, rfl, hg, k2, k3, k4, k5, k6⟩
  · exact .inl h'
  · exact .inr ⟨g, cap, cur, rfl, hg, (hb g hg).trans k2, k3, k4, k5, k6⟩
theorem TSg.leave {h : Nat} {w1 Y : World} {vf : Value} {fz : List Str} {ps : List (Str × Str)} {vb : Value} {Bf : List View} {fg : Bool} {vu : Value} {Un : List View} {l0 l1 l2 l3 : Value} {Lg : View} (H : TSg h w1 vf fz ps vb Bf fg vu Un l0 l1 l2 l3 Lg) (hY : ∀ b, b ≠ h + 1 + 1 → b ≠ h + 1 + 1 + 1 → Y.heap[b]? = w1.heap[b]?) :
    IsMp Y (h + 1 + 1 + 1 + 1) ps ∧ (∃ us, OwnV Y h vb us ∧ AllV Y (fun _ => False) us Bf) ∧ (∃ ut, OwnV Y h vu ut ∧ AllV Y (fun _ => False) ut Un) ∧ IsV Y (.agg #[l0, l1, l2, l3]) Lg := by
  obtain ⟨us, ut, G, e2, e3, e4, e5, e6, e7, e8, e9, e10, e11, e12, e13, e14, e15⟩ := H.ex
  have hO : Outer G w1 Y := fun b hb hg => hY b (fun e => hg (e11 b (by omega) (by omega))) (fun e => hg (e11 b (by omega) (by omega)))
  have hF : ∀ {us : List Value} {Vs : List View}, AllV w1 G us Vs → AllV Y (fun _ => False) us Vs := fun ha => (ha.grow (fun _ _ h => h) hO).mono (fun _ _ h => h.elim)
  exact ⟨H.mp.block (hY _ (by omega) (by omega)), ⟨us, (e3.blocks (fun b hb => hY b (by omega) (by omega))).mono (Nat.le_add_right _ _), hF e4⟩, ⟨ut, (e5.blocks (fun b hb => hY b (by omega) (by omega))).mono (Nat.le_add_right _ _), hF e6⟩, (e7.outer hO).isV⟩
theorem tal_start (w : World) (x0 x1 x2 x3 n0 n1 n2 n3 : Value) (X : View) (hX : IsV w (.agg #[n0, n1, n2, n3]) X) (W : World)
    (hW : W = ((((w.alloc (.cells #[x0, x1, x2, x3] 42)).alloc (.cells #[n0, n1, n2, n3] 42)).alloc (.cells #[.slice none 0 0, .map (some (w.heap.size + 1 + 1 + 1 + 1)), .slice none 0 0, .bool false, .slice none 0 0, n0, n1, n2, n3] 44)).alloc (.cells #[.int .u64 0, .slice none 0 0, .slice none 0 0, .slice none 0 0] 42)).alloc (.map #[] 0)) :
    TSg w.heap.size W (.slice none 0 0) [] [] (.slice none 0 0) [] false (.slice none 0 0) [] n0 n1 n2 n3 X ∧ TBx w W #[x0, x1, x2, x3] #[n0, n1, n2, n3] ∧ Kept w W := by
  subst hW
  obtain ⟨w1, h1⟩ : ∃ w1, w1 = w.alloc (.cells #[x0, x1, x2, x3] 42) := ⟨_, rfl⟩
  have b1 : w1.heap[w.heap.size]? = _ := h1 ▸ heap_alloc_new w (.cells #[x0, x1, x2, x3] 42)
  have s1 : w1.heap.size = w.heap.size + 1 := by rw [h1]; simp
  have k1 : Kept w w1 := h1 ▸ Kept.alloc _ _
  rw [← h1]
  clear h1
  obtain ⟨w2, h2⟩ : ∃ w2, w2 = w1.alloc (.cells #[n0, n1, n2, n3] 42) := ⟨_, rfl⟩
  have b2 : w2.heap[w1.heap.size]? = _ := h2 ▸ heap_alloc_new w1 (.cells #[n0, n1, n2, n3] 42)
  have s2 : w2.heap.size = w.heap.size + 2 := by rw [h2]; simp [s1]
  have k2 : Kept w1 w2 := h2 ▸ Kept.alloc _ _
  rw [← h2]
  clear h2
  obtain ⟨w3, h3⟩ : ∃ w3, w3 = w2.alloc (.cells #[.slice none 0 0, .map (some (w.heap.size + 1 + 1 + 1 + 1)), .slice none 0 0, .bool false, .slice none 0 0, n0, n1, n2, n3] 44) := ⟨_, rfl⟩
  have b3 : w3.heap[w2.heap.size]? = _ := h3 ▸ heap_alloc_new w2 (.cells #[.slice none 0 0, .map (some (w.heap.size + 1 + 1 + 1 + 1)), .slice none 0 0, .bool false, .slice none 0 0, n0, n1, n2, n3] 44)
  have s3 : w3.heap.size = w.heap.size + 3 := by rw [h3]; simp [s2]
  have k3 : Kept w2 w3 := h3 ▸ Kept.alloc _ _
  rw [← h3]
  clear h3
  obtain ⟨w4, h4⟩ : ∃ w4, w4 = w3.alloc (.cells #[.int .u64 0, .slice none 0 0, .slice none 0 0, .slice none 0 0] 42) := ⟨_, rfl⟩
  have b4 : w4.heap[w3.heap.size]? = _ := h4 ▸ heap_alloc_new w3 (.cells #[.int .u64 0, .slice none 0 0, .slice none 0 0, .slice none 0 0] 42)
  have s4 : w4.heap.size = w.heap.size + 4 := by rw [h4]; simp [s3]
  have k4 : Kept w3 w4 := h4 ▸ Kept.alloc _ _
  rw [← h4]
  clear h4
  have m5 := isMp_made w4
  have s5 : (w4.alloc (.map #[] 0)).heap.size = w.heap.size + 5 := by simp [s4]
  have k5 := Kept.alloc w4 (.map #[] 0)
  obtain ⟨w5, h5⟩ : ∃ w5, w5 = w4.alloc (.map #[] 0) := ⟨_, rfl⟩
  rw [← h5] at m5 s5 k5 ⊢
  clear h5
  rw [s1] at b2
  rw [s2] at b3
  rw [s3] at b4
  rw [s4] at m5
  have k45 := k4.trans k5
  have k345 := k3.trans k45
  have k2345 := k2.trans k345
  have k := k1.trans k2345
  refine ⟨⟨k45.blk b3, ⟨[], [], (fun k => w.heap.size ≤ k ∧ k < w.heap.size + 5), ownS_nil _ _, ownV_nil _ _, AllV.nil _ _, ownV_nil _ _, AllV.nil _ _, RV.of_old hX k (fun _ h => h.1), apt_nil _, apt_nil _, apt_nil _, fun k h1 h2 => ⟨h1, h2⟩, (fun g e => by cases e), (fun g e => by cases e), (fun g e => by cases e), fun k hk => ⟨hk.1, by rw [s5]; exact hk.2⟩⟩, m5, by rw [s5]; exact Nat.le_refl _⟩, ⟨k2345.blk b1, k345.blk b2, k5.blk b4⟩, k⟩

theorem getD_drop (As : List Ans) (k : Nat) (h : k < As.length) : As.drop k = As.getD k noAns :: As.drop (k + 1) := by
  rw [List.drop_eq_getElem_cons h]
  simp [h]

set_option maxHeartbeats 12800000 in
theorem tally32_in (N : Int) (ab al ac : Option Addr) (nb cb nl cl nc cc : Nat) (N' : Int) (ab' al' ac' : Option Addr) (nb' cb' nl' cl' nc' cc' : Nat) (F X : View) (w : World) (at_ : Option Addr) (nt ct : Nat) (tos : List Str) (a : Option Addr) (n cp : Nat) (As : List Ans)
    (hV : IsV w (.agg #[.int .u64 N, .slice ab nb cb, .slice al nl cl, .slice ac nc cc]) F) (hO : IsV w (.agg #[.int .u64 N', .slice ab' nb' cb', .slice al' nl' cl', .slice ac' nc' cc']) X) (hM : Mid F) (hMO : Mid X) (hXc : X.changes.length ≤ 3145729)
    (hT : IsL w at_ nt tos) (hnt : nt ≤ 1048576) (hTs : ∀ i, i < nt → (tos.getD i []).length ≤ 1048577)
    (hL : IsA w a n As) (hn : n ≤ 1048577) (hS : ∀ i, i < n → OkA nt (As.getD i noAns)) (hE : Errs w) :
    Calls Tryz.prog 32 #[.agg #[.int .u64 N, .slice ab nb cb, .slice al nl cl, .slice ac nc cc], .slice at_ nt ct, .agg #[.int .u64 N', .slice ab' nb' cb', .slice al' nl' cl', .slice ac' nc' cc'], .slice a n cp] w fun e w' => RetT w.heap.size w' e (tGo F X tos As (tZero X)) ∧ Kept w w' := by
  obtain ⟨R, hR⟩ : ∃ R, R = tGo F X tos As (tZero X) := ⟨_, rfl⟩
  rw [← hR]
  have HR := hid_of hR
  have HV := hid_of hV
  have HX := hid_of hO
  have HM := hid_of hM
  have HMO := hid_of hMO
  have HXc := hid_of hXc
  have HT := hid_of hT
  have HTs := hid_of hTs
  have HL := hid_of hL
  have HS := hid_of hS
  have HE := hid_of hE
  have EN := hid_of hL.len
  have ET := hid_of hT.len
  clear hR hV hO hM hMO hXc hT hTs hL hS hE
  have hmm := @run_makeMap Tryz.prog
  go_enter Tryz.func32, Tryz.ntmps32
  go_wp2
  go_loopw [10, 21] (fun vf i wr => ∃ (k : Nat) (T : Tal) (vb vu l0 l1 l2 l3 : Value), k ≤ n ∧ i = .int .i64 k ∧ Hid (TSg w.heap.size wr vf (T.pairs.map (·.1)) T.pairs vb T.before T.forgot vu T.unsure l0 l1 l2 l3 T.larger) ∧ Hid (OkT k T) ∧ Hid (tGo F X tos (As.drop k) T = R) ∧ Hid (TBx w wr #[.int .u64 N, .slice ab nb cb, .slice al nl cl, .slice ac nc cc] #[.int .u64 N', .slice ab' nb' cb', .slice al' nl' cl', .slice ac' nc' cc']) ∧ Hid (Kept w wr)) (fun _ i _ => n - (intOf i).toNat)
  case atStart =>
    obtain ⟨hT1, hT2, hT3⟩ := tal_start w (.int .u64 N) (.slice ab nb cb) (.slice al nl cl) (.slice ac nc cc) _ _ _ _ X HX.out _ rfl
    exact ⟨0, tZero X, _, _, _, _, _, _, by omega, rfl, hid_of hT1, hid_of ⟨Nat.zero_le _, Nat.zero_le _, Nat.zero_le _, (by have := HXc.out; simpa [tZero] using this), HMO.out.last⟩, hid_of HR.out.symm, hid_of hT2, hid_of hT3⟩
  case round =>
    obtain ⟨k, T, vb, vu, l0, l1, l2, l3, hk, rfl, ST, OK, GO, BX, KR⟩ := hrel
    by_cases hlt : k < n
    · obtain ⟨b, off, rfl, hc⟩ := HL.out.row (by omega)
      have IA := hc k hlt
      have hl : (k : Int) < (n : Int) := by omega
      have OA := HS.out k hlt
      have HG := getD_drop As k (by rw [EN.out]; exact hlt)
      obtain ⟨A, hA⟩ : ∃ A, A = As.getD k noAns := ⟨_, rfl⟩
      rw [← hA] at IA OA HG
      have HGo : Hid (tGo F X tos (A :: As.drop (k + 1)) T = R) := hid_of (by rw [← HG]; exact GO.out)
      have HOA := hid_of OA
      have c0 := IA.c0
      obtain ⟨a1, n1, d1, c1, L1⟩ := IA.c1
      obtain ⟨a2, n2, d2, c2, L2⟩ := IA.c2
      have c3 := IA.c3
      obtain ⟨a4, n4, d4, c4, L4⟩ := IA.c4
      have c5 := IA.c5
      have c6 := IA.c6
      obtain ⟨a7, n7, d7, c7, L7⟩ := IA.c7
      have c8 := IA.c8
      have c9 := IA.c9
      have c10 := IA.c10
      have c0 := KR.out.cell c0
      have c1 := KR.out.cell c1
      have c2 := KR.out.cell c2
      have c3 := KR.out.cell c3
      have c4 := KR.out.cell c4
      have c5 := KR.out.cell c5
      have c6 := KR.out.cell c6
      have c7 := KR.out.cell c7
      have c8 := KR.out.cell c8
      have c9 := KR.out.cell c9
      have c10 := KR.out.cell c10
      have HL1 := hid_of (L1.kept KR.out)
      have HL2 := hid_of (L2.kept KR.out)
      have HL4 := hid_of L4
      have HL7 := hid_of L7
      obtain ⟨fr, hfr⟩ : ∃ fr, fr = A.frozen := ⟨_, rfl⟩
      obtain ⟨kn, hkn⟩ : ∃ kn, kn = A.known := ⟨_, rfl⟩
      obtain ⟨mk, hmk⟩ : ∃ mk, mk = A.mark := ⟨_, rfl⟩
      obtain ⟨se, hse⟩ : ∃ se, se = A.sender := ⟨_, rfl⟩
      obtain ⟨p8, hp8⟩ : ∃ p8, p8 = A.prepare := ⟨_, rfl⟩
      obtain ⟨p9, hp9⟩ : ∃ p9, p9 = A.announce := ⟨_, rfl⟩
      obtain ⟨p10, hp10⟩ : ∃ p10, p10 = A.commit := ⟨_, rfl⟩
      rw [← hse] at c0
      rw [← hfr] at c3
      rw [← hkn] at c5
      rw [← hmk] at c6
      rw [← hp8] at c8
      rw [← hp9] at c9
      rw [← hp10] at c10
      have HF := hid_of (And.intro hfr (And.intro hkn (And.intro hmk hse)))
      clear hc IA OA HG hA L1 L2 L4 L7 hfr hkn hmk hse hp8 hp9 hp10 hmm
      go_wp2
      obtain ⟨A0, hA0⟩ : ∃ A0, A0 = wr.alloc (.cells #[.int .i64 se, .slice a1 n1 d1, .slice a2 n2 d2, .bool fr, .slice a4 n4 d4, .bool kn, sv mk, .slice a7 n7 d7, .bool p8, .bool p9, .bool p10] 58) := ⟨_, rfl⟩
      have KA : Hid (Kept wr A0) := by rw [hA0]; exact hid_of (Kept.alloc _ _)
      have BA : Hid (A0.heap[wr.heap.size]? = some (.cells #[.int .i64 se, .slice a1 n1 d1, .slice a2 n2 d2, .bool fr, .slice a4 n4 d4, .bool kn, sv mk, .slice a7 n7 d7, .bool p8, .bool p9, .bool p10] 58 (0, 0))) := by rw [hA0]; exact hid_of (heap_alloc_new _ _)
      have SA : Hid (A0.heap.size = wr.heap.size + 1) := by rw [hA0]; exact hid_of (by simp)
      have SC : Hid (∀ w', Kept A0 w' → w'.cell? ⟨wr.heap.size, 1, none⟩ = some (.slice a1 n1 d1) ∧ w'.cell? ⟨wr.heap.size, 2, none⟩ = some (.slice a2 n2 d2)) := fun w' q => by
        have := q.blk BA.out
        constructor <;> simp [World.cell?, this]
      rw [← hA0]
      clear hA0 c0 c1 c2 c3 c4 c5 c6 c7 c8 c9 c10
      go_cut [13, 14] from 22 to 101 (fun p13 p14 wc => ∃ q13 q14 N1 xb1 mb1 db1 xl1 ml1 dl1 xc1 mc1 dc1 N2 xb2 mb2 db2 xl2 ml2 dl2 xc2 mc2 dc2, p13 = .pointer (some ⟨q13, 0, none⟩) ∧ p14 = .pointer (some ⟨q14, 0, none⟩) ∧ Hid (Cut6 A0 wc q13 q14 (.int .u64 N1) (.slice xb1 mb1 db1) (.slice xl1 ml1 dl1) (.slice xc1 mc1 dc1) (.int .u64 N2) (.slice xb2 mb2 db2) (.slice xl2 ml2 dl2) (.slice xc2 mc2 dc2) (newViewP A.view) (newViewP A.next)))
      case first =>
        have hA1 := SA.out
        have HS0 := hid_of hA1
        clear hA1
        have H36a : Hid (∀ w', Kept A0 w' → Calls Tryz.prog 36 #[.slice a1 n1 d1] w' fun e w2 => RetV (fun k => k < w'.heap.size) w2 e (newViewP A.view) ∧ Kept w' w2) := fun w' q =>
          newView36 a1 n1 d1 A.view w' (by have := HOA.out.vw; rw [HL1.out.len] at this; omega) (HL1.out.kept (KA.out.trans q)) (fun i hi => HOA.out.vs i (by rw [HL1.out.len]; exact hi)) (HE.out.kept (KR.out.trans (KA.out.trans q)))
        have H36b : Hid (∀ w', Kept A0 w' → Calls Tryz.prog 36 #[.slice a2 n2 d2] w' fun e w2 => RetV (fun k => k < w'.heap.size) w2 e (newViewP A.next) ∧ Kept w' w2) := fun w' q =>
          newView36 a2 n2 d2 A.next w' (by have := HOA.out.nx; rw [HL2.out.len] at this; omega) (HL2.out.kept (KA.out.trans q)) (fun i hi => HOA.out.ns i (by rw [HL2.out.len]; exact hi)) (HE.out.kept (KR.out.trans (KA.out.trans q)))
        obtain ⟨N1, hN1⟩ : ∃ N1, N1 = (newViewP A.view).count := ⟨_, rfl⟩
        obtain ⟨N2, hN2⟩ : ∃ N2, N2 = (newViewP A.next).count := ⟨_, rfl⟩
        have HN1 := hid_of hN1
        have HN2 := hid_of hN2
        clear hN1 hN2
        refine wp_region_noPanic ?_
        refine wp_region_held_drew (S := fun w' => w'.cell? ⟨wr.heap.size, 1, none⟩ = some (.slice a1 n1 d1) ∧ w'.cell? ⟨wr.heap.size, 2, none⟩ = some (.slice a2 n2 d2)) (by kernel_rfl) (SC.out _ (Kept.drew _)) (fun hHeld => ?_)
        obtain ⟨W0, hW0⟩ : ∃ X, X = A0.drew := ⟨_, rfl⟩
        have qW0 : Kept A0 W0 := (by rw [hW0]; exact Kept.drew _)
        rw [← hW0] at hHeld ⊢
        clear hW0
        refine wpAnyH_take (i := 0) (v := ?_) rfl (by kernel_rfl) (by kernel_rfl) (by kernel_rfl) (fun _ _ _ h => h) (Or.inl ⟨by rfl, ?_⟩) (by assumption) ?_
        rotate_left
        · (intro w hSw; (try dsimp only at hSw); go_simp; try with_reducible rfl)
        try simp only [Act.put, List.setIfInBounds_toArray, List.set_cons_zero, List.set_cons_succ, List.getElem_toArray, List.getElem_cons_succ, List.getElem_cons_zero]
        refine wpAnyH_take (i := 1) (v := ?_) rfl (by kernel_rfl) (by kernel_rfl) (by kernel_rfl) (fun _ _ _ h => h) (Or.inl ⟨by rfl, ?_⟩) (by assumption) ?_
        rotate_left
        · (intro w hSw; (try dsimp only at hSw); go_simp; try with_reducible rfl)
        try simp only [Act.put, List.setIfInBounds_toArray, List.set_cons_zero, List.set_cons_succ, List.getElem_toArray, List.getElem_cons_succ, List.getElem_cons_zero]
        refine wpAnyH_take (i := 2) (v := ?_) rfl (by kernel_rfl) (by kernel_rfl) (by kernel_rfl) (fun _ _ _ h => h) (Or.inl ⟨by rfl, ?_⟩) (by assumption) ?_
        rotate_left
        · (intro w hSw; (try dsimp only at hSw); go_simp; try with_reducible rfl)
        try simp only [Act.put, List.setIfInBounds_toArray, List.set_cons_zero, List.set_cons_succ, List.getElem_toArray, List.getElem_cons_succ, List.getElem_cons_zero]
        refine wpAnyH_take (i := 4) (v := ?_) rfl (by kernel_rfl) (by kernel_rfl) (by kernel_rfl) (fun _ _ _ h => h) (Or.inl ⟨by rfl, ?_⟩) (by assumption) ?_
        rotate_left
        · (intro w hSw; (try dsimp only at hSw); go_simp; try with_reducible rfl)
        try simp only [Act.put, List.setIfInBounds_toArray, List.set_cons_zero, List.set_cons_succ, List.getElem_toArray, List.getElem_cons_succ, List.getElem_cons_zero]
        refine wpAnyH_take (i := 5) (v := ?_) rfl (by kernel_rfl) (by kernel_rfl) (by kernel_rfl) (fun _ _ _ h => h) (Or.inl ⟨by rfl, ?_⟩) (by assumption) ?_
        rotate_left
        · (intro w hSw; (try dsimp only at hSw); go_simp; try with_reducible rfl)
        try simp only [Act.put, List.setIfInBounds_toArray, List.set_cons_zero, List.set_cons_succ, List.getElem_toArray, List.getElem_cons_succ, List.getElem_cons_zero]
        refine wpAnyH_take (i := 6) (v := ?_) rfl (by kernel_rfl) (by kernel_rfl) (by kernel_rfl) (fun _ _ _ h => h) (Or.inl ⟨by rfl, ?_⟩) (by assumption) ?_
        rotate_left
        · (intro w hSw; (try dsimp only at hSw); go_simp; try with_reducible rfl)
        try simp only [Act.put, List.setIfInBounds_toArray, List.set_cons_zero, List.set_cons_succ, List.getElem_toArray, List.getElem_cons_succ, List.getElem_cons_zero]
        refine wpAnyH_ready (rs := [3, 8, 9]) (by kernel_rfl) (by simp) ?_
        refine AllReadyH.cons rfl (fun K hK => ?_) ?_
        · go_simp
          refine (H36a.out _ qW0).mono ?_
          rintro e W1 ⟨⟨v, rfl, R⟩, k⟩
          have R' : RV W1 (fun k => k < A0.heap.size) v _ := R.mono (fun k hk (h : k < A0.heap.size) => (by show k < W0.heap.size; have := qW0.size; omega))
          obtain ⟨xb1, mb1, db1, xl1, ml1, dl1, xc1, mc1, dc1, rfl, -, -, -⟩ := R.ex
          rw [← HN1.out] at R' ⊢
          have HR1 := hid_of R'
          have qW1 := qW0.trans k
          clear R R' k
          go_wp2_with fail
          refine hK.out _ _ (SC.out _ qW1) (fun hHeld => ?_)
          clear hK K
          try simp only [Act.put, List.setIfInBounds_toArray, List.set_cons_zero, List.set_cons_succ, List.getElem_toArray, List.getElem_cons_succ, List.getElem_cons_zero]
          refine wpAnyH_ready (rs := [7, 8, 9]) (by kernel_rfl) (by simp) ?_
          refine AllReadyH.cons rfl (fun K hK => ?_) ?_
          · go_simp
            refine (H36b.out _ qW1).mono ?_
            rintro e W2 ⟨⟨v, rfl, R⟩, k⟩
            have R' : RV W2 (fun k => k < A0.heap.size) v _ := R.mono (fun k hk (h : k < A0.heap.size) => (by show k < W1.heap.size; have := qW1.size; omega))
            obtain ⟨xb2, mb2, db2, xl2, ml2, dl2, xc2, mc2, dc2, rfl, -, -, -⟩ := R.ex
            rw [← HN2.out] at R' ⊢
            have HR2 := hid_of R'
            have qW2 := qW1.trans k
            have HR1 := hid_of (HR1.out.kept k)
            clear R R' k
            go_wp2_with fail
            refine hK.out _ _ (SC.out _ qW2) (fun hHeld => ?_)
            clear hK K
            try simp only [Act.put, List.setIfInBounds_toArray, List.set_cons_zero, List.set_cons_succ, List.getElem_toArray, List.getElem_cons_succ, List.getElem_cons_zero]
            refine wpAnyH_ready (rs := [8, 9]) (by kernel_rfl) (by simp) ?_
            refine AllReadyH.cons rfl (fun K hK => ?_) ?_
            · go_simp
              obtain ⟨q13, hq⟩ : ∃ q, q = W2.heap.size := ⟨_, rfl⟩
              obtain ⟨W3, hW⟩ : ∃ X, X = W2.alloc (.cells #[.int .u64 0, .slice none 0 0, .slice none 0 0, .slice none 0 0] 42) := ⟨_, rfl⟩
              have k : Kept W2 W3 := (by rw [hW]; exact Kept.alloc _ _)
              have b13 : W3.heap[q13]? = some (.cells #[.int .u64 0, .slice none 0 0, .slice none 0 0, .slice none 0 0] 42 (0, 0)) := (by rw [hW, hq]; exact heap_alloc_new _ _)
              have s13 : A0.heap.size ≤ q13 := (by rw [hq]; exact qW2.size)
              have l13 : q13 < W3.heap.size := lt_of_blk b13
              have qW3 := qW2.trans k
              have HR1 : Hid (RV W3 (fun k => k < A0.heap.size ∨ k = q13) _ _) := hid_of ((HR1.out.mono (fun k hk (h : k < A0.heap.size ∨ k = q13) => (by show k < A0.heap.size; omega))).kept k)
              have HR2 : Hid (RV W3 (fun k => k < A0.heap.size ∨ k = q13) _ _) := hid_of ((HR2.out.mono (fun k hk (h : k < A0.heap.size ∨ k = q13) => (by show k < A0.heap.size; omega))).kept k)
              rw [← hW, ← hq]
              clear hW hq k
              refine hK.out _ _ (SC.out _ qW3) (fun hHeld => ?_)
              clear hK K
              try simp only [Act.put, List.setIfInBounds_toArray, List.set_cons_zero, List.set_cons_succ, List.getElem_toArray, List.getElem_cons_succ, List.getElem_cons_zero]
              refine wpAnyH_ready (rs := [9]) (by kernel_rfl) (by simp) ?_
              refine AllReadyH.cons rfl (fun K hK => ?_) ?_
              · go_simp
                obtain ⟨q14, hq⟩ : ∃ q, q = W3.heap.size := ⟨_, rfl⟩
                obtain ⟨W4, hW⟩ : ∃ X, X = W3.alloc (.cells #[.int .u64 0, .slice none 0 0, .slice none 0 0, .slice none 0 0] 42) := ⟨_, rfl⟩
                have k : Kept W3 W4 := (by rw [hW]; exact Kept.alloc _ _)
                have b14 : W4.heap[q14]? = some (.cells #[.int .u64 0, .slice none 0 0, .slice none 0 0, .slice none 0 0] 42 (0, 0)) := (by rw [hW, hq]; exact heap_alloc_new _ _)
                have s14 : A0.heap.size ≤ q14 := (by rw [hq]; exact qW3.size)
                have l14 : q14 < W4.heap.size := lt_of_blk b14
                have qW4 := qW3.trans k
                have b13 := k.blk b13
                have n : q13 ≠ q14 := (by omega)
                have l13 : q13 < W4.heap.size := Nat.lt_of_lt_of_le l13 k.size
                have HR1 : Hid (RV W4 (fun k => k < A0.heap.size ∨ k = q13 ∨ k = q14) _ _) := hid_of ((HR1.out.mono (fun k hk (h : k < A0.heap.size ∨ k = q13 ∨ k = q14) => (by show k < A0.heap.size ∨ k = q13; omega))).kept k)
                have HR2 : Hid (RV W4 (fun k => k < A0.heap.size ∨ k = q13 ∨ k = q14) _ _) := hid_of ((HR2.out.mono (fun k hk (h : k < A0.heap.size ∨ k = q13 ∨ k = q14) => (by show k < A0.heap.size ∨ k = q13; omega))).kept k)
                rw [← hW, ← hq]
                clear hW hq k
                refine hK.out _ _ (SC.out _ qW4) (fun hHeld => ?_)
                clear hK K
                try simp only [Act.put, List.setIfInBounds_toArray, List.set_cons_zero, List.set_cons_succ, List.getElem_toArray, List.getElem_cons_succ, List.getElem_cons_zero]
                refine wpAnyH_ready (rs := [10]) (by kernel_rfl) (by simp) ?_
                refine AllReadyH.cons rfl (fun K hK => ?_) AllReadyH.nil
                have hc := b13
                have e0 : W4.cell? ⟨q13, 0, none⟩ = some (.int .u64 0) := (by simp [World.cell?, hc])
                have e1 : W4.cell? ⟨q13, 1, none⟩ = some (.slice none 0 0) := (by simp [World.cell?, hc])
                have e2 : W4.cell? ⟨q13, 2, none⟩ = some (.slice none 0 0) := (by simp [World.cell?, hc])
                have e3 : W4.cell? ⟨q13, 3, none⟩ = some (.slice none 0 0) := (by simp [World.cell?, hc])
                have f0 : W4.frozen? ⟨q13, 0, none⟩ = false := (by simp [World.frozen?, hc])
                have f1 : W4.frozen? ⟨q13, 1, none⟩ = false := (by simp [World.frozen?, hc])
                have f2 : W4.frozen? ⟨q13, 2, none⟩ = false := (by simp [World.frozen?, hc])
                have f3 : W4.frozen? ⟨q13, 3, none⟩ = false := (by simp [World.frozen?, hc])
                go_simp
                obtain ⟨X1, hX1⟩ : ∃ X, X = ((((W4.setCell ⟨q13, 0, none⟩ (.int .u64 N1)).setCell ⟨q13, 1, none⟩ (.slice xb1 mb1 db1)).setCell ⟨q13, 2, none⟩ (.slice xl1 ml1 dl1)).setCell ⟨q13, 3, none⟩ (.slice xc1 mc1 dc1)) := ⟨_, rfl⟩
                have b13 : X1.heap[q13]? = some (.cells #[(.int .u64 N1), (.slice xb1 mb1 db1), (.slice xl1 ml1 dl1), (.slice xc1 mc1 dc1)] 42 (0, 0)) := (by rw [hX1]; exact set1_blk (set1_blk (set1_blk (set1_blk b13 0 _ _ rfl) 1 _ _ rfl) 2 _ _ rfl) 3 _ _ rfl)
                have b14 := (show X1.heap[q14]? = W4.heap[q14]? by rw [hX1, Below.heap_setCell _ _ _ _ n.symm, Below.heap_setCell _ _ _ _ n.symm, Below.heap_setCell _ _ _ _ n.symm, Below.heap_setCell _ _ _ _ n.symm]).trans b14
                have qX1 : Kept A0 X1 := (by rw [hX1]; exact (((qW4.setNew _ s13 _).setNew _ s13 _).setNew _ s13 _).setNew _ s13 _)
                have O : Outer (fun k => k < A0.heap.size ∨ k = q13 ∨ k = q14) W4 X1 := (by rw [hX1]; exact ((((Outer.refl _ _).setC q13 0 _ (.inr (.inl rfl))).setC q13 1 _ (.inr (.inl rfl))).setC q13 2 _ (.inr (.inl rfl))).setC q13 3 _ (.inr (.inl rfl)))
                have HR1 := hid_of (HR1.out.outer O)
                have HR2 := hid_of (HR2.out.outer O)
                rw [← hX1]
                clear e0 e1 e2 e3 f0 f1 f2 f3 hc hX1 O
                refine hK.out _ _ (SC.out _ qX1) (fun hHeld => ?_)
                clear hK K
                try simp only [Act.put, List.setIfInBounds_toArray, List.set_cons_zero, List.set_cons_succ, List.getElem_toArray, List.getElem_cons_succ, List.getElem_cons_zero]
                refine wpAnyH_ready (rs := [11]) (by kernel_rfl) (by simp) ?_
                refine AllReadyH.cons rfl (fun K hK => ?_) AllReadyH.nil
                have hc := b14
                have e0 : X1.cell? ⟨q14, 0, none⟩ = some (.int .u64 0) := (by simp [World.cell?, hc])
                have e1 : X1.cell? ⟨q14, 1, none⟩ = some (.slice none 0 0) := (by simp [World.cell?, hc])
                have e2 : X1.cell? ⟨q14, 2, none⟩ = some (.slice none 0 0) := (by simp [World.cell?, hc])
                have e3 : X1.cell? ⟨q14, 3, none⟩ = some (.slice none 0 0) := (by simp [World.cell?, hc])
                have f0 : X1.frozen? ⟨q14, 0, none⟩ = false := (by simp [World.frozen?, hc])
                have f1 : X1.frozen? ⟨q14, 1, none⟩ = false := (by simp [World.frozen?, hc])
                have f2 : X1.frozen? ⟨q14, 2, none⟩ = false := (by simp [World.frozen?, hc])
                have f3 : X1.frozen? ⟨q14, 3, none⟩ = false := (by simp [World.frozen?, hc])
                go_simp
                obtain ⟨X2, hX2⟩ : ∃ X, X = ((((X1.setCell ⟨q14, 0, none⟩ (.int .u64 N2)).setCell ⟨q14, 1, none⟩ (.slice xb2 mb2 db2)).setCell ⟨q14, 2, none⟩ (.slice xl2 ml2 dl2)).setCell ⟨q14, 3, none⟩ (.slice xc2 mc2 dc2)) := ⟨_, rfl⟩
                have b14 : X2.heap[q14]? = some (.cells #[(.int .u64 N2), (.slice xb2 mb2 db2), (.slice xl2 ml2 dl2), (.slice xc2 mc2 dc2)] 42 (0, 0)) := (by rw [hX2]; exact set1_blk (set1_blk (set1_blk (set1_blk b14 0 _ _ rfl) 1 _ _ rfl) 2 _ _ rfl) 3 _ _ rfl)
                have b13 := (show X2.heap[q13]? = X1.heap[q13]? by rw [hX2, Below.heap_setCell _ _ _ _ n, Below.heap_setCell _ _ _ _ n, Below.heap_setCell _ _ _ _ n, Below.heap_setCell _ _ _ _ n]).trans b13
                have qX2 : Kept A0 X2 := (by rw [hX2]; exact (((qX1.setNew _ s14 _).setNew _ s14 _).setNew _ s14 _).setNew _ s14 _)
                have O : Outer (fun k => k < A0.heap.size ∨ k = q13 ∨ k = q14) X1 X2 := (by rw [hX2]; exact ((((Outer.refl _ _).setC q14 0 _ (.inr (.inr rfl))).setC q14 1 _ (.inr (.inr rfl))).setC q14 2 _ (.inr (.inr rfl))).setC q14 3 _ (.inr (.inr rfl)))
                have HR1 := hid_of (HR1.out.outer O)
                have HR2 := hid_of (HR2.out.outer O)
                rw [← hX2]
                clear e0 e1 e2 e3 f0 f1 f2 f3 hc hX2 O
                refine hK.out _ _ (SC.out _ qX2) (fun hHeld => ?_)
                clear hK K
                try simp only [Act.put, List.setIfInBounds_toArray, List.set_cons_zero, List.set_cons_succ, List.getElem_toArray, List.getElem_cons_succ, List.getElem_cons_zero]
                refine wpAnyH_done (by kernel_rfl) ?_ _
                refine NoPanic.normal ?_
                go_wp2_with fail
                go_meet
                case rel =>
                  refine ⟨q13, q14, _, _, _, _, _, _, _, _, _, _, _, _, _, _, _, _, _, _, _, _, rfl, rfl, hid_of ⟨⟨?_, ?_, ?_, ?_⟩, ⟨?_, ?_, ?_, ?_⟩, HR1.out.mono (fun k _ h => .inl h), HR2.out.mono (fun k _ h => .inl h), qX2, s13, s14⟩⟩ <;> simp [World.cell?, b13, b14]
              exact AllReadyH.nil
            refine AllReadyH.cons rfl (fun K hK => ?_) ?_
            · go_simp
              obtain ⟨q14, hq⟩ : ∃ q, q = W2.heap.size := ⟨_, rfl⟩
              obtain ⟨W3, hW⟩ : ∃ X, X = W2.alloc (.cells #[.int .u64 0, .slice none 0 0, .slice none 0 0, .slice none 0 0] 42) := ⟨_, rfl⟩
              have k : Kept W2 W3 := (by rw [hW]; exact Kept.alloc _ _)
              have b14 : W3.heap[q14]? = some (.cells #[.int .u64 0, .slice none 0 0, .slice none 0 0, .slice none 0 0] 42 (0, 0)) := (by rw [hW, hq]; exact heap_alloc_new _ _)
              have s14 : A0.heap.size ≤ q14 := (by rw [hq]; exact qW2.size)
              have l14 : q14 < W3.heap.size := lt_of_blk b14
              have qW3 := qW2.trans k
              have HR1 : Hid (RV W3 (fun k => k < A0.heap.size ∨ k = q14) _ _) := hid_of ((HR1.out.mono (fun k hk (h : k < A0.heap.size ∨ k = q14) => (by show k < A0.heap.size; omega))).kept k)
              have HR2 : Hid (RV W3 (fun k => k < A0.heap.size ∨ k = q14) _ _) := hid_of ((HR2.out.mono (fun k hk (h : k < A0.heap.size ∨ k = q14) => (by show k < A0.heap.size; omega))).kept k)
              rw [← hW, ← hq]
              clear hW hq k
              refine hK.out _ _ (SC.out _ qW3) (fun hHeld => ?_)
              clear hK K
              try simp only [Act.put, List.setIfInBounds_toArray, List.set_cons_zero, List.set_cons_succ, List.getElem_toArray, List.getElem_cons_succ, List.getElem_cons_zero]
              refine wpAnyH_ready (rs := [8]) (by kernel_rfl) (by simp) ?_
              refine AllReadyH.cons rfl (fun K hK => ?_) ?_
              · go_simp
                obtain ⟨q13, hq⟩ : ∃ q, q = W3.heap.size := ⟨_, rfl⟩
                obtain ⟨W4, hW⟩ : ∃ X, X = W3.alloc (.cells #[.int .u64 0, .slice none 0 0, .slice none 0 0, .slice none 0 0] 42) := ⟨_, rfl⟩
                have k : Kept W3 W4 := (by rw [hW]; exact Kept.alloc _ _)
                have b13 : W4.heap[q13]? = some (.cells #[.int .u64 0, .slice none 0 0, .slice none 0 0, .slice none 0 0] 42 (0, 0)) := (by rw [hW, hq]; exact heap_alloc_new _ _)
                have s13 : A0.heap.size ≤ q13 := (by rw [hq]; exact qW3.size)
                have l13 : q13 < W4.heap.size := lt_of_blk b13
                have qW4 := qW3.trans k
                have b14 := k.blk b14
                have n : q13 ≠ q14 := (by omega)
                have l14 : q14 < W4.heap.size := Nat.lt_of_lt_of_le l14 k.size
                have HR1 : Hid (RV W4 (fun k => k < A0.heap.size ∨ k = q13 ∨ k = q14) _ _) := hid_of ((HR1.out.mono (fun k hk (h : k < A0.heap.size ∨ k = q13 ∨ k = q14) => (by show k < A0.heap.size ∨ k = q14; omega))).kept k)
                have HR2 : Hid (RV W4 (fun k => k < A0.heap.size ∨ k = q13 ∨ k = q14) _ _) := hid_of ((HR2.out.mono (fun k hk (h : k < A0.heap.size ∨ k = q13 ∨ k = q14) => (by show k < A0.heap.size ∨ k = q14; omega))).kept k)
                rw [← hW, ← hq]
                clear hW hq k
                refine hK.out _ _ (SC.out _ qW4) (fun hHeld => ?_)
                clear hK K
                try simp only [Act.put, List.setIfInBounds_toArray, List.set_cons_zero, List.set_cons_succ, List.getElem_toArray, List.getElem_cons_succ, List.getElem_cons_zero]
                refine wpAnyH_ready (rs := [10]) (by kernel_rfl) (by simp) ?_
                refine AllReadyH.cons rfl (fun K hK => ?_) AllReadyH.nil
                have hc := b13
                have e0 : W4.cell? ⟨q13, 0, none⟩ = some (.int .u64 0) := (by simp [World.cell?, hc])
                have e1 : W4.cell? ⟨q13, 1, none⟩ = some (.slice none 0 0) := (by simp [World.cell?, hc])
                have e2 : W4.cell? ⟨q13, 2, none⟩ = some (.slice none 0 0) := (by simp [World.cell?, hc])
                have e3 : W4.cell? ⟨q13, 3, none⟩ = some (.slice none 0 0) := (by simp [World.cell?, hc])
                have f0 : W4.frozen? ⟨q13, 0, none⟩ = false := (by simp [World.frozen?, hc])
                have f1 : W4.frozen? ⟨q13, 1, none⟩ = false := (by simp [World.frozen?, hc])
                have f2 : W4.frozen? ⟨q13, 2, none⟩ = false := (by simp [World.frozen?, hc])
                have f3 : W4.frozen? ⟨q13, 3, none⟩ = false := (by simp [World.frozen?, hc])
                go_simp
                obtain ⟨X1, hX1⟩ : ∃ X, X = ((((W4.setCell ⟨q13, 0, none⟩ (.int .u64 N1)).setCell ⟨q13, 1, none⟩ (.slice xb1 mb1 db1)).setCell ⟨q13, 2, none⟩ (.slice xl1 ml1 dl1)).setCell ⟨q13, 3, none⟩ (.slice xc1 mc1 dc1)) := ⟨_, rfl⟩
                have b13 : X1.heap[q13]? = some (.cells #[(.int .u64 N1), (.slice xb1 mb1 db1), (.slice xl1 ml1 dl1), (.slice xc1 mc1 dc1)] 42 (0, 0)) := (by rw [hX1]; exact set1_blk (set1_blk (set1_blk (set1_blk b13 0 _ _ rfl) 1 _ _ rfl) 2 _ _ rfl) 3 _ _ rfl)
                have b14 := (show X1.heap[q14]? = W4.heap[q14]? by rw [hX1, Below.heap_setCell _ _ _ _ n.symm, Below.heap_setCell _ _ _ _ n.symm, Below.heap_setCell _ _ _ _ n.symm, Below.heap_setCell _ _ _ _ n.symm]).trans b14
                have qX1 : Kept A0 X1 := (by rw [hX1]; exact (((qW4.setNew _ s13 _).setNew _ s13 _).setNew _ s13 _).setNew _ s13 _)
                have O : Outer (fun k => k < A0.heap.size ∨ k = q13 ∨ k = q14) W4 X1 := (by rw [hX1]; exact ((((Outer.refl _ _).setC q13 0 _ (.inr (.inl rfl))).setC q13 1 _ (.inr (.inl rfl))).setC q13 2 _ (.inr (.inl rfl))).setC q13 3 _ (.inr (.inl rfl)))
                have HR1 := hid_of (HR1.out.outer O)
                have HR2 := hid_of (HR2.out.outer O)
                rw [← hX1]
                clear e0 e1 e2 e3 f0 f1 f2 f3 hc hX1 O
                refine hK.out _ _ (SC.out _ qX1) (fun hHeld => ?_)
                clear hK K
                try simp only [Act.put, List.setIfInBounds_toArray, List.set_cons_zero, List.set_cons_succ, List.getElem_toArray, List.getElem_cons_succ, List.getElem_cons_zero]
                refine wpAnyH_ready (rs := [11]) (by kernel_rfl) (by simp) ?_
                refine AllReadyH.cons rfl (fun K hK => ?_) AllReadyH.nil
                have hc := b14
                have e0 : X1.cell? ⟨q14, 0, none⟩ = some (.int .u64 0) := (by simp [World.cell?, hc])
                have e1 : X1.cell? ⟨q14, 1, none⟩ = some (.slice none 0 0) := (by simp [World.cell?, hc])
                have e2 : X1.cell? ⟨q14, 2, none⟩ = some (.slice none 0 0) := (by simp [World.cell?, hc])
                have e3 : X1.cell? ⟨q14, 3, none⟩ = some (.slice none 0 0) := (by simp [World.cell?, hc])
                have f0 : X1.frozen? ⟨q14, 0, none⟩ = false := (by simp [World.frozen?, hc])
                have f1 : X1.frozen? ⟨q14, 1, none⟩ = false := (by simp [World.frozen?, hc])
                have f2 : X1.frozen? ⟨q14, 2, none⟩ = false := (by simp [World.frozen?, hc])
                have f3 : X1.frozen? ⟨q14, 3, none⟩ = false := (by simp [World.frozen?, hc])
                go_simp
                obtain ⟨X2, hX2⟩ : ∃ X, X = ((((X1.setCell ⟨q14, 0, none⟩ (.int .u64 N2)).setCell ⟨q14, 1, none⟩ (.slice xb2 mb2 db2)).setCell ⟨q14, 2, none⟩ (.slice xl2 ml2 dl2)).setCell ⟨q14, 3, none⟩ (.slice xc2 mc2 dc2)) := ⟨_, rfl⟩
                have b14 : X2.heap[q14]? = some (.cells #[(.int .u64 N2), (.slice xb2 mb2 db2), (.slice xl2 ml2 dl2), (.slice xc2 mc2 dc2)] 42 (0, 0)) := (by rw [hX2]; exact set1_blk (set1_blk (set1_blk (set1_blk b14 0 _ _ rfl) 1 _ _ rfl) 2 _ _ rfl) 3 _ _ rfl)
                have b13 := (show X2.heap[q13]? = X1.heap[q13]? by rw [hX2, Below.heap_setCell _ _ _ _ n, Below.heap_setCell _ _ _ _ n, Below.heap_setCell _ _ _ _ n, Below.heap_setCell _ _ _ _ n]).trans b13
                have qX2 : Kept A0 X2 := (by rw [hX2]; exact (((qX1.setNew _ s14 _).setNew _ s14 _).setNew _ s14 _).setNew _ s14 _)
                have O : Outer (fun k => k < A0.heap.size ∨ k = q13 ∨ k = q14) X1 X2 := (by rw [hX2]; exact ((((Outer.refl _ _).setC q14 0 _ (.inr (.inr rfl))).setC q14 1 _ (.inr (.inr rfl))).setC q14 2 _ (.inr (.inr rfl))).setC q14 3 _ (.inr (.inr rfl)))
                have HR1 := hid_of (HR1.out.outer O)
                have HR2 := hid_of (HR2.out.outer O)
                rw [← hX2]
                clear e0 e1 e2 e3 f0 f1 f2 f3 hc hX2 O
                refine hK.out _ _ (SC.out _ qX2) (fun hHeld => ?_)
                clear hK K
                try simp only [Act.put, List.setIfInBounds_toArray, List.set_cons_zero, List.set_cons_succ, List.getElem_toArray, List.getElem_cons_succ, List.getElem_cons_zero]
                refine wpAnyH_done (by kernel_rfl) ?_ _
                refine NoPanic.normal ?_
                go_wp2_with fail
                go_meet
                case rel =>
                  refine ⟨q13, q14, _, _, _, _, _, _, _, _, _, _, _, _, _, _, _, _, _, _, _, _, rfl, rfl, hid_of ⟨⟨?_, ?_, ?_, ?_⟩, ⟨?_, ?_, ?_, ?_⟩, HR1.out.mono (fun k _ h => .inl h), HR2.out.mono (fun k _ h => .inl h), qX2, s13, s14⟩⟩ <;> simp [World.cell?, b13, b14]
              exact AllReadyH.nil
            exact AllReadyH.nil
          refine AllReadyH.cons rfl (fun K hK => ?_) ?_
          · go_simp
            obtain ⟨q13, hq⟩ : ∃ q, q = W1.heap.size := ⟨_, rfl⟩
            obtain ⟨W2, hW⟩ : ∃ X, X = W1.alloc (.cells #[.int .u64 0, .slice none 0 0, .slice none 0 0, .slice none 0 0] 42) := ⟨_, rfl⟩
            have k : Kept W1 W2 := (by rw [hW]; exact Kept.alloc _ _)
            have b13 : W2.heap[q13]? = some (.cells #[.int .u64 0, .slice none 0 0, .slice none 0 0, .slice none 0 0] 42 (0, 0)) := (by rw [hW, hq]; exact heap_alloc_new _ _)
            have s13 : A0.heap.size ≤ q13 := (by rw [hq]; exact qW1.size)
            have l13 : q13 < W2.heap.size := lt_of_blk b13
            have qW2 := qW1.trans k
            have HR1 : Hid (RV W2 (fun k => k < A0.heap.size ∨ k = q13) _ _) := hid_of ((HR1.out.mono (fun k hk (h : k < A0.heap.size ∨ k = q13) => (by show k < A0.heap.size; omega))).kept k)
            rw [← hW, ← hq]
            clear hW hq k
            refine hK.out _ _ (SC.out _ qW2) (fun hHeld => ?_)
            clear hK K
            try simp only [Act.put, List.setIfInBounds_toArray, List.set_cons_zero, List.set_cons_succ, List.getElem_toArray, List.getElem_cons_succ, List.getElem_cons_zero]
            refine wpAnyH_ready (rs := [7, 9]) (by kernel_rfl) (by simp) ?_
            refine AllReadyH.cons rfl (fun K hK => ?_) ?_
            · go_simp
              refine (H36b.out _ qW2).mono ?_
              rintro e W3 ⟨⟨v, rfl, R⟩, k⟩
              have R' : RV W3 (fun k => k < A0.heap.size ∨ k = q13) v _ := R.mono (fun k hk (h : k < A0.heap.size ∨ k = q13) => (by show k < W2.heap.size; have := qW2.size; omega))
              obtain ⟨xb2, mb2, db2, xl2, ml2, dl2, xc2, mc2, dc2, rfl, -, -, -⟩ := R.ex
              rw [← HN2.out] at R' ⊢
              have HR2 := hid_of R'
              have qW3 := qW2.trans k
              have b13 := k.blk b13
              have l13 : q13 < W3.heap.size := Nat.lt_of_lt_of_le l13 k.size
              have HR1 := hid_of (HR1.out.kept k)
              clear R R' k
              go_wp2_with fail
              refine hK.out _ _ (SC.out _ qW3) (fun hHeld => ?_)
              clear hK K
              try simp only [Act.put, List.setIfInBounds_toArray, List.set_cons_zero, List.set_cons_succ, List.getElem_toArray, List.getElem_cons_succ, List.getElem_cons_zero]
              refine wpAnyH_ready (rs := [9]) (by kernel_rfl) (by simp) ?_
              refine AllReadyH.cons rfl (fun K hK => ?_) ?_
              · go_simp
                obtain ⟨q14, hq⟩ : ∃ q, q = W3.heap.size := ⟨_, rfl⟩
                obtain ⟨W4, hW⟩ : ∃ X, X = W3.alloc (.cells #[.int .u64 0, .slice none 0 0, .slice none 0 0, .slice none 0 0] 42) := ⟨_, rfl⟩
                have k : Kept W3 W4 := (by rw [hW]; exact Kept.alloc _ _)
                have b14 : W4.heap[q14]? = some (.cells #[.int .u64 0, .slice none 0 0, .slice none 0 0, .slice none 0 0] 42 (0, 0)) := (by rw [hW, hq]; exact heap_alloc_new _ _)
                have s14 : A0.heap.size ≤ q14 := (by rw [hq]; exact qW3.size)
                have l14 : q14 < W4.heap.size := lt_of_blk b14
                have qW4 := qW3.trans k
                have b13 := k.blk b13
                have n : q13 ≠ q14 := (by omega)
                have l13 : q13 < W4.heap.size := Nat.lt_of_lt_of_le l13 k.size
                have HR1 : Hid (RV W4 (fun k => k < A0.heap.size ∨ k = q13 ∨ k = q14) _ _) := hid_of ((HR1.out.mono (fun k hk (h : k < A0.heap.size ∨ k = q13 ∨ k = q14) => (by show k < A0.heap.size ∨ k = q13; omega))).kept k)
                have HR2 : Hid (RV W4 (fun k => k < A0.heap.size ∨ k = q13 ∨ k = q14) _ _) := hid_of ((HR2.out.mono (fun k hk (h : k < A0.heap.size ∨ k = q13 ∨ k = q14) => (by show k < A0.heap.size ∨ k = q13; omega))).kept k)
                rw [← hW, ← hq]
                clear hW hq k
                refine hK.out _ _ (SC.out _ qW4) (fun hHeld => ?_)
                clear hK K
                try simp only [Act.put, List.setIfInBounds_toArray, List.set_cons_zero, List.set_cons_succ, List.getElem_toArray, List.getElem_cons_succ, List.getElem_cons_zero]
                refine wpAnyH_ready (rs := [10]) (by kernel_rfl) (by simp) ?_
                refine AllReadyH.cons rfl (fun K hK => ?_) AllReadyH.nil
                have hc := b13
                have e0 : W4.cell? ⟨q13, 0, none⟩ = some (.int .u64 0) := (by simp [World.cell?, hc])
                have e1 : W4.cell? ⟨q13, 1, none⟩ = some (.slice none 0 0) := (by simp [World.cell?, hc])
                have e2 : W4.cell? ⟨q13, 2, none⟩ = some (.slice none 0 0) := (by simp [World.cell?, hc])
                have e3 : W4.cell? ⟨q13, 3, none⟩ = some (.slice none 0 0) := (by simp [World.cell?, hc])
                have f0 : W4.frozen? ⟨q13, 0, none⟩ = false := (by simp [World.frozen?, hc])
                have f1 : W4.frozen? ⟨q13, 1, none⟩ = false := (by simp [World.frozen?, hc])
                have f2 : W4.frozen? ⟨q13, 2, none⟩ = false := (by simp [World.frozen?, hc])
                have f3 : W4.frozen? ⟨q13, 3, none⟩ = false := (by simp [World.frozen?, hc])
                go_simp
                obtain ⟨X1, hX1⟩ : ∃ X, X = ((((W4.setCell ⟨q13, 0, none⟩ (.int .u64 N1)).setCell ⟨q13, 1, none⟩ (.slice xb1 mb1 db1)).setCell ⟨q13, 2, none⟩ (.slice xl1 ml1 dl1)).setCell ⟨q13, 3, none⟩ (.slice xc1 mc1 dc1)) := ⟨_, rfl⟩
                have b13 : X1.heap[q13]? = some (.cells #[(.int .u64 N1), (.slice xb1 mb1 db1), (.slice xl1 ml1 dl1), (.slice xc1 mc1 dc1)] 42 (0, 0)) := (by rw [hX1]; exact set1_blk (set1_blk (set1_blk (set1_blk b13 0 _ _ rfl) 1 _ _ rfl) 2 _ _ rfl) 3 _ _ rfl)
                have b14 := (show X1.heap[q14]? = W4.heap[q14]? by rw [hX1, Below.heap_setCell _ _ _ _ n.symm, Below.heap_setCell _ _ _ _ n.symm, Below.heap_setCell _ _ _ _ n.symm, Below.heap_setCell _ _ _ _ n.symm]).trans b14
                have qX1 : Kept A0 X1 := (by rw [hX1]; exact (((qW4.setNew _ s13 _).setNew _ s13 _).setNew _ s13 _).setNew _ s13 _)
                have O : Outer (fun k => k < A0.heap.size ∨ k = q13 ∨ k = q14) W4 X1 := (by rw [hX1]; exact ((((Outer.refl _ _).setC q13 0 _ (.inr (.inl rfl))).setC q13 1 _ (.inr (.inl rfl))).setC q13 2 _ (.inr (.inl rfl))).setC q13 3 _ (.inr (.inl rfl)))
                have HR1 := hid_of (HR1.out.outer O)
                have HR2 := hid_of (HR2.out.outer O)
                rw [← hX1]
                clear e0 e1 e2 e3 f0 f1 f2 f3 hc hX1 O
                refine hK.out _ _ (SC.out _ qX1) (fun hHeld => ?_)
                clear hK K
                try simp only [Act.put, List.setIfInBounds_toArray, List.set_cons_zero, List.set_cons_succ, List.getElem_toArray, List.getElem_cons_succ, List.getElem_cons_zero]
                refine wpAnyH_ready (rs := [11]) (by kernel_rfl) (by simp) ?_
                refine AllReadyH.cons rfl (fun K hK => ?_) AllReadyH.nil
                have hc := b14
                have e0 : X1.cell? ⟨q14, 0, none⟩ = some (.int .u64 0) := (by simp [World.cell?, hc])
                have e1 : X1.cell? ⟨q14, 1, none⟩ = some (.slice none 0 0) := (by simp [World.cell?, hc])
                have e2 : X1.cell? ⟨q14, 2, none⟩ = some (.slice none 0 0) := (by simp [World.cell?, hc])
                have e3 : X1.cell? ⟨q14, 3, none⟩ = some (.slice none 0 0) := (by simp [World.cell?, hc])
                have f0 : X1.frozen? ⟨q14, 0, none⟩ = false := (by simp [World.frozen?, hc])
                have f1 : X1.frozen? ⟨q14, 1, none⟩ = false := (by simp [World.frozen?, hc])
                have f2 : X1.frozen? ⟨q14, 2, none⟩ = false := (by simp [World.frozen?, hc])
                have f3 : X1.frozen? ⟨q14, 3, none⟩ = false := (by simp [World.frozen?, hc])
                go_simp
                obtain ⟨X2, hX2⟩ : ∃ X, X = ((((X1.setCell ⟨q14, 0, none⟩ (.int .u64 N2)).setCell ⟨q14, 1, none⟩ (.slice xb2 mb2 db2)).setCell ⟨q14, 2, none⟩ (.slice xl2 ml2 dl2)).setCell ⟨q14, 3, none⟩ (.slice xc2 mc2 dc2)) := ⟨_, rfl⟩
                have b14 : X2.heap[q14]? = some (.cells #[(.int .u64 N2), (.slice xb2 mb2 db2), (.slice xl2 ml2 dl2), (.slice xc2 mc2 dc2)] 42 (0, 0)) := (by rw [hX2]; exact set1_blk (set1_blk (set1_blk (set1_blk b14 0 _ _ rfl) 1 _ _ rfl) 2 _ _ rfl) 3 _ _ rfl)
                have b13 := (show X2.heap[q13]? = X1.heap[q13]? by rw [hX2, Below.heap_setCell _ _ _ _ n, Below.heap_setCell _ _ _ _ n, Below.heap_setCell _ _ _ _ n, Below.heap_setCell _ _ _ _ n]).trans b13
                have qX2 : Kept A0 X2 := (by rw [hX2]; exact (((qX1.setNew _ s14 _).setNew _ s14 _).setNew _ s14 _).setNew _ s14 _)
                have O : Outer (fun k => k < A0.heap.size ∨ k = q13 ∨ k = q14) X1 X2 := (by rw [hX2]; exact ((((Outer.refl _ _).setC q14 0 _ (.inr (.inr rfl))).setC q14 1 _ (.inr (.inr rfl))).setC q14 2 _ (.inr (.inr rfl))).setC q14 3 _ (.inr (.inr rfl)))
                have HR1 := hid_of (HR1.out.outer O)
                have HR2 := hid_of (HR2.out.outer O)
                rw [← hX2]
                clear e0 e1 e2 e3 f0 f1 f2 f3 hc hX2 O
                refine hK.out _ _ (SC.out _ qX2) (fun hHeld => ?_)
                clear hK K
                try simp only [Act.put, List.setIfInBounds_toArray, List.set_cons_zero, List.set_cons_succ, List.getElem_toArray, List.getElem_cons_succ, List.getElem_cons_zero]
                refine wpAnyH_done (by kernel_rfl) ?_ _
                refine NoPanic.normal ?_
                go_wp2_with fail
                go_meet
                case rel =>
                  refine ⟨q13, q14, _, _, _, _, _, _, _, _, _, _, _, _, _, _, _, _, _, _, _, _, rfl, rfl, hid_of ⟨⟨?_, ?_, ?_, ?_⟩, ⟨?_, ?_, ?_, ?_⟩, HR1.out.mono (fun k _ h => .inl h), HR2.out.mono (fun k _ h => .inl h), qX2, s13, s14⟩⟩ <;> simp [World.cell?, b13, b14]
              exact AllReadyH.nil
            refine AllReadyH.cons rfl (fun K hK => ?_) ?_
            · go_simp
              obtain ⟨q14, hq⟩ : ∃ q, q = W2.heap.size := ⟨_, rfl⟩
              obtain ⟨W3, hW⟩ : ∃ X, X = W2.alloc (.cells #[.int .u64 0, .slice none 0 0, .slice none 0 0, .slice none 0 0] 42) := ⟨_, rfl⟩
              have k : Kept W2 W3 := (by rw [hW]; exact Kept.alloc _ _)
              have b14 : W3.heap[q14]? = some (.cells #[.int .u64 0, .slice none 0 0, .slice none 0 0, .slice none 0 0] 42 (0, 0)) := (by rw [hW, hq]; exact heap_alloc_new _ _)
              have s14 : A0.heap.size ≤ q14 := (by rw [hq]; exact qW2.size)
              have l14 : q14 < W3.heap.size := lt_of_blk b14
              have qW3 := qW2.trans k
              have b13 := k.blk b13
              have n : q13 ≠ q14 := (by omega)
              have l13 : q13 < W3.heap.size := Nat.lt_of_lt_of_le l13 k.size
              have HR1 : Hid (RV W3 (fun k => k < A0.heap.size ∨ k = q13 ∨ k = q14) _ _) := hid_of ((HR1.out.mono (fun k hk (h : k < A0.heap.size ∨ k = q13 ∨ k = q14) => (by show k < A0.heap.size ∨ k = q13; omega))).kept k)
              rw [← hW, ← hq]
              clear hW hq k
              refine hK.out _ _ (SC.out _ qW3) (fun hHeld => ?_)
              clear hK K
              try simp only [Act.put, List.setIfInBounds_toArray, List.set_cons_zero, List.set_cons_succ, List.getElem_toArray, List.getElem_cons_succ, List.getElem_cons_zero]
              refine wpAnyH_ready (rs := [7]) (by kernel_rfl) (by simp) ?_
              refine AllReadyH.cons rfl (fun K hK => ?_) ?_
              · go_simp
                refine (H36b.out _ qW3).mono ?_
                rintro e W4 ⟨⟨v, rfl, R⟩, k⟩
                have R' : RV W4 (fun k => k < A0.heap.size ∨ k = q13 ∨ k = q14) v _ := R.mono (fun k hk (h : k < A0.heap.size ∨ k = q13 ∨ k = q14) => (by show k < W3.heap.size; have := qW3.size; omega))
                obtain ⟨xb2, mb2, db2, xl2, ml2, dl2, xc2, mc2, dc2, rfl, -, -, -⟩ := R.ex
                rw [← HN2.out] at R' ⊢
                have HR2 := hid_of R'
                have qW4 := qW3.trans k
                have b13 := k.blk b13
                have l13 : q13 < W4.heap.size := Nat.lt_of_lt_of_le l13 k.size
                have b14 := k.blk b14
                have l14 : q14 < W4.heap.size := Nat.lt_of_lt_of_le l14 k.size
                have HR1 := hid_of (HR1.out.kept k)
                clear R R' k
                go_wp2_with fail
                refine hK.out _ _ (SC.out _ qW4) (fun hHeld => ?_)
                clear hK K
                try simp only [Act.put, List.setIfInBounds_toArray, List.set_cons_zero, List.set_cons_succ, List.getElem_toArray, List.getElem_cons_succ, List.getElem_cons_zero]
                refine wpAnyH_ready (rs := [10]) (by kernel_rfl) (by simp) ?_
                refine AllReadyH.cons rfl (fun K hK => ?_) AllReadyH.nil
                have hc := b13
                have e0 : W4.cell? ⟨q13, 0, none⟩ = some (.int .u64 0) := (by simp [World.cell?, hc])
                have e1 : W4.cell? ⟨q13, 1, none⟩ = some (.slice none 0 0) := (by simp [World.cell?, hc])
                have e2 : W4.cell? ⟨q13, 2, none⟩ = some (.slice none 0 0) := (by simp [World.cell?, hc])
                have e3 : W4.cell? ⟨q13, 3, none⟩ = some (.slice none 0 0) := (by simp [World.cell?, hc])
                have f0 : W4.frozen? ⟨q13, 0, none⟩ = false := (by simp [World.frozen?, hc])
                have f1 : W4.frozen? ⟨q13, 1, none⟩ = false := (by simp [World.frozen?, hc])
                have f2 : W4.frozen? ⟨q13, 2, none⟩ = false := (by simp [World.frozen?, hc])
                have f3 : W4.frozen? ⟨q13, 3, none⟩ = false := (by simp [World.frozen?, hc])
                go_simp
                obtain ⟨X1, hX1⟩ : ∃ X, X = ((((W4.setCell ⟨q13, 0, none⟩ (.int .u64 N1)).setCell ⟨q13, 1, none⟩ (.slice xb1 mb1 db1)).setCell ⟨q13, 2, none⟩ (.slice xl1 ml1 dl1)).setCell ⟨q13, 3, none⟩ (.slice xc1 mc1 dc1)) := ⟨_, rfl⟩
                have b13 : X1.heap[q13]? = some (.cells #[(.int .u64 N1), (.slice xb1 mb1 db1), (.slice xl1 ml1 dl1), (.slice xc1 mc1 dc1)] 42 (0, 0)) := (by rw [hX1]; exact set1_blk (set1_blk (set1_blk (set1_blk b13 0 _ _ rfl) 1 _ _ rfl) 2 _ _ rfl) 3 _ _ rfl)
                have b14 := (show X1.heap[q14]? = W4.heap[q14]? by rw [hX1, Below.heap_setCell _ _ _ _ n.symm, Below.heap_setCell _ _ _ _ n.symm, Below.heap_setCell _ _ _ _ n.symm, Below.heap_setCell _ _ _ _ n.symm]).trans b14
                have qX1 : Kept A0 X1 := (by rw [hX1]; exact (((qW4.setNew _ s13 _).setNew _ s13 _).setNew _ s13 _).setNew _ s13 _)
                have O : Outer (fun k => k < A0.heap.size ∨ k = q13 ∨ k = q14) W4 X1 := (by rw [hX1]; exact ((((Outer.refl _ _).setC q13 0 _ (.inr (.inl rfl))).setC q13 1 _ (.inr (.inl rfl))).setC q13 2 _ (.inr (.inl rfl))).setC q13 3 _ (.inr (.inl rfl)))
                have HR1 := hid_of (HR1.out.outer O)
                have HR2 := hid_of (HR2.out.outer O)
                rw [← hX1]
                clear e0 e1 e2 e3 f0 f1 f2 f3 hc hX1 O
                refine hK.out _ _ (SC.out _ qX1) (fun hHeld => ?_)
                clear hK K
                try simp only [Act.put, List.setIfInBounds_toArray, List.set_cons_zero, List.set_cons_succ, List.getElem_toArray, List.getElem_cons_succ, List.getElem_cons_zero]
                refine wpAnyH_ready (rs := [11]) (by kernel_rfl) (by simp) ?_
                refine AllReadyH.cons rfl (fun K hK => ?_) AllReadyH.nil
                have hc := b14
                have e0 : X1.cell? ⟨q14, 0, none⟩ = some (.int .u64 0) := (by simp [World.cell?, hc])
                have e1 : X1.cell? ⟨q14, 1, none⟩ = some (.slice none 0 0) := (by simp [World.cell?, hc])
                have e2 : X1.cell? ⟨q14, 2, none⟩ = some (.slice none 0 0) := (by simp [World.cell?, hc])
                have e3 : X1.cell? ⟨q14, 3, none⟩ = some (.slice none 0 0) := (by simp [World.cell?, hc])
                have f0 : X1.frozen? ⟨q14, 0, none⟩ = false := (by simp [World.frozen?, hc])
                have f1 : X1.frozen? ⟨q14, 1, none⟩ = false := (by simp [World.frozen?, hc])
                have f2 : X1.frozen? ⟨q14, 2, none⟩ = false := (by simp [World.frozen?, hc])
                have f3 : X1.frozen? ⟨q14, 3, none⟩ = false := (by simp [World.frozen?, hc])
                go_simp
                obtain ⟨X2, hX2⟩ : ∃ X, X = ((((X1.setCell ⟨q14, 0, none⟩ (.int .u64 N2)).setCell ⟨q14, 1, none⟩ (.slice xb2 mb2 db2)).setCell ⟨q14, 2, none⟩ (.slice xl2 ml2 dl2)).setCell ⟨q14, 3, none⟩ (.slice xc2 mc2 dc2)) := ⟨_, rfl⟩
                have b14 : X2.heap[q14]? = some (.cells #[(.int .u64 N2), (.slice xb2 mb2 db2), (.slice xl2 ml2 dl2), (.slice xc2 mc2 dc2)] 42 (0, 0)) := (by rw [hX2]; exact set1_blk (set1_blk (set1_blk (set1_blk b14 0 _ _ rfl) 1 _ _ rfl) 2 _ _ rfl) 3 _ _ rfl)
                have b13 := (show X2.heap[q13]? = X1.heap[q13]? by rw [hX2, Below.heap_setCell _ _ _ _ n, Below.heap_setCell _ _ _ _ n, Below.heap_setCell _ _ _ _ n, Below.heap_setCell _ _ _ _ n]).trans b13
                have qX2 : Kept A0 X2 := (by rw [hX2]; exact (((qX1.setNew _ s14 _).setNew _ s14 _).setNew _ s14 _).setNew _ s14 _)
                have O : Outer (fun k => k < A0.heap.size ∨ k = q13 ∨ k = q14) X1 X2 := (by rw [hX2]; exact ((((Outer.refl _ _).setC q14 0 _ (.inr (.inr rfl))).setC q14 1 _ (.inr (.inr rfl))).setC q14 2 _ (.inr (.inr rfl))).setC q14 3 _ (.inr (.inr rfl)))
                have HR1 := hid_of (HR1.out.outer O)
                have HR2 := hid_of (HR2.out.outer O)
                rw [← hX2]
                clear e0 e1 e2 e3 f0 f1 f2 f3 hc hX2 O
                refine hK.out _ _ (SC.out _ qX2) (fun hHeld => ?_)
                clear hK K
                try simp only [Act.put, List.setIfInBounds_toArray, List.set_cons_zero, List.set_cons_succ, List.getElem_toArray, List.getElem_cons_succ, List.getElem_cons_zero]
                refine wpAnyH_done (by kernel_rfl) ?_ _
                refine NoPanic.normal ?_
                go_wp2_with fail
                go_meet
                case rel =>
                  refine ⟨q13, q14, _, _, _, _, _, _, _, _, _, _, _, _, _, _, _, _, _, _, _, _, rfl, rfl, hid_of ⟨⟨?_, ?_, ?_, ?_⟩, ⟨?_, ?_, ?_, ?_⟩, HR1.out.mono (fun k _ h => .inl h), HR2.out.mono (fun k _ h => .inl h), qX2, s13, s14⟩⟩ <;> simp [World.cell?, b13, b14]
              exact AllReadyH.nil
            exact AllReadyH.nil
          refine AllReadyH.cons rfl (fun K hK => ?_) ?_
          · go_simp
            obtain ⟨q14, hq⟩ : ∃ q, q = W1.heap.size := ⟨_, rfl⟩
            obtain ⟨W2, hW⟩ : ∃ X, X = W1.alloc (.cells #[.int .u64 0, .slice none 0 0, .slice none 0 0, .slice none 0 0] 42) := ⟨_, rfl⟩
            have k : Kept W1 W2 := (by rw [hW]; exact Kept.alloc _ _)
            have b14 : W2.heap[q14]? = some (.cells #[.int .u64 0, .slice none 0 0, .slice none 0 0, .slice none 0 0] 42 (0, 0)) := (by rw [hW, hq]; exact heap_alloc_new _ _)
            have s14 : A0.heap.size ≤ q14 := (by rw [hq]; exact qW1.size)
            have l14 : q14 < W2.heap.size := lt_of_blk b14
            have qW2 := qW1.trans k
            have HR1 : Hid (RV W2 (fun k => k < A0.heap.size ∨ k = q14) _ _) := hid_of ((HR1.out.mono (fun k hk (h : k < A0.heap.size ∨ k = q14) => (by show k < A0.heap.size; omega))).kept k)
            rw [← hW, ← hq]
            clear hW hq k
            refine hK.out _ _ (SC.out _ qW2) (fun hHeld => ?_)
            clear hK K
            try simp only [Act.put, List.setIfInBounds_toArray, List.set_cons_zero, List.set_cons_succ, List.getElem_toArray, List.getElem_cons_succ, List.getElem_cons_zero]
            refine wpAnyH_ready (rs := [7, 8]) (by kernel_rfl) (by simp) ?_
            refine AllReadyH.cons rfl (fun K hK => ?_) ?_
            · go_simp
              refine (H36b.out _ qW2).mono ?_
              rintro e W3 ⟨⟨v, rfl, R⟩, k⟩
              have R' : RV W3 (fun k => k < A0.heap.size ∨ k = q14) v _ := R.mono (fun k hk (h : k < A0.heap.size ∨ k = q14) => (by show k < W2.heap.size; have := qW2.size; omega))
              obtain ⟨xb2, mb2, db2, xl2, ml2, dl2, xc2, mc2, dc2, rfl, -, -, -⟩ := R.ex
              rw [← HN2.out] at R' ⊢
              have HR2 := hid_of R'
              have qW3 := qW2.trans k
              have b14 := k.blk b14
              have l14 : q14 < W3.heap.size := Nat.lt_of_lt_of_le l14 k.size
              have HR1 := hid_of (HR1.out.kept k)
              clear R R' k
              go_wp2_with fail
              refine hK.out _ _ (SC.out _ qW3) (fun hHeld => ?_)
              clear hK K
              try simp only [Act.put, List.setIfInBounds_toArray, List.set_cons_zero, List.set_cons_succ, List.getElem_toArray, List.getElem_cons_succ, List.getElem_cons_zero]
              refine wpAnyH_ready (rs := [8]) (by kernel_rfl) (by simp) ?_
              refine AllReadyH.cons rfl (fun K hK => ?_) ?_
              · go_simp
                obtain ⟨q13, hq⟩ : ∃ q, q = W3.heap.size := ⟨_, rfl⟩
                obtain ⟨W4, hW⟩ : ∃ X, X = W3.alloc (.cells #[.int .u64 0, .slice none 0 0, .slice none 0 0, .slice none 0 0] 42) := ⟨_, rfl⟩
                have k : Kept W3 W4 := (by rw [hW]; exact Kept.alloc _ _)
                have b13 : W4.heap[q13]? = some (.cells #[.int .u64 0, .slice none 0 0, .slice none 0 0, .slice none 0 0] 42 (0, 0)) := (by rw [hW, hq]; exact heap_alloc_new _ _)
                have s13 : A0.heap.size ≤ q13 := (by rw [hq]; exact qW3.size)
                have l13 : q13 < W4.heap.size := lt_of_blk b13
                have qW4 := qW3.trans k
                have b14 := k.blk b14
                have n : q13 ≠ q14 := (by omega)
                have l14 : q14 < W4.heap.size := Nat.lt_of_lt_of_le l14 k.size
                have HR1 : Hid (RV W4 (fun k => k < A0.heap.size ∨ k = q13 ∨ k = q14) _ _) := hid_of ((HR1.out.mono (fun k hk (h : k < A0.heap.size ∨ k = q13 ∨ k = q14) => (by show k < A0.heap.size ∨ k = q14; omega))).kept k)
                have HR2 : Hid (RV W4 (fun k => k < A0.heap.size ∨ k = q13 ∨ k = q14) _ _) := hid_of ((HR2.out.mono (fun k hk (h : k < A0.heap.size ∨ k = q13 ∨ k = q14) => (by show k < A0.heap.size ∨ k = q14; omega))).kept k)
                rw [← hW, ← hq]
                clear hW hq k
                refine hK.out _ _ (SC.out _ qW4) (fun hHeld => ?_)
                clear hK K
                try simp only [Act.put, List.setIfInBounds_toArray, List.set_cons_zero, List.set_cons_succ, List.getElem_toArray, List.getElem_cons_succ, List.getElem_cons_zero]
                refine wpAnyH_ready (rs := [10]) (by kernel_rfl) (by simp) ?_
                refine AllReadyH.cons rfl (fun K hK => ?_) AllReadyH.nil
                have hc := b13
                have e0 : W4.cell? ⟨q13, 0, none⟩ = some (.int .u64 0) := (by simp [World.cell?, hc])
                have e1 : W4.cell? ⟨q13, 1, none⟩ = some (.slice none 0 0) := (by simp [World.cell?, hc])
                have e2 : W4.cell? ⟨q13, 2, none⟩ = some (.slice none 0 0) := (by simp [World.cell?, hc])
                have e3 : W4.cell? ⟨q13, 3, none⟩ = some (.slice none 0 0) := (by simp [World.cell?, hc])
                have f0 : W4.frozen? ⟨q13, 0, none⟩ = false := (by simp [World.frozen?, hc])
                have f1 : W4.frozen? ⟨q13, 1, none⟩ = false := (by simp [World.frozen?, hc])
                have f2 : W4.frozen? ⟨q13, 2, none⟩ = false := (by simp [World.frozen?, hc])
                have f3 : W4.frozen? ⟨q13, 3, none⟩ = false := (by simp [World.frozen?, hc])
                go_simp
                obtain ⟨X1, hX1⟩ : ∃ X, X = ((((W4.setCell ⟨q13, 0, none⟩ (.int .u64 N1)).setCell ⟨q13, 1, none⟩ (.slice xb1 mb1 db1)).setCell ⟨q13, 2, none⟩ (.slice xl1 ml1 dl1)).setCell ⟨q13, 3, none⟩ (.slice xc1 mc1 dc1)) := ⟨_, rfl⟩
                have b13 : X1.heap[q13]? = some (.cells #[(.int .u64 N1), (.slice xb1 mb1 db1), (.slice xl1 ml1 dl1), (.slice xc1 mc1 dc1)] 42 (0, 0)) := (by rw [hX1]; exact set1_blk (set1_blk (set1_blk (set1_blk b13 0 _ _ rfl) 1 _ _ rfl) 2 _ _ rfl) 3 _ _ rfl)
                have b14 := (show X1.heap[q14]? = W4.heap[q14]? by rw [hX1, Below.heap_setCell _ _ _ _ n.symm, Below.heap_setCell _ _ _ _ n.symm, Below.heap_setCell _ _ _ _ n.symm, Below.heap_setCell _ _ _ _ n.symm]).trans b14
                have qX1 : Kept A0 X1 := (by rw [hX1]; exact (((qW4.setNew _ s13 _).setNew _ s13 _).setNew _ s13 _).setNew _ s13 _)
                have O : Outer (fun k => k < A0.heap.size ∨ k = q13 ∨ k = q14) W4 X1 := (by rw [hX1]; exact ((((Outer.refl _ _).setC q13 0 _ (.inr (.inl rfl))).setC q13 1 _ (.inr (.inl rfl))).setC q13 2 _ (.inr (.inl rfl))).setC q13 3 _ (.inr (.inl rfl)))
                have HR1 := hid_of (HR1.out.outer O)
                have HR2 := hid_of (HR2.out.outer O)
                rw [← hX1]
                clear e0 e1 e2 e3 f0 f1 f2 f3 hc hX1 O
                refine hK.out _ _ (SC.out _ qX1) (fun hHeld => ?_)
                clear hK K
                try simp only [Act.put, List.setIfInBounds_toArray, List.set_cons_zero, List.set_cons_succ, List.getElem_toArray, List.getElem_cons_succ, List.getElem_cons_zero]
                refine wpAnyH_ready (rs := [11]) (by kernel_rfl) (by simp) ?_
                refine AllReadyH.cons rfl (fun K hK => ?_) AllReadyH.nil
                have hc := b14
                have e0 : X1.cell? ⟨q14, 0, none⟩ = some (.int .u64 0) := (by simp [World.cell?, hc])
                have e1 : X1.cell? ⟨q14, 1, none⟩ = some (.slice none 0 0) := (by simp [World.cell?, hc])
                have e2 : X1.cell? ⟨q14, 2, none⟩ = some (.slice none 0 0) := (by simp [World.cell?, hc])
                have e3 : X1.cell? ⟨q14, 3, none⟩ = some (.slice none 0 0) := (by simp [World.cell?, hc])
                have f0 : X1.frozen? ⟨q14, 0, none⟩ = false := (by simp [World.frozen?, hc])
                have f1 : X1.frozen? ⟨q14, 1, none⟩ = false := (by simp [World.frozen?, hc])
                have f2 : X1.frozen? ⟨q14, 2, none⟩ = false := (by simp [World.frozen?, hc])
                have f3 : X1.frozen? ⟨q14, 3, none⟩ = false := (by simp [World.frozen?, hc])
                go_simp
                obtain ⟨X2, hX2⟩ : ∃ X, X = ((((X1.setCell ⟨q14, 0, none⟩ (.int .u64 N2)).setCell ⟨q14, 1, none⟩ (.slice xb2 mb2 db2)).setCell ⟨q14, 2, none⟩ (.slice xl2 ml2 dl2)).setCell ⟨q14, 3, none⟩ (.slice xc2 mc2 dc2)) := ⟨_, rfl⟩
                have b14 : X2.heap[q14]? = some (.cells #[(.int .u64 N2), (.slice xb2 mb2 db2), (.slice xl2 ml2 dl2), (.slice xc2 mc2 dc2)] 42 (0, 0)) := (by rw [hX2]; exact set1_blk (set1_blk (set1_blk (set1_blk b14 0 _ _ rfl) 1 _ _ rfl) 2 _ _ rfl) 3 _ _ rfl)
                have b13 := (show X2.heap[q13]? = X1.heap[q13]? by rw [hX2, Below.heap_setCell _ _ _ _ n, Below.heap_setCell _ _ _ _ n, Below.heap_setCell _ _ _ _ n, Below.heap_setCell _ _ _ _ n]).trans b13
                have qX2 : Kept A0 X2 := (by rw [hX2]; exact (((qX1.setNew _ s14 _).setNew _ s14 _).setNew _ s14 _).setNew _ s14 _)
                have O : Outer (fun k => k < A0.heap.size ∨ k = q13 ∨ k = q14) X1 X2 := (by rw [hX2]; exact ((((Outer.refl _ _).setC q14 0 _ (.inr (.inr rfl))).setC q14 1 _ (.inr (.inr rfl))).setC q14 2 _ (.inr (.inr rfl))).setC q14 3 _ (.inr (.inr rfl)))
                have HR1 := hid_of (HR1.out.outer O)
                have HR2 := hid_of (HR2.out.outer O)
                rw [← hX2]
                clear e0 e1 e2 e3 f0 f1 f2 f3 hc hX2 O
                refine hK.out _ _ (SC.out _ qX2) (fun hHeld => ?_)
                clear hK K
                try simp only [Act.put, List.setIfInBounds_toArray, List.set_cons_zero, List.set_cons_succ, List.getElem_toArray, List.getElem_cons_succ, List.getElem_cons_zero]
                refine wpAnyH_done (by kernel_rfl) ?_ _
                refine NoPanic.normal ?_
                go_wp2_with fail
                go_meet
                case rel =>
                  refine ⟨q13, q14, _, _, _, _, _, _, _, _, _, _, _, _, _, _, _, _, _, _, _, _, rfl, rfl, hid_of ⟨⟨?_, ?_, ?_, ?_⟩, ⟨?_, ?_, ?_, ?_⟩, HR1.out.mono (fun k _ h => .inl h), HR2.out.mono (fun k _ h => .inl h), qX2, s13, s14⟩⟩ <;> simp [World.cell?, b13, b14]
              exact AllReadyH.nil
            refine AllReadyH.cons rfl (fun K hK => ?_) ?_
            · go_simp
              obtain ⟨q13, hq⟩ : ∃ q, q = W2.heap.size := ⟨_, rfl⟩
              obtain ⟨W3, hW⟩ : ∃ X, X = W2.alloc (.cells #[.int .u64 0, .slice none 0 0, .slice none 0 0, .slice none 0 0] 42) := ⟨_, rfl⟩
              have k : Kept W2 W3 := (by rw [hW]; exact Kept.alloc _ _)
              have b13 : W3.heap[q13]? = some (.cells #[.int .u64 0, .slice none 0 0, .slice none 0 0, .slice none 0 0] 42 (0, 0)) := (by rw [hW, hq]; exact heap_alloc_new _ _)
              have s13 : A0.heap.size ≤ q13 := (by rw [hq]; exact qW2.size)
              have l13 : q13 < W3.heap.size := lt_of_blk b13
              have qW3 := qW2.trans k
              have b14 := k.blk b14
              have n : q13 ≠ q14 := (by omega)
              have l14 : q14 < W3.heap.size := Nat.lt_of_lt_of_le l14 k.size
              have HR1 : Hid (RV W3 (fun k => k < A0.heap.size ∨ k = q13 ∨ k = q14) _ _) := hid_of ((HR1.out.mono (fun k hk (h : k < A0.heap.size ∨ k = q13 ∨ k = q14) => (by show k < A0.heap.size ∨ k = q14; omega))).kept k)
              rw [← hW, ← hq]
              clear hW hq k
              refine hK.out _ _ (SC.out _ qW3) (fun hHeld => ?_)
              clear hK K
              try simp only [Act.put, List.setIfInBounds_toArray, List.set_cons_zero, List.set_cons_succ, List.getElem_toArray, List.getElem_cons_succ, List.getElem_cons_zero]
              refine wpAnyH_ready (rs := [7]) (by kernel_rfl) (by simp) ?_
              refine AllReadyH.cons rfl (fun K hK => ?_) ?_
              · go_simp
                refine (H36b.out _ qW3).mono ?_
                rintro e W4 ⟨⟨v, rfl, R⟩, k⟩
                have R' : RV W4 (fun k => k < A0.heap.size ∨ k = q13 ∨ k = q14) v _ := R.mono (fun k hk (h : k < A0.heap.size ∨ k = q13 ∨ k = q14) => (by show k < W3.heap.size; have := qW3.size; omega))
                obtain ⟨xb2, mb2, db2, xl2, ml2, dl2, xc2, mc2, dc2, rfl, -, -, -⟩ := R.ex
                rw [← HN2.out] at R' ⊢
                have HR2 := hid_of R'
                have qW4 := qW3.trans k
                have b13 := k.blk b13
                have l13 : q13 < W4.heap.size := Nat.lt_of_lt_of_le l13 k.size
                have b14 := k.blk b14
                have l14 : q14 < W4.heap.size := Nat.lt_of_lt_of_le l14 k.size
                have HR1 := hid_of (HR1.out.kept k)
                clear R R' k
                go_wp2_with fail
                refine hK.out _ _ (SC.out _ qW4) (fun hHeld => ?_)
                clear hK K
                try simp only [Act.put, List.setIfInBounds_toArray, List.set_cons_zero, List.set_cons_succ, List.getElem_toArray, List.getElem_cons_succ, List.getElem_cons_zero]
                refine wpAnyH_ready (rs := [10]) (by kernel_rfl) (by simp) ?_
                refine AllReadyH.cons rfl (fun K hK => ?_) AllReadyH.nil
                have hc := b13
                have e0 : W4.cell? ⟨q13, 0, none⟩ = some (.int .u64 0) := (by simp [World.cell?, hc])
                have e1 : W4.cell? ⟨q13, 1, none⟩ = some (.slice none 0 0) := (by simp [World.cell?, hc])
                have e2 : W4.cell? ⟨q13, 2, none⟩ = some (.slice none 0 0) := (by simp [World.cell?, hc])
                have e3 : W4.cell? ⟨q13, 3, none⟩ = some (.slice none 0 0) := (by simp [World.cell?, hc])
                have f0 : W4.frozen? ⟨q13, 0, none⟩ = false := (by simp [World.frozen?, hc])
                have f1 : W4.frozen? ⟨q13, 1, none⟩ = false := (by simp [World.frozen?, hc])
                have f2 : W4.frozen? ⟨q13, 2, none⟩ = false := (by simp [World.frozen?, hc])
                have f3 : W4.frozen? ⟨q13, 3, none⟩ = false := (by simp [World.frozen?, hc])
                go_simp
                obtain ⟨X1, hX1⟩ : ∃ X, X = ((((W4.setCell ⟨q13, 0, none⟩ (.int .u64 N1)).setCell ⟨q13, 1, none⟩ (.slice xb1 mb1 db1)).setCell ⟨q13, 2, none⟩ (.slice xl1 ml1 dl1)).setCell ⟨q13, 3, none⟩ (.slice xc1 mc1 dc1)) := ⟨_, rfl⟩
                have b13 : X1.heap[q13]? = some (.cells #[(.int .u64 N1), (.slice xb1 mb1 db1), (.slice xl1 ml1 dl1), (.slice xc1 mc1 dc1)] 42 (0, 0)) := (by rw [hX1]; exact set1_blk (set1_blk (set1_blk (set1_blk b13 0 _ _ rfl) 1 _ _ rfl) 2 _ _ rfl) 3 _ _ rfl)
                have b14 := (show X1.heap[q14]? = W4.heap[q14]? by rw [hX1, Below.heap_setCell _ _ _ _ n.symm, Below.heap_setCell _ _ _ _ n.symm, Below.heap_setCell _ _ _ _ n.symm, Below.heap_setCell _ _ _ _ n.symm]).trans b14
                have qX1 : Kept A0 X1 := (by rw [hX1]; exact (((qW4.setNew _ s13 _).setNew _ s13 _).setNew _ s13 _).setNew _ s13 _)
                have O : Outer (fun k => k < A0.heap.size ∨ k = q13 ∨ k = q14) W4 X1 := (by rw [hX1]; exact ((((Outer.refl _ _).setC q13 0 _ (.inr (.inl rfl))).setC q13 1 _ (.inr (.inl rfl))).setC q13 2 _ (.inr (.inl rfl))).setC q13 3 _ (.inr (.inl rfl)))
                have HR1 := hid_of (HR1.out.outer O)
                have HR2 := hid_of (HR2.out.outer O)
                rw [← hX1]
                clear e0 e1 e2 e3 f0 f1 f2 f3 hc hX1 O
                refine hK.out _ _ (SC.out _ qX1) (fun hHeld => ?_)
                clear hK K
                try simp only [Act.put, List.setIfInBounds_toArray, List.set_cons_zero, List.set_cons_succ, List.getElem_toArray, List.getElem_cons_succ, List.getElem_cons_zero]
                refine wpAnyH_ready (rs := [11]) (by kernel_rfl) (by simp) ?_
                refine AllReadyH.cons rfl (fun K hK => ?_) AllReadyH.nil
                have hc := b14
                have e0 : X1.cell? ⟨q14, 0, none⟩ = some (.int .u64 0) := (by simp [World.cell?, hc])
                have e1 : X1.cell? ⟨q14, 1, none⟩ = some (.slice none 0 0) := (by simp [World.cell?, hc])
                have e2 : X1.cell? ⟨q14, 2, none⟩ = some (.slice none 0 0) := (by simp [World.cell?, hc])
                have e3 : X1.cell? ⟨q14, 3, none⟩ = some (.slice none 0 0) := (by simp [World.cell?, hc])
                have f0 : X1.frozen? ⟨q14, 0, none⟩ = false := (by simp [World.frozen?, hc])
                have f1 : X1.frozen? ⟨q14, 1, none⟩ = false := (by simp [World.frozen?, hc])
                have f2 : X1.frozen? ⟨q14, 2, none⟩ = false := (by simp [World.frozen?, hc])
                have f3 : X1.frozen? ⟨q14, 3, none⟩ = false := (by simp [World.frozen?, hc])
                go_simp
                obtain ⟨X2, hX2⟩ : ∃ X, X = ((((X1.setCell ⟨q14, 0, none⟩ (.int .u64 N2)).setCell ⟨q14, 1, none⟩ (.slice xb2 mb2 db2)).setCell ⟨q14, 2, none⟩ (.slice xl2 ml2 dl2)).setCell ⟨q14, 3, none⟩ (.slice xc2 mc2 dc2)) := ⟨_, rfl⟩
                have b14 : X2.heap[q14]? = some (.cells #[(.int .u64 N2), (.slice xb2 mb2 db2), (.slice xl2 ml2 dl2), (.slice xc2 mc2 dc2)] 42 (0, 0)) := (by rw [hX2]; exact set1_blk (set1_blk (set1_blk (set1_blk b14 0 _ _ rfl) 1 _ _ rfl) 2 _ _ rfl) 3 _ _ rfl)
                have b13 := (show X2.heap[q13]? = X1.heap[q13]? by rw [hX2, Below.heap_setCell _ _ _ _ n, Below.heap_setCell _ _ _ _ n, Below.heap_setCell _ _ _ _ n, Below.heap_setCell _ _ _ _ n]).trans b13
                have qX2 : Kept A0 X2 := (by rw [hX2]; exact (((qX1.setNew _ s14 _).setNew _ s14 _).setNew _ s14 _).setNew _ s14 _)
                have O : Outer (fun k => k < A0.heap.size ∨ k = q13 ∨ k = q14) X1 X2 := (by rw [hX2]; exact ((((Outer.refl _ _).setC q14 0 _ (.inr (.inr rfl))).setC q14 1 _ (.inr (.inr rfl))).setC q14 2 _ (.inr (.inr rfl))).setC q14 3 _ (.inr (.inr rfl)))
                have HR1 := hid_of (HR1.out.outer O)
                have HR2 := hid_of (HR2.out.outer O)
                rw [← hX2]
                clear e0 e1 e2 e3 f0 f1 f2 f3 hc hX2 O
                refine hK.out _ _ (SC.out _ qX2) (fun hHeld => ?_)
                clear hK K
                try simp only [Act.put, List.setIfInBounds_toArray, List.set_cons_zero, List.set_cons_succ, List.getElem_toArray, List.getElem_cons_succ, List.getElem_cons_zero]
                refine wpAnyH_done (by kernel_rfl) ?_ _
                refine NoPanic.normal ?_
                go_wp2_with fail
                go_meet
                case rel =>
                  refine ⟨q13, q14, _, _, _, _, _, _, _, _, _, _, _, _, _, _, _, _, _, _, _, _, rfl, rfl, hid_of ⟨⟨?_, ?_, ?_, ?_⟩, ⟨?_, ?_, ?_, ?_⟩, HR1.out.mono (fun k _ h => .inl h), HR2.out.mono (fun k _ h => .inl h), qX2, s13, s14⟩⟩ <;> simp [World.cell?, b13, b14]
              exact AllReadyH.nil
            exact AllReadyH.nil
          exact AllReadyH.nil
        refine AllReadyH.cons rfl (fun K hK => ?_) ?_
        · go_simp
          obtain ⟨q13, hq⟩ : ∃ q, q = W0.heap.size := ⟨_, rfl⟩
          obtain ⟨W1, hW⟩ : ∃ X, X = W0.alloc (.cells #[.int .u64 0, .slice none 0 0, .slice none 0 0, .slice none 0 0] 42) := ⟨_, rfl⟩
          have k : Kept W0 W1 := (by rw [hW]; exact Kept.alloc _ _)
          have b13 : W1.heap[q13]? = some (.cells #[.int .u64 0, .slice none 0 0, .slice none 0 0, .slice none 0 0] 42 (0, 0)) := (by rw [hW, hq]; exact heap_alloc_new _ _)
          have s13 : A0.heap.size ≤ q13 := (by rw [hq]; exact qW0.size)
          have l13 : q13 < W1.heap.size := lt_of_blk b13
          have qW1 := qW0.trans k
          rw [← hW, ← hq]
          clear hW hq k
          refine hK.out _ _ (SC.out _ qW1) (fun hHeld => ?_)
          clear hK K
          try simp only [Act.put, List.setIfInBounds_toArray, List.set_cons_zero, List.set_cons_succ, List.getElem_toArray, List.getElem_cons_succ, List.getElem_cons_zero]
          refine wpAnyH_ready (rs := [3, 9]) (by kernel_rfl) (by simp) ?_
          refine AllReadyH.cons rfl (fun K hK => ?_) ?_
          · go_simp
            refine (H36a.out _ qW1).mono ?_
            rintro e W2 ⟨⟨v, rfl, R⟩, k⟩
            have R' : RV W2 (fun k => k < A0.heap.size ∨ k = q13) v _ := R.mono (fun k hk (h : k < A0.heap.size ∨ k = q13) => (by show k < W1.heap.size; have := qW1.size; omega))
            obtain ⟨xb1, mb1, db1, xl1, ml1, dl1, xc1, mc1, dc1, rfl, -, -, -⟩ := R.ex
            rw [← HN1.out] at R' ⊢
            have HR1 := hid_of R'
            have qW2 := qW1.trans k
            have b13 := k.blk b13
            have l13 : q13 < W2.heap.size := Nat.lt_of_lt_of_le l13 k.size
            clear R R' k
            go_wp2_with fail
            refine hK.out _ _ (SC.out _ qW2) (fun hHeld => ?_)
            clear hK K
            try simp only [Act.put, List.setIfInBounds_toArray, List.set_cons_zero, List.set_cons_succ, List.getElem_toArray, List.getElem_cons_succ, List.getElem_cons_zero]
            refine wpAnyH_ready (rs := [7, 9]) (by kernel_rfl) (by simp) ?_
            refine AllReadyH.cons rfl (fun K hK => ?_) ?_
            · go_simp
              refine (H36b.out _ qW2).mono ?_
              rintro e W3 ⟨⟨v, rfl, R⟩, k⟩
              have R' : RV W3 (fun k => k < A0.heap.size ∨ k = q13) v _ := R.mono (fun k hk (h : k < A0.heap.size ∨ k = q13) => (by show k < W2.heap.size; have := qW2.size; omega))
              obtain ⟨xb2, mb2, db2, xl2, ml2, dl2, xc2, mc2, dc2, rfl, -, -, -⟩ := R.ex
              rw [← HN2.out] at R' ⊢
              have HR2 := hid_of R'
              have qW3 := qW2.trans k
              have b13 := k.blk b13
              have l13 : q13 < W3.heap.size := Nat.lt_of_lt_of_le l13 k.size
              have HR1 := hid_of (HR1.out.kept k)
              clear R R' k
              go_wp2_with fail
              refine hK.out _ _ (SC.out _ qW3) (fun hHeld => ?_)
              clear hK K
              try simp only [Act.put, List.setIfInBounds_toArray, List.set_cons_zero, List.set_cons_succ, List.getElem_toArray, List.getElem_cons_succ, List.getElem_cons_zero]
              refine wpAnyH_ready (rs := [9]) (by kernel_rfl) (by simp) ?_
              refine AllReadyH.cons rfl (fun K hK => ?_) ?_
              · go_simp
                obtain ⟨q14, hq⟩ : ∃ q, q = W3.heap.size := ⟨_, rfl⟩
                obtain ⟨W4, hW⟩ : ∃ X, X = W3.alloc (.cells #[.int .u64 0, .slice none 0 0, .slice none 0 0, .slice none 0 0] 42) := ⟨_, rfl⟩
                have k : Kept W3 W4 := (by rw [hW]; exact Kept.alloc _ _)
                have b14 : W4.heap[q14]? = some (.cells #[.int .u64 0, .slice none 0 0, .slice none 0 0, .slice none 0 0] 42 (0, 0)) := (by rw [hW, hq]; exact heap_alloc_new _ _)
                have s14 : A0.heap.size ≤ q14 := (by rw [hq]; exact qW3.size)
                have l14 : q14 < W4.heap.size := lt_of_blk b14
                have qW4 := qW3.trans k
                have b13 := k.blk b13
                have n : q13 ≠ q14 := (by omega)
                have l13 : q13 < W4.heap.size := Nat.lt_of_lt_of_le l13 k.size
                have HR1 : Hid (RV W4 (fun k => k < A0.heap.size ∨ k = q13 ∨ k = q14) _ _) := hid_of ((HR1.out.mono (fun k hk (h : k < A0.heap.size ∨ k = q13 ∨ k = q14) => (by show k < A0.heap.size ∨ k = q13; omega))).kept k)
                have HR2 : Hid (RV W4 (fun k => k < A0.heap.size ∨ k = q13 ∨ k = q14) _ _) := hid_of ((HR2.out.mono (fun k hk (h : k < A0.heap.size ∨ k = q13 ∨ k = q14) => (by show k < A0.heap.size ∨ k = q13; omega))).kept k)
                rw [← hW, ← hq]
                clear hW hq k
                refine hK.out _ _ (SC.out _ qW4) (fun hHeld => ?_)
                clear hK K
                try simp only [Act.put, List.setIfInBounds_toArray, List.set_cons_zero, List.set_cons_succ, List.getElem_toArray, List.getElem_cons_succ, List.getElem_cons_zero]
                refine wpAnyH_ready (rs := [10]) (by kernel_rfl) (by simp) ?_
                refine AllReadyH.cons rfl (fun K hK => ?_) AllReadyH.nil
                have hc := b13
                have e0 : W4.cell? ⟨q13, 0, none⟩ = some (.int .u64 0) := (by simp [World.cell?, hc])
                have e1 : W4.cell? ⟨q13, 1, none⟩ = some (.slice none 0 0) := (by simp [World.cell?, hc])
                have e2 : W4.cell? ⟨q13, 2, none⟩ = some (.slice none 0 0) := (by simp [World.cell?, hc])
                have e3 : W4.cell? ⟨q13, 3, none⟩ = some (.slice none 0 0) := (by simp [World.cell?, hc])
                have f0 : W4.frozen? ⟨q13, 0, none⟩ = false := (by simp [World.frozen?, hc])
                have f1 : W4.frozen? ⟨q13, 1, none⟩ = false := (by simp [World.frozen?, hc])
                have f2 : W4.frozen? ⟨q13, 2, none⟩ = false := (by simp [World.frozen?, hc])
                have f3 : W4.frozen? ⟨q13, 3, none⟩ = false := (by simp [World.frozen?, hc])
                go_simp
                obtain ⟨X1, hX1⟩ : ∃ X, X = ((((W4.setCell ⟨q13, 0, none⟩ (.int .u64 N1)).setCell ⟨q13, 1, none⟩ (.slice xb1 mb1 db1)).setCell ⟨q13, 2, none⟩ (.slice xl1 ml1 dl1)).setCell ⟨q13, 3, none⟩ (.slice xc1 mc1 dc1)) := ⟨_, rfl⟩
                have b13 : X1.heap[q13]? = some (.cells #[(.int .u64 N1), (.slice xb1 mb1 db1), (.slice xl1 ml1 dl1), (.slice xc1 mc1 dc1)] 42 (0, 0)) := (by rw [hX1]; exact set1_blk (set1_blk (set1_blk (set1_blk b13 0 _ _ rfl) 1 _ _ rfl) 2 _ _ rfl) 3 _ _ rfl)
                have b14 := (show X1.heap[q14]? = W4.heap[q14]? by rw [hX1, Below.heap_setCell _ _ _ _ n.symm, Below.heap_setCell _ _ _ _ n.symm, Below.heap_setCell _ _ _ _ n.symm, Below.heap_setCell _ _ _ _ n.symm]).trans b14
                have qX1 : Kept A0 X1 := (by rw [hX1]; exact (((qW4.setNew _ s13 _).setNew _ s13 _).setNew _ s13 _).setNew _ s13 _)
                have O : Outer (fun k => k < A0.heap.size ∨ k = q13 ∨ k = q14) W4 X1 := (by rw [hX1]; exact ((((Outer.refl _ _).setC q13 0 _ (.inr (.inl rfl))).setC q13 1 _ (.inr (.inl rfl))).setC q13 2 _ (.inr (.inl rfl))).setC q13 3 _ (.inr (.inl rfl)))
                have HR1 := hid_of (HR1.out.outer O)
                have HR2 := hid_of (HR2.out.outer O)
                rw [← hX1]
                clear e0 e1 e2 e3 f0 f1 f2 f3 hc hX1 O
                refine hK.out _ _ (SC.out _ qX1) (fun hHeld => ?_)
                clear hK K
                try simp only [Act.put, List.setIfInBounds_toArray, List.set_cons_zero, List.set_cons_succ, List.getElem_toArray, List.getElem_cons_succ, List.getElem_cons_zero]
                refine wpAnyH_ready (rs := [11]) (by kernel_rfl) (by simp) ?_
                refine AllReadyH.cons rfl (fun K hK => ?_) AllReadyH.nil
                have hc := b14
                have e0 : X1.cell? ⟨q14, 0, none⟩ = some (.int .u64 0) := (by simp [World.cell?, hc])
                have e1 : X1.cell? ⟨q14, 1, none⟩ = some (.slice none 0 0) := (by simp [World.cell?, hc])
                have e2 : X1.cell? ⟨q14, 2, none⟩ = some (.slice none 0 0) := (by simp [World.cell?, hc])
                have e3 : X1.cell? ⟨q14, 3, none⟩ = some (.slice none 0 0) := (by simp [World.cell?, hc])
                have f0 : X1.frozen? ⟨q14, 0, none⟩ = false := (by simp [World.frozen?, hc])
                have f1 : X1.frozen? ⟨q14, 1, none⟩ = false := (by simp [World.frozen?, hc])
                have f2 : X1.frozen? ⟨q14, 2, none⟩ = false := (by simp [World.frozen?, hc])
                have f3 : X1.frozen? ⟨q14, 3, none⟩ = false := (by simp [World.frozen?, hc])
                go_simp
                obtain ⟨X2, hX2⟩ : ∃ X, X = ((((X1.setCell ⟨q14, 0, none⟩ (.int .u64 N2)).setCell ⟨q14, 1, none⟩ (.slice xb2 mb2 db2)).setCell ⟨q14, 2, none⟩ (.slice xl2 ml2 dl2)).setCell ⟨q14, 3, none⟩ (.slice xc2 mc2 dc2)) := ⟨_, rfl⟩
                have b14 : X2.heap[q14]? = some (.cells #[(.int .u64 N2), (.slice xb2 mb2 db2), (.slice xl2 ml2 dl2), (.slice xc2 mc2 dc2)] 42 (0, 0)) := (by rw [hX2]; exact set1_blk (set1_blk (set1_blk (set1_blk b14 0 _ _ rfl) 1 _ _ rfl) 2 _ _ rfl) 3 _ _ rfl)
                have b13 := (show X2.heap[q13]? = X1.heap[q13]? by rw [hX2, Below.heap_setCell _ _ _ _ n, Below.heap_setCell _ _ _ _ n, Below.heap_setCell _ _ _ _ n, Below.heap_setCell _ _ _ _ n]).trans b13
                have qX2 : Kept A0 X2 := (by rw [hX2]; exact (((qX1.setNew _ s14 _).setNew _ s14 _).setNew _ s14 _).setNew _ s14 _)
                have O : Outer (fun k => k < A0.heap.size ∨ k = q13 ∨ k = q14) X1 X2 := (by rw [hX2]; exact ((((Outer.refl _ _).setC q14 0 _ (.inr (.inr rfl))).setC q14 1 _ (.inr (.inr rfl))).setC q14 2 _ (.inr (.inr rfl))).setC q14 3 _ (.inr (.inr rfl)))
                have HR1 := hid_of (HR1.out.outer O)
                have HR2 := hid_of (HR2.out.outer O)
                rw [← hX2]
                clear e0 e1 e2 e3 f0 f1 f2 f3 hc hX2 O
                refine hK.out _ _ (SC.out _ qX2) (fun hHeld => ?_)
                clear hK K
                try simp only [Act.put, List.setIfInBounds_toArray, List.set_cons_zero, List.set_cons_succ, List.getElem_toArray, List.getElem_cons_succ, List.getElem_cons_zero]
                refine wpAnyH_done (by kernel_rfl) ?_ _
                refine NoPanic.normal ?_
                go_wp2_with fail
                go_meet
                case rel =>
                  refine ⟨q13, q14, _, _, _, _, _, _, _, _, _, _, _, _, _, _, _, _, _, _, _, _, rfl, rfl, hid_of ⟨⟨?_, ?_, ?_, ?_⟩, ⟨?_, ?_, ?_, ?_⟩, HR1.out.mono (fun k _ h => .inl h), HR2.out.mono (fun k _ h => .inl h), qX2, s13, s14⟩⟩ <;> simp [World.cell?, b13, b14]
              exact AllReadyH.nil
            refine AllReadyH.cons rfl (fun K hK => ?_) ?_
            · go_simp
              obtain ⟨q14, hq⟩ : ∃ q, q = W2.heap.size := ⟨_, rfl⟩
              obtain ⟨W3, hW⟩ : ∃ X, X = W2.alloc (.cells #[.int .u64 0, .slice none 0 0, .slice none 0 0, .slice none 0 0] 42) := ⟨_, rfl⟩
              have k : Kept W2 W3 := (by rw [hW]; exact Kept.alloc _ _)
              have b14 : W3.heap[q14]? = some (.cells #[.int .u64 0, .slice none 0 0, .slice none 0 0, .slice none 0 0] 42 (0, 0)) := (by rw [hW, hq]; exact heap_alloc_new _ _)
              have s14 : A0.heap.size ≤ q14 := (by rw [hq]; exact qW2.size)
              have l14 : q14 < W3.heap.size := lt_of_blk b14
              have qW3 := qW2.trans k
              have b13 := k.blk b13
              have n : q13 ≠ q14 := (by omega)
              have l13 : q13 < W3.heap.size := Nat.lt_of_lt_of_le l13 k.size
              have HR1 : Hid (RV W3 (fun k => k < A0.heap.size ∨ k = q13 ∨ k = q14) _ _) := hid_of ((HR1.out.mono (fun k hk (h : k < A0.heap.size ∨ k = q13 ∨ k = q14) => (by show k < A0.heap.size ∨ k = q13; omega))).kept k)
              rw [← hW, ← hq]
              clear hW hq k
              refine hK.out _ _ (SC.out _ qW3) (fun hHeld => ?_)
              clear hK K
              try simp only [Act.put, List.setIfInBounds_toArray, List.set_cons_zero, List.set_cons_succ, List.getElem_toArray, List.getElem_cons_succ, List.getElem_cons_zero]
              refine wpAnyH_ready (rs := [7]) (by kernel_rfl) (by simp) ?_
              refine AllReadyH.cons rfl (fun K hK => ?_) ?_
              · go_simp
                refine (H36b.out _ qW3).mono ?_
                rintro e W4 ⟨⟨v, rfl, R⟩, k⟩
                have R' : RV W4 (fun k => k < A0.heap.size ∨ k = q13 ∨ k = q14) v _ := R.mono (fun k hk (h : k < A0.heap.size ∨ k = q13 ∨ k = q14) => (by show k < W3.heap.size; have := qW3.size; omega))
                obtain ⟨xb2, mb2, db2, xl2, ml2, dl2, xc2, mc2, dc2, rfl, -, -, -⟩ := R.ex
                rw [← HN2.out] at R' ⊢
                have HR2 := hid_of R'
                have qW4 := qW3.trans k
                have b13 := k.blk b13
                have l13 : q13 < W4.heap.size := Nat.lt_of_lt_of_le l13 k.size
                have b14 := k.blk b14
                have l14 : q14 < W4.heap.size := Nat.lt_of_lt_of_le l14 k.size
                have HR1 := hid_of (HR1.out.kept k)
                clear R R' k
                go_wp2_with fail
                refine hK.out _ _ (SC.out _ qW4) (fun hHeld => ?_)
                clear hK K
                try simp only [Act.put, List.setIfInBounds_toArray, List.set_cons_zero, List.set_cons_succ, List.getElem_toArray, List.getElem_cons_succ, List.getElem_cons_zero]
                refine wpAnyH_ready (rs := [10]) (by kernel_rfl) (by simp) ?_
                refine AllReadyH.cons rfl (fun K hK => ?_) AllReadyH.nil
                have hc := b13
                have e0 : W4.cell? ⟨q13, 0, none⟩ = some (.int .u64 0) := (by simp [World.cell?, hc])
                have e1 : W4.cell? ⟨q13, 1, none⟩ = some (.slice none 0 0) := (by simp [World.cell?, hc])
                have e2 : W4.cell? ⟨q13, 2, none⟩ = some (.slice none 0 0) := (by simp [World.cell?, hc])
                have e3 : W4.cell? ⟨q13, 3, none⟩ = some (.slice none 0 0) := (by simp [World.cell?, hc])
                have f0 : W4.frozen? ⟨q13, 0, none⟩ = false := (by simp [World.frozen?, hc])
                have f1 : W4.frozen? ⟨q13, 1, none⟩ = false := (by simp [World.frozen?, hc])
                have f2 : W4.frozen? ⟨q13, 2, none⟩ = false := (by simp [World.frozen?, hc])
                have f3 : W4.frozen? ⟨q13, 3, none⟩ = false := (by simp [World.frozen?, hc])
                go_simp
                obtain ⟨X1, hX1⟩ : ∃ X, X = ((((W4.setCell ⟨q13, 0, none⟩ (.int .u64 N1)).setCell ⟨q13, 1, none⟩ (.slice xb1 mb1 db1)).setCell ⟨q13, 2, none⟩ (.slice xl1 ml1 dl1)).setCell ⟨q13, 3, none⟩ (.slice xc1 mc1 dc1)) := ⟨_, rfl⟩
                have b13 : X1.heap[q13]? = some (.cells #[(.int .u64 N1), (.slice xb1 mb1 db1), (.slice xl1 ml1 dl1), (.slice xc1 mc1 dc1)] 42 (0, 0)) := (by rw [hX1]; exact set1_blk (set1_blk (set1_blk (set1_blk b13 0 _ _ rfl) 1 _ _ rfl) 2 _ _ rfl) 3 _ _ rfl)
                have b14 := (show X1.heap[q14]? = W4.heap[q14]? by rw [hX1, Below.heap_setCell _ _ _ _ n.symm, Below.heap_setCell _ _ _ _ n.symm, Below.heap_setCell _ _ _ _ n.symm, Below.heap_setCell _ _ _ _ n.symm]).trans b14
                have qX1 : Kept A0 X1 := (by rw [hX1]; exact (((qW4.setNew _ s13 _).setNew _ s13 _).setNew _ s13 _).setNew _ s13 _)
                have O : Outer (fun k => k < A0.heap.size ∨ k = q13 ∨ k = q14) W4 X1 := (by rw [hX1]; exact ((((Outer.refl _ _).setC q13 0 _ (.inr (.inl rfl))).setC q13 1 _ (.inr (.inl rfl))).setC q13 2 _ (.inr (.inl rfl))).setC q13 3 _ (.inr (.inl rfl)))
                have HR1 := hid_of (HR1.out.outer O)
                have HR2 := hid_of (HR2.out.outer O)
                rw [← hX1]
                clear e0 e1 e2 e3 f0 f1 f2 f3 hc hX1 O
                refine hK.out _ _ (SC.out _ qX1) (fun hHeld => ?_)
                clear hK K
                try simp only [Act.put, List.setIfInBounds_toArray, List.set_cons_zero, List.set_cons_succ, List.getElem_toArray, List.getElem_cons_succ, List.getElem_cons_zero]
                refine wpAnyH_ready (rs := [11]) (by kernel_rfl) (by simp) ?_
                refine AllReadyH.cons rfl (fun K hK => ?_) AllReadyH.nil
                have hc := b14
                have e0 : X1.cell? ⟨q14, 0, none⟩ = some (.int .u64 0) := (by simp [World.cell?, hc])
                have e1 : X1.cell? ⟨q14, 1, none⟩ = some (.slice none 0 0) := (by simp [World.cell?, hc])
                have e2 : X1.cell? ⟨q14, 2, none⟩ = some (.slice none 0 0) := (by simp [World.cell?, hc])
                have e3 : X1.cell? ⟨q14, 3, none⟩ = some (.slice none 0 0) := (by simp [World.cell?, hc])
                have f0 : X1.frozen? ⟨q14, 0, none⟩ = false := (by simp [World.frozen?, hc])
                have f1 : X1.frozen? ⟨q14, 1, none⟩ = false := (by simp [World.frozen?, hc])
                have f2 : X1.frozen? ⟨q14, 2, none⟩ = false := (by simp [World.frozen?, hc])
                have f3 : X1.frozen? ⟨q14, 3, none⟩ = false := (by simp [World.frozen?, hc])
                go_simp
                obtain ⟨X2, hX2⟩ : ∃ X, X = ((((X1.setCell ⟨q14, 0, none⟩ (.int .u64 N2)).setCell ⟨q14, 1, none⟩ (.slice xb2 mb2 db2)).setCell ⟨q14, 2, none⟩ (.slice xl2 ml2 dl2)).setCell ⟨q14, 3, none⟩ (.slice xc2 mc2 dc2)) := ⟨_, rfl⟩
                have b14 : X2.heap[q14]? = some (.cells #[(.int .u64 N2), (.slice xb2 mb2 db2), (.slice xl2 ml2 dl2), (.slice xc2 mc2 dc2)] 42 (0, 0)) := (by rw [hX2]; exact set1_blk (set1_blk (set1_blk (set1_blk b14 0 _ _ rfl) 1 _ _ rfl) 2 _ _ rfl) 3 _ _ rfl)
                have b13 := (show X2.heap[q13]? = X1.heap[q13]? by rw [hX2, Below.heap_setCell _ _ _ _ n, Below.heap_setCell _ _ _ _ n, Below.heap_setCell _ _ _ _ n, Below.heap_setCell _ _ _ _ n]).trans b13
                have qX2 : Kept A0 X2 := (by rw [hX2]; exact (((qX1.setNew _ s14 _).setNew _ s14 _).setNew _ s14 _).setNew _ s14 _)
                have O : Outer (fun k => k < A0.heap.size ∨ k = q13 ∨ k = q14) X1 X2 := (by rw [hX2]; exact ((((Outer.refl _ _).setC q14 0 _ (.inr (.inr rfl))).setC q14 1 _ (.inr (.inr rfl))).setC q14 2 _ (.inr (.inr rfl))).setC q14 3 _ (.inr (.inr rfl)))
                have HR1 := hid_of (HR1.out.outer O)
                have HR2 := hid_of (HR2.out.outer O)
                rw [← hX2]
                clear e0 e1 e2 e3 f0 f1 f2 f3 hc hX2 O
                refine hK.out _ _ (SC.out _ qX2) (fun hHeld => ?_)
                clear hK K
                try simp only [Act.put, List.setIfInBounds_toArray, List.set_cons_zero, List.set_cons_succ, List.getElem_toArray, List.getElem_cons_succ, List.getElem_cons_zero]
                refine wpAnyH_done (by kernel_rfl) ?_ _
                refine NoPanic.normal ?_
                go_wp2_with fail
                go_meet
                case rel =>
                  refine ⟨q13, q14, _, _, _, _, _, _, _, _, _, _, _, _, _, _, _, _, _, _, _, _, rfl, rfl, hid_of ⟨⟨?_, ?_, ?_, ?_⟩, ⟨?_, ?_, ?_, ?_⟩, HR1.out.mono (fun k _ h => .inl h), HR2.out.mono (fun k _ h => .inl h), qX2, s13, s14⟩⟩ <;> simp [World.cell?, b13, b14]
              exact AllReadyH.nil
            exact AllReadyH.nil
          refine AllReadyH.cons rfl (fun K hK => ?_) ?_
          · go_simp
            obtain ⟨q14, hq⟩ : ∃ q, q = W1.heap.size := ⟨_, rfl⟩
            obtain ⟨W2, hW⟩ : ∃ X, X = W1.alloc (.cells #[.int .u64 0, .slice none 0 0, .slice none 0 0, .slice none 0 0] 42) := ⟨_, rfl⟩
            have k : Kept W1 W2 := (by rw [hW]; exact Kept.alloc _ _)
            have b14 : W2.heap[q14]? = some (.cells #[.int .u64 0, .slice none 0 0, .slice none 0 0, .slice none 0 0] 42 (0, 0)) := (by rw [hW, hq]; exact heap_alloc_new _ _)
            have s14 : A0.heap.size ≤ q14 := (by rw [hq]; exact qW1.size)
            have l14 : q14 < W2.heap.size := lt_of_blk b14
            have qW2 := qW1.trans k
            have b13 := k.blk b13
            have n : q13 ≠ q14 := (by omega)
            have l13 : q13 < W2.heap.size := Nat.lt_of_lt_of_le l13 k.size
            rw [← hW, ← hq]
            clear hW hq k
            refine hK.out _ _ (SC.out _ qW2) (fun hHeld => ?_)
            clear hK K
            try simp only [Act.put, List.setIfInBounds_toArray, List.set_cons_zero, List.set_cons_succ, List.getElem_toArray, List.getElem_cons_succ, List.getElem_cons_zero]
            refine wpAnyH_ready (rs := [3]) (by kernel_rfl) (by simp) ?_
            refine AllReadyH.cons rfl (fun K hK => ?_) ?_
            · go_simp
              refine (H36a.out _ qW2).mono ?_
              rintro e W3 ⟨⟨v, rfl, R⟩, k⟩
              have R' : RV W3 (fun k => k < A0.heap.size ∨ k = q13 ∨ k = q14) v _ := R.mono (fun k hk (h : k < A0.heap.size ∨ k = q13 ∨ k = q14) => (by show k < W2.heap.size; have := qW2.size; omega))
              obtain ⟨xb1, mb1, db1, xl1, ml1, dl1, xc1, mc1, dc1, rfl, -, -, -⟩ := R.ex
              rw [← HN1.out] at R' ⊢
              have HR1 := hid_of R'
              have qW3 := qW2.trans k
              have b13 := k.blk b13
              have l13 : q13 < W3.heap.size := Nat.lt_of_lt_of_le l13 k.size
              have b14 := k.blk b14
              have l14 : q14 < W3.heap.size := Nat.lt_of_lt_of_le l14 k.size
              clear R R' k
              go_wp2_with fail
              refine hK.out _ _ (SC.out _ qW3) (fun hHeld => ?_)
              clear hK K
              try simp only [Act.put, List.setIfInBounds_toArray, List.set_cons_zero, List.set_cons_succ, List.getElem_toArray, List.getElem_cons_succ, List.getElem_cons_zero]
              refine wpAnyH_ready (rs := [7]) (by kernel_rfl) (by simp) ?_
              refine AllReadyH.cons rfl (fun K hK => ?_) ?_
              · go_simp
                refine (H36b.out _ qW3).mono ?_
                rintro e W4 ⟨⟨v, rfl, R⟩, k⟩
                have R' : RV W4 (fun k => k < A0.heap.size ∨ k = q13 ∨ k = q14) v _ := R.mono (fun k hk (h : k < A0.heap.size ∨ k = q13 ∨ k = q14) => (by show k < W3.heap.size; have := qW3.size; omega))
                obtain ⟨xb2, mb2, db2, xl2, ml2, dl2, xc2, mc2, dc2, rfl, -, -, -⟩ := R.ex
                rw [← HN2.out] at R' ⊢
                have HR2 := hid_of R'
                have qW4 := qW3.trans k
                have b13 := k.blk b13
                have l13 : q13 < W4.heap.size := Nat.lt_of_lt_of_le l13 k.size
                have b14 := k.blk b14
                have l14 : q14 < W4.heap.size := Nat.lt_of_lt_of_le l14 k.size
                have HR1 := hid_of (HR1.out.kept k)
                clear R R' k
                go_wp2_with fail
                refine hK.out _ _ (SC.out _ qW4) (fun hHeld => ?_)
                clear hK K
                try simp only [Act.put, List.setIfInBounds_toArray, List.set_cons_zero, List.set_cons_succ, List.getElem_toArray, List.getElem_cons_succ, List.getElem_cons_zero]
                refine wpAnyH_ready (rs := [10]) (by kernel_rfl) (by simp) ?_
                refine AllReadyH.cons rfl (fun K hK => ?_) AllReadyH.nil
                have hc := b13
                have e0 : W4.cell? ⟨q13, 0, none⟩ = some (.int .u64 0) := (by simp [World.cell?, hc])
                have e1 : W4.cell? ⟨q13, 1, none⟩ = some (.slice none 0 0) := (by simp [World.cell?, hc])
                have e2 : W4.cell? ⟨q13, 2, none⟩ = some (.slice none 0 0) := (by simp [World.cell?, hc])
                have e3 : W4.cell? ⟨q13, 3, none⟩ = some (.slice none 0 0) := (by simp [World.cell?, hc])
                have f0 : W4.frozen? ⟨q13, 0, none⟩ = false := (by simp [World.frozen?, hc])
                have f1 : W4.frozen? ⟨q13, 1, none⟩ = false := (by simp [World.frozen?, hc])
                have f2 : W4.frozen? ⟨q13, 2, none⟩ = false := (by simp [World.frozen?, hc])
                have f3 : W4.frozen? ⟨q13, 3, none⟩ = false := (by simp [World.frozen?, hc])
                go_simp
                obtain ⟨X1, hX1⟩ : ∃ X, X = ((((W4.setCell ⟨q13, 0, none⟩ (.int .u64 N1)).setCell ⟨q13, 1, none⟩ (.slice xb1 mb1 db1)).setCell ⟨q13, 2, none⟩ (.slice xl1 ml1 dl1)).setCell ⟨q13, 3, none⟩ (.slice xc1 mc1 dc1)) := ⟨_, rfl⟩
                have b13 : X1.heap[q13]? = some (.cells #[(.int .u64 N1), (.slice xb1 mb1 db1), (.slice xl1 ml1 dl1), (.slice xc1 mc1 dc1)] 42 (0, 0)) := (by rw [hX1]; exact set1_blk (set1_blk (set1_blk (set1_blk b13 0 _ _ rfl) 1 _ _ rfl) 2 _ _ rfl) 3 _ _ rfl)
                have b14 := (show X1.heap[q14]? = W4.heap[q14]? by rw [hX1, Below.heap_setCell _ _ _ _ n.symm, Below.heap_setCell _ _ _ _ n.symm, Below.heap_setCell _ _ _ _ n.symm, Below.heap_setCell _ _ _ _ n.symm]).trans b14
                have qX1 : Kept A0 X1 := (by rw [hX1]; exact (((qW4.setNew _ s13 _).setNew _ s13 _).setNew _ s13 _).setNew _ s13 _)
                have O : Outer (fun k => k < A0.heap.size ∨ k = q13 ∨ k = q14) W4 X1 := (by rw [hX1]; exact ((((Outer.refl _ _).setC q13 0 _ (.inr (.inl rfl))).setC q13 1 _ (.inr (.inl rfl))).setC q13 2 _ (.inr (.inl rfl))).setC q13 3 _ (.inr (.inl rfl)))
                have HR1 := hid_of (HR1.out.outer O)
                have HR2 := hid_of (HR2.out.outer O)
                rw [← hX1]
                clear e0 e1 e2 e3 f0 f1 f2 f3 hc hX1 O
                refine hK.out _ _ (SC.out _ qX1) (fun hHeld => ?_)
                clear hK K
                try simp only [Act.put, List.setIfInBounds_toArray, List.set_cons_zero, List.set_cons_succ, List.getElem_toArray, List.getElem_cons_succ, List.getElem_cons_zero]
                refine wpAnyH_ready (rs := [11]) (by kernel_rfl) (by simp) ?_
                refine AllReadyH.cons rfl (fun K hK => ?_) AllReadyH.nil
                have hc := b14
                have e0 : X1.cell? ⟨q14, 0, none⟩ = some (.int .u64 0) := (by simp [World.cell?, hc])
                have e1 : X1.cell? ⟨q14, 1, none⟩ = some (.slice none 0 0) := (by simp [World.cell?, hc])
                have e2 : X1.cell? ⟨q14, 2, none⟩ = some (.slice none 0 0) := (by simp [World.cell?, hc])
                have e3 : X1.cell? ⟨q14, 3, none⟩ = some (.slice none 0 0) := (by simp [World.cell?, hc])
                have f0 : X1.frozen? ⟨q14, 0, none⟩ = false := (by simp [World.frozen?, hc])
                have f1 : X1.frozen? ⟨q14, 1, none⟩ = false := (by simp [World.frozen?, hc])
                have f2 : X1.frozen? ⟨q14, 2, none⟩ = false := (by simp [World.frozen?, hc])
                have f3 : X1.frozen? ⟨q14, 3, none⟩ = false := (by simp [World.frozen?, hc])
                go_simp
                obtain ⟨X2, hX2⟩ : ∃ X, X = ((((X1.setCell ⟨q14, 0, none⟩ (.int .u64 N2)).setCell ⟨q14, 1, none⟩ (.slice xb2 mb2 db2)).setCell ⟨q14, 2, none⟩ (.slice xl2 ml2 dl2)).setCell ⟨q14, 3, none⟩ (.slice xc2 mc2 dc2)) := ⟨_, rfl⟩
                have b14 : X2.heap[q14]? = some (.cells #[(.int .u64 N2), (.slice xb2 mb2 db2), (.slice xl2 ml2 dl2), (.slice xc2 mc2 dc2)] 42 (0, 0)) := (by rw [hX2]; exact set1_blk (set1_blk (set1_blk (set1_blk b14 0 _ _ rfl) 1 _ _ rfl) 2 _ _ rfl) 3 _ _ rfl)
                have b13 := (show X2.heap[q13]? = X1.heap[q13]? by rw [hX2, Below.heap_setCell _ _ _ _ n, Below.heap_setCell _ _ _ _ n, Below.heap_setCell _ _ _ _ n, Below.heap_setCell _ _ _ _ n]).trans b13
                have qX2 : Kept A0 X2 := (by rw [hX2]; exact (((qX1.setNew _ s14 _).setNew _ s14 _).setNew _ s14 _).setNew _ s14 _)
                have O : Outer (fun k => k < A0.heap.size ∨ k = q13 ∨ k = q14) X1 X2 := (by rw [hX2]; exact ((((Outer.refl _ _).setC q14 0 _ (.inr (.inr rfl))).setC q14 1 _ (.inr (.inr rfl))).setC q14 2 _ (.inr (.inr rfl))).setC q14 3 _ (.inr (.inr rfl)))
                have HR1 := hid_of (HR1.out.outer O)
                have HR2 := hid_of (HR2.out.outer O)
                rw [← hX2]
                clear e0 e1 e2 e3 f0 f1 f2 f3 hc hX2 O
                refine hK.out _ _ (SC.out _ qX2) (fun hHeld => ?_)
                clear hK K
                try simp only [Act.put, List.setIfInBounds_toArray, List.set_cons_zero, List.set_cons_succ, List.getElem_toArray, List.getElem_cons_succ, List.getElem_cons_zero]
                refine wpAnyH_done (by kernel_rfl) ?_ _
                refine NoPanic.normal ?_
                go_wp2_with fail
                go_meet
                case rel =>
                  refine ⟨q13, q14, _, _, _, _, _, _, _, _, _, _, _, _, _, _, _, _, _, _, _, _, rfl, rfl, hid_of ⟨⟨?_, ?_, ?_, ?_⟩, ⟨?_, ?_, ?_, ?_⟩, HR1.out.mono (fun k _ h => .inl h), HR2.out.mono (fun k _ h => .inl h), qX2, s13, s14⟩⟩ <;> simp [World.cell?, b13, b14]
              exact AllReadyH.nil
            exact AllReadyH.nil
          exact AllReadyH.nil
        refine AllReadyH.cons rfl (fun K hK => ?_) ?_
        · go_simp
          obtain ⟨q14, hq⟩ : ∃ q, q = W0.heap.size := ⟨_, rfl⟩
          obtain ⟨W1, hW⟩ : ∃ X, X = W0.alloc (.cells #[.int .u64 0, .slice none 0 0, .slice none 0 0, .slice none 0 0] 42) := ⟨_, rfl⟩
          have k : Kept W0 W1 := (by rw [hW]; exact Kept.alloc _ _)
          have b14 : W1.heap[q14]? = some (.cells #[.int .u64 0, .slice none 0 0, .slice none 0 0, .slice none 0 0] 42 (0, 0)) := (by rw [hW, hq]; exact heap_alloc_new _ _)
          have s14 : A0.heap.size ≤ q14 := (by rw [hq]; exact qW0.size)
          have l14 : q14 < W1.heap.size := lt_of_blk b14
          have qW1 := qW0.trans k
          rw [← hW, ← hq]
          clear hW hq k
          refine hK.out _ _ (SC.out _ qW1) (fun hHeld => ?_)
          clear hK K
          try simp only [Act.put, List.setIfInBounds_toArray, List.set_cons_zero, List.set_cons_succ, List.getElem_toArray, List.getElem_cons_succ, List.getElem_cons_zero]
          refine wpAnyH_ready (rs := [3, 8]) (by kernel_rfl) (by simp) ?_
          refine AllReadyH.cons rfl (fun K hK => ?_) ?_
          · go_simp
            refine (H36a.out _ qW1).mono ?_
            rintro e W2 ⟨⟨v, rfl, R⟩, k⟩
            have R' : RV W2 (fun k => k < A0.heap.size ∨ k = q14) v _ := R.mono (fun k hk (h : k < A0.heap.size ∨ k = q14) => (by show k < W1.heap.size; have := qW1.size; omega))
            obtain ⟨xb1, mb1, db1, xl1, ml1, dl1, xc1, mc1, dc1, rfl, -, -, -⟩ := R.ex
            rw [← HN1.out] at R' ⊢
            have HR1 := hid_of R'
            have qW2 := qW1.trans k
            have b14 := k.blk b14
            have l14 : q14 < W2.heap.size := Nat.lt_of_lt_of_le l14 k.size
            clear R R' k
            go_wp2_with fail
            refine hK.out _ _ (SC.out _ qW2) (fun hHeld => ?_)
            clear hK K
            try simp only [Act.put, List.setIfInBounds_toArray, List.set_cons_zero, List.set_cons_succ, List.getElem_toArray, List.getElem_cons_succ, List.getElem_cons_zero]
            refine wpAnyH_ready (rs := [7, 8]) (by kernel_rfl) (by simp) ?_
            refine AllReadyH.cons rfl (fun K hK => ?_) ?_
            · go_simp
              refine (H36b.out _ qW2).mono ?_
              rintro e W3 ⟨⟨v, rfl, R⟩, k⟩
              have R' : RV W3 (fun k => k < A0.heap.size ∨ k = q14) v _ := R.mono (fun k hk (h : k < A0.heap.size ∨ k = q14) => (by show k < W2.heap.size; have := qW2.size; omega))
              obtain ⟨xb2, mb2, db2, xl2, ml2, dl2, xc2, mc2, dc2, rfl, -, -, -⟩ := R.ex
              rw [← HN2.out] at R' ⊢
              have HR2 := hid_of R'
              have qW3 := qW2.trans k
              have b14 := k.blk b14
              have l14 : q14 < W3.heap.size := Nat.lt_of_lt_of_le l14 k.size
              have HR1 := hid_of (HR1.out.kept k)
              clear R R' k
              go_wp2_with fail
              refine hK.out _ _ (SC.out _ qW3) (fun hHeld => ?_)
              clear hK K
              try simp only [Act.put, List.setIfInBounds_toArray, List.set_cons_zero, List.set_cons_succ, List.getElem_toArray, List.getElem_cons_succ, List.getElem_cons_zero]
              refine wpAnyH_ready (rs := [8]) (by kernel_rfl) (by simp) ?_
              refine AllReadyH.cons rfl (fun K hK => ?_) ?_
              · go_simp
                obtain ⟨q13, hq⟩ : ∃ q, q = W3.heap.size := ⟨_, rfl⟩
                obtain ⟨W4, hW⟩ : ∃ X, X = W3.alloc (.cells #[.int .u64 0, .slice none 0 0, .slice none 0 0, .slice none 0 0] 42) := ⟨_, rfl⟩
                have k : Kept W3 W4 := (by rw [hW]; exact Kept.alloc _ _)
                have b13 : W4.heap[q13]? = some (.cells #[.int .u64 0, .slice none 0 0, .slice none 0 0, .slice none 0 0] 42 (0, 0)) := (by rw [hW, hq]; exact heap_alloc_new _ _)
                have s13 : A0.heap.size ≤ q13 := (by rw [hq]; exact qW3.size)
                have l13 : q13 < W4.heap.size := lt_of_blk b13
                have qW4 := qW3.trans k
                have b14 := k.blk b14
                have n : q13 ≠ q14 := (by omega)
                have l14 : q14 < W4.heap.size := Nat.lt_of_lt_of_le l14 k.size
                have HR1 : Hid (RV W4 (fun k => k < A0.heap.size ∨ k = q13 ∨ k = q14) _ _) := hid_of ((HR1.out.mono (fun k hk (h : k < A0.heap.size ∨ k = q13 ∨ k = q14) => (by show k < A0.heap.size ∨ k = q14; omega))).kept k)
                have HR2 : Hid (RV W4 (fun k => k < A0.heap.size ∨ k = q13 ∨ k = q14) _ _) := hid_of ((HR2.out.mono (fun k hk (h : k < A0.heap.size ∨ k = q13 ∨ k = q14) => (by show k < A0.heap.size ∨ k = q14; omega))).kept k)
                rw [← hW, ← hq]
                clear hW hq k
                refine hK.out _ _ (SC.out _ qW4) (fun hHeld => ?_)
                clear hK K
                try simp only [Act.put, List.setIfInBounds_toArray, List.set_cons_zero, List.set_cons_succ, List.getElem_toArray, List.getElem_cons_succ, List.getElem_cons_zero]
                refine wpAnyH_ready (rs := [10]) (by kernel_rfl) (by simp) ?_
                refine AllReadyH.cons rfl (fun K hK => ?_) AllReadyH.nil
                have hc := b13
                have e0 : W4.cell? ⟨q13, 0, none⟩ = some (.int .u64 0) := (by simp [World.cell?, hc])
                have e1 : W4.cell? ⟨q13, 1, none⟩ = some (.slice none 0 0) := (by simp [World.cell?, hc])
                have e2 : W4.cell? ⟨q13, 2, none⟩ = some (.slice none 0 0) := (by simp [World.cell?, hc])
                have e3 : W4.cell? ⟨q13, 3, none⟩ = some (.slice none 0 0) := (by simp [World.cell?, hc])
                have f0 : W4.frozen? ⟨q13, 0, none⟩ = false := (by simp [World.frozen?, hc])
                have f1 : W4.frozen? ⟨q13, 1, none⟩ = false := (by simp [World.frozen?, hc])
                have f2 : W4.frozen? ⟨q13, 2, none⟩ = false := (by simp [World.frozen?, hc])
                have f3 : W4.frozen? ⟨q13, 3, none⟩ = false := (by simp [World.frozen?, hc])
                go_simp
                obtain ⟨X1, hX1⟩ : ∃ X, X = ((((W4.setCell ⟨q13, 0, none⟩ (.int .u64 N1)).setCell ⟨q13, 1, none⟩ (.slice xb1 mb1 db1)).setCell ⟨q13, 2, none⟩ (.slice xl1 ml1 dl1)).setCell ⟨q13, 3, none⟩ (.slice xc1 mc1 dc1)) := ⟨_, rfl⟩
                have b13 : X1.heap[q13]? = some (.cells #[(.int .u64 N1), (.slice xb1 mb1 db1), (.slice xl1 ml1 dl1), (.slice xc1 mc1 dc1)] 42 (0, 0)) := (by rw [hX1]; exact set1_blk (set1_blk (set1_blk (set1_blk b13 0 _ _ rfl) 1 _ _ rfl) 2 _ _ rfl) 3 _ _ rfl)
                have b14 := (show X1.heap[q14]? = W4.heap[q14]? by rw [hX1, Below.heap_setCell _ _ _ _ n.symm, Below.heap_setCell _ _ _ _ n.symm, Below.heap_setCell _ _ _ _ n.symm, Below.heap_setCell _ _ _ _ n.symm]).trans b14
                have qX1 : Kept A0 X1 := (by rw [hX1]; exact (((qW4.setNew _ s13 _).setNew _ s13 _).setNew _ s13 _).setNew _ s13 _)
                have O : Outer (fun k => k < A0.heap.size ∨ k = q13 ∨ k = q14) W4 X1 := (by rw [hX1]; exact ((((Outer.refl _ _).setC q13 0 _ (.inr (.inl rfl))).setC q13 1 _ (.inr (.inl rfl))).setC q13 2 _ (.inr (.inl rfl))).setC q13 3 _ (.inr (.inl rfl)))
                have HR1 := hid_of (HR1.out.outer O)
                have HR2 := hid_of (HR2.out.outer O)
                rw [← hX1]
                clear e0 e1 e2 e3 f0 f1 f2 f3 hc hX1 O
                refine hK.out _ _ (SC.out _ qX1) (fun hHeld => ?_)
                clear hK K
                try simp only [Act.put, List.setIfInBounds_toArray, List.set_cons_zero, List.set_cons_succ, List.getElem_toArray, List.getElem_cons_succ, List.getElem_cons_zero]
                refine wpAnyH_ready (rs := [11]) (by kernel_rfl) (by simp) ?_
                refine AllReadyH.cons rfl (fun K hK => ?_) AllReadyH.nil
                have hc := b14
                have e0 : X1.cell? ⟨q14, 0, none⟩ = some (.int .u64 0) := (by simp [World.cell?, hc])
                have e1 : X1.cell? ⟨q14, 1, none⟩ = some (.slice none 0 0) := (by simp [World.cell?, hc])
                have e2 : X1.cell? ⟨q14, 2, none⟩ = some (.slice none 0 0) := (by simp [World.cell?, hc])
                have e3 : X1.cell? ⟨q14, 3, none⟩ = some (.slice none 0 0) := (by simp [World.cell?, hc])
                have f0 : X1.frozen? ⟨q14, 0, none⟩ = false := (by simp [World.frozen?, hc])
                have f1 : X1.frozen? ⟨q14, 1, none⟩ = false := (by simp [World.frozen?, hc])
                have f2 : X1.frozen? ⟨q14, 2, none⟩ = false := (by simp [World.frozen?, hc])
                have f3 : X1.frozen? ⟨q14, 3, none⟩ = false := (by simp [World.frozen?, hc])
                go_simp
                obtain ⟨X2, hX2⟩ : ∃ X, X = ((((X1.setCell ⟨q14, 0, none⟩ (.int .u64 N2)).setCell ⟨q14, 1, none⟩ (.slice xb2 mb2 db2)).setCell ⟨q14, 2, none⟩ (.slice xl2 ml2 dl2)).setCell ⟨q14, 3, none⟩ (.slice xc2 mc2 dc2)) := ⟨_, rfl⟩
                have b14 : X2.heap[q14]? = some (.cells #[(.int .u64 N2), (.slice xb2 mb2 db2), (.slice xl2 ml2 dl2), (.slice xc2 mc2 dc2)] 42 (0, 0)) := (by rw [hX2]; exact set1_blk (set1_blk (set1_blk (set1_blk b14 0 _ _ rfl) 1 _ _ rfl) 2 _ _ rfl) 3 _ _ rfl)
                have b13 := (show X2.heap[q13]? = X1.heap[q13]? by rw [hX2, Below.heap_setCell _ _ _ _ n, Below.heap_setCell _ _ _ _ n, Below.heap_setCell _ _ _ _ n, Below.heap_setCell _ _ _ _ n]).trans b13
                have qX2 : Kept A0 X2 := (by rw [hX2]; exact (((qX1.setNew _ s14 _).setNew _ s14 _).setNew _ s14 _).setNew _ s14 _)
                have O : Outer (fun k => k < A0.heap.size ∨ k = q13 ∨ k = q14) X1 X2 := (by rw [hX2]; exact ((((Outer.refl _ _).setC q14 0 _ (.inr (.inr rfl))).setC q14 1 _ (.inr (.inr rfl))).setC q14 2 _ (.inr (.inr rfl))).setC q14 3 _ (.inr (.inr rfl)))
                have HR1 := hid_of (HR1.out.outer O)
                have HR2 := hid_of (HR2.out.outer O)
                rw [← hX2]
                clear e0 e1 e2 e3 f0 f1 f2 f3 hc hX2 O
                refine hK.out _ _ (SC.out _ qX2) (fun hHeld => ?_)
                clear hK K
                try simp only [Act.put, List.setIfInBounds_toArray, List.set_cons_zero, List.set_cons_succ, List.getElem_toArray, List.getElem_cons_succ, List.getElem_cons_zero]
                refine wpAnyH_done (by kernel_rfl) ?_ _
                refine NoPanic.normal ?_
                go_wp2_with fail
                go_meet
                case rel =>
                  refine ⟨q13, q14, _, _, _, _, _, _, _, _, _, _, _, _, _, _, _, _, _, _, _, _, rfl, rfl, hid_of ⟨⟨?_, ?_, ?_, ?_⟩, ⟨?_, ?_, ?_, ?_⟩, HR1.out.mono (fun k _ h => .inl h), HR2.out.mono (fun k _ h => .inl h), qX2, s13, s14⟩⟩ <;> simp [World.cell?, b13, b14]
              exact AllReadyH.nil
            refine AllReadyH.cons rfl (fun K hK => ?_) ?_
            · go_simp
              obtain ⟨q13, hq⟩ : ∃ q, q = W2.heap.size := ⟨_, rfl⟩
              obtain ⟨W3, hW⟩ : ∃ X, X = W2.alloc (.cells #[.int .u64 0, .slice none 0 0, .slice none 0 0, .slice none 0 0] 42) := ⟨_, rfl⟩
              have k : Kept W2 W3 := (by rw [hW]; exact Kept.alloc _ _)
              have b13 : W3.heap[q13]? = some (.cells #[.int .u64 0, .slice none 0 0, .slice none 0 0, .slice none 0 0] 42 (0, 0)) := (by rw [hW, hq]; exact heap_alloc_new _ _)
              have s13 : A0.heap.size ≤ q13 := (by rw [hq]; exact qW2.size)
              have l13 : q13 < W3.heap.size := lt_of_blk b13
              have qW3 := qW2.trans k
              have b14 := k.blk b14
              have n : q13 ≠ q14 := (by omega)
              have l14 : q14 < W3.heap.size := Nat.lt_of_lt_of_le l14 k.size
              have HR1 : Hid (RV W3 (fun k => k < A0.heap.size ∨ k = q13 ∨ k = q14) _ _) := hid_of ((HR1.out.mono (fun k hk (h : k < A0.heap.size ∨ k = q13 ∨ k = q14) => (by show k < A0.heap.size ∨ k = q14; omega))).kept k)
              rw [← hW, ← hq]
              clear hW hq k
              refine hK.out _ _ (SC.out _ qW3) (fun hHeld => ?_)
              clear hK K
              try simp only [Act.put, List.setIfInBounds_toArray, List.set_cons_zero, List.set_cons_succ, List.getElem_toArray, List.getElem_cons_succ, List.getElem_cons_zero]
              refine wpAnyH_ready (rs := [7]) (by kernel_rfl) (by simp) ?_
              refine AllReadyH.cons rfl (fun K hK => ?_) ?_
              · go_simp
                refine (H36b.out _ qW3).mono ?_
                rintro e W4 ⟨⟨v, rfl, R⟩, k⟩
                have R' : RV W4 (fun k => k < A0.heap.size ∨ k = q13 ∨ k = q14) v _ := R.mono (fun k hk (h : k < A0.heap.size ∨ k = q13 ∨ k = q14) => (by show k < W3.heap.size; have := qW3.size; omega))
                obtain ⟨xb2, mb2, db2, xl2, ml2, dl2, xc2, mc2, dc2, rfl, -, -, -⟩ := R.ex
                rw [← HN2.out] at R' ⊢
                have HR2 := hid_of R'
                have qW4 := qW3.trans k
                have b13 := k.blk b13
                have l13 : q13 < W4.heap.size := Nat.lt_of_lt_of_le l13 k.size
                have b14 := k.blk b14
                have l14 : q14 < W4.heap.size := Nat.lt_of_lt_of_le l14 k.size
                have HR1 := hid_of (HR1.out.kept k)
                clear R R' k
                go_wp2_with fail
                refine hK.out _ _ (SC.out _ qW4) (fun hHeld => ?_)
                clear hK K
                try simp only [Act.put, List.setIfInBounds_toArray, List.set_cons_zero, List.set_cons_succ, List.getElem_toArray, List.getElem_cons_succ, List.getElem_cons_zero]
                refine wpAnyH_ready (rs := [10]) (by kernel_rfl) (by simp) ?_
                refine AllReadyH.cons rfl (fun K hK => ?_) AllReadyH.nil
                have hc := b13
                have e0 : W4.cell? ⟨q13, 0, none⟩ = some (.int .u64 0) := (by simp [World.cell?, hc])
                have e1 : W4.cell? ⟨q13, 1, none⟩ = some (.slice none 0 0) := (by simp [World.cell?, hc])
                have e2 : W4.cell? ⟨q13, 2, none⟩ = some (.slice none 0 0) := (by simp [World.cell?, hc])
                have e3 : W4.cell? ⟨q13, 3, none⟩ = some (.slice none 0 0) := (by simp [World.cell?, hc])
                have f0 : W4.frozen? ⟨q13, 0, none⟩ = false := (by simp [World.frozen?, hc])
                have f1 : W4.frozen? ⟨q13, 1, none⟩ = false := (by simp [World.frozen?, hc])
                have f2 : W4.frozen? ⟨q13, 2, none⟩ = false := (by simp [World.frozen?, hc])
                have f3 : W4.frozen? ⟨q13, 3, none⟩ = false := (by simp [World.frozen?, hc])
                go_simp
                obtain ⟨X1, hX1⟩ : ∃ X, X = ((((W4.setCell ⟨q13, 0, none⟩ (.int .u64 N1)).setCell ⟨q13, 1, none⟩ (.slice xb1 mb1 db1)).setCell ⟨q13, 2, none⟩ (.slice xl1 ml1 dl1)).setCell ⟨q13, 3, none⟩ (.slice xc1 mc1 dc1)) := ⟨_, rfl⟩
                have b13 : X1.heap[q13]? = some (.cells #[(.int .u64 N1), (.slice xb1 mb1 db1), (.slice xl1 ml1 dl1), (.slice xc1 mc1 dc1)] 42 (0, 0)) := (by rw [hX1]; exact set1_blk (set1_blk (set1_blk (set1_blk b13 0 _ _ rfl) 1 _ _ rfl) 2 _ _ rfl) 3 _ _ rfl)
                have b14 := (show X1.heap[q14]? = W4.heap[q14]? by rw [hX1, Below.heap_setCell _ _ _ _ n.symm, Below.heap_setCell _ _ _ _ n.symm, Below.heap_setCell _ _ _ _ n.symm, Below.heap_setCell _ _ _ _ n.symm]).trans b14
                have qX1 : Kept A0 X1 := (by rw [hX1]; exact (((qW4.setNew _ s13 _).setNew _ s13 _).setNew _ s13 _).setNew _ s13 _)
                have O : Outer (fun k => k < A0.heap.size ∨ k = q13 ∨ k = q14) W4 X1 := (by rw [hX1]; exact ((((Outer.refl _ _).setC q13 0 _ (.inr (.inl rfl))).setC q13 1 _ (.inr (.inl rfl))).setC q13 2 _ (.inr (.inl rfl))).setC q13 3 _ (.inr (.inl rfl)))
                have HR1 := hid_of (HR1.out.outer O)
                have HR2 := hid_of (HR2.out.outer O)
                rw [← hX1]
                clear e0 e1 e2 e3 f0 f1 f2 f3 hc hX1 O
                refine hK.out _ _ (SC.out _ qX1) (fun hHeld => ?_)
                clear hK K
                try simp only [Act.put, List.setIfInBounds_toArray, List.set_cons_zero, List.set_cons_succ, List.getElem_toArray, List.getElem_cons_succ, List.getElem_cons_zero]
                refine wpAnyH_ready (rs := [11]) (by kernel_rfl) (by simp) ?_
                refine AllReadyH.cons rfl (fun K hK => ?_) AllReadyH.nil
                have hc := b14
                have e0 : X1.cell? ⟨q14, 0, none⟩ = some (.int .u64 0) := (by simp [World.cell?, hc])
                have e1 : X1.cell? ⟨q14, 1, none⟩ = some (.slice none 0 0) := (by simp [World.cell?, hc])
                have e2 : X1.cell? ⟨q14, 2, none⟩ = some (.slice none 0 0) := (by simp [World.cell?, hc])
                have e3 : X1.cell? ⟨q14, 3, none⟩ = some (.slice none 0 0) := (by simp [World.cell?, hc])
                have f0 : X1.frozen? ⟨q14, 0, none⟩ = false := (by simp [World.frozen?, hc])
                have f1 : X1.frozen? ⟨q14, 1, none⟩ = false := (by simp [World.frozen?, hc])
                have f2 : X1.frozen? ⟨q14, 2, none⟩ = false := (by simp [World.frozen?, hc])
                have f3 : X1.frozen? ⟨q14, 3, none⟩ = false := (by simp [World.frozen?, hc])
                go_simp
                obtain ⟨X2, hX2⟩ : ∃ X, X = ((((X1.setCell ⟨q14, 0, none⟩ (.int .u64 N2)).setCell ⟨q14, 1, none⟩ (.slice xb2 mb2 db2)).setCell ⟨q14, 2, none⟩ (.slice xl2 ml2 dl2)).setCell ⟨q14, 3, none⟩ (.slice xc2 mc2 dc2)) := ⟨_, rfl⟩
                have b14 : X2.heap[q14]? = some (.cells #[(.int .u64 N2), (.slice xb2 mb2 db2), (.slice xl2 ml2 dl2), (.slice xc2 mc2 dc2)] 42 (0, 0)) := (by rw [hX2]; exact set1_blk (set1_blk (set1_blk (set1_blk b14 0 _ _ rfl) 1 _ _ rfl) 2 _ _ rfl) 3 _ _ rfl)
                have b13 := (show X2.heap[q13]? = X1.heap[q13]? by rw [hX2, Below.heap_setCell _ _ _ _ n, Below.heap_setCell _ _ _ _ n, Below.heap_setCell _ _ _ _ n, Below.heap_setCell _ _ _ _ n]).trans b13
                have qX2 : Kept A0 X2 := (by rw [hX2]; exact (((qX1.setNew _ s14 _).setNew _ s14 _).setNew _ s14 _).setNew _ s14 _)
                have O : Outer (fun k => k < A0.heap.size ∨ k = q13 ∨ k = q14) X1 X2 := (by rw [hX2]; exact ((((Outer.refl _ _).setC q14 0 _ (.inr (.inr rfl))).setC q14 1 _ (.inr (.inr rfl))).setC q14 2 _ (.inr (.inr rfl))).setC q14 3 _ (.inr (.inr rfl)))
                have HR1 := hid_of (HR1.out.outer O)
                have HR2 := hid_of (HR2.out.outer O)
                rw [← hX2]
                clear e0 e1 e2 e3 f0 f1 f2 f3 hc hX2 O
                refine hK.out _ _ (SC.out _ qX2) (fun hHeld => ?_)
                clear hK K
                try simp only [Act.put, List.setIfInBounds_toArray, List.set_cons_zero, List.set_cons_succ, List.getElem_toArray, List.getElem_cons_succ, List.getElem_cons_zero]
                refine wpAnyH_done (by kernel_rfl) ?_ _
                refine NoPanic.normal ?_
                go_wp2_with fail
                go_meet
                case rel =>
                  refine ⟨q13, q14, _, _, _, _, _, _, _, _, _, _, _, _, _, _, _, _, _, _, _, _, rfl, rfl, hid_of ⟨⟨?_, ?_, ?_, ?_⟩, ⟨?_, ?_, ?_, ?_⟩, HR1.out.mono (fun k _ h => .inl h), HR2.out.mono (fun k _ h => .inl h), qX2, s13, s14⟩⟩ <;> simp [World.cell?, b13, b14]
              exact AllReadyH.nil
            exact AllReadyH.nil
          refine AllReadyH.cons rfl (fun K hK => ?_) ?_
          · go_simp
            obtain ⟨q13, hq⟩ : ∃ q, q = W1.heap.size := ⟨_, rfl⟩
            obtain ⟨W2, hW⟩ : ∃ X, X = W1.alloc (.cells #[.int .u64 0, .slice none 0 0, .slice none 0 0, .slice none 0 0] 42) := ⟨_, rfl⟩
            have k : Kept W1 W2 := (by rw [hW]; exact Kept.alloc _ _)
            have b13 : W2.heap[q13]? = some (.cells #[.int .u64 0, .slice none 0 0, .slice none 0 0, .slice none 0 0] 42 (0, 0)) := (by rw [hW, hq]; exact heap_alloc_new _ _)
            have s13 : A0.heap.size ≤ q13 := (by rw [hq]; exact qW1.size)
            have l13 : q13 < W2.heap.size := lt_of_blk b13
            have qW2 := qW1.trans k
            have b14 := k.blk b14
            have n : q13 ≠ q14 := (by omega)
            have l14 : q14 < W2.heap.size := Nat.lt_of_lt_of_le l14 k.size
            rw [← hW, ← hq]
            clear hW hq k
            refine hK.out _ _ (SC.out _ qW2) (fun hHeld => ?_)
            clear hK K
            try simp only [Act.put, List.setIfInBounds_toArray, List.set_cons_zero, List.set_cons_succ, List.getElem_toArray, List.getElem_cons_succ, List.getElem_cons_zero]
            refine wpAnyH_ready (rs := [3]) (by kernel_rfl) (by simp) ?_
            refine AllReadyH.cons rfl (fun K hK => ?_) ?_
            · go_simp
              refine (H36a.out _ qW2).mono ?_
              rintro e W3 ⟨⟨v, rfl, R⟩, k⟩
              have R' : RV W3 (fun k => k < A0.heap.size ∨ k = q13 ∨ k = q14) v _ := R.mono (fun k hk (h : k < A0.heap.size ∨ k = q13 ∨ k = q14) => (by show k < W2.heap.size; have := qW2.size; omega))
              obtain ⟨xb1, mb1, db1, xl1, ml1, dl1, xc1, mc1, dc1, rfl, -, -, -⟩ := R.ex
              rw [← HN1.out] at R' ⊢
              have HR1 := hid_of R'
              have qW3 := qW2.trans k
              have b13 := k.blk b13
              have l13 : q13 < W3.heap.size := Nat.lt_of_lt_of_le l13 k.size
              have b14 := k.blk b14
              have l14 : q14 < W3.heap.size := Nat.lt_of_lt_of_le l14 k.size
              clear R R' k
              go_wp2_with fail
              refine hK.out _ _ (SC.out _ qW3) (fun hHeld => ?_)
              clear hK K
              try simp only [Act.put, List.setIfInBounds_toArray, List.set_cons_zero, List.set_cons_succ, List.getElem_toArray, List.getElem_cons_succ, List.getElem_cons_zero]
              refine wpAnyH_ready (rs := [7]) (by kernel_rfl) (by simp) ?_
              refine AllReadyH.cons rfl (fun K hK => ?_) ?_
              · go_simp
                refine (H36b.out _ qW3).mono ?_
                rintro e W4 ⟨⟨v, rfl, R⟩, k⟩
                have R' : RV W4 (fun k => k < A0.heap.size ∨ k = q13 ∨ k = q14) v _ := R.mono (fun k hk (h : k < A0.heap.size ∨ k = q13 ∨ k = q14) => (by show k < W3.heap.size; have := qW3.size; omega))
                obtain ⟨xb2, mb2, db2, xl2, ml2, dl2, xc2, mc2, dc2, rfl, -, -, -⟩ := R.ex
                rw [← HN2.out] at R' ⊢
                have HR2 := hid_of R'
                have qW4 := qW3.trans k
                have b13 := k.blk b13
                have l13 : q13 < W4.heap.size := Nat.lt_of_lt_of_le l13 k.size
                have b14 := k.blk b14
                have l14 : q14 < W4.heap.size := Nat.lt_of_lt_of_le l14 k.size
                have HR1 := hid_of (HR1.out.kept k)
                clear R R' k
                go_wp2_with fail
                refine hK.out _ _ (SC.out _ qW4) (fun hHeld => ?_)
                clear hK K
                try simp only [Act.put, List.setIfInBounds_toArray, List.set_cons_zero, List.set_cons_succ, List.getElem_toArray, List.getElem_cons_succ, List.getElem_cons_zero]
                refine wpAnyH_ready (rs := [10]) (by kernel_rfl) (by simp) ?_
                refine AllReadyH.cons rfl (fun K hK => ?_) AllReadyH.nil
                have hc := b13
                have e0 : W4.cell? ⟨q13, 0, none⟩ = some (.int .u64 0) := (by simp [World.cell?, hc])
                have e1 : W4.cell? ⟨q13, 1, none⟩ = some (.slice none 0 0) := (by simp [World.cell?, hc])
                have e2 : W4.cell? ⟨q13, 2, none⟩ = some (.slice none 0 0) := (by simp [World.cell?, hc])
                have e3 : W4.cell? ⟨q13, 3, none⟩ = some (.slice none 0 0) := (by simp [World.cell?, hc])
                have f0 : W4.frozen? ⟨q13, 0, none⟩ = false := (by simp [World.frozen?, hc])
                have f1 : W4.frozen? ⟨q13, 1, none⟩ = false := (by simp [World.frozen?, hc])
                have f2 : W4.frozen? ⟨q13, 2, none⟩ = false := (by simp [World.frozen?, hc])
                have f3 : W4.frozen? ⟨q13, 3, none⟩ = false := (by simp [World.frozen?, hc])
                go_simp
                obtain ⟨X1, hX1⟩ : ∃ X, X = ((((W4.setCell ⟨q13, 0, none⟩ (.int .u64 N1)).setCell ⟨q13, 1, none⟩ (.slice xb1 mb1 db1)).setCell ⟨q13, 2, none⟩ (.slice xl1 ml1 dl1)).setCell ⟨q13, 3, none⟩ (.slice xc1 mc1 dc1)) := ⟨_, rfl⟩
                have b13 : X1.heap[q13]? = some (.cells #[(.int .u64 N1), (.slice xb1 mb1 db1), (.slice xl1 ml1 dl1), (.slice xc1 mc1 dc1)] 42 (0, 0)) := (by rw [hX1]; exact set1_blk (set1_blk (set1_blk (set1_blk b13 0 _ _ rfl) 1 _ _ rfl) 2 _ _ rfl) 3 _ _ rfl)
                have b14 := (show X1.heap[q14]? = W4.heap[q14]? by rw [hX1, Below.heap_setCell _ _ _ _ n.symm, Below.heap_setCell _ _ _ _ n.symm, Below.heap_setCell _ _ _ _ n.symm, Below.heap_setCell _ _ _ _ n.symm]).trans b14
                have qX1 : Kept A0 X1 := (by rw [hX1]; exact (((qW4.setNew _ s13 _).setNew _ s13 _).setNew _ s13 _).setNew _ s13 _)
                have O : Outer (fun k => k < A0.heap.size ∨ k = q13 ∨ k = q14) W4 X1 := (by rw [hX1]; exact ((((Outer.refl _ _).setC q13 0 _ (.inr (.inl rfl))).setC q13 1 _ (.inr (.inl rfl))).setC q13 2 _ (.inr (.inl rfl))).setC q13 3 _ (.inr (.inl rfl)))
                have HR1 := hid_of (HR1.out.outer O)
                have HR2 := hid_of (HR2.out.outer O)
                rw [← hX1]
                clear e0 e1 e2 e3 f0 f1 f2 f3 hc hX1 O
                refine hK.out _ _ (SC.out _ qX1) (fun hHeld => ?_)
                clear hK K
                try simp only [Act.put, List.setIfInBounds_toArray, List.set_cons_zero, List.set_cons_succ, List.getElem_toArray, List.getElem_cons_succ, List.getElem_cons_zero]
                refine wpAnyH_ready (rs := [11]) (by kernel_rfl) (by simp) ?_
                refine AllReadyH.cons rfl (fun K hK => ?_) AllReadyH.nil
                have hc := b14
                have e0 : X1.cell? ⟨q14, 0, none⟩ = some (.int .u64 0) := (by simp [World.cell?, hc])
                have e1 : X1.cell? ⟨q14, 1, none⟩ = some (.slice none 0 0) := (by simp [World.cell?, hc])
                have e2 : X1.cell? ⟨q14, 2, none⟩ = some (.slice none 0 0) := (by simp [World.cell?, hc])
                have e3 : X1.cell? ⟨q14, 3, none⟩ = some (.slice none 0 0) := (by simp [World.cell?, hc])
                have f0 : X1.frozen? ⟨q14, 0, none⟩ = false := (by simp [World.frozen?, hc])
                have f1 : X1.frozen? ⟨q14, 1, none⟩ = false := (by simp [World.frozen?, hc])
                have f2 : X1.frozen? ⟨q14, 2, none⟩ = false := (by simp [World.frozen?, hc])
                have f3 : X1.frozen? ⟨q14, 3, none⟩ = false := (by simp [World.frozen?, hc])
                go_simp
                obtain ⟨X2, hX2⟩ : ∃ X, X = ((((X1.setCell ⟨q14, 0, none⟩ (.int .u64 N2)).setCell ⟨q14, 1, none⟩ (.slice xb2 mb2 db2)).setCell ⟨q14, 2, none⟩ (.slice xl2 ml2 dl2)).setCell ⟨q14, 3, none⟩ (.slice xc2 mc2 dc2)) := ⟨_, rfl⟩
                have b14 : X2.heap[q14]? = some (.cells #[(.int .u64 N2), (.slice xb2 mb2 db2), (.slice xl2 ml2 dl2), (.slice xc2 mc2 dc2)] 42 (0, 0)) := (by rw [hX2]; exact set1_blk (set1_blk (set1_blk (set1_blk b14 0 _ _ rfl) 1 _ _ rfl) 2 _ _ rfl) 3 _ _ rfl)
                have b13 := (show X2.heap[q13]? = X1.heap[q13]? by rw [hX2, Below.heap_setCell _ _ _ _ n, Below.heap_setCell _ _ _ _ n, Below.heap_setCell _ _ _ _ n, Below.heap_setCell _ _ _ _ n]).trans b13
                have qX2 : Kept A0 X2 := (by rw [hX2]; exact (((qX1.setNew _ s14 _).setNew _ s14 _).setNew _ s14 _).setNew _ s14 _)
                have O : Outer (fun k => k < A0.heap.size ∨ k = q13 ∨ k = q14) X1 X2 := (by rw [hX2]; exact ((((Outer.refl _ _).setC q14 0 _ (.inr (.inr rfl))).setC q14 1 _ (.inr (.inr rfl))).setC q14 2 _ (.inr (.inr rfl))).setC q14 3 _ (.inr (.inr rfl)))
                have HR1 := hid_of (HR1.out.outer O)
                have HR2 := hid_of (HR2.out.outer O)
                rw [← hX2]
                clear e0 e1 e2 e3 f0 f1 f2 f3 hc hX2 O
                refine hK.out _ _ (SC.out _ qX2) (fun hHeld => ?_)
                clear hK K
                try simp only [Act.put, List.setIfInBounds_toArray, List.set_cons_zero, List.set_cons_succ, List.getElem_toArray, List.getElem_cons_succ, List.getElem_cons_zero]
                refine wpAnyH_done (by kernel_rfl) ?_ _
                refine NoPanic.normal ?_
                go_wp2_with fail
                go_meet
                case rel =>
                  refine ⟨q13, q14, _, _, _, _, _, _, _, _, _, _, _, _, _, _, _, _, _, _, _, _, rfl, rfl, hid_of ⟨⟨?_, ?_, ?_, ?_⟩, ⟨?_, ?_, ?_, ?_⟩, HR1.out.mono (fun k _ h => .inl h), HR2.out.mono (fun k _ h => .inl h), qX2, s13, s14⟩⟩ <;> simp [World.cell?, b13, b14]
              exact AllReadyH.nil
            exact AllReadyH.nil
          exact AllReadyH.nil
        exact AllReadyH.nil
      case rest =>
        obtain ⟨q13, q14, N1, xb1, mb1, db1, xl1, ml1, dl1, xc1, mc1, dc1, N2, xb2, mb2, db2, xl2, ml2, dl2, xc2, mc2, dc2, rfl, rfl, C6⟩ := hcut
        have KC : Hid (Kept wr wc) := hid_of (KA.out.trans C6.out.k)
        have KW := hid_of (KR.out.trans KC.out)
        have ST1 := hid_of (ST.out.kept KC.out)
        have BX1 := hid_of (BX.out.kept KC.out)
        have BA1 := hid_of (C6.out.k.blk BA.out)
        have M1 := hid_of (length_foldl_mid A.view (Nat.le_trans HOA.out.vw (by decide)))
        have M2 := hid_of (length_foldl_mid A.next (Nat.le_trans HOA.out.nx (by decide)))
        obtain ⟨cn, hcn⟩ : ∃ cn, cn = containsP F (newViewP A.view) := ⟨_, rfl⟩
        have H37 := hid_of (contains37 _ _ F (newViewP A.view) wc (HV.out.kept KW.out) C6.out.v1.isV HM.out M1.out)
        rw [← hcn] at H37
        have HCn := hid_of hcn
        clear hcn
        obtain ⟨a0, a1', a2', a3⟩ := C6.out.a
        obtain ⟨⟨t0, t1, t2, t3⟩, -⟩ := BX1.out.c4
        go_wp2_with fail
        refine H37.out.mono ?_
        rintro e w1 ⟨rfl, k1⟩
        clear t0 t1 t2 t3 a0 a1' a2' a3 H37
        have K1 := hid_of k1
        clear k1
        cases cn
        · have QA1 := hid_of (C6.out.k.trans K1.out)
          have ST2 := hid_of (ST1.out.kept K1.out)
          obtain ⟨f0, f1, f2, f3, f4, f5, f6, f7, f8⟩ := ST2.out.cF
          obtain ⟨g0, g1, g2, g3, g4, g5, g6, g7, g8⟩ := ST2.out.fF
          have BX2 := hid_of (BX1.out.kept K1.out)
          obtain ⟨⟨n0, n1', n2', n3⟩, ⟨o0, o1, o2, o3⟩⟩ := BX2.out.cC
          have SQ : Hid (w1.cell? ⟨q13, 0, none⟩ = some (.int .u64 N1) ∧ w1.cell? ⟨q13, 1, none⟩ = some (.slice xb1 mb1 db1) ∧ w1.cell? ⟨q13, 2, none⟩ = some (.slice xl1 ml1 dl1) ∧ w1.cell? ⟨q13, 3, none⟩ = some (.slice xc1 mc1 dc1)) := hid_of ⟨K1.out.cell C6.out.a.1, K1.out.cell C6.out.a.2.1, K1.out.cell C6.out.a.2.2.1, K1.out.cell C6.out.a.2.2.2⟩
          obtain ⟨p0, p1, p2, p3⟩ := SQ.out
          have hne' : w.heap.size + 1 + 1 + 1 ≠ q13 := (by have h1 := C6.out.s13; have h2 := SA.out; have h3 := ST.out.sz; omega)
          have hne : w.heap.size + 1 + 1 ≠ q13 := (by have h1 := C6.out.s13; have h2 := SA.out; have h3 := ST.out.sz; omega)
          go_wp2_with fail
          go_region_held3 (fun w' => w'.cell? ⟨q13, 0, none⟩ = some (.int .u64 N1) ∧ w'.cell? ⟨q13, 1, none⟩ = some (.slice xb1 mb1 db1) ∧ w'.cell? ⟨q13, 2, none⟩ = some (.slice xl1 ml1 dl1) ∧ w'.cell? ⟨q13, 3, none⟩ = some (.slice xc1 mc1 dc1)) (go_keep) (fail)
          go_wp2_with fail
          obtain ⟨Y0, hY0⟩ : ∃ Y, Y = put9 w1 (w.heap.size + 1 + 1) (.slice none 0 0) (.map none) (.slice none 0 0) (.bool false) (.slice none 0 0) (.int .u64 0) (.slice none 0 0) (.slice none 0 0) (.slice none 0 0) := ⟨_, rfl⟩
          obtain ⟨Y, hY⟩ : ∃ Y, Y = put4 Y0 (w.heap.size + 1 + 1 + 1) (.int .u64 N1) (.slice xb1 mb1 db1) (.slice xl1 ml1 dl1) (.slice xc1 mc1 dc1) := ⟨_, rfl⟩
          have y2 : Y.heap[w.heap.size + 1 + 1]? = some (.cells #[(.slice none 0 0), (.map none), (.slice none 0 0), (.bool false), (.slice none 0 0), (.int .u64 0), (.slice none 0 0), (.slice none 0 0), (.slice none 0 0)] 44 (0, 0)) := (by rw [hY, hY0]; exact (put4_other _ _ _ _ _ _ _ (by omega)).trans (put9_blk ST2.out.f _ _ _ _ _ _ _ _ _))
          have y3 : Y.heap[w.heap.size + 1 + 1 + 1]? = some (.cells #[(.int .u64 N1), (.slice xb1 mb1 db1), (.slice xl1 ml1 dl1), (.slice xc1 mc1 dc1)] 42 (0, 0)) := (by rw [hY, hY0]; exact put4_blk ((put9_other _ _ _ _ _ _ _ _ _ _ _ _ (by omega)).trans BX2.out.c) _ _ _ _)
          have QY : Kept w Y := (by rw [hY, hY0]; exact ((KW.out.trans K1.out).put9 _ (by omega) _ _ _ _ _ _ _ _ _).put4 _ (by omega) _ _ _ _)
          have OY : Outer (fun k => k < A0.heap.size) w1 Y := (by
            have h2 := SA.out
            have h3 := ST.out.sz
            have h4 := KR.out.size
            rw [hY, hY0]; exact ((Outer.refl _ _).put9 _ (by show _ < _; omega) _ _ _ _ _ _ _ _ _).put4 _ (by show _ < _; omega) _ _ _ _)
          have VY := ((C6.out.v1.kept K1.out).outer OY).isV
          have eR : R = .inr (newViewP A.view) := (by rw [← HGo.out]; simp only [tGo]; rw [← HCn.out]; rfl)
          have eY : (((((((((((((w1.setCell ⟨w.heap.size + 1 + 1, 0, none⟩ (.slice none 0 0)).setCell ⟨w.heap.size + 1 + 1, 1, none⟩ (.map none)).setCell ⟨w.heap.size + 1 + 1, 2, none⟩ (.slice none 0 0)).setCell ⟨w.heap.size + 1 + 1, 3, none⟩ (.bool false)).setCell ⟨w.heap.size + 1 + 1, 4, none⟩ (.slice none 0 0)).setCell ⟨w.heap.size + 1 + 1, 5, none⟩ (.int .u64 0)).setCell ⟨w.heap.size + 1 + 1, 6, none⟩ (.slice none 0 0)).setCell ⟨w.heap.size + 1 + 1, 7, none⟩ (.slice none 0 0)).setCell ⟨w.heap.size + 1 + 1, 8, none⟩ (.slice none 0 0)).setCell ⟨w.heap.size + 1 + 1 + 1, 0, none⟩ (.int .u64 N1)).setCell ⟨w.heap.size + 1 + 1 + 1, 1, none⟩ (.slice xb1 mb1 db1)).setCell ⟨w.heap.size + 1 + 1 + 1, 2, none⟩ (.slice xl1 ml1 dl1)).setCell ⟨w.heap.size + 1 + 1 + 1, 3, none⟩ (.slice xc1 mc1 dc1)) = Y := (by rw [hY, hY0]; unfold put4 put9; rfl)
          rw [eY]
          have y2 : Y.drew.heap[w.heap.size + 1 + 1]? = _ := y2
          have y3 : Y.drew.heap[w.heap.size + 1 + 1 + 1]? = _ := y3
          have HQ := hid_of QY
          have HVY := hid_of VY
          clear eY hY hY0 QY OY VY f0 f1 f2 f3 f4 f5 f6 f7 f8 g0 g1 g2 g3 g4 g5 g6 g7 g8 n0 n1' n2' n3 o0 o1 o2 o3 p0 p1 p2 p3 hne hne'
          refine bodyPost_ret (v := .tuple #[zeroFrz, .agg #[(.int .u64 N1), (.slice xb1 mb1 db1), (.slice xl1 ml1 dl1), (.slice xc1 mc1 dc1)]]) (by simp [results, Tryz.results32, go_sem, World.cell?, y2, y3, zeroFrz]) rfl ?_
          rw [eR]
          exact ⟨⟨_, rfl, HVY.out.kept (Kept.drew _)⟩, HQ.out.trans (Kept.drew _)⟩
        · obtain ⟨eq, heq⟩ : ∃ eq, eq = equalP (newViewP A.next) X := ⟨_, rfl⟩
          have H38 := hid_of (equal38 _ _ (newViewP A.next) X w1 (C6.out.v2.isV.kept K1.out) (HX.out.kept (KW.out.trans K1.out)) M2.out HMO.out)
          rw [← heq] at H38
          have HEq := hid_of heq
          clear heq
          have BX2 := hid_of (BX1.out.kept K1.out)
          have ST2 := hid_of (ST1.out.kept K1.out)
          obtain ⟨-, ⟨t0, t1, t2, t3⟩⟩ := BX2.out.c4
          have p0 := K1.out.cell C6.out.b.1
          have p1 := K1.out.cell C6.out.b.2.1
          have p2 := K1.out.cell C6.out.b.2.2.1
          have p3 := K1.out.cell C6.out.b.2.2.2
          go_wp2_with fail
          refine H38.out.mono ?_
          rintro e w2 ⟨rfl, k2⟩
          have K2 := hid_of (K1.out.trans k2)
          have ST3 := hid_of (ST2.out.kept k2)
          have BX3 := hid_of (BX2.out.kept k2)
          have KW2 := hid_of (KW.out.trans K2.out)
          have BA2 := hid_of (K2.out.blk BA1.out)
          have V2 := hid_of (C6.out.v2.kept K2.out)
          clear t0 t1 t2 t3 p0 p1 p2 p3 H38 k2 BX1 BX2 ST1 ST2 BA1
          cases eq
          · have q0 := K2.out.cell C6.out.b.1
            have q1 := K2.out.cell C6.out.b.2.1
            have q2 := K2.out.cell C6.out.b.2.2.1
            have q3 := K2.out.cell C6.out.b.2.2.2
            obtain ⟨-, -, -, -, -, f5, f6, f7, f8⟩ := ST3.out.cF
            have H40 := hid_of (union40 _ _ T.larger (newViewP A.next) w2 _ ST3.out.rvK.2 ST3.out.rvK.1 (V2.out.mono (fun k hk h => (by
              rcases h with h | h | h | h
              · show k < A0.heap.size
                have h2 := SA.out; have h3 := ST.out.sz; omega
              · show k < A0.heap.size
                have h2 := SA.out
                obtain ⟨us, ut, G, e2, e3, e4, e5, e6, e7, e8⟩ := ST.out.ex
                have := (e2.lt k h).2; omega
              · show k < A0.heap.size
                have h2 := SA.out
                obtain ⟨us, ut, G, e2, e3, e4, e5, e6, e7, e8⟩ := ST.out.ex
                have := (e3.lt k h).2; omega
              · show k < A0.heap.size
                have h2 := SA.out
                obtain ⟨us, ut, G, e2, e3, e4, e5, e6, e7, e8⟩ := ST.out.ex
                have := (e5.lt k h).2; omega))) OK.out.l (by have h1 := OK.out.c; have h2 := (newView_len A.next).2.2; have h3 := HOA.out.nx; have h4 : (k + 1) * 3145729 ≤ 1048578 * 3145729 := Nat.mul_le_mul_right _ (by omega); omega) (Nat.le_trans (newView_len A.next).2.1 (Nat.le_trans HOA.out.nx (by decide))))
            go_wp2_with fail
            refine H40.out.mono ?_
            rintro e w3 ⟨⟨v3, rfl, R3⟩, k3⟩
            obtain ⟨zb, ob, ub, zl, ol, ul, zc, oc, uc, rfl, -, -, -⟩ := R3.ex
            have HR3 := hid_of R3
            have K3 := hid_of k3
            have ST4 := hid_of (ST3.out.kept k3)
            clear f5 f6 f7 f8 q0 q1 q2 q3 H40 k3 R3
            obtain ⟨-, -, -, -, -, f5, f6, f7, f8⟩ := ST4.out.cF
            obtain ⟨-, -, -, -, -, g5, g6, g7, g8⟩ := ST4.out.fF
            have BX4 := hid_of (BX3.out.kept K3.out)
            have KW3 := hid_of (KW2.out.trans K3.out)
            go_wp2_with fail
            go_roundw
            case rel =>
              refine ⟨k + 1, tJoin T A, vb, vu, _, _, _, _, by omega, by go_num, hid_of (ST4.out.setLarger _ _ _ _ _ HR3.out _ rfl), hid_of (OK.out.join HOA.out), hid_of ?_, hid_of (BX4.out.low (fun b _ hb _ => (by rw [Below.heap_setCell _ _ _ _ hb, Below.heap_setCell _ _ _ _ hb, Below.heap_setCell _ _ _ _ hb, Below.heap_setCell _ _ _ _ hb]))), hid_of ((((KW3.out.setNew _ ?_ _).setNew _ ?_ _).setNew _ ?_ _).setNew _ ?_ _)⟩
              · rw [← HGo.out]; simp only [tGo]; rw [← HCn.out, ← HEq.out]; rfl
              · exact Nat.le_trans (Nat.le_add_right _ 2) (Nat.le_refl _)
              · exact Nat.le_trans (Nat.le_add_right _ 2) (Nat.le_refl _)
              · exact Nat.le_trans (Nat.le_add_right _ 2) (Nat.le_refl _)
              · exact Nat.le_trans (Nat.le_add_right _ 2) (Nat.le_refl _)
            case measure => simp [intOf]; omega
          · have hs0 := HOA.out.s0
            have hs1 := HOA.out.s1
            rw [← HF.out.2.2.2] at hs0 hs1
            obtain ⟨bt, ot, rfl, hrow⟩ := (HT.out.kept KW2.out).row (by omega)
            obtain ⟨se, rfl⟩ := Int.eq_ofNat_of_zero_le hs0
            have hse : se < nt := by omega
            have ctx := hrow se hse
            clear hrow hs0 hs1
            obtain ⟨x, hx⟩ : ∃ x, x = tos.getD se [] := ⟨_, rfl⟩
            have hxl := HTs.out se hse
            rw [← hx] at ctx hxl
            have HXL := hid_of hxl
            have HXe := hid_of hx
            clear hx hxl
            have cs : w2.cell? ⟨wr.heap.size, 0, none⟩ = some (.int .i64 (se : Int)) := (by have := BA2.out; simp [World.cell?, this])
            have hl1 : (0 : Int) ≤ (se : Int) := by omega
            have hl2 : (se : Int) < (nt : Int) := by omega
            obtain ⟨v10, w3, hr, B3, S3, r3⟩ := ST3.out.froze x (by have := OK.out.p; simp; omega)
            have NBU : Hid (some wr.heap.size ≠ u10.ownBlock ∧ some wr.heap.size ≠ vb.ownBlock ∧ some wr.heap.size ≠ vu.ownBlock) := hid_of (by
              obtain ⟨us, ut, G, e2, e3, e4, e5, e6⟩ := ST.out.ex
              exact ⟨fun h => absurd (e2.lt _ h.symm).2 (Nat.lt_irrefl _), fun h => absurd (e3.lt _ h.symm).2 (Nat.lt_irrefl _), fun h => absurd (e5.lt _ h.symm).2 (Nat.lt_irrefl _)⟩)
            have HR3 := hid_of hr
            have HB3 := hid_of B3
            have ST4 := hid_of S3
            have KW3 := hid_of (KW2.out.own B3 (Nat.le_add_right _ _))
            have BX4 := hid_of (BX3.out.low (fun b hb _ _ => B3.block b hb))
            have BA3 := hid_of ((r3 _ (lt_of_blk BA2.out) NBU.out.1).trans BA2.out)
            clear hr B3 S3 r3
            go_wp2_with (at_builtin; refine Lib.wpList_append_run _ rfl _ _ _ _ rfl _ _ rfl rfl _ _ HR3.out ?_)
            obtain ⟨w4, hu, G4, S5⟩ := (ST4.out.kept (Kept.drew w3)).mark x mk (by have := OK.out.p; omega) (by have := HXL.out; omega) (by rw [HF.out.2.2.1]; have := HOA.out.mr; omega)
            have B4 : Below (w.heap.size + 4) w3.drew w4 := (Below.refl _ w3.drew).grown G4 (by have := ST4.out.sz; simp; omega) (fun k e => (by cases e; exact Nat.le_refl _))
            have ST5 := hid_of S5
            have KW4 := hid_of ((KW3.out.trans (Kept.drew _)).own B4 (Nat.le_add_right _ _))
            have BX5 := hid_of ((BX4.out.kept (Kept.drew _)).low (fun b hb _ h4 => G4.block b (Nat.lt_of_lt_of_le hb (by have := ST4.out.sz; simpa using this)) (fun e => h4 (by cases e; rfl))))
            have BA4 := hid_of ((G4.block _ (lt_of_blk ((Kept.drew w3).blk BA3.out)) (fun e => (by have h1 := Option.some.inj e; have := ST.out.sz; omega))).trans ((Kept.drew w3).blk BA3.out))
            have C3 : Hid (w3.drew.cell? ⟨w.heap.size + 1 + 1, 1, none⟩ = some (.map (some (w.heap.size + 1 + 1 + 1 + 1))) ∧ w3.drew.cell? ⟨wr.heap.size, 0, none⟩ = some (.int .i64 (se : Int)) ∧ w3.drew.cell? ⟨wr.heap.size, 6, none⟩ = some (sv mk) ∧ w3.drew.cell? ⟨bt, ot + se, none⟩ = some (sv x)) := hid_of ⟨(Kept.drew _).cell ST4.out.cF.2.1, by have := (Kept.drew w3).blk BA3.out; simp [World.cell?, this], by have := (Kept.drew w3).blk BA3.out; simp [World.cell?, this], by obtain ⟨bt', ot', e, hrow⟩ := (HT.out.kept (KW3.out.trans (Kept.drew _))).row (by omega); cases e; rw [HXe.out]; exact hrow se hse⟩
            have C4 : Hid (w4.cell? ⟨w.heap.size + 1 + 1, 1, none⟩ = some (.map (some (w.heap.size + 1 + 1 + 1 + 1))) ∧ w4.cell? ⟨wr.heap.size, 0, none⟩ = some (.int .i64 (se : Int)) ∧ w4.cell? ⟨wr.heap.size, 6, none⟩ = some (sv mk) ∧ w4.cell? ⟨bt, ot + se, none⟩ = some (sv x)) := hid_of ⟨ST5.out.cF.2.1, by have := BA4.out; simp [World.cell?, this], by have := BA4.out; simp [World.cell?, this], by obtain ⟨bt', ot', e, hrow⟩ := (HT.out.kept KW4.out).row (by omega); cases e; rw [HXe.out]; exact hrow se hse⟩
            clear G4 B4 S5 ctx cs
            have hu : (Instr.mapUpdate 39 (.map (some (w.heap.size + 1 + 1 + 1 + 1))) (sv x) (sv mk)).run Tryz.prog w3.drew = .ok () w4 := hu
            go_region_held3 (fun w' => w'.cell? ⟨w.heap.size + 1 + 1, 1, none⟩ = some (.map (some (w.heap.size + 1 + 1 + 1 + 1))) ∧ w'.cell? ⟨wr.heap.size, 0, none⟩ = some (.int .i64 (se : Int)) ∧ w'.cell? ⟨wr.heap.size, 6, none⟩ = some (sv mk) ∧ w'.cell? ⟨bt, ot + se, none⟩ = some (sv x)) (first | with_reducible exact C3.out | with_reducible exact C4.out) (fail)
            go_wp2_with fail
            go_cut [] from 67 to 101 (fun wc => ∃ ba5 bn5 bc5, Hid (TSg w.heap.size wc v10 (T.pairs.map (·.1) ++ [x]) (T.pairs ++ [(x, mk)]) (.slice ba5 bn5 bc5) (T.before ++ betweenP F X A.before) T.forgot vu T.unsure l0 l1 l2 l3 T.larger) ∧ Hid (Kept w wc) ∧ Hid (TBx w wc #[.int .u64 N, .slice ab nb cb, .slice al nl cl, .slice ac nc cc] #[.int .u64 N', .slice ab' nb' cb', .slice al' nl' cl', .slice ac' nc' cc']) ∧ Hid (wc.heap[wr.heap.size]? = some (.cells #[.int .i64 (se : Int), .slice a1 n1 d1, .slice a2 n2 d2, .bool fr, .slice a4 n4 d4, .bool kn, sv mk, .slice a7 n7 d7, .bool p8, .bool p9, .bool p10] 58 (0, 0))))
            case first =>
              obtain ⟨W4, hW⟩ : ∃ X, X = w4.drew := ⟨_, rfl⟩
              have kW : Kept w4 W4 := (by rw [hW]; exact Kept.drew _)
              have S5a := hid_of (ST5.out.kept kW)
              have K5a := hid_of (KW4.out.trans kW)
              have X5a := hid_of (BX5.out.kept kW)
              have A5a := hid_of (kW.blk BA4.out)
              have CC : Hid (∀ w', TBx w w' #[.int .u64 N, .slice ab nb cb, .slice al nl cl, .slice ac nc cc] #[.int .u64 N', .slice ab' nb' cb', .slice al' nl' cl', .slice ac' nc' cc'] → w'.heap[wr.heap.size]? = some (.cells #[.int .i64 (se : Int), .slice a1 n1 d1, .slice a2 n2 d2, .bool fr, .slice a4 n4 d4, .bool kn, sv mk, .slice a7 n7 d7, .bool p8, .bool p9, .bool p10] 58 (0, 0)) → w'.cell? ⟨wr.heap.size, 4, none⟩ = some (.slice a4 n4 d4) ∧ (w'.cell? ⟨w.heap.size, 0, none⟩ = some (.int .u64 N) ∧ w'.cell? ⟨w.heap.size, 1, none⟩ = some (.slice ab nb cb) ∧ w'.cell? ⟨w.heap.size, 2, none⟩ = some (.slice al nl cl) ∧ w'.cell? ⟨w.heap.size, 3, none⟩ = some (.slice ac nc cc)) ∧ (w'.cell? ⟨w.heap.size + 1, 0, none⟩ = some (.int .u64 N') ∧ w'.cell? ⟨w.heap.size + 1, 1, none⟩ = some (.slice ab' nb' cb') ∧ w'.cell? ⟨w.heap.size + 1, 2, none⟩ = some (.slice al' nl' cl') ∧ w'.cell? ⟨w.heap.size + 1, 3, none⟩ = some (.slice ac' nc' cc'))) := hid_of (fun w' x a => ⟨by simp [World.cell?, a], x.c4.1, x.c4.2⟩)
              clear kW
              refine wp_region_noPanic ?_
              refine wp_region_held_drew (S := fun w' => w'.cell? ⟨wr.heap.size, 4, none⟩ = some (.slice a4 n4 d4) ∧ (w'.cell? ⟨w.heap.size, 0, none⟩ = some (.int .u64 N) ∧ w'.cell? ⟨w.heap.size, 1, none⟩ = some (.slice ab nb cb) ∧ w'.cell? ⟨w.heap.size, 2, none⟩ = some (.slice al nl cl) ∧ w'.cell? ⟨w.heap.size, 3, none⟩ = some (.slice ac nc cc)) ∧ (w'.cell? ⟨w.heap.size + 1, 0, none⟩ = some (.int .u64 N') ∧ w'.cell? ⟨w.heap.size + 1, 1, none⟩ = some (.slice ab' nb' cb') ∧ w'.cell? ⟨w.heap.size + 1, 2, none⟩ = some (.slice al' nl' cl') ∧ w'.cell? ⟨w.heap.size + 1, 3, none⟩ = some (.slice ac' nc' cc'))) (by kernel_rfl) (by rw [← hW]; exact CC.out _ X5a.out A5a.out) (fun hHeld => ?_)
              rw [← hW] at hHeld ⊢
              clear hW
              refine wpAnyH_take (i := 0) (v := ?_) rfl (by kernel_rfl) (by kernel_rfl) (by kernel_rfl) (fun _ _ _ h => h) (Or.inl ⟨by rfl, ?_⟩) (by assumption) ?_
              rotate_left
              · (intro w hSw; (try dsimp only at hSw); go_simp; try with_reducible rfl)
              try simp only [Act.put, List.setIfInBounds_toArray, List.set_cons_zero, List.set_cons_succ, List.getElem_toArray, List.getElem_cons_succ, List.getElem_cons_zero]
              refine wpAnyH_take (i := 2) (v := ?_) rfl (by kernel_rfl) (by kernel_rfl) (by kernel_rfl) (fun _ _ _ h => h) (Or.inl ⟨by rfl, ?_⟩) (by assumption) ?_
              rotate_left
              · (intro w hSw; (try dsimp only at hSw); go_simp; try with_reducible rfl)
              try simp only [Act.put, List.setIfInBounds_toArray, List.set_cons_zero, List.set_cons_succ, List.getElem_toArray, List.getElem_cons_succ, List.getElem_cons_zero]
              refine wpAnyH_take (i := 3) (v := ?_) rfl (by kernel_rfl) (by kernel_rfl) (by kernel_rfl) (fun _ _ _ h => h) (Or.inl ⟨by rfl, ?_⟩) (by assumption) ?_
              rotate_left
              · (intro w hSw; (try dsimp only at hSw); go_simp; try with_reducible rfl)
              try simp only [Act.put, List.setIfInBounds_toArray, List.set_cons_zero, List.set_cons_succ, List.getElem_toArray, List.getElem_cons_succ, List.getElem_cons_zero]
              refine wpAnyH_take (i := 4) (v := ?_) rfl (by kernel_rfl) (by kernel_rfl) (by kernel_rfl) (fun _ _ _ h => h) (Or.inl ⟨by rfl, ?_⟩) (by assumption) ?_
              rotate_left
              · (intro w hSw; (try dsimp only at hSw); go_simp; try with_reducible rfl)
              try simp only [Act.put, List.setIfInBounds_toArray, List.set_cons_zero, List.set_cons_succ, List.getElem_toArray, List.getElem_cons_succ, List.getElem_cons_zero]
              refine wpAnyH_take (i := 5) (v := ?_) rfl (by kernel_rfl) (by kernel_rfl) (by kernel_rfl) (fun _ _ _ h => h) (Or.inl ⟨by rfl, ?_⟩) (by assumption) ?_
              rotate_left
              · (intro w hSw; (try dsimp only at hSw); go_simp; try with_reducible rfl)
              try simp only [Act.put, List.setIfInBounds_toArray, List.set_cons_zero, List.set_cons_succ, List.getElem_toArray, List.getElem_cons_succ, List.getElem_cons_zero]
              refine wpAnyH_take (i := 6) (v := ?_) rfl (by kernel_rfl) (by kernel_rfl) (by kernel_rfl) (fun _ _ _ h => h) (Or.inl ⟨by rfl, ?_⟩) (by assumption) ?_
              rotate_left
              · (intro w hSw; (try dsimp only at hSw); go_simp; try with_reducible rfl)
              try simp only [Act.put, List.setIfInBounds_toArray, List.set_cons_zero, List.set_cons_succ, List.getElem_toArray, List.getElem_cons_succ, List.getElem_cons_zero]
              refine wpAnyH_ready (rs := [1, 7]) (by kernel_rfl) (by simp) ?_
              refine AllReadyH.cons rfl (fun K hK => ?_) ?_
              · have hld := S5a.out.cF.2.2.1
                go_simp
                clear hld
                refine hK.out _ _ (CC.out _ X5a.out A5a.out) (fun hHeld => ?_)
                clear hK K
                try simp only [Act.put, List.setIfInBounds_toArray, List.set_cons_zero, List.set_cons_succ, List.getElem_toArray, List.getElem_cons_succ, List.getElem_cons_zero]
                refine wpAnyH_ready (rs := [7]) (by kernel_rfl) (by simp) ?_
                refine AllReadyH.cons rfl (fun K hK => ?_) AllReadyH.nil
                go_simp
                refine (between39 _ _ F X W4 a4 n4 d4 A.before (HV.out.kept K5a.out) (HX.out.kept K5a.out) HM.out HMO.out (HL4.out.kept K5a.out) (by have h1 := HOA.out.bn; rw [HL4.out.len] at h1; exact h1) (fun i hi => HOA.out.bs i (by rw [HL4.out.len]; exact hi)) (HE.out.kept K5a.out)).mono ?_
                rintro e W5 ⟨⟨ra, rc, us, rfl, OV, AV⟩, kq⟩
                have S5b := hid_of (S5a.out.kept kq)
                have K5b := hid_of (K5a.out.trans kq)
                have X5b := hid_of (X5a.out.kept kq)
                have A5b := hid_of (kq.blk A5a.out)
                obtain ⟨ba5, bn5, bc5, w5, hr, Bl, Sn, hce, hfr, r3⟩ := S5b.out.addB ra us.length rc us (betweenP F X A.before) W4 S5a.out OV rfl AV (by have h1 := OK.out.b; have h2 := between_le F X A.before; have h3 := HOA.out.bn; have h4 := AV.1; have h5 : k * 1048576 ≤ 1048577 * 1048576 := Nat.mul_le_mul_right _ (by omega); omega)
                have K5c := hid_of (K5b.out.own Bl (Nat.le_add_right _ _))
                have X5c := hid_of (X5b.out.low (fun b hb _ _ => Bl.block b hb))
                have A5c := hid_of ((r3 _ (lt_of_blk A5b.out) NBU.out.2.1).trans A5b.out)
                have S5 := hid_of Sn
                have hce : w5.cell? ⟨w.heap.size + 1 + 1, 2, none⟩ = some vb := hce
                have hfr : w5.frozen? ⟨w.heap.size + 1 + 1, 2, none⟩ = false := hfr
                have HCE := hid_of hce
                have HFR := hid_of hfr
                have HRN := hid_of hr
                clear OV AV kq Bl Sn r3 hce hfr hr
                go_wp2_with fail
                refine hK.out _ _ (CC.out _ X5b.out A5b.out) (fun hHeld => ?_)
                clear hK K
                try simp only [Act.put, List.setIfInBounds_toArray, List.set_cons_zero, List.set_cons_succ, List.getElem_toArray, List.getElem_cons_succ, List.getElem_cons_zero]
                refine wpAnyH_ready (rs := [8]) (by kernel_rfl) (by simp) ?_
                refine AllReadyH.cons rfl (fun K hK => ?_) AllReadyH.nil
                refine ready_append rfl _ _ rfl rfl _ _ _ rfl rfl HRN.out ?_
                refine hK.out _ _ (CC.out _ X5c.out A5c.out) (fun hHeld => ?_)
                clear hK K
                try simp only [Act.put, List.setIfInBounds_toArray, List.set_cons_zero, List.set_cons_succ, List.getElem_toArray, List.getElem_cons_succ, List.getElem_cons_zero]
                refine wpAnyH_take (i := 9) (v := ?_) rfl (by kernel_rfl) (by kernel_rfl) (by kernel_rfl) (fun _ _ _ h => h) (Or.inl ⟨by rfl, ?_⟩) (by assumption) ?_
                rotate_left
                · (intro w hSw; (try dsimp only at hSw); go_simp; try with_reducible rfl)
                try simp only [Act.put, List.setIfInBounds_toArray, List.set_cons_zero, List.set_cons_succ, List.getElem_toArray, List.getElem_cons_succ, List.getElem_cons_zero]
                refine wpAnyH_ready (rs := [10]) (by kernel_rfl) (by simp) ?_
                refine AllReadyH.cons rfl (fun K hK => ?_) AllReadyH.nil
                have hce := HCE.out
                have hfr := HFR.out
                go_simp
                obtain ⟨Z5, hZ⟩ : ∃ Z, Z = w5.setCell ⟨w.heap.size + 1 + 1, 2, none⟩ (.slice ba5 bn5 bc5) := ⟨_, rfl⟩
                rw [← hZ]
                have S5z : Hid (TSg w.heap.size Z5 v10 (T.pairs.map (·.1) ++ [x]) (T.pairs ++ [(x, mk)]) (.slice ba5 bn5 bc5) (T.before ++ betweenP F X A.before) T.forgot vu T.unsure l0 l1 l2 l3 T.larger) := hid_of (by rw [hZ]; exact S5.out)
                have K5z : Hid (Kept w Z5) := hid_of (by rw [hZ]; exact K5c.out.setNew _ (Nat.le_trans (Nat.le_add_right _ 2) (Nat.le_refl _)) _)
                have X5z : Hid (TBx w Z5 #[.int .u64 N, .slice ab nb cb, .slice al nl cl, .slice ac nc cc] #[.int .u64 N', .slice ab' nb' cb', .slice al' nl' cl', .slice ac' nc' cc']) := hid_of (by rw [hZ]; exact X5c.out.low (fun b _ hb _ => Below.heap_setCell _ _ _ _ hb))
                have A5z : Hid (Z5.heap[wr.heap.size]? = some (.cells #[.int .i64 (se : Int), .slice a1 n1 d1, .slice a2 n2 d2, .bool fr, .slice a4 n4 d4, .bool kn, sv mk, .slice a7 n7 d7, .bool p8, .bool p9, .bool p10] 58 (0, 0))) := hid_of (by rw [hZ]; exact (Below.heap_setCell _ _ _ _ (by have := ST.out.sz; intro e; have e' : wr.heap.size = w.heap.size + 1 + 1 := e; omega)).trans A5c.out)
                refine hK.out _ _ (CC.out _ X5z.out A5z.out) (fun hHeld => ?_)
                clear hK K hZ hce hfr CC hHeld S5 K5c X5c A5c S5a K5a X5a A5a S5b K5b X5b A5b HCE HFR HRN
                try simp only [Act.put, List.setIfInBounds_toArray, List.set_cons_zero, List.set_cons_succ, List.getElem_toArray, List.getElem_cons_succ, List.getElem_cons_zero]
                refine wpAnyH_done (by kernel_rfl) ?_ _
                refine NoPanic.normal ?_
                go_wp2_with fail
                go_meet
                case rel => exact ⟨ba5, bn5, bc5, S5z, K5z, X5z, A5z⟩
              refine AllReadyH.cons rfl (fun K hK => ?_) AllReadyH.nil
              · go_simp
                refine (between39 _ _ F X W4 a4 n4 d4 A.before (HV.out.kept K5a.out) (HX.out.kept K5a.out) HM.out HMO.out (HL4.out.kept K5a.out) (by have h1 := HOA.out.bn; rw [HL4.out.len] at h1; exact h1) (fun i hi => HOA.out.bs i (by rw [HL4.out.len]; exact hi)) (HE.out.kept K5a.out)).mono ?_
                rintro e W5 ⟨⟨ra, rc, us, rfl, OV, AV⟩, kq⟩
                have S5b := hid_of (S5a.out.kept kq)
                have K5b := hid_of (K5a.out.trans kq)
                have X5b := hid_of (X5a.out.kept kq)
                have A5b := hid_of (kq.blk A5a.out)
                obtain ⟨ba5, bn5, bc5, w5, hr, Bl, Sn, hce, hfr, r3⟩ := S5b.out.addB ra us.length rc us (betweenP F X A.before) W4 S5a.out OV rfl AV (by have h1 := OK.out.b; have h2 := between_le F X A.before; have h3 := HOA.out.bn; have h4 := AV.1; have h5 : k * 1048576 ≤ 1048577 * 1048576 := Nat.mul_le_mul_right _ (by omega); omega)
                have K5c := hid_of (K5b.out.own Bl (Nat.le_add_right _ _))
                have X5c := hid_of (X5b.out.low (fun b hb _ _ => Bl.block b hb))
                have A5c := hid_of ((r3 _ (lt_of_blk A5b.out) NBU.out.2.1).trans A5b.out)
                have S5 := hid_of Sn
                have hce : w5.cell? ⟨w.heap.size + 1 + 1, 2, none⟩ = some vb := hce
                have hfr : w5.frozen? ⟨w.heap.size + 1 + 1, 2, none⟩ = false := hfr
                have HCE := hid_of hce
                have HFR := hid_of hfr
                have HRN := hid_of hr
                clear OV AV kq Bl Sn r3 hce hfr hr
                go_wp2_with fail
                refine hK.out _ _ (CC.out _ X5b.out A5b.out) (fun hHeld => ?_)
                clear hK K
                try simp only [Act.put, List.setIfInBounds_toArray, List.set_cons_zero, List.set_cons_succ, List.getElem_toArray, List.getElem_cons_succ, List.getElem_cons_zero]
                refine wpAnyH_ready (rs := [1]) (by kernel_rfl) (by simp) ?_
                refine AllReadyH.cons rfl (fun K hK => ?_) AllReadyH.nil
                have hld := S5b.out.cF.2.2.1
                go_simp
                clear hld
                refine hK.out _ _ (CC.out _ X5b.out A5b.out) (fun hHeld => ?_)
                clear hK K
                try simp only [Act.put, List.setIfInBounds_toArray, List.set_cons_zero, List.set_cons_succ, List.getElem_toArray, List.getElem_cons_succ, List.getElem_cons_zero]
                refine wpAnyH_ready (rs := [8]) (by kernel_rfl) (by simp) ?_
                refine AllReadyH.cons rfl (fun K hK => ?_) AllReadyH.nil
                refine ready_append rfl _ _ rfl rfl _ _ _ rfl rfl HRN.out ?_
                refine hK.out _ _ (CC.out _ X5c.out A5c.out) (fun hHeld => ?_)
                clear hK K
                try simp only [Act.put, List.setIfInBounds_toArray, List.set_cons_zero, List.set_cons_succ, List.getElem_toArray, List.getElem_cons_succ, List.getElem_cons_zero]
                refine wpAnyH_take (i := 9) (v := ?_) rfl (by kernel_rfl) (by kernel_rfl) (by kernel_rfl) (fun _ _ _ h => h) (Or.inl ⟨by rfl, ?_⟩) (by assumption) ?_
                rotate_left
                · (intro w hSw; (try dsimp only at hSw); go_simp; try with_reducible rfl)
                try simp only [Act.put, List.setIfInBounds_toArray, List.set_cons_zero, List.set_cons_succ, List.getElem_toArray, List.getElem_cons_succ, List.getElem_cons_zero]
                refine wpAnyH_ready (rs := [10]) (by kernel_rfl) (by simp) ?_
                refine AllReadyH.cons rfl (fun K hK => ?_) AllReadyH.nil
                have hce := HCE.out
                have hfr := HFR.out
                go_simp
                obtain ⟨Z5, hZ⟩ : ∃ Z, Z = w5.setCell ⟨w.heap.size + 1 + 1, 2, none⟩ (.slice ba5 bn5 bc5) := ⟨_, rfl⟩
                rw [← hZ]
                have S5z : Hid (TSg w.heap.size Z5 v10 (T.pairs.map (·.1) ++ [x]) (T.pairs ++ [(x, mk)]) (.slice ba5 bn5 bc5) (T.before ++ betweenP F X A.before) T.forgot vu T.unsure l0 l1 l2 l3 T.larger) := hid_of (by rw [hZ]; exact S5.out)
                have K5z : Hid (Kept w Z5) := hid_of (by rw [hZ]; exact K5c.out.setNew _ (Nat.le_trans (Nat.le_add_right _ 2) (Nat.le_refl _)) _)
                have X5z : Hid (TBx w Z5 #[.int .u64 N, .slice ab nb cb, .slice al nl cl, .slice ac nc cc] #[.int .u64 N', .slice ab' nb' cb', .slice al' nl' cl', .slice ac' nc' cc']) := hid_of (by rw [hZ]; exact X5c.out.low (fun b _ hb _ => Below.heap_setCell _ _ _ _ hb))
                have A5z : Hid (Z5.heap[wr.heap.size]? = some (.cells #[.int .i64 (se : Int), .slice a1 n1 d1, .slice a2 n2 d2, .bool fr, .slice a4 n4 d4, .bool kn, sv mk, .slice a7 n7 d7, .bool p8, .bool p9, .bool p10] 58 (0, 0))) := hid_of (by rw [hZ]; exact (Below.heap_setCell _ _ _ _ (by have := ST.out.sz; intro e; have e' : wr.heap.size = w.heap.size + 1 + 1 := e; omega)).trans A5c.out)
                refine hK.out _ _ (CC.out _ X5z.out A5z.out) (fun hHeld => ?_)
                clear hK K hZ hce hfr CC hHeld S5 K5c X5c A5c S5a K5a X5a A5a S5b K5b X5b A5b HCE HFR HRN
                try simp only [Act.put, List.setIfInBounds_toArray, List.set_cons_zero, List.set_cons_succ, List.getElem_toArray, List.getElem_cons_succ, List.getElem_cons_zero]
                refine wpAnyH_done (by kernel_rfl) ?_ _
                refine NoPanic.normal ?_
                go_wp2_with fail
                go_meet
                case rel => exact ⟨ba5, bn5, bc5, S5z, K5z, X5z, A5z⟩
            case rest =>
              obtain ⟨ba5, bn5, bc5, S5z, K5z, X5z, A5z⟩ := hcut
              rename World => w5
              go_upto_region 14 with fail
              go_cut [] from 77 to 101 (fun wc => Hid (TSg w.heap.size wc v10 (T.pairs.map (·.1) ++ [x]) (T.pairs ++ [(x, mk)]) (.slice ba5 bn5 bc5) (T.before ++ betweenP F X A.before) (T.forgot || (fr && !kn)) vu T.unsure l0 l1 l2 l3 T.larger) ∧ Hid (Kept w wc) ∧ Hid (TBx w wc #[.int .u64 N, .slice ab nb cb, .slice al nl cl, .slice ac nc cc] #[.int .u64 N', .slice ab' nb' cb', .slice al' nl' cl', .slice ac' nc' cc']) ∧ Hid (wc.heap[wr.heap.size]? = some (.cells #[.int .i64 (se : Int), .slice a1 n1 d1, .slice a2 n2 d2, .bool fr, .slice a4 n4 d4, .bool kn, sv mk, .slice a7 n7 d7, .bool p8, .bool p9, .bool p10] 58 (0, 0))))
              case first =>
                obtain ⟨f3, g3⟩ := And.intro S5z.out.cF.2.2.2.1 S5z.out.fF.2.2.2.1
                have a3 : w5.cell? ⟨wr.heap.size, 3, none⟩ = some (.bool fr) := (by have := A5z.out; simp [World.cell?, this])
                have a5 : w5.cell? ⟨wr.heap.size, 5, none⟩ = some (.bool kn) := (by have := A5z.out; simp [World.cell?, this])
                have CUT : Hid (∀ v, v = (T.forgot || (fr && !kn)) → TSg w.heap.size (w5.setCell ⟨w.heap.size + 1 + 1, 3, none⟩ (.bool v)) v10 (T.pairs.map (·.1) ++ [x]) (T.pairs ++ [(x, mk)]) (.slice ba5 bn5 bc5) (T.before ++ betweenP F X A.before) (T.forgot || (fr && !kn)) vu T.unsure l0 l1 l2 l3 T.larger ∧ Kept w (w5.setCell ⟨w.heap.size + 1 + 1, 3, none⟩ (.bool v)) ∧ TBx w (w5.setCell ⟨w.heap.size + 1 + 1, 3, none⟩ (.bool v)) #[.int .u64 N, .slice ab nb cb, .slice al nl cl, .slice ac nc cc] #[.int .u64 N', .slice ab' nb' cb', .slice al' nl' cl', .slice ac' nc' cc'] ∧ (w5.setCell ⟨w.heap.size + 1 + 1, 3, none⟩ (.bool v)).heap[wr.heap.size]? = some (.cells #[.int .i64 (se : Int), .slice a1 n1 d1, .slice a2 n2 d2, .bool fr, .slice a4 n4 d4, .bool kn, sv mk, .slice a7 n7 d7, .bool p8, .bool p9, .bool p10] 58 (0, 0))) := hid_of (fun v hv => (by
                  subst hv
                  exact ⟨S5z.out.setForgot _, K5z.out.setNew _ (Nat.le_trans (Nat.le_add_right _ 2) (Nat.le_refl _)) _, X5z.out.low (fun b _ hb _ => Below.heap_setCell _ _ _ _ hb), (Below.heap_setCell _ _ _ _ (by have := ST.out.sz; intro e; have e' : wr.heap.size = w.heap.size + 1 + 1 := e; omega)).trans A5z.out⟩))
                obtain ⟨fg, hfg⟩ : ∃ fg, fg = T.forgot := ⟨_, rfl⟩
                rw [← hfg] at f3
                have HFg := hid_of hfg
                clear hfg S5z A5z X5z K5z
                cases fg
                · cases fr
                  · go_wp2_with fail
                    go_meet
                    case rel => obtain ⟨h1, h2, h3, h4⟩ := CUT.out false (by rw [← HFg.out]; rfl); exact ⟨hid_of h1, hid_of h2, hid_of h3, hid_of h4⟩
                  · cases kn
                    · go_wp2_with fail
                      go_meet
                      case rel => obtain ⟨h1, h2, h3, h4⟩ := CUT.out true (by rw [← HFg.out]; rfl); exact ⟨hid_of h1, hid_of h2, hid_of h3, hid_of h4⟩
                    · go_wp2_with fail
                      go_meet
                      case rel => obtain ⟨h1, h2, h3, h4⟩ := CUT.out false (by rw [← HFg.out]; rfl); exact ⟨hid_of h1, hid_of h2, hid_of h3, hid_of h4⟩
                · go_wp2_with fail
                  go_meet
                  case rel => obtain ⟨h1, h2, h3, h4⟩ := CUT.out true (by rw [← HFg.out]; rfl); exact ⟨hid_of h1, hid_of h2, hid_of h3, hid_of h4⟩
              case rest =>
                obtain ⟨S6z, K6z, X6z, A6z⟩ := hcut
                rename World => w6
                go_wp2_with fail
                obtain ⟨W6, hW⟩ : ∃ X, X = w6.drew := ⟨_, rfl⟩
                have kW : Kept w6 W6 := (by rw [hW]; exact Kept.drew _)
                have S7a := hid_of (S6z.out.kept kW)
                have K7a := hid_of (K6z.out.trans kW)
                have X7a := hid_of (X6z.out.kept kW)
                have A7a := hid_of (kW.blk A6z.out)
                have CC : Hid (∀ w', TBx w w' #[.int .u64 N, .slice ab nb cb, .slice al nl cl, .slice ac nc cc] #[.int .u64 N', .slice ab' nb' cb', .slice al' nl' cl', .slice ac' nc' cc'] → w'.heap[wr.heap.size]? = some (.cells #[.int .i64 (se : Int), .slice a1 n1 d1, .slice a2 n2 d2, .bool fr, .slice a4 n4 d4, .bool kn, sv mk, .slice a7 n7 d7, .bool p8, .bool p9, .bool p10] 58 (0, 0)) → w'.cell? ⟨wr.heap.size, 7, none⟩ = some (.slice a7 n7 d7) ∧ (w'.cell? ⟨w.heap.size, 0, none⟩ = some (.int .u64 N) ∧ w'.cell? ⟨w.heap.size, 1, none⟩ = some (.slice ab nb cb) ∧ w'.cell? ⟨w.heap.size, 2, none⟩ = some (.slice al nl cl) ∧ w'.cell? ⟨w.heap.size, 3, none⟩ = some (.slice ac nc cc)) ∧ (w'.cell? ⟨w.heap.size + 1, 0, none⟩ = some (.int .u64 N') ∧ w'.cell? ⟨w.heap.size + 1, 1, none⟩ = some (.slice ab' nb' cb') ∧ w'.cell? ⟨w.heap.size + 1, 2, none⟩ = some (.slice al' nl' cl') ∧ w'.cell? ⟨w.heap.size + 1, 3, none⟩ = some (.slice ac' nc' cc'))) := hid_of (fun w' x a => ⟨by simp [World.cell?, a], x.c4.1, x.c4.2⟩)
                clear kW
                refine wp_region_noPanic ?_
                refine wp_region_held_drew (S := fun w' => w'.cell? ⟨wr.heap.size, 7, none⟩ = some (.slice a7 n7 d7) ∧ (w'.cell? ⟨w.heap.size, 0, none⟩ = some (.int .u64 N) ∧ w'.cell? ⟨w.heap.size, 1, none⟩ = some (.slice ab nb cb) ∧ w'.cell? ⟨w.heap.size, 2, none⟩ = some (.slice al nl cl) ∧ w'.cell? ⟨w.heap.size, 3, none⟩ = some (.slice ac nc cc)) ∧ (w'.cell? ⟨w.heap.size + 1, 0, none⟩ = some (.int .u64 N') ∧ w'.cell? ⟨w.heap.size + 1, 1, none⟩ = some (.slice ab' nb' cb') ∧ w'.cell? ⟨w.heap.size + 1, 2, none⟩ = some (.slice al' nl' cl') ∧ w'.cell? ⟨w.heap.size + 1, 3, none⟩ = some (.slice ac' nc' cc'))) (by kernel_rfl) (by rw [← hW]; exact CC.out _ X7a.out A7a.out) (fun hHeld => ?_)
                rw [← hW] at hHeld ⊢
                clear hW
                refine wpAnyH_take (i := 0) (v := ?_) rfl (by kernel_rfl) (by kernel_rfl) (by kernel_rfl) (fun _ _ _ h => h) (Or.inl ⟨by rfl, ?_⟩) (by assumption) ?_
                rotate_left
                · (intro w hSw; (try dsimp only at hSw); go_simp; try with_reducible rfl)
                try simp only [Act.put, List.setIfInBounds_toArray, List.set_cons_zero, List.set_cons_succ, List.getElem_toArray, List.getElem_cons_succ, List.getElem_cons_zero]
                refine wpAnyH_take (i := 2) (v := ?_) rfl (by kernel_rfl) (by kernel_rfl) (by kernel_rfl) (fun _ _ _ h => h) (Or.inl ⟨by rfl, ?_⟩) (by assumption) ?_
                rotate_left
                · (intro w hSw; (try dsimp only at hSw); go_simp; try with_reducible rfl)
                try simp only [Act.put, List.setIfInBounds_toArray, List.set_cons_zero, List.set_cons_succ, List.getElem_toArray, List.getElem_cons_succ, List.getElem_cons_zero]
                refine wpAnyH_take (i := 3) (v := ?_) rfl (by kernel_rfl) (by kernel_rfl) (by kernel_rfl) (fun _ _ _ h => h) (Or.inl ⟨by rfl, ?_⟩) (by assumption) ?_
                rotate_left
                · (intro w hSw; (try dsimp only at hSw); go_simp; try with_reducible rfl)
                try simp only [Act.put, List.setIfInBounds_toArray, List.set_cons_zero, List.set_cons_succ, List.getElem_toArray, List.getElem_cons_succ, List.getElem_cons_zero]
                refine wpAnyH_take (i := 4) (v := ?_) rfl (by kernel_rfl) (by kernel_rfl) (by kernel_rfl) (fun _ _ _ h => h) (Or.inl ⟨by rfl, ?_⟩) (by assumption) ?_
                rotate_left
                · (intro w hSw; (try dsimp only at hSw); go_simp; try with_reducible rfl)
                try simp only [Act.put, List.setIfInBounds_toArray, List.set_cons_zero, List.set_cons_succ, List.getElem_toArray, List.getElem_cons_succ, List.getElem_cons_zero]
                refine wpAnyH_take (i := 5) (v := ?_) rfl (by kernel_rfl) (by kernel_rfl) (by kernel_rfl) (fun _ _ _ h => h) (Or.inl ⟨by rfl, ?_⟩) (by assumption) ?_
                rotate_left
                · (intro w hSw; (try dsimp only at hSw); go_simp; try with_reducible rfl)
                try simp only [Act.put, List.setIfInBounds_toArray, List.set_cons_zero, List.set_cons_succ, List.getElem_toArray, List.getElem_cons_succ, List.getElem_cons_zero]
                refine wpAnyH_take (i := 6) (v := ?_) rfl (by kernel_rfl) (by kernel_rfl) (by kernel_rfl) (fun _ _ _ h => h) (Or.inl ⟨by rfl, ?_⟩) (by assumption) ?_
                rotate_left
                · (intro w hSw; (try dsimp only at hSw); go_simp; try with_reducible rfl)
                try simp only [Act.put, List.setIfInBounds_toArray, List.set_cons_zero, List.set_cons_succ, List.getElem_toArray, List.getElem_cons_succ, List.getElem_cons_zero]
                refine wpAnyH_ready (rs := [1, 7]) (by kernel_rfl) (by simp) ?_
                refine AllReadyH.cons rfl (fun K hK => ?_) ?_
                · have hld := S7a.out.cF.2.2.2.2.1
                  go_simp
                  clear hld
                  refine hK.out _ _ (CC.out _ X7a.out A7a.out) (fun hHeld => ?_)
                  clear hK K
                  try simp only [Act.put, List.setIfInBounds_toArray, List.set_cons_zero, List.set_cons_succ, List.getElem_toArray, List.getElem_cons_succ, List.getElem_cons_zero]
                  refine wpAnyH_ready (rs := [7]) (by kernel_rfl) (by simp) ?_
                  refine AllReadyH.cons rfl (fun K hK => ?_) AllReadyH.nil
                  go_simp
                  refine (between39 _ _ F X W6 a7 n7 d7 A.unsure (HV.out.kept K7a.out) (HX.out.kept K7a.out) HM.out HMO.out (HL7.out.kept K7a.out) (by have h1 := HOA.out.un; rw [HL7.out.len] at h1; exact h1) (fun i hi => HOA.out.us i (by rw [HL7.out.len]; exact hi)) (HE.out.kept K7a.out)).mono ?_
                  rintro e W7 ⟨⟨ra, rc, us, rfl, OV, AV⟩, kq⟩
                  have S7b := hid_of (S7a.out.kept kq)
                  have K7b := hid_of (K7a.out.trans kq)
                  have X7b := hid_of (X7a.out.kept kq)
                  have A7b := hid_of (kq.blk A7a.out)
                  obtain ⟨ba7, bn7, bc7, w7, hr, Bl, Sn, hce, hfr, r3⟩ := S7b.out.addU ra us.length rc us (betweenP F X A.unsure) W6 S7a.out OV rfl AV (by have h1 := OK.out.u; have h2 := between_le F X A.unsure; have h3 := HOA.out.un; have h4 := AV.1; have h5 : k * 1048576 ≤ 1048577 * 1048576 := Nat.mul_le_mul_right _ (by omega); omega)
                  have K7c := hid_of (K7b.out.own Bl (Nat.le_add_right _ _))
                  have X7c := hid_of (X7b.out.low (fun b hb _ _ => Bl.block b hb))
                  have A7c := hid_of ((r3 _ (lt_of_blk A7b.out) NBU.out.2.2).trans A7b.out)
                  have S7 := hid_of Sn
                  have hce : w7.cell? ⟨w.heap.size + 1 + 1, 4, none⟩ = some vu := hce
                  have hfr : w7.frozen? ⟨w.heap.size + 1 + 1, 4, none⟩ = false := hfr
                  have HCE := hid_of hce
                  have HFR := hid_of hfr
                  have HRN := hid_of hr
                  clear OV AV kq Bl Sn r3 hce hfr hr
                  go_wp2_with fail
                  refine hK.out _ _ (CC.out _ X7b.out A7b.out) (fun hHeld => ?_)
                  clear hK K
                  try simp only [Act.put, List.setIfInBounds_toArray, List.set_cons_zero, List.set_cons_succ, List.getElem_toArray, List.getElem_cons_succ, List.getElem_cons_zero]
                  refine wpAnyH_ready (rs := [8]) (by kernel_rfl) (by simp) ?_
                  refine AllReadyH.cons rfl (fun K hK => ?_) AllReadyH.nil
                  refine ready_append rfl _ _ rfl rfl _ _ _ rfl rfl HRN.out ?_
                  refine hK.out _ _ (CC.out _ X7c.out A7c.out) (fun hHeld => ?_)
                  clear hK K
                  try simp only [Act.put, List.setIfInBounds_toArray, List.set_cons_zero, List.set_cons_succ, List.getElem_toArray, List.getElem_cons_succ, List.getElem_cons_zero]
                  refine wpAnyH_take (i := 9) (v := ?_) rfl (by kernel_rfl) (by kernel_rfl) (by kernel_rfl) (fun _ _ _ h => h) (Or.inl ⟨by rfl, ?_⟩) (by assumption) ?_
                  rotate_left
                  · (intro w hSw; (try dsimp only at hSw); go_simp; try with_reducible rfl)
                  try simp only [Act.put, List.setIfInBounds_toArray, List.set_cons_zero, List.set_cons_succ, List.getElem_toArray, List.getElem_cons_succ, List.getElem_cons_zero]
                  refine wpAnyH_ready (rs := [10]) (by kernel_rfl) (by simp) ?_
                  refine AllReadyH.cons rfl (fun K hK => ?_) AllReadyH.nil
                  have hce := HCE.out
                  have hfr := HFR.out
                  go_simp
                  obtain ⟨Z7, hZ⟩ : ∃ Z, Z = w7.setCell ⟨w.heap.size + 1 + 1, 4, none⟩ (.slice ba7 bn7 bc7) := ⟨_, rfl⟩
                  rw [← hZ]
                  have S7z : Hid (TSg w.heap.size Z7 v10 (T.pairs.map (·.1) ++ [x]) (T.pairs ++ [(x, mk)]) (.slice ba5 bn5 bc5) (T.before ++ betweenP F X A.before) (T.forgot || (fr && !kn)) (.slice ba7 bn7 bc7) (T.unsure ++ betweenP F X A.unsure) l0 l1 l2 l3 T.larger) := hid_of (by rw [hZ]; exact S7.out)
                  have K7z : Hid (Kept w Z7) := hid_of (by rw [hZ]; exact K7c.out.setNew _ (Nat.le_trans (Nat.le_add_right _ 2) (Nat.le_refl _)) _)
                  have X7z : Hid (TBx w Z7 #[.int .u64 N, .slice ab nb cb, .slice al nl cl, .slice ac nc cc] #[.int .u64 N', .slice ab' nb' cb', .slice al' nl' cl', .slice ac' nc' cc']) := hid_of (by rw [hZ]; exact X7c.out.low (fun b _ hb _ => Below.heap_setCell _ _ _ _ hb))
                  have A7z : Hid (Z7.heap[wr.heap.size]? = some (.cells #[.int .i64 (se : Int), .slice a1 n1 d1, .slice a2 n2 d2, .bool fr, .slice a4 n4 d4, .bool kn, sv mk, .slice a7 n7 d7, .bool p8, .bool p9, .bool p10] 58 (0, 0))) := hid_of (by rw [hZ]; exact (Below.heap_setCell _ _ _ _ (by have := ST.out.sz; intro e; have e' : wr.heap.size = w.heap.size + 1 + 1 := e; omega)).trans A7c.out)
                  refine hK.out _ _ (CC.out _ X7z.out A7z.out) (fun hHeld => ?_)
                  clear hK K hZ hce hfr CC hHeld S7 K7c X7c A7c S7a K7a X7a A7a S7b K7b X7b A7b HCE HFR HRN
                  try simp only [Act.put, List.setIfInBounds_toArray, List.set_cons_zero, List.set_cons_succ, List.getElem_toArray, List.getElem_cons_succ, List.getElem_cons_zero]
                  refine wpAnyH_done (by kernel_rfl) ?_ _
                  refine NoPanic.normal ?_
                  have HTk : Hid (TSg w.heap.size Z7 v10 ((tTake F X tos T A).pairs.map (·.1)) (tTake F X tos T A).pairs (.slice ba5 bn5 bc5) (tTake F X tos T A).before (tTake F X tos T A).forgot (.slice ba7 bn7 bc7) (tTake F X tos T A).unsure l0 l1 l2 l3 (tTake F X tos T A).larger) := hid_of (by
                    have h := S7z.out
                    obtain ⟨e1, e2, e3, e4⟩ := HF.out
                    rw [e1, e2, e3, HXe.out] at h
                    have e5 : A.sender.toNat = se := (by rw [← e4]; rfl)
                    unfold tTake
                    rw [e5]
                    simpa using h)
                  go_wp2_with fail
                  go_roundw
                  case rel =>
                    exact ⟨k + 1, tTake F X tos T A, _, _, l0, l1, l2, l3, by omega, by go_num, HTk, hid_of (OK.out.take HOA.out F X tos), hid_of (by rw [← HGo.out]; simp only [tGo]; rw [← HCn.out, ← HEq.out]; rfl), X7z, K7z⟩
                  case measure => simp [intOf]; omega
                refine AllReadyH.cons rfl (fun K hK => ?_) AllReadyH.nil
                · go_simp
                  refine (between39 _ _ F X W6 a7 n7 d7 A.unsure (HV.out.kept K7a.out) (HX.out.kept K7a.out) HM.out HMO.out (HL7.out.kept K7a.out) (by have h1 := HOA.out.un; rw [HL7.out.len] at h1; exact h1) (fun i hi => HOA.out.us i (by rw [HL7.out.len]; exact hi)) (HE.out.kept K7a.out)).mono ?_
                  rintro e W7 ⟨⟨ra, rc, us, rfl, OV, AV⟩, kq⟩
                  have S7b := hid_of (S7a.out.kept kq)
                  have K7b := hid_of (K7a.out.trans kq)
                  have X7b := hid_of (X7a.out.kept kq)
                  have A7b := hid_of (kq.blk A7a.out)
                  obtain ⟨ba7, bn7, bc7, w7, hr, Bl, Sn, hce, hfr, r3⟩ := S7b.out.addU ra us.length rc us (betweenP F X A.unsure) W6 S7a.out OV rfl AV (by have h1 := OK.out.u; have h2 := between_le F X A.unsure; have h3 := HOA.out.un; have h4 := AV.1; have h5 : k * 1048576 ≤ 1048577 * 1048576 := Nat.mul_le_mul_right _ (by omega); omega)
                  have K7c := hid_of (K7b.out.own Bl (Nat.le_add_right _ _))
                  have X7c := hid_of (X7b.out.low (fun b hb _ _ => Bl.block b hb))
                  have A7c := hid_of ((r3 _ (lt_of_blk A7b.out) NBU.out.2.2).trans A7b.out)
                  have S7 := hid_of Sn
                  have hce : w7.cell? ⟨w.heap.size + 1 + 1, 4, none⟩ = some vu := hce
                  have hfr : w7.frozen? ⟨w.heap.size + 1 + 1, 4, none⟩ = false := hfr
                  have HCE := hid_of hce
                  have HFR := hid_of hfr
                  have HRN := hid_of hr
                  clear OV AV kq Bl Sn r3 hce hfr hr
                  go_wp2_with fail
                  refine hK.out _ _ (CC.out _ X7b.out A7b.out) (fun hHeld => ?_)
                  clear hK K
                  try simp only [Act.put, List.setIfInBounds_toArray, List.set_cons_zero, List.set_cons_succ, List.getElem_toArray, List.getElem_cons_succ, List.getElem_cons_zero]
                  refine wpAnyH_ready (rs := [1]) (by kernel_rfl) (by simp) ?_
                  refine AllReadyH.cons rfl (fun K hK => ?_) AllReadyH.nil
                  have hld := S7b.out.cF.2.2.2.2.1
                  go_simp
                  clear hld
                  refine hK.out _ _ (CC.out _ X7b.out A7b.out) (fun hHeld => ?_)
                  clear hK K
                  try simp only [Act.put, List.setIfInBounds_toArray, List.set_cons_zero, List.set_cons_succ, List.getElem_toArray, List.getElem_cons_succ, List.getElem_cons_zero]
                  refine wpAnyH_ready (rs := [8]) (by kernel_rfl) (by simp) ?_
                  refine AllReadyH.cons rfl (fun K hK => ?_) AllReadyH.nil
                  refine ready_append rfl _ _ rfl rfl _ _ _ rfl rfl HRN.out ?_
                  refine hK.out _ _ (CC.out _ X7c.out A7c.out) (fun hHeld => ?_)
                  clear hK K
                  try simp only [Act.put, List.setIfInBounds_toArray, List.set_cons_zero, List.set_cons_succ, List.getElem_toArray, List.getElem_cons_succ, List.getElem_cons_zero]
                  refine wpAnyH_take (i := 9) (v := ?_) rfl (by kernel_rfl) (by kernel_rfl) (by kernel_rfl) (fun _ _ _ h => h) (Or.inl ⟨by rfl, ?_⟩) (by assumption) ?_
                  rotate_left
                  · (intro w hSw; (try dsimp only at hSw); go_simp; try with_reducible rfl)
                  try simp only [Act.put, List.setIfInBounds_toArray, List.set_cons_zero, List.set_cons_succ, List.getElem_toArray, List.getElem_cons_succ, List.getElem_cons_zero]
                  refine wpAnyH_ready (rs := [10]) (by kernel_rfl) (by simp) ?_
                  refine AllReadyH.cons rfl (fun K hK => ?_) AllReadyH.nil
                  have hce := HCE.out
                  have hfr := HFR.out
                  go_simp
                  obtain ⟨Z7, hZ⟩ : ∃ Z, Z = w7.setCell ⟨w.heap.size + 1 + 1, 4, none⟩ (.slice ba7 bn7 bc7) := ⟨_, rfl⟩
                  rw [← hZ]
                  have S7z : Hid (TSg w.heap.size Z7 v10 (T.pairs.map (·.1) ++ [x]) (T.pairs ++ [(x, mk)]) (.slice ba5 bn5 bc5) (T.before ++ betweenP F X A.before) (T.forgot || (fr && !kn)) (.slice ba7 bn7 bc7) (T.unsure ++ betweenP F X A.unsure) l0 l1 l2 l3 T.larger) := hid_of (by rw [hZ]; exact S7.out)
                  have K7z : Hid (Kept w Z7) := hid_of (by rw [hZ]; exact K7c.out.setNew _ (Nat.le_trans (Nat.le_add_right _ 2) (Nat.le_refl _)) _)
                  have X7z : Hid (TBx w Z7 #[.int .u64 N, .slice ab nb cb, .slice al nl cl, .slice ac nc cc] #[.int .u64 N', .slice ab' nb' cb', .slice al' nl' cl', .slice ac' nc' cc']) := hid_of (by rw [hZ]; exact X7c.out.low (fun b _ hb _ => Below.heap_setCell _ _ _ _ hb))
                  have A7z : Hid (Z7.heap[wr.heap.size]? = some (.cells #[.int .i64 (se : Int), .slice a1 n1 d1, .slice a2 n2 d2, .bool fr, .slice a4 n4 d4, .bool kn, sv mk, .slice a7 n7 d7, .bool p8, .bool p9, .bool p10] 58 (0, 0))) := hid_of (by rw [hZ]; exact (Below.heap_setCell _ _ _ _ (by have := ST.out.sz; intro e; have e' : wr.heap.size = w.heap.size + 1 + 1 := e; omega)).trans A7c.out)
                  refine hK.out _ _ (CC.out _ X7z.out A7z.out) (fun hHeld => ?_)
                  clear hK K hZ hce hfr CC hHeld S7 K7c X7c A7c S7a K7a X7a A7a S7b K7b X7b A7b HCE HFR HRN
                  try simp only [Act.put, List.setIfInBounds_toArray, List.set_cons_zero, List.set_cons_succ, List.getElem_toArray, List.getElem_cons_succ, List.getElem_cons_zero]
                  refine wpAnyH_done (by kernel_rfl) ?_ _
                  refine NoPanic.normal ?_
                  have HTk : Hid (TSg w.heap.size Z7 v10 ((tTake F X tos T A).pairs.map (·.1)) (tTake F X tos T A).pairs (.slice ba5 bn5 bc5) (tTake F X tos T A).before (tTake F X tos T A).forgot (.slice ba7 bn7 bc7) (tTake F X tos T A).unsure l0 l1 l2 l3 (tTake F X tos T A).larger) := hid_of (by
                    have h := S7z.out
                    obtain ⟨e1, e2, e3, e4⟩ := HF.out
                    rw [e1, e2, e3, HXe.out] at h
                    have e5 : A.sender.toNat = se := (by rw [← e4]; rfl)
                    unfold tTake
                    rw [e5]
                    simpa using h)
                  go_wp2_with fail
                  go_roundw
                  case rel =>
                    exact ⟨k + 1, tTake F X tos T A, _, _, l0, l1, l2, l3, by omega, by go_num, HTk, hid_of (OK.out.take HOA.out F X tos), hid_of (by rw [← HGo.out]; simp only [tGo]; rw [← HCn.out, ← HEq.out]; rfl), X7z, K7z⟩
                  case measure => simp [intOf]; omega
    · have hl : ¬ (k : Int) < (n : Int) := by omega
      have hkn : k = n := by omega
      subst hkn
      have eR : R = .inl T := (by rw [← GO.out, List.drop_eq_nil_of_le (by rw [EN.out]; exact Nat.le_refl _)]; rfl)
      have HER := hid_of eR
      clear eR
      obtain ⟨us0, ut0, G0, e2, e3, -, e5, -, e7, -⟩ := ST.out.ex
      obtain ⟨ax, cx, hvb⟩ := e3.shape
      obtain ⟨ay, cy, hvu⟩ := e5.shape
      obtain ⟨yb, yn, yc, zb, zn, zc, qb, qn, qc, hL, -, -, -⟩ := e7.ex
      obtain ⟨h0, h1, h2, h3⟩ : l0 = _ ∧ l1 = _ ∧ l2 = _ ∧ l3 = _ := (by simpa using hL)
      obtain ⟨nx, hnx⟩ : ∃ nx, nx = us0.length := ⟨_, rfl⟩
      obtain ⟨ny, hny⟩ : ∃ nx, nx = ut0.length := ⟨_, rfl⟩
      obtain ⟨nl0, hnl⟩ : ∃ nx, nx = T.larger.count := ⟨_, rfl⟩
      rw [← hnx] at hvb
      rw [← hny] at hvu
      rw [← hnl] at h0
      subst hvb hvu h0 h1 h2 h3
      clear hL e3 e5 e7 hnx hny hnl
      obtain ⟨af, cf, rfl, Lf, -, -⟩ := e2.isL
      have H41 := hid_of (newMembers41 af _ cf _ wr (by have := OK.out.p; simp; omega) Lf)
      clear e2 Lf
      obtain ⟨nf, hnf⟩ : ∃ nf, nf = (T.pairs.map (·.1)).length := ⟨_, rfl⟩
      rw [← hnf] at H41 ⊢
      rw [← hnf] at ST
      clear hnf
      go_wp2_with fail
      refine H41.out.mono ?_
      rintro e w1 ⟨⟨az, cz, rfl, Lz, Fz⟩, k1⟩
      obtain ⟨nz, hnz⟩ : ∃ nz, nz = (setP (T.pairs.map (·.1))).length := ⟨_, rfl⟩
      rw [← hnz] at Lz ⊢
      have HNz := hid_of hnz
      clear hnz
      have ST1 := hid_of (ST.out.kept k1)
      have BX1 := hid_of (BX.out.kept k1)
      have KW1 := hid_of (KR.out.trans k1)
      have HLz := hid_of Lz
      have HFz := hid_of Fz
      clear H41 Lz Fz
      have K1 := hid_of k1
      clear k1
      obtain ⟨f0, f1, f2, f3, f4, f5, f6, f7, f8⟩ := ST1.out.cF
      obtain ⟨g0, g1, g2, g3, g4, g5, g6, g7, g8⟩ := ST1.out.fF
      obtain ⟨⟨n0, n1', n2', n3⟩, ⟨o0, o1, o2, o3⟩⟩ := BX1.out.cC
      go_wp2_with fail
      obtain ⟨Ya, hYa⟩ : ∃ Y, Y = w1.setCell ⟨w.heap.size + 1 + 1, 0, none⟩ (.slice az nz cz) := ⟨_, rfl⟩
      obtain ⟨Y0, hY0⟩ : ∃ Y, Y = put9 Ya (w.heap.size + 1 + 1) (.slice az nz cz) (.map (some (w.heap.size + 1 + 1 + 1 + 1))) (.slice ax nx cx) (.bool T.forgot) (.slice ay ny cy) (.int .u64 nl0) (.slice yb yn yc) (.slice zb zn zc) (.slice qb qn qc) := ⟨_, rfl⟩
      obtain ⟨Y, hY⟩ : ∃ Y, Y = put4 Y0 (w.heap.size + 1 + 1 + 1) (.int .u64 0) (.slice none 0 0) (.slice none 0 0) (.slice none 0 0) := ⟨_, rfl⟩
      have ya : Ya.heap[w.heap.size + 1 + 1]? = some (.cells #[(.slice az nz cz), .map (some (w.heap.size + 4)), (.slice ax nx cx), (.bool T.forgot), (.slice ay ny cy), (.int .u64 nl0), (.slice yb yn yc), (.slice zb zn zc), (.slice qb qn qc)] 44 (0, 0)) := (by rw [hYa]; exact set1_blk ST1.out.f 0 _ #[(.slice az nz cz), .map (some (w.heap.size + 4)), (.slice ax nx cx), (.bool T.forgot), (.slice ay ny cy), (.int .u64 nl0), (.slice yb yn yc), (.slice zb zn zc), (.slice qb qn qc)] rfl)
      have y2 : Y.heap[w.heap.size + 1 + 1]? = some (.cells #[(.slice az nz cz), (.map (some (w.heap.size + 1 + 1 + 1 + 1))), (.slice ax nx cx), (.bool T.forgot), (.slice ay ny cy), (.int .u64 nl0), (.slice yb yn yc), (.slice zb zn zc), (.slice qb qn qc)] 44 (0, 0)) := (by rw [hY, hY0]; exact (put4_other _ _ _ _ _ _ _ (by omega)).trans (put9_blk ya _ _ _ _ _ _ _ _ _))
      have hot : ∀ b, b ≠ w.heap.size + 1 + 1 → b ≠ w.heap.size + 1 + 1 + 1 → Y.heap[b]? = w1.heap[b]? := (by
        intro b h1 h2
        rw [hY, put4_other _ _ _ _ _ _ _ h2, hY0, put9_other _ _ _ _ _ _ _ _ _ _ _ _ h1, hYa, Below.heap_setCell _ _ _ _ h1])
      have y3 : Y.heap[w.heap.size + 1 + 1 + 1]? = some (.cells #[(.int .u64 0), (.slice none 0 0), (.slice none 0 0), (.slice none 0 0)] 42 (0, 0)) := (by
        rw [hY, hY0, hYa]
        exact put4_blk ((put9_other _ _ _ _ _ _ _ _ _ _ _ _ (by omega)).trans ((Below.heap_setCell _ _ _ _ (by simp)).trans BX1.out.c)) _ _ _ _)
      have QY : Kept w Y := (by rw [hY, hY0, hYa]; exact ((KW1.out.setNew _ (Nat.le_trans (Nat.le_add_right _ 2) (Nat.le_refl _)) _).put9 _ (by omega) _ _ _ _ _ _ _ _ _).put4 _ (by omega) _ _ _ _)
      have LY : IsL Y az nz (setP (T.pairs.map (·.1))) := ⟨HLz.out.len, fun h0 => (by
        obtain ⟨b, off, hb, hc⟩ := HLz.out.row h0
        refine ⟨b, off, hb, fun i hi => ?_⟩
        have hfr := HFz.out _ hb
        have hsz := ST.out.sz
        have hfr' : wr.heap.size ≤ b := hfr
        have := hc i hi
        rw [World.cell?] at this ⊢
        rw [show Y.heap[b]? = w1.heap[b]? from hot b (by omega) (by omega)]
        exact this)⟩
      obtain ⟨m1, ⟨us, m2, m3⟩, ⟨ut, m4, m5⟩, m6⟩ := ST1.out.leave hot
      have eY : ((((((((((((((w1.setCell ⟨w.heap.size + 1 + 1, 0, none⟩ (.slice az nz cz)).setCell ⟨w.heap.size + 1 + 1, 0, none⟩ (.slice az nz cz)).setCell ⟨w.heap.size + 1 + 1, 1, none⟩ (.map (some (w.heap.size + 1 + 1 + 1 + 1)))).setCell ⟨w.heap.size + 1 + 1, 2, none⟩ (.slice ax nx cx)).setCell ⟨w.heap.size + 1 + 1, 3, none⟩ (.bool T.forgot)).setCell ⟨w.heap.size + 1 + 1, 4, none⟩ (.slice ay ny cy)).setCell ⟨w.heap.size + 1 + 1, 5, none⟩ (.int .u64 nl0)).setCell ⟨w.heap.size + 1 + 1, 6, none⟩ (.slice yb yn yc)).setCell ⟨w.heap.size + 1 + 1, 7, none⟩ (.slice zb zn zc)).setCell ⟨w.heap.size + 1 + 1, 8, none⟩ (.slice qb qn qc)).setCell ⟨w.heap.size + 1 + 1 + 1, 0, none⟩ (.int .u64 0)).setCell ⟨w.heap.size + 1 + 1 + 1, 1, none⟩ (.slice none 0 0)).setCell ⟨w.heap.size + 1 + 1 + 1, 2, none⟩ (.slice none 0 0)).setCell ⟨w.heap.size + 1 + 1 + 1, 3, none⟩ (.slice none 0 0)) = Y := (by rw [hY, hY0, hYa]; unfold put4 put9; rfl)
      rw [eY]
      have HQ := hid_of QY
      have HLY := hid_of LY
      have HM1 := hid_of (And.intro m1 (And.intro m2 (And.intro m3 (And.intro m4 (And.intro m5 m6)))))
      clear eY hY hY0 hYa ya hot QY LY m1 m2 m3 m4 m5 m6 f0 f1 f2 f3 f4 f5 f6 f7 f8 g0 g1 g2 g3 g4 g5 g6 g7 g8 n0 n1' n2' n3 o0 o1 o2 o3
      refine bodyPost_ret (v := .tuple #[.agg #[(.slice az nz cz), (.map (some (w.heap.size + 1 + 1 + 1 + 1))), (.slice ax nx cx), (.bool T.forgot), (.slice ay ny cy), (.int .u64 nl0), (.slice yb yn yc), (.slice zb zn zc), (.slice qb qn qc)], zeroVw]) (by simp [results, Tryz.results32, go_sem, World.cell?, y2, y3, zeroVw]) rfl ?_
      rw [HER.out]
      obtain ⟨m1, m2, m3, m4, m5, m6⟩ := HM1.out
      refine ⟨⟨_, rfl, az, cz, _, _, us, _, ut, _, _, _, _, ?_, ?_, m1, m2, m3, m4, m5, m6⟩, HQ.out⟩
      · rw [HNz.out]
      · rw [← HNz.out]; exact HLY.out

theorem tally32 (f x : Value) (F X : View) (w : World) (at_ : Option Addr) (nt ct : Nat) (tos : List Str) (a : Option Addr) (n cp : Nat) (As : List Ans)
    (hV : IsV w f F) (hO : IsV w x X) (hM : Mid F) (hMO : Mid X) (hXc : X.changes.length ≤ 3145729)
    (hT : IsL w at_ nt tos) (hnt : nt ≤ 1048576) (hTs : ∀ i, i < nt → (tos.getD i []).length ≤ 1048577)
    (hL : IsA w a n As) (hn : n ≤ 1048577) (hS : ∀ i, i < n → OkA nt (As.getD i noAns)) (hE : Errs w) :
    Calls Tryz.prog 32 #[f, .slice at_ nt ct, x, .slice a n cp] w fun e w' => RetT w.heap.size w' e (tGo F X tos As (tZero X)) ∧ Kept w w' := by
  obtain ⟨ab, nb, cb, al, nl, cl, ac, nc, cc, rfl, -, -, -⟩ := hV.ex
  obtain ⟨ab', nb', cb', al', nl', cl', ac', nc', cc', rfl, -, -, -⟩ := hO.ex
  exact tally32_in _ ab al ac nb cb nl cl nc cc _ ab' al' ac' nb' cb' nl' cl' nc' cc' F X w at_ nt ct tos a n cp As hV hO hM hMO hXc hT hnt hTs hL hn hS hE

end Go.Proofs.Qxb6616331aGreatDoor
