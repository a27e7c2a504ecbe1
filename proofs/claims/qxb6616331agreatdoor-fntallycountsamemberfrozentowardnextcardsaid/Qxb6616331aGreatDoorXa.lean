/-
  THE WALKS of seat b6616331aZD, Xa: a statement 'f, n := ZZtally(..)' in whatever order.
-/
import Derived.Test.Qxb6616331aGreatDoorX9
namespace Go.Proofs.Qxb6616331aGreatDoor
open Go.RowKit
set_option linter.unusedVariables false
set_option linter.unusedSimpArgs false
set_option linter.unnecessarySimpa false
set_option maxRecDepth 40000

theorem Fr.keep {n : Nat} {a : Act} {L : List (Nat × Value)} (h : Fr n a L) (d : Nat) (v : Value) (hd : d < n) (hn : (L.map Prod.fst).contains d = false) : Fr n (a.put (some d) v) L := by
  have h' := h.put d v hd hn
  exact h'.sub (fun i k v e => h'.at (i + 1) e)

/-- What is told of the statement: its operations' slots and what they hold. C: the call of ZZtally. -/
structure DT where
  W : World
  L0 : List (Nat × Value)
  C : Nat
  slot : Nat → Nat
  Fact : Nat → Value → World → Prop
  T : List (List Nat)
  R : Tal ⊕ View
  tT : Nat
  tM : Nat
  e0 : Nat
  e1 : Nat
  s4 : Nat
  s2 : Nat
section
variable (D : DT)
/-- Before the stores. -/
structure D1 (B E : Nat) (l : Array Bool) (a : Act) (w : World) : Prop where
  sz : l.size = D.C + 8
  fr : Fr 373 a D.L0
  k : Kept D.W w
  f : ∀ j, j < D.C → l.getD j false = true → D.Fact j (rd a (D.slot j)) w
  g0 : l.getD D.C false = true → (∃ v v', rd a D.tT = .tuple #[v, v'] ∧ RF B E w v D.R ∧ RW w v' D.R) ∧ E ≤ w.heap.size
  g1 : l.getD (D.C + 1) false = true → ∃ v v', rd a D.tM = .tuple #[v, v'] ∧ RF B E w v D.R ∧ RW w v' D.R
  g2 : l.getD (D.C + 2) false = true → RF B E w (rd a D.e0) D.R
  g3 : l.getD (D.C + 3) false = true → RW w (rd a D.e1) D.R
  a4 : l.getD (D.C + 4) false = true → ∃ b, rd a D.s4 = .pointer (some ⟨b, 0, none⟩) ∧ D.W.heap.size ≤ b ∧ w.heap[b]? = some (.cells zero9 44 (0, 0)) ∧ (l.getD D.C false = true → b < B ∨ E ≤ b)
  a2 : l.getD (D.C + 5) false = true → ∃ b, rd a D.s2 = .pointer (some ⟨b, 0, none⟩) ∧ D.W.heap.size ≤ b ∧ w.heap[b]? = some (.cells zero4 42 (0, 0)) ∧ (l.getD D.C false = true → b < B ∨ E ≤ b)
  c1 : l.getD (D.C + 1) false = true → l.getD D.C false = true
  c2 : l.getD (D.C + 2) false = true → l.getD (D.C + 1) false = true
  c3 : l.getD (D.C + 3) false = true → l.getD (D.C + 1) false = true
  n6 : l.getD (D.C + 6) false = false
  n7 : l.getD (D.C + 7) false = false
/-- The first store is done. -/
structure D2 (B E : Nat) (l : Array Bool) (a : Act) (w : World) : Prop where
  sz : l.size = D.C + 8
  fr : Fr 373 a D.L0
  k : Kept D.W w
  m : ∃ v v', rd a D.tM = .tuple #[v, v'] ∧ RW w v' D.R
  g3 : l.getD (D.C + 3) false = true → RW w (rd a D.e1) D.R
  all : ∀ j, j < D.C + 8 → j ≠ D.C + 3 → j ≠ D.C + 7 → l.getD j false = true
  n7 : l.getD (D.C + 7) false = false
  s : ∃ b4 f b2, rd a D.s4 = .pointer (some ⟨b4, 0, none⟩) ∧ rd a D.s2 = .pointer (some ⟨b2, 0, none⟩) ∧ D.W.heap.size ≤ b2 ∧ w.heap[b4]? = some (.cells (FL.arr f) 44 (0, 0)) ∧ w.heap[b2]? = some (.cells zero4 42 (0, 0)) ∧ RF B E w f.val D.R ∧ (b2 < B ∨ E ≤ b2)
/-- Both are. -/
structure D3 (l : Array Bool) (a : Act) (w : World) : Prop where
  sz : l.size = D.C + 8
  fr : Fr 373 a D.L0
  k : Kept D.W w
  all : ∀ j, j < D.C + 8 → l.getD j false = true
  s : ∃ B E b4 f b2 l2, rd a D.s4 = .pointer (some ⟨b4, 0, none⟩) ∧ rd a D.s2 = .pointer (some ⟨b2, 0, none⟩) ∧ w.heap[b4]? = some (.cells (FL.arr f) 44 (0, 0)) ∧ w.heap[b2]? = some (.cells (VL.arr l2) 42 (0, 0)) ∧ RF B E w f.val D.R ∧ RW w l2.val D.R

/-- What must be known of the operations. -/
structure DOps (D : DT) (ops : Array Oper) (Q : Exit → Act → World → Prop) : Prop where
  size : ops.size = D.C + 8
  tab : Region.tabAfter .any ops = D.T
  hT : (List.range D.T.length).all (fun i => (D.T.getD i []).all (fun j => decide (j < i))) = true
  mono : ∀ j v w w', j < D.C → Kept w w' → D.Fact j v w → D.Fact j v w'
  lt : ∀ i, i < D.C → D.slot i < 373 ∧ (D.L0.map Prod.fst).contains (D.slot i) = false ∧ D.slot i ≠ D.tT ∧ D.slot i ≠ D.tM ∧ D.slot i ≠ D.e0 ∧ D.slot i ≠ D.e1 ∧ D.slot i ≠ D.s4 ∧ D.slot i ≠ D.s2
  inj : ∀ i, i < D.C → ∀ j, j < D.C → i ≠ j → D.slot i ≠ D.slot j
  lt6 : ∀ d ∈ [D.tT, D.tM, D.e0, D.e1, D.s4, D.s2], d < 373 ∧ (D.L0.map Prod.fst).contains d = false
  nd6 : [D.tT, D.tM, D.e0, D.e1, D.s4, D.s2].Nodup
  pre : ∀ (K : Act → World → Prop) a w i, i < D.C → Fr 373 a D.L0 → Kept D.W w → (∀ j ∈ D.T.getD i [], j < D.C → D.Fact j (rd a (D.slot j)) w) → (∀ v w', Kept w w' → D.Fact i v w' → K (a.put (some (D.slot i)) v) w') → wpOp Tryz.prog ops Q i K a w
  call : ∀ (K : Act → World → Prop) a w, Fr 373 a D.L0 → Kept D.W w → (∀ j ∈ D.T.getD D.C [], j < D.C → D.Fact j (rd a (D.slot j)) w) → (∀ v v' w', Kept w w' → RetT2 w.heap.size w' v v' D.R → K (a.put (some D.tT) (.tuple #[v, v'])) w') → wpOp Tryz.prog ops Q D.C K a w
  o1 : ∃ o, ops[D.C + 1]? = some o ∧ o.guard = none ∧ o.dst = some D.tM ∧ o.op = .move (.tmp D.tT)
  o2 : ∃ o, ops[D.C + 2]? = some o ∧ o.guard = none ∧ o.dst = some D.e0 ∧ o.op = .extract (.tmp D.tM) 0
  o3 : ∃ o, ops[D.C + 3]? = some o ∧ o.guard = none ∧ o.dst = some D.e1 ∧ o.op = .extract (.tmp D.tM) 1
  o4 : ∃ o, ops[D.C + 4]? = some o ∧ o.guard = none ∧ o.dst = some D.s4 ∧ o.op = .alloc 44
  o5 : ∃ o, ops[D.C + 5]? = some o ∧ o.guard = none ∧ o.dst = some D.s2 ∧ o.op = .alloc 42
  o6 : ∃ o, ops[D.C + 6]? = some o ∧ o.guard = none ∧ o.dst = none ∧ o.op = .store 44 (.tmp D.s4) (.tmp D.e0)
  o7 : ∃ o, ops[D.C + 7]? = some o ∧ o.guard = none ∧ o.dst = none ∧ o.op = .store 42 (.tmp D.s2) (.tmp D.e1)
  d1 : D.C ∈ D.T.getD (D.C + 1) []
  d2 : D.C + 1 ∈ D.T.getD (D.C + 2) []
  d3 : D.C + 1 ∈ D.T.getD (D.C + 3) []
  d6 : ∀ j, j < D.C + 6 → j ≠ D.C + 3 → j ∈ D.T.getD (D.C + 6) []
  d7 : D.C + 3 ∈ D.T.getD (D.C + 7) [] ∧ D.C + 6 ∈ D.T.getD (D.C + 7) []
  dC : ∀ j ∈ D.T.getD D.C [], j < D.C
  dP : ∀ i, i < D.C → ∀ j ∈ D.T.getD i [], j < D.C

theorem ld_self {l : Array Bool} {i : Nat} (h : i < l.size) : (l.setIfInBounds i true).getD i false = true := by
  rw [getD_set_bool, if_pos ⟨rfl, h⟩]

variable {D}
/-- A step before the stores, other than the call. -/
theorem D1.gen {B E : Nat} {l : Array Bool} {a a' : Act} {w w' : World} (h : D1 D B E l a w) (i d : Nat) (q : Kept w w') (hfr : Fr 373 a' D.L0) (hrd : ∀ s, s ≠ d → rd a' s = rd a s) (hmono : ∀ j v w w', j < D.C → Kept w w' → D.Fact j v w → D.Fact j v w')
    (hi : i < D.C + 6) (hC : i ≠ D.C) (hl : l.getD i false = false)
    (nf : ∀ j, j < D.C → (j = i ∧ D.Fact j (rd a' (D.slot j)) w') ∨ (j ≠ i ∧ D.slot j ≠ d))
    (k0 : D.tT ≠ d) (k1 : i = D.C + 1 ∨ D.tM ≠ d) (k2 : i = D.C + 2 ∨ D.e0 ≠ d) (k3 : i = D.C + 3 ∨ D.e1 ≠ d) (k4 : i = D.C + 4 ∨ D.s4 ≠ d) (k5 : i = D.C + 5 ∨ D.s2 ≠ d)
    (n1 : i = D.C + 1 → l.getD D.C false = true ∧ ∃ v v', rd a' D.tM = .tuple #[v, v'] ∧ RF B E w' v D.R ∧ RW w' v' D.R)
    (n2 : i = D.C + 2 → l.getD (D.C + 1) false = true ∧ RF B E w' (rd a' D.e0) D.R)
    (n3 : i = D.C + 3 → l.getD (D.C + 1) false = true ∧ RW w' (rd a' D.e1) D.R)
    (n4 : i = D.C + 4 → ∃ b, rd a' D.s4 = .pointer (some ⟨b, 0, none⟩) ∧ D.W.heap.size ≤ b ∧ w'.heap[b]? = some (.cells zero9 44 (0, 0)) ∧ (l.getD D.C false = true → b < B ∨ E ≤ b))
    (n5 : i = D.C + 5 → ∃ b, rd a' D.s2 = .pointer (some ⟨b, 0, none⟩) ∧ D.W.heap.size ≤ b ∧ w'.heap[b]? = some (.cells zero4 42 (0, 0)) ∧ (l.getD D.C false = true → b < B ∨ E ≤ b)) :
    D1 D B E (l.setIfInBounds i true) a' w' := by
  have hz : i < l.size := by rw [h.sz]; omega
  refine ⟨by simpa using h.sz, hfr, h.k.trans q, fun j hj hl' => ?_, fun hl' => ?_, fun hl' => ?_, fun hl' => ?_, fun hl' => ?_, fun hl' => ?_, fun hl' => ?_, fun hl' => ?_, fun hl' => ?_, fun hl' => ?_, ld_ne' (by omega) h.n6, ld_ne' (by omega) h.n7⟩
  · rcases nf j hj with ⟨-, h1⟩ | ⟨h1, h2⟩
    · exact h1
    · rw [hrd _ h2]
      exact hmono j _ _ _ hj q (h.f j hj (ld_ne (fun e => h1 e.symm) hl'))
  · obtain ⟨⟨v, v', e1, e2, e3⟩, e4⟩ := h.g0 (ld_ne hC hl')
    exact ⟨⟨v, v', (hrd _ k0).trans e1, e2.kept q, e3.kept q⟩, Nat.le_trans e4 q.size⟩
  · by_cases e : i = D.C + 1
    · exact (n1 e).2
    · obtain ⟨v, v', e1, e2, e3⟩ := h.g1 (ld_ne e hl')
      exact ⟨v, v', (hrd _ (k1.resolve_left e)).trans e1, e2.kept q, e3.kept q⟩
  · by_cases e : i = D.C + 2
    · exact (n2 e).2
    · rw [hrd _ (k2.resolve_left e)]; exact (h.g2 (ld_ne e hl')).kept q
  · by_cases e : i = D.C + 3
    · exact (n3 e).2
    · rw [hrd _ (k3.resolve_left e)]; exact (h.g3 (ld_ne e hl')).kept q
  · by_cases e : i = D.C + 4
    · obtain ⟨b, e1, e2, e3, e4⟩ := n4 e
      exact ⟨b, e1, e2, e3, fun hc => e4 (ld_ne hC hc)⟩
    · obtain ⟨b, e1, e2, e3, e4⟩ := h.a4 (ld_ne e hl')
      exact ⟨b, (hrd _ (k4.resolve_left e)).trans e1, e2, q.blk e3, fun hc => e4 (ld_ne hC hc)⟩
  · by_cases e : i = D.C + 5
    · obtain ⟨b, e1, e2, e3, e4⟩ := n5 e
      exact ⟨b, e1, e2, e3, fun hc => e4 (ld_ne hC hc)⟩
    · obtain ⟨b, e1, e2, e3, e4⟩ := h.a2 (ld_ne e hl')
      exact ⟨b, (hrd _ (k5.resolve_left e)).trans e1, e2, q.blk e3, fun hc => e4 (ld_ne hC hc)⟩
  · by_cases e : i = D.C + 1
    · rw [getD_set_bool]; split
      · rfl
      · exact (n1 e).1
    · rw [getD_set_bool]; split
      · rfl
      · exact h.c1 (ld_ne e hl')
  · by_cases e : i = D.C + 2
    · rw [getD_set_bool]; split
      · rfl
      · exact (n2 e).1
    · rw [getD_set_bool]; split
      · rfl
      · exact h.c2 (ld_ne e hl')
  · by_cases e : i = D.C + 3
    · rw [getD_set_bool]; split
      · rfl
      · exact (n3 e).1
    · rw [getD_set_bool]; split
      · rfl
      · exact h.c3 (ld_ne e hl')

theorem D1.call {B E : Nat} {l : Array Bool} {a : Act} {w w' : World} (h : D1 D B E l a w) (q : Kept w w') {v v' : Value} (hR : RetT2 w.heap.size w' v v' D.R) {ops : Array Oper} {Q : Exit → Act → World → Prop} (H : DOps D ops Q) (hl : l.getD D.C false = false) :
    D1 D w.heap.size w'.heap.size (l.setIfInBounds D.C true) (a.put (some D.tT) (.tuple #[v, v'])) w' := by
  have hz : D.C < l.size := by rw [h.sz]; omega
  obtain ⟨r1, r2⟩ := hR.split
  have t := H.lt6 D.tT (by simp)
  have n := H.nd6
  simp only [List.nodup_cons, List.mem_cons, List.not_mem_nil, or_false, not_or] at n
  obtain ⟨⟨n1, n2, n3, n4, n5⟩, -⟩ := n
  have no : ∀ j, l.getD j false = true → l.getD D.C false = true → False := fun j _ h2 => by rw [hl] at h2; cases h2
  refine ⟨by simpa using h.sz, h.fr.keep _ _ t.1 t.2, h.k.trans q, fun j hj hl' => ?_, fun _ => ⟨⟨v, v', rd_put_self _ _ _ (by rw [h.fr.size]; exact t.1), r1, r2⟩, Nat.le_refl _⟩, fun hl' => ?_, fun hl' => ?_, fun hl' => ?_, fun hl' => ?_, fun hl' => ?_, fun hl' => ?_, fun hl' => ?_, fun hl' => ?_, ld_ne' (by omega) h.n6, ld_ne' (by omega) h.n7⟩
  · rw [rd_put_ne _ _ _ _ (fun e => (H.lt j hj).2.2.1 e.symm)]
    exact H.mono j _ _ _ hj q (h.f j hj (ld_ne (by omega) hl'))
  · exact (no _ (ld_ne (by omega) hl') (h.c1 (ld_ne (by omega) hl'))).elim
  · exact (no _ (ld_ne (by omega) hl') (h.c1 (h.c2 (ld_ne (by omega) hl')))).elim
  · exact (no _ (ld_ne (by omega) hl') (h.c1 (h.c3 (ld_ne (by omega) hl')))).elim
  · obtain ⟨b, e1, e2, e3, -⟩ := h.a4 (ld_ne (by omega) hl')
    exact ⟨b, (rd_put_ne _ _ _ _ n4).trans e1, e2, q.blk e3, fun _ => .inl (lt_of_blk e3)⟩
  · obtain ⟨b, e1, e2, e3, -⟩ := h.a2 (ld_ne (by omega) hl')
    exact ⟨b, (rd_put_ne _ _ _ _ n5).trans e1, e2, q.blk e3, fun _ => .inl (lt_of_blk e3)⟩
  · exact ld_self hz
  · have := h.c2 (ld_ne (by omega) hl')
    exact (no _ this (h.c1 this)).elim
  · have := h.c3 (ld_ne (by omega) hl')
    exact (no _ this (h.c1 this)).elim

theorem getD_rep (n j : Nat) : (Array.replicate n false).getD j false = false := by
  simp only [Array.getD_eq_getD_getElem?, Array.getElem?_replicate]
  split <;> rfl
theorem left_rep (n : Nat) (l : Array Bool) : leftOf n l ≤ n := by
  unfold leftOf
  exact Nat.le_trans (List.length_filter_le _ _) (by simp)

set_option maxHeartbeats 1600000 in
theorem drawn {ops : Array Oper} {Q : Exit → Act → World → Prop} (H : DOps D ops Q) (hm : Tryz.prog.follows .mixedOrders = true) {a : Act} (hF : Fr 373 a D.L0) {id : Nat}
    (fin : ∀ a w B E b4 f b2 l2, Fr 373 a D.L0 → rd a D.s4 = .pointer (some ⟨b4, 0, none⟩) → rd a D.s2 = .pointer (some ⟨b2, 0, none⟩) → Kept D.W w → w.heap[b4]? = some (.cells (FL.arr f) 44 (0, 0)) → w.heap[b2]? = some (.cells (VL.arr l2) 42 (0, 0)) → RF B E w f.val D.R → RW w l2.val D.R → Q .normal a w) :
    (Code.region id ops true).wp Tryz.prog Q a D.W := by
  have n := H.nd6
  simp only [List.nodup_cons, List.mem_cons, List.not_mem_nil, or_false, not_or] at n
  obtain ⟨⟨n01, n02, n03, n04, n05⟩, ⟨n12, n13, n14, n15⟩, ⟨n23, n24, n25⟩, ⟨n34, n35⟩, n45, -⟩ := n
  have t0 := H.lt6 D.tT (by simp)
  have t1 := H.lt6 D.tM (by simp)
  have t2 := H.lt6 D.e0 (by simp)
  have t3 := H.lt6 D.e1 (by simp)
  have t4 := H.lt6 D.s4 (by simp)
  have t5 := H.lt6 D.s2 (by simp)
  refine wp_region_any hm ?_
  refine wpAny_inv2 H.tab H.hT (fun l a w => (∃ B E, D1 D B E l a w) ∨ (∃ B E, D2 D B E l a w) ∨ D3 D l a w) ?_ ?_ ?_ _ _ _ _ (left_rep _ _) (.inl ⟨0, 0, ?_⟩)
  · rintro l a w (⟨B, E, h⟩ | ⟨B, E, h⟩ | h)
    · rw [h.sz, H.size]
    · rw [h.sz, H.size]
    · rw [h.sz, H.size]
  · rintro l a w i hi (⟨B, E, h⟩ | ⟨B, E, h⟩ | h) hl hdep
    · rw [H.size] at hi
      by_cases hiC : i < D.C
      · have ti := H.lt i hiC
        refine H.pre _ a w i hiC h.fr h.k (fun j hj hjC => h.f j hjC (hdep j hj)) (fun v w' q hv => .inl ⟨B, E, ?_⟩)
        refine h.gen i (D.slot i) q (h.fr.keep _ _ ti.1 ti.2.1) (fun s hs => rd_put_ne _ _ _ _ (fun e => hs e.symm)) H.mono (by omega) (by omega) hl (fun j hj => ?_) (fun e => ti.2.2.1 e.symm) (.inr (fun e => ti.2.2.2.1 e.symm)) (.inr (fun e => ti.2.2.2.2.1 e.symm)) (.inr (fun e => ti.2.2.2.2.2.1 e.symm)) (.inr (fun e => ti.2.2.2.2.2.2.1 e.symm)) (.inr (fun e => ti.2.2.2.2.2.2.2 e.symm)) (fun e => by omega) (fun e => by omega) (fun e => by omega) (fun e => by omega) (fun e => by omega)
        by_cases e : j = i
        · subst e
          exact .inl ⟨rfl, by rw [rd_put_self _ _ _ (by rw [h.fr.size]; exact ti.1)]; exact hv⟩
        · exact .inr ⟨e, H.inj j hj i hiC e⟩
      obtain rfl | rfl | rfl | rfl | rfl | rfl | rfl | rfl : i = D.C ∨ i = D.C + 1 ∨ i = D.C + 2 ∨ i = D.C + 3 ∨ i = D.C + 4 ∨ i = D.C + 5 ∨ i = D.C + 6 ∨ i = D.C + 7 := by omega
      · exact H.call _ a w h.fr h.k (fun j hj hjC => h.f j hjC (hdep j hj)) (fun v v' w' q hR => .inl ⟨_, _, h.call q hR H hl⟩)
      · obtain ⟨o, e1, e2, e3, e4⟩ := H.o1
        obtain ⟨⟨v, v', r1, r2, r3⟩, -⟩ := h.g0 (hdep _ H.d1)
        refine wpOp_value e1 e2 (run_move' e4 r1) (.inl ⟨B, E, ?_⟩)
        rw [e3]
        exact h.gen (D.C + 1) D.tM (Kept.refl _) (h.fr.keep _ _ t1.1 t1.2) (fun s hs => rd_put_ne _ _ _ _ (fun e => hs e.symm)) H.mono (by omega) (by omega) hl (fun j hj => .inr ⟨by omega, (H.lt j hj).2.2.2.1⟩) n01 (.inl rfl) (.inr (fun e => n12 e.symm)) (.inr (fun e => n13 e.symm)) (.inr (fun e => n14 e.symm)) (.inr (fun e => n15 e.symm)) (fun _ => ⟨hdep _ H.d1, v, v', rd_put_self _ _ _ (by rw [h.fr.size]; exact t1.1), r2, r3⟩) (fun e => by omega) (fun e => by omega) (fun e => by omega) (fun e => by omega)
      · obtain ⟨o, e1, e2, e3, e4⟩ := H.o2
        obtain ⟨v, v', r1, r2, r3⟩ := h.g1 (hdep _ H.d2)
        refine wpOp_value e1 e2 (run_extract e4 r1 rfl) (.inl ⟨B, E, ?_⟩)
        rw [e3]
        exact h.gen (D.C + 2) D.e0 (Kept.refl _) (h.fr.keep _ _ t2.1 t2.2) (fun s hs => rd_put_ne _ _ _ _ (fun e => hs e.symm)) H.mono (by omega) (by omega) hl (fun j hj => .inr ⟨by omega, (H.lt j hj).2.2.2.2.1⟩) n02 (.inr n12) (.inl rfl) (.inr (fun e => n23 e.symm)) (.inr (fun e => n24 e.symm)) (.inr (fun e => n25 e.symm)) (fun e => by omega) (fun _ => ⟨hdep _ H.d2, by rw [rd_put_self _ _ _ (by rw [h.fr.size]; exact t2.1)]; exact r2⟩) (fun e => by omega) (fun e => by omega) (fun e => by omega)
      · obtain ⟨o, e1, e2, e3, e4⟩ := H.o3
        obtain ⟨v, v', r1, r2, r3⟩ := h.g1 (hdep _ H.d3)
        refine wpOp_value e1 e2 (run_extract e4 r1 rfl) (.inl ⟨B, E, ?_⟩)
        rw [e3]
        exact h.gen (D.C + 3) D.e1 (Kept.refl _) (h.fr.keep _ _ t3.1 t3.2) (fun s hs => rd_put_ne _ _ _ _ (fun e => hs e.symm)) H.mono (by omega) (by omega) hl (fun j hj => .inr ⟨by omega, (H.lt j hj).2.2.2.2.2.1⟩) n03 (.inr n13) (.inr n23) (.inl rfl) (.inr (fun e => n34 e.symm)) (.inr (fun e => n35 e.symm)) (fun e => by omega) (fun e => by omega) (fun _ => ⟨hdep _ H.d3, by rw [rd_put_self _ _ _ (by rw [h.fr.size]; exact t3.1)]; exact r3⟩) (fun e => by omega) (fun e => by omega)
      · obtain ⟨o, e1, e2, e3, e4⟩ := H.o4
        refine wpOp_value e1 e2 (run_alloc44 e4) (.inl ⟨B, E, ?_⟩)
        rw [e3]
        exact h.gen (D.C + 4) D.s4 (Kept.alloc _ _) (h.fr.keep _ _ t4.1 t4.2) (fun s hs => rd_put_ne _ _ _ _ (fun e => hs e.symm)) H.mono (by omega) (by omega) hl (fun j hj => .inr ⟨by omega, (H.lt j hj).2.2.2.2.2.2.1⟩) n04 (.inr n14) (.inr n24) (.inr n34) (.inl rfl) (.inr (fun e => n45 e.symm)) (fun e => by omega) (fun e => by omega) (fun e => by omega) (fun _ => ⟨w.heap.size, rd_put_self _ _ _ (by rw [h.fr.size]; exact t4.1), h.k.size, heap_alloc_new w _, fun hc => .inr (h.g0 hc).2⟩) (fun e => by omega)
      · obtain ⟨o, e1, e2, e3, e4⟩ := H.o5
        refine wpOp_value e1 e2 (run_alloc42 e4) (.inl ⟨B, E, ?_⟩)
        rw [e3]
        exact h.gen (D.C + 5) D.s2 (Kept.alloc _ _) (h.fr.keep _ _ t5.1 t5.2) (fun s hs => rd_put_ne _ _ _ _ (fun e => hs e.symm)) H.mono (by omega) (by omega) hl (fun j hj => .inr ⟨by omega, (H.lt j hj).2.2.2.2.2.2.2⟩) n05 (.inr n15) (.inr n25) (.inr n35) (.inr n45) (.inl rfl) (fun e => by omega) (fun e => by omega) (fun e => by omega) (fun e => by omega) (fun _ => ⟨w.heap.size, rd_put_self _ _ _ (by rw [h.fr.size]; exact t5.1), h.k.size, heap_alloc_new w _, fun hc => .inr (h.g0 hc).2⟩)
      · obtain ⟨o, e1, e2, e3, e4⟩ := H.o6
        have dn : ∀ j, j < D.C + 6 → j ≠ D.C + 3 → l.getD j false = true := fun j h1 h2 => hdep j (H.d6 j h1 h2)
        have hCl := dn D.C (by omega) (by omega)
        obtain ⟨b4, x1, x2, x3, x4⟩ := h.a4 (dn _ (by omega) (by omega))
        obtain ⟨b2, y1, y2, y3, y4⟩ := h.a2 (dn _ (by omega) (by omega))
        have r := h.g2 (dn _ (by omega) (by omega))
        obtain ⟨v, v', m1, -, m3⟩ := h.g1 (dn _ (by omega) (by omega))
        obtain ⟨f, ef⟩ := r.fl
        have hne : b2 ≠ b4 := fun e => by rw [e, x3] at y3; cases y3
        refine wpOp_skip e1 e2 e3 (run_store44 e4 x1 ef x3) (.inr (.inl ⟨B, E, ?_⟩))
        have hA : Aside w (put9 w b4 (.slice f.a0 f.n0 f.c0) (.map f.m) (.slice f.a2 f.n2 f.c2) (.bool f.b) (.slice f.a4 f.n4 f.c4) (.int .u64 f.l.N) (.slice f.l.ab f.l.nb f.l.cb) (.slice f.l.al f.l.nl f.l.cl) (.slice f.l.ac f.l.nc f.l.cc)) b4 b4 :=
          ⟨fun k h1 _ => put9_other _ _ _ _ _ _ _ _ _ _ _ _ h1, noStr_blk x3 (by simp), noStr_blk x3 (by simp), fun es k => by rw [x3]; simp, fun es k => by rw [x3]; simp⟩
        refine ⟨by simpa using h.sz, h.fr, h.k.put9 _ x2 _ _ _ _ _ _ _ _ _, ⟨v, v', m1, m3.aside hA⟩, fun hl' => (h.g3 (ld_ne (by omega) hl')).aside hA, fun j h1 h2 h3 => ?_, ld_ne' (by omega) h.n7, ⟨b4, f, b2, x1, y1, y2, put9_blk x3 _ _ _ _ _ _ _ _ _, (put9_other _ _ _ _ _ _ _ _ _ _ _ _ hne).trans y3, ?_, y4 hCl⟩⟩
        · rw [getD_set_bool]
          split
          · rfl
          · rename_i hc
            exact dn j (by
              have hz : D.C + 6 < l.size := by rw [h.sz]; omega
              have : ¬ D.C + 6 = j := fun e => hc ⟨e, hz⟩
              omega) h2
        · rw [ef] at r
          exact r.aside hA (x4 hCl)
      · have := hdep _ H.d7.2
        rw [h.n6] at this
        cases this
    · rw [H.size] at hi
      obtain rfl | rfl : i = D.C + 3 ∨ i = D.C + 7 := by
        by_cases e3 : i = D.C + 3
        · exact .inl e3
        · by_cases e7 : i = D.C + 7
          · exact .inr e7
          · rw [h.all i hi e3 e7] at hl
            cases hl
      · obtain ⟨o, e1, e2, e3, e4⟩ := H.o3
        obtain ⟨v, v', r1, r3⟩ := h.m
        obtain ⟨b4, f, b2, z1, z2, z3, z4, z5, z6, z7⟩ := h.s
        refine wpOp_value e1 e2 (run_extract e4 r1 rfl) (.inr (.inl ⟨B, E, ?_⟩))
        rw [e3]
        refine ⟨by simpa using h.sz, h.fr.keep _ _ t3.1 t3.2, h.k, ⟨v, v', (rd_put_ne _ _ _ _ (fun e => n13 e.symm)).trans r1, r3⟩, fun _ => by rw [rd_put_self _ _ _ (by rw [h.fr.size]; exact t3.1)]; exact r3, fun j h1 h2 h3 => ?_, ld_ne' (by omega) h.n7, ⟨b4, f, b2, (rd_put_ne _ _ _ _ n34).trans z1, (rd_put_ne _ _ _ _ n35).trans z2, z3, z4, z5, z6, z7⟩⟩
        rw [getD_set_bool]
        split
        · rfl
        · exact h.all j h1 h2 h3
      · obtain ⟨o, e1, e2, e3, e4⟩ := H.o7
        have r := h.g3 (hdep _ H.d7.1)
        obtain ⟨b4, f, b2, z1, z2, z3, z4, z5, z6, z7⟩ := h.s
        obtain ⟨l2, el⟩ := r.vl
        have hne : b4 ≠ b2 := fun e => by rw [e, z5] at z4; cases z4
        refine wpOp_skip e1 e2 e3 (run_store42 e4 z2 el z5) (.inr (.inr ?_))
        have hA : Aside w (put4 w b2 (.int .u64 l2.N) (.slice l2.ab l2.nb l2.cb) (.slice l2.al l2.nl l2.cl) (.slice l2.ac l2.nc l2.cc)) b2 b2 :=
          ⟨fun k h1 _ => put4_other _ _ _ _ _ _ _ h1, noStr_blk z5 (by simp), noStr_blk z5 (by simp), fun es k => by rw [z5]; simp, fun es k => by rw [z5]; simp⟩
        refine ⟨by simpa using h.sz, h.fr, h.k.put4 _ z3 _ _ _ _, fun j hj => ?_, ⟨B, E, b4, f, b2, l2, z1, z2, (put4_other _ _ _ _ _ _ _ hne).trans z4, put4_blk z5 _ _ _ _, z6.aside hA z7, ?_⟩⟩
        · rw [getD_set_bool]
          split
          · rfl
          · rename_i hc
            by_cases e3' : j = D.C + 3
            · subst e3'
              exact hdep _ H.d7.1
            · exact h.all j hj e3' (fun e => hc ⟨e.symm, by rw [h.sz]; omega⟩)
        · rw [el] at r
          exact r.aside hA
    · rw [H.size] at hi
      rw [h.all i hi] at hl
      cases hl
  · rintro l a w (⟨B, E, h⟩ | ⟨B, E, h⟩ | h) hall
    · have := hall (D.C + 6) (by rw [H.size]; omega)
      rw [h.n6] at this
      cases this
    · have := hall (D.C + 7) (by rw [H.size]; omega)
      rw [h.n7] at this
      cases this
    · obtain ⟨B, E, b4, f, b2, l2, z1, z2, z3, z4, z5, z6⟩ := h.s
      exact fin a w B E b4 f b2 l2 h.fr z1 z2 h.k z3 z4 z5 z6
  · have no : ∀ j, (Array.replicate ops.size false).getD j false = true → False := fun j e => by rw [getD_rep] at e; cases e
    exact ⟨by simpa using H.size, hF, Kept.drew _, fun j _ e => (no _ e).elim, fun e => (no _ e).elim, fun e => (no _ e).elim, fun e => (no _ e).elim, fun e => (no _ e).elim, fun e => (no _ e).elim, fun e => (no _ e).elim, fun e => (no _ e).elim, fun e => (no _ e).elim, fun e => (no _ e).elim, getD_rep _ _, getD_rep _ _⟩
end

end Go.Proofs.Qxb6616331aGreatDoor
