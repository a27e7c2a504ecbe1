/-
  THE WALKS of seat b6616331aZD, Y0: rows of views.
-/
import Derived.Test.Qxb6616331aGreatDoorZy
namespace Go.Proofs.Qxb6616331aGreatDoor
open Go.RowKit
set_option linter.unusedVariables false
set_option linter.unusedSimpArgs false
set_option linter.unnecessarySimpa false
set_option maxRecDepth 40000

theorem Tryz.info42 : (Tryz.prog.info? 42).map (fun i => (i.zero, i.size, i.bytes)) = some (some (.agg #[.int .u64 0, .slice none 0 0, .slice none 0 0, .slice none 0 0]), 4, 80) := by kernel_rfl
theorem Tryz.underlying40' : Tryz.prog.underlying 40 = some (.slice 42) := by kernel_rfl

def cellsOf : Value → List Value
  | .agg a => a.toList
  | _ => []
theorem RV.cells4 {w : World} {G : Nat → Prop} {u : Value} {V : View} (h : RV w G u V) : (cellsOf u).length = 4 ∧ (∀ x ∈ cellsOf u, x.oneCell' = true) ∧ u = .agg (cellsOf u).toArray := by
  obtain ⟨ab, nb, cb, al, nl, cl, ac, nc, cc, rfl, -, -, -⟩ := h.ex
  refine ⟨rfl, fun x hx => ?_, rfl⟩
  simp [cellsOf] at hx
  rcases hx with rfl | rfl | rfl | rfl <;> rfl
theorem RV.grow {w w' : World} {G G' : Nat → Prop} {v : Value} {V : View} (h : RV w G v V) (hG : ∀ k, k < w.heap.size → G' k → G k) (ho : Outer G' w w') : RV w' G' v V := (h.mono hG).outer ho

/-- Each of the values reads as the view beside it. -/
def AllV (w : World) (G : Nat → Prop) (us : List Value) (Vs : List View) : Prop := us.length = Vs.length ∧ ∀ i, i < Vs.length → RV w G (us.getD i undef) (Vs.getD i zeroV)
theorem AllV.nil (w : World) (G : Nat → Prop) : AllV w G [] [] := ⟨rfl, fun i h => by simp at h⟩
theorem AllV.kept {w w' : World} {G : Nat → Prop} {us : List Value} {Vs : List View} (h : AllV w G us Vs) (q : Kept w w') : AllV w' G us Vs := ⟨h.1, fun i hi => (h.2 i hi).kept q⟩
theorem AllV.grow {w w' : World} {G G' : Nat → Prop} {us : List Value} {Vs : List View} (h : AllV w G us Vs) (hG : ∀ k, k < w.heap.size → G' k → G k) (ho : Outer G' w w') : AllV w' G' us Vs := ⟨h.1, fun i hi => (h.2 i hi).grow hG ho⟩
theorem AllV.mono {w : World} {G G' : Nat → Prop} {us : List Value} {Vs : List View} (h : AllV w G us Vs) (hG : ∀ k, k < w.heap.size → G' k → G k) : AllV w G' us Vs := ⟨h.1, fun i hi => (h.2 i hi).mono hG⟩
theorem AllV.append {w : World} {G : Nat → Prop} {us us' : List Value} {Vs Vs' : List View} (h : AllV w G us Vs) (h' : AllV w G us' Vs') : AllV w G (us ++ us') (Vs ++ Vs') := by
  refine ⟨by simp [h.1, h'.1], fun i hi => ?_⟩
  have e := h.1
  have e' := h'.1
  simp at hi
  by_cases hlt : i < Vs.length
  · have := h.2 i hlt
    rw [List.getD_eq_getElem?_getD, List.getD_eq_getElem?_getD] at this ⊢
    rw [List.getElem?_append_left (by omega), List.getElem?_append_left (by omega)]
    exact this
  · have := h'.2 (i - Vs.length) (by omega)
    rw [List.getD_eq_getElem?_getD, List.getD_eq_getElem?_getD] at this ⊢
    rw [List.getElem?_append_right (by omega), List.getElem?_append_right (by omega), e]
    exact this
theorem AllV.one {w : World} {G : Nat → Prop} {u : Value} {V : View} (h : RV w G u V) : AllV w G [u] [V] := ⟨rfl, fun i hi => by
  have : i = 0 := by simpa using hi
  subst this
  exact h⟩
theorem AllV.flat {w : World} {G : Nat → Prop} : ∀ {us : List Value} {Vs : List View}, AllV w G us Vs → (us.flatMap cellsOf).length = Vs.length * 4 ∧ ∀ x ∈ us.flatMap cellsOf, x.oneCell' = true
  | [], [], _ => by simp
  | u :: us, [], h => by have := h.1; simp at this
  | [], V :: Vs, h => by have := h.1; simp at this
  | u :: us, V :: Vs, h => by
    have h0 := (h.2 0 (by simp)).cells4
    simp at h0
    have ht : AllV w G us Vs := ⟨by simpa using h.1, fun i hi => by simpa using h.2 (i + 1) (by simpa using hi)⟩
    obtain ⟨h1, h2⟩ := ht.flat
    refine ⟨?_, fun x hx => ?_⟩
    · simp only [List.flatMap_cons, List.length_append, h1, h0.1, List.length_cons]; omega
    · rw [List.flatMap_cons] at hx
      rcases List.mem_append.1 hx with hx | hx
      · exact h0.2.1 x hx
      · exact h2 x hx
theorem AllV.get {w : World} {G : Nat → Prop} : ∀ {us : List Value} {Vs : List View}, AllV w G us Vs → ∀ i j, i < Vs.length → j < 4 → (us.flatMap cellsOf)[4 * i + j]? = (cellsOf (us.getD i undef))[j]?
  | [], [], _, i, j, hi, _ => by simp at hi
  | u :: us, [], h, _, _, _, _ => by have := h.1; simp at this
  | [], V :: Vs, h, _, _, _, _ => by have := h.1; simp at this
  | u :: us, V :: Vs, h, i, j, hi, hj => by
    have h0 := (h.2 0 (by simp)).cells4
    simp at h0
    have ht : AllV w G us Vs := ⟨by simpa using h.1, fun i hi => by simpa using h.2 (i + 1) (by simpa using hi)⟩
    cases i with
    | zero =>
      rw [List.flatMap_cons, List.getElem?_append_left (by omega)]
      simp
    | succ i =>
      rw [List.flatMap_cons, List.getElem?_append_right (by omega), show 4 * (i + 1) + j - (cellsOf u).length = 4 * i + j by omega]
      have := ht.get i j (by simpa using hi) hj
      simpa using this

/-- v is a row of views of the call's own. -/
def OwnV (w : World) (B : Nat) (v : Value) (us : List Value) : Prop := w.ownsRow B 42 4 v us.length (us.flatMap cellsOf)
theorem ownV_nil (w : World) (B : Nat) : OwnV w B (.slice none 0 0) [] := World.ownsRow_nil _ _ _ _
theorem OwnV.shape {w : World} {B : Nat} {v : Value} {us : List Value} (h : OwnV w B v us) : ∃ a c, v = .slice a us.length c := by
  rcases h.2 with ⟨rfl, h0⟩ | ⟨g, cap, cur, rfl, _⟩
  · exact ⟨none, 0, by rw [h0]⟩
  · exact ⟨_, _, rfl⟩
theorem OwnV.below {w w' : World} {B : Nat} {v : Value} {us : List Value} (h : OwnV w B v us) (q : Kept w w') : OwnV w' B v us := by
  refine ⟨h.1, ?_⟩
  rcases h.2 with h | ⟨g, cap, cur, rfl, hb, hg, h1, h2, h3, h4⟩
  · exact .inl h
  · exact .inr ⟨g, cap, cur, rfl, hb, q.blk hg, h1, h2, h3, h4⟩
theorem OwnV.mono {w : World} {B B' : Nat} {v : Value} {us : List Value} (h : OwnV w B v us) (hB : B' ≤ B) : OwnV w B' v us := by
  refine ⟨h.1, ?_⟩
  rcases h.2 with h | ⟨g, cap, cur, rfl, hb, hg, h1, h2, h3, h4⟩
  · exact .inl h
  · exact .inr ⟨g, cap, cur, rfl, by omega, hg, h1, h2, h3, h4⟩
theorem OwnV.beside {w w' : World} {B : Nat} {u v : Value} {us : List Value} (h : OwnV w B v us) (ha : Apt u v) (hblk : ∀ b, b < w.heap.size → some b ≠ u.ownBlock → w'.heap[b]? = w.heap[b]?) : OwnV w' B v us := by
  refine ⟨h.1, ?_⟩
  rcases h.2 with h' | ⟨g, cap, cur, rfl, hb, hg, h1, h2, h3, h4⟩
  · exact .inl h'
  · refine .inr ⟨g, cap, cur, rfl, hb, ?_, h1, h2, h3, h4⟩
    rw [hblk g (lt_of_blk hg) (fun e => ha g e.symm rfl)]
    exact hg
theorem OwnV.setCell {w : World} {B : Nat} {v : Value} {us : List Value} (h : OwnV w B v us) (p : Addr) (hp : p.block < B) (u : Value) : OwnV (w.setCell p u) B v us := by
  refine ⟨h.1, ?_⟩
  rcases h.2 with h' | ⟨g, cap, cur, rfl, hb, hg, h1, h2, h3, h4⟩
  · exact .inl h'
  · exact .inr ⟨g, cap, cur, rfl, hb, (Below.heap_setCell _ _ _ _ (by omega)).trans hg, h1, h2, h3, h4⟩
theorem OwnV.cells {w : World} {B : Nat} {us : List Value} {a : Option Addr} {n c : Nat} (h : OwnV w B (.slice a n c) us) (hn : 0 < us.length) : ∃ b, a = some ⟨b, 0, none⟩ ∧ b < w.heap.size ∧ B ≤ b ∧ ∀ j u, (us.flatMap cellsOf)[j]? = some u → w.cell? ⟨b, j, none⟩ = some u := by
  rcases h.2 with ⟨e, h0⟩ | ⟨g, cap, cur, e, hb, hg, h1, h2, h3, h4⟩
  · omega
  · cases e
    refine ⟨g, rfl, lt_of_blk hg, hb, fun j u hj => ?_⟩
    have := World.ownsRow.cells h (g := g) rfl j u hj
    rw [Addr.add_lit] at this
    simpa using this

/-- The append of views (a slice of n of them at a) to a row of the call's own. -/
theorem appV (w : World) (B : Nat) (v : Value) (us : List Value) (h : OwnV w B v us) (a : Option Addr) (n c : Nat) (us' : List Value) (hl : us'.length = n) (hf : (us'.flatMap cellsOf).length = n * 4) (h1c : ∀ x ∈ us'.flatMap cellsOf, x.oneCell' = true)
    (hnone : a = none → n = 0 ∧ c = 0) (hc : ∀ ad, a = some ad → ∀ j u, (us'.flatMap cellsOf)[j]? = some u → w.cell? (ad.add j) = some u) (hn : us.length + n ≤ 1759218604441) (hB : B ≤ w.heap.size) :
    ∃ a' c' w', (Builtin.append_ #[40, 40] 40 #[v, .slice a n c]).run Tryz.prog w = .ok (.slice a' (us.length + n) c') w' ∧ OwnV w' B (.slice a' (us.length + n) c') (us ++ us') ∧ Below B w w' ∧
      (∀ b, b < w.heap.size → some b ≠ v.ownBlock → w'.heap[b]? = w.heap[b]?) ∧ ((Value.slice a' (us.length + n) c').ownBlock = v.ownBlock ∨ (Value.slice a' (us.length + n) c').ownBlock = some w.heap.size) := by
  obtain ⟨i0, hi, hz0, hz1, hz2⟩ := info_parts Tryz.info42
  cases a with
  | none =>
    obtain ⟨rfl, rfl⟩ := hnone rfl
    have hy : us' = [] := List.eq_nil_of_length_eq_zero hl
    subst hy
    obtain ⟨a', c', rfl⟩ := h.shape
    have hrun := run_append_owned_none (P := Tryz.prog) w B 40 40 42 i0 4 Tryz.underlying40' hi _ us.length _ h
    exact ⟨a', c', w, by simpa using hrun, by simpa using h, Below.refl _ _, fun _ _ _ => rfl, .inl (by simp)⟩
  | some ad =>
    obtain ⟨v', w', hr, h2, h3, h4, h5⟩ := run_append_own_at (P := Tryz.prog) w B 40 40 42 i0 (.agg #[.int .u64 0, .slice none 0 0, .slice none 0 0, .slice none 0 0]) 4 80 Tryz.underlying40' hi hz0 hz1 hz2 rfl (by decide) v us.length _ h ad n c (us'.flatMap cellsOf) hf
      (hc ad rfl) h1c (by unfold maxLen; omega) (by omega) hB
    have h2' : OwnV w' B v' (us ++ us') := by
      unfold OwnV
      rw [List.flatMap_append, List.length_append, hl]
      exact h2
    obtain ⟨a', c', hv⟩ := h2'.shape
    rw [List.length_append, hl] at hv
    subst hv
    exact ⟨a', c', w', hr, h2', (Below.refl B w).grown h3 hB (fun k e => (h.lt k e).1), fun b hb hne => h3.block b hb hne, h5⟩

theorem wpList_appV {ops : Array Oper} {rest : List Oper} {o : Oper} {ac : Act} {Q : Exit → Act → World → Prop} (hgd : o.guard = none) (s x : Operand)
    (ho : o.op = .call { callee := .builtin .append, args := #[s, x], argTypes := #[40, 40] }) (hty : o.type = 40)
    (w : World) (B : Nat) (v : Value) (us : List Value) (a : Option Addr) (n c : Nat) (us' : List Value) (h : OwnV w B v us) (hl : us'.length = n) (hf : (us'.flatMap cellsOf).length = n * 4) (h1c : ∀ x ∈ us'.flatMap cellsOf, x.oneCell' = true)
    (hnone : a = none → n = 0 ∧ c = 0) (hc : ∀ ad, a = some ad → ∀ j u, (us'.flatMap cellsOf)[j]? = some u → w.cell? (ad.add j) = some u) (hn : us.length + n ≤ 1759218604441) (hB : B ≤ w.heap.size) (hs : ac.eval s = v) (hx : ac.eval x = .slice a n c)
    (K : ∀ a' c' w', Hid (OwnV w' B (.slice a' (us.length + n) c') (us ++ us')) → Hid (Below B w w') → Hid (∀ b, b < w.heap.size → some b ≠ v.ownBlock → w'.heap[b]? = w.heap[b]?) → Hid ((Value.slice a' (us.length + n) c').ownBlock = v.ownBlock ∨ (Value.slice a' (us.length + n) c').ownBlock = some w.heap.size) → wpList Tryz.prog ops Q rest (ac.put o.dst (.slice a' (us.length + n) c')) w') :
    wpList Tryz.prog ops Q (o :: rest) ac w := by
  obtain ⟨a', c', w', hr, h1, h2, h3, h4⟩ := appV w B v us h a n c us' hl hf h1c hnone hc hn hB
  refine wpList_plain hgd fun _ hK => ?_
  unfold Oper.wp execOp
  simp only [ho, hty, resolve, invoke, builtin, Sem.run_bind, Sem.run_pure, Result.andThen_ok, List.map_toArray, List.map_cons, List.map_nil, hs, hx, hr]
  exact hK _ _ (K a' c' w' h1 h2 h3 h4)

end Go.Proofs.Qxb6616331aGreatDoor
