/-
  THE WALKS of seat b6616331aZD, X0: a region that draws its order, by an invariant over what is done; frames said slot by slot.
-/
import Derived.Test.Qxb6616331aGreatDoorY6
import Derived.Test.Qxb6616331aGreatDoorY9
namespace Go.Proofs.Qxb6616331aGreatDoor
open Go.RowKit
set_option linter.unusedVariables false
set_option linter.unusedSimpArgs false
set_option linter.unnecessarySimpa false
set_option maxRecDepth 40000

section
variable {P : Program} {md : Region.Mode} {ops : Array Oper} {Q : Exit → Act → World → Prop}

/-- How many operations are not done yet. -/
def leftOf (n : Nat) (listed : Array Bool) : Nat := ((List.range n).filter (fun i => !listed.getD i true)).length
theorem filter_less {α : Type} (p q : α → Bool) : ∀ (l : List α), (∀ x ∈ l, q x = true → p x = true) → (l.filter q).length ≤ (l.filter p).length
  | [], _ => Nat.le_refl _
  | x :: l, h => by
    have ih := filter_less p q l (fun y hy => h y (List.mem_cons_of_mem _ hy))
    have hx := h x List.mem_cons_self
    simp only [List.filter_cons]
    cases hq : q x
    · cases hp : p x <;> simp <;> omega
    · rw [hx hq]; simp; omega
theorem filter_lt {α : Type} (p q : α → Bool) : ∀ (l : List α), (∀ x ∈ l, q x = true → p x = true) → (∃ x ∈ l, p x = true ∧ q x = false) → (l.filter q).length < (l.filter p).length
  | [], _, ⟨x, hx, _⟩ => by cases hx
  | x :: l, h, ⟨y, hy, hp, hq⟩ => by
    have hl := fun z hz => h z (List.mem_cons_of_mem _ hz)
    rcases List.mem_cons.1 hy with rfl | hy
    · have := filter_less p q l hl
      simp only [List.filter_cons, hp, hq]
      simp
      omega
    · have ih := filter_lt p q l hl ⟨y, hy, hp, hq⟩
      have hx := h x List.mem_cons_self
      simp only [List.filter_cons]
      cases hqx : q x
      · cases hpx : p x <;> simp <;> omega
      · rw [hx hqx]; simp; omega
theorem getD_set_bool (l : Array Bool) (i j : Nat) (d : Bool) : (l.setIfInBounds i true).getD j d = if i = j ∧ i < l.size then true else l.getD j d := by
  simp only [Array.getD_eq_getD_getElem?, Array.getElem?_setIfInBounds]
  by_cases h : i = j
  · subst h
    by_cases h2 : i < l.size
    · simp [h2]
    · simp [h2]
  · simp [h]
theorem left_set (n : Nat) (listed : Array Bool) (i : Nat) (hi : i < n) (h : listed.getD i true = false) : leftOf n (listed.setIfInBounds i true) < leftOf n listed := by
  have hs : i < listed.size := by
    by_cases hs : i < listed.size
    · exact hs
    · simp [Array.getD_eq_getD_getElem?, hs] at h
  refine filter_lt _ _ _ ?_ ⟨i, List.mem_range.2 hi, by rw [h]; rfl, ?_⟩
  · intro x _ hx
    rw [getD_set_bool] at hx
    by_cases e : i = x ∧ i < listed.size
    · rw [if_pos e] at hx; cases hx
    · rw [if_neg e] at hx; exact hx
  · rw [getD_set_bool, if_pos ⟨rfl, hs⟩]; rfl

/-- Each operation waits for earlier ones alone. -/
def Back (md : Region.Mode) (ops : Array Oper) : Prop := ∀ i o, ops[i]? = some o → ∀ e ∈ o.after, Region.binds md e = true → e.on < i
theorem all_listed (hb : Back md ops) {listed : Array Bool} (hs : listed.size = ops.size) (h : Region.ready md ops listed = []) : ∀ i, i < ops.size → listed.getD i false = true := by
  intro i
  induction i using Nat.strongRecOn with
  | _ i ih =>
    intro hi
    have hl : i < listed.size := by omega
    cases e : listed.getD i false with
    | true => rfl
    | false =>
      exfalso
      have he : listed.getD i true = false := by
        simp [Array.getD_eq_getD_getElem?, hl] at e ⊢; exact e
      have hm : i ∈ Region.ready md ops listed := mem_ready.2 ⟨he, ops[i], by simp [hi], fun ed hed hbd => ih ed.on (hb i _ (by simp [hi]) ed hed hbd) (by have := hb i _ (by simp [hi]) ed hed hbd; omega)⟩
      rw [h] at hm
      cases hm

/-- THE LAW: what holds at the start and is kept by each operation that may come up holds when all is done. -/
theorem wpAny_inv (I : Array Bool → Act → World → Prop) (hsz : ∀ l a w, I l a w → l.size = ops.size) (hb : Back md ops)
    (hstep : ∀ l a w i o, I l a w → ops[i]? = some o → l.getD i true = false → (∀ e ∈ o.after, Region.binds md e = true → l.getD e.on false = true) → wpOp P ops Q i (fun a' w' => I (l.setIfInBounds i true) a' w') a w)
    (hdone : ∀ l a w, I l a w → (∀ i, i < ops.size → l.getD i false = true) → Q .normal a w) :
    ∀ fuel l a w, leftOf ops.size l ≤ fuel → I l a w → wpAny P md ops Q fuel l a w := by
  intro fuel
  induction fuel with
  | zero =>
    intro l a w hf hI
    have hr : Region.ready md ops l = [] := by
      refine List.eq_nil_iff_forall_not_mem.2 (fun i hi => ?_)
      obtain ⟨h1, o, ho, -⟩ := mem_ready.1 hi
      have := left_set ops.size l i (Array.getElem?_eq_some_iff.1 ho).1 h1
      omega
    exact ⟨hr, hdone l a w hI (all_listed hb (hsz l a w hI) hr)⟩
  | succ fuel ih =>
    intro l a w hf hI
    refine ⟨fun hr => hdone l a w hI (all_listed hb (hsz l a w hI) hr), fun i hi => ?_⟩
    obtain ⟨h1, o, ho, h2⟩ := mem_ready.1 hi
    refine wpOp_mono (fun a' w' h => ?_) (hstep l a w i o hI ho h1 h2)
    have := left_set ops.size l i (Array.getElem?_eq_some_iff.1 ho).1 h1
    exact ih _ a' w' (by omega) h

theorem wpOp_value {i : Nat} {o : Oper} {K : Act → World → Prop} {a : Act} {w w' : World} {v : Value} (ho : ops[i]? = some o) (hg : o.guard = none) (hr : (execOp a.eval o).run P w = .ok (.value v) w') (h : K (a.put o.dst v) w') : wpOp P ops Q i K a w := by
  refine wpOp_step ho (fun K' hK => ?_)
  have hw : Region.wanted o (yielded ops a.tmps) = true := by unfold Region.wanted; rw [hg]
  rw [if_pos hw]
  unfold Oper.wp
  rw [hr]
  exact hK _ _ h
theorem wpOp_skip {i : Nat} {o : Oper} {K : Act → World → Prop} {a : Act} {w w' : World} (ho : ops[i]? = some o) (hg : o.guard = none) (hd : o.dst = none) (hr : (execOp a.eval o).run P w = .ok .skip w') (h : K a w') : wpOp P ops Q i K a w := by
  refine wpOp_step ho (fun K' hK => ?_)
  have hw : Region.wanted o (yielded ops a.tmps) = true := by unfold Region.wanted; rw [hg]
  rw [if_pos hw]
  unfold Oper.wp
  rw [hr]
  show K' (a.put o.dst undef) w'
  rw [hd]
  exact hK _ _ h
theorem wpOp_call {i : Nat} {o : Oper} {K : Act → World → Prop} {a : Act} {w : World} {f : FuncId} {args : Array Value} {post : Ending → World → Prop} (ho : ops[i]? = some o) (hg : o.guard = none) (hr : (execOp a.eval o).run P w = .ok (.enter f args) w) (hc : Calls P f args w post)
    (h : ∀ e w', post e w' → ∃ v, e = .returned v ∧ K (a.put o.dst v) w') : wpOp P ops Q i K a w := by
  refine wpOp_step ho (fun K' hK => ?_)
  have hw : Region.wanted o (yielded ops a.tmps) = true := by unfold Region.wanted; rw [hg]
  rw [if_pos hw]
  unfold Oper.wp
  rw [hr]
  refine hc.mono ?_
  intro e w' hp
  obtain ⟨v, rfl, hk⟩ := h e w' hp
  exact hK _ _ hk
end

/-- What the slot holds. -/
def rd (a : Act) (k : Nat) : Value := a.tmps.getD k undef
theorem eval_tmp (a : Act) (k : Nat) : a.eval (.tmp k) = rd a k := rfl
theorem rd_put_ne (a : Act) (d k : Nat) (v : Value) (h : d ≠ k) : rd (a.put (some d) v) k = rd a k := by
  simp [rd, Act.put, Array.getD_eq_getD_getElem?, Array.getElem?_setIfInBounds, h]
theorem rd_put_self (a : Act) (d : Nat) (v : Value) (h : d < a.tmps.size) : rd (a.put (some d) v) d = v := by
  simp [rd, Act.put, Array.getD_eq_getD_getElem?, Array.getElem?_setIfInBounds, h]
theorem size_put (a : Act) (d : Nat) (v : Value) : (a.put (some d) v).tmps.size = a.tmps.size := by simp [Act.put]
/-- But for the slots hs the frame is as it was. -/
structure Off (hs : List Nat) (a0 a : Act) : Prop where
  size : a.tmps.size = a0.tmps.size
  defers : a.defers = a0.defers
  same : ∀ k, k ∉ hs → rd a k = rd a0 k
theorem Off.refl (hs : List Nat) (a : Act) : Off hs a a := ⟨rfl, rfl, fun _ _ => rfl⟩
theorem Off.put {hs : List Nat} {a0 a : Act} (h : Off hs a0 a) (d : Nat) (v : Value) (hd : d ∈ hs) : Off hs a0 (a.put (some d) v) :=
  ⟨(size_put a d v).trans h.size, h.defers, fun k hk => (rd_put_ne a d k v (fun e => hk (e ▸ hd))).trans (h.same k hk)⟩
/-- The frame with the slots hs laid as r says. -/
def lays (r : Nat → Value) : List Nat → Act → Act
  | [], a => a
  | k :: ks, a => lays r ks (a.put (some k) (r k))
theorem lays_size (r : Nat → Value) : ∀ (hs : List Nat) (a : Act), (lays r hs a).tmps.size = a.tmps.size
  | [], a => rfl
  | k :: ks, a => by rw [lays, lays_size r ks, size_put]
theorem lays_defers (r : Nat → Value) : ∀ (hs : List Nat) (a : Act), (lays r hs a).defers = a.defers
  | [], a => rfl
  | k :: ks, a => by rw [lays, lays_defers r ks]; rfl
theorem lays_rd (r : Nat → Value) : ∀ (hs : List Nat) (a : Act), (∀ k ∈ hs, k < a.tmps.size) → ∀ k, rd (lays r hs a) k = if k ∈ hs then r k else rd a k
  | [], a, _, k => by simp [lays]
  | d :: ks, a, h, k => by
    rw [lays, lays_rd r ks _ (fun j hj => by rw [size_put]; exact h j (List.mem_cons_of_mem _ hj))]
    by_cases h1 : k ∈ ks
    · rw [if_pos h1, if_pos (List.mem_cons_of_mem _ h1)]
    · rw [if_neg h1]
      by_cases h2 : d = k
      · subst h2
        rw [rd_put_self a d _ (h d List.mem_cons_self), if_pos List.mem_cons_self]
      · rw [rd_put_ne a d k _ h2, if_neg (fun hm => by rcases List.mem_cons.1 hm with e | e; exact h2 e.symm; exact h1 e)]
theorem Off.eq {hs : List Nat} {a0 a : Act} (h : Off hs a0 a) (hlt : ∀ k ∈ hs, k < a0.tmps.size) : a = lays (rd a) hs a0 := by
  have hr := lays_rd (rd a) hs a0 hlt
  have hz := lays_size (rd a) hs a0
  have hd := lays_defers (rd a) hs a0
  generalize lays (rd a) hs a0 = b at hr hz hd
  obtain ⟨t, d⟩ := a
  obtain ⟨t', d'⟩ := b
  have e2 : d = d' := h.defers.trans hd.symm
  subst e2
  congr 1
  have e1 : t.size = t'.size := h.size.trans hz.symm
  refine Array.ext e1 (fun i h1 h2 => ?_)
  have hi := hr i
  have hs' := h.same i
  simp only [rd, Array.getD_eq_getD_getElem?] at hi hs'
  by_cases hm : i ∈ hs
  · rw [if_pos hm] at hi
    simpa [h1, h2] using hi.symm
  · rw [if_neg hm] at hi
    have := (hs' hm).trans hi.symm
    simpa [h1, h2] using this

end Go.Proofs.Qxb6616331aGreatDoor
