/-
  THE WALKS of seat b6616331aZD, X9: the three statements that call ZZtally (each draws its order).
-/
import Derived.Test.Qxb6616331aGreatDoorX8
import Derived.NoCompiler
namespace Go.Proofs.Qxb6616331aGreatDoor
open Go.RowKit
set_option linter.unusedVariables false
set_option linter.unusedSimpArgs false
set_option linter.unnecessarySimpa false
set_option maxRecDepth 40000

/-- FrzIs, with the blocks of its two rows below E. -/
def FrzIn (B E : Nat) (w' : World) (v : Value) (T : Tal) : Prop := ∃ az cz m vb us vu ut l0 l1 l2 l3, v = .agg #[.slice az (setP (T.pairs.map (·.1))).length cz, .map (some m), vb, .bool T.forgot, vu, l0, l1, l2, l3] ∧
  IsL w' az (setP (T.pairs.map (·.1))).length (setP (T.pairs.map (·.1))) ∧ IsMp w' m T.pairs ∧ OwnV w' B vb us ∧ AllV w' (fun _ => False) us T.before ∧ OwnV w' B vu ut ∧ AllV w' (fun _ => False) ut T.unsure ∧ IsV w' (.agg #[l0, l1, l2, l3]) T.larger ∧ (∀ g, vb.ownBlock = some g → g < E) ∧ (∀ g, vu.ownBlock = some g → g < E)
theorem OwnV.own {w : World} {B : Nat} {v : Value} {us : List Value} (h : OwnV w B v us) : ∀ g, v.ownBlock = some g → B ≤ g ∧ g < w.heap.size := by
  intro g e
  rcases h.2 with ⟨rfl, -⟩ | ⟨g', cap, cur, rfl, hg, k2, -⟩
  · cases e
  · cases e
    exact ⟨hg, lt_of_blk k2⟩
theorem OwnV.at {w w' : World} {B : Nat} {v : Value} {us : List Value} (h : OwnV w B v us) (hb : ∀ g, v.ownBlock = some g → w'.heap[g]? = w.heap[g]?) : OwnV w' B v us := by
  refine ⟨h.1, ?_⟩
  rcases h.2 with h' | ⟨g, cap, cur, rfl, hg, k2, k3, k4, k5, k6⟩
  · exact .inl h'
  · exact .inr ⟨g, cap, cur, rfl, hg, (hb g rfl).trans k2, k3, k4, k5, k6⟩
theorem FrzIs.toIn {w : World} {B : Nat} {v : Value} {T : Tal} (H : FrzIs B w v T) : FrzIn B w.heap.size w v T := by
  obtain ⟨az, cz, m, vb, us, vu, ut, l0, l1, l2, l3, e, f1, f2, f3, f4, f5, f6, f7⟩ := H
  exact ⟨az, cz, m, vb, us, vu, ut, l0, l1, l2, l3, e, f1, f2, f3, f4, f5, f6, f7, fun g e => (f3.own g e).2, fun g e => (f5.own g e).2⟩
theorem FrzIn.is {w : World} {B E : Nat} {v : Value} {T : Tal} (H : FrzIn B E w v T) : FrzIs B w v T := by
  obtain ⟨az, cz, m, vb, us, vu, ut, l0, l1, l2, l3, e, f1, f2, f3, f4, f5, f6, f7, -, -⟩ := H
  exact ⟨az, cz, m, vb, us, vu, ut, l0, l1, l2, l3, e, f1, f2, f3, f4, f5, f6, f7⟩
theorem FrzIn.kept {w w' : World} {B E : Nat} {v : Value} {T : Tal} (H : FrzIn B E w v T) (q : Kept w w') : FrzIn B E w' v T := by
  obtain ⟨az, cz, m, vb, us, vu, ut, l0, l1, l2, l3, e, f1, f2, f3, f4, f5, f6, f7, f8, f9⟩ := H
  exact ⟨az, cz, m, vb, us, vu, ut, l0, l1, l2, l3, e, f1.kept q, f2.kept q, f3.below q, f4.kept q, f5.below q, f6.kept q, f7.kept q, f8, f9⟩
theorem FrzIn.aside {w Y : World} {x B E : Nat} {v : Value} {T : Tal} (H : FrzIn B E w v T) (h : Aside w Y x x) (hx : x < B ∨ E ≤ x) : FrzIn B E Y v T := by
  obtain ⟨az, cz, m, vb, us, vu, ut, l0, l1, l2, l3, e, f1, f2, f3, f4, f5, f6, f7, f8, f9⟩ := H
  exact ⟨az, cz, m, vb, us, vu, ut, l0, l1, l2, l3, e, f1.aside h, f2.aside h, f3.at (fun g e => h.same g (by have := (f3.own g e).1; have := f8 g e; omega) (by have := (f3.own g e).1; have := f8 g e; omega)), f4.aside h, f5.at (fun g e => h.same g (by have := (f5.own g e).1; have := f9 g e; omega) (by have := (f5.own g e).1; have := f9 g e; omega)), f6.aside h, f7.aside h, f8, f9⟩

/-- The first value that ZZtally gives. -/
def RF (B E : Nat) (w : World) (v : Value) : Tal ⊕ View → Prop
  | .inl T => FrzIn B E w v T
  | .inr _ => v = zeroFrz
/-- The second. -/
def RW (w : World) (v : Value) : Tal ⊕ View → Prop
  | .inl _ => v = zeroVw
  | .inr V => IsV w v V
theorem RetT2.split {B : Nat} {w : World} {v v' : Value} {R : Tal ⊕ View} (h : RetT2 B w v v' R) : RF B w.heap.size w v R ∧ RW w v' R := by
  cases R with
  | inl T => exact ⟨h.2.toIn, h.1⟩
  | inr V => exact ⟨h.1, h.2⟩
theorem RF.kept {w w' : World} {B E : Nat} {v : Value} {R : Tal ⊕ View} (H : RF B E w v R) (q : Kept w w') : RF B E w' v R := by
  cases R with
  | inl T => exact FrzIn.kept H q
  | inr V => exact H
theorem RW.kept {w w' : World} {v : Value} {R : Tal ⊕ View} (H : RW w v R) (q : Kept w w') : RW w' v R := by
  cases R with
  | inl T => exact H
  | inr V => exact IsV.kept H q
theorem RF.aside {w Y : World} {x B E : Nat} {v : Value} {R : Tal ⊕ View} (H : RF B E w v R) (h : Aside w Y x x) (hx : x < B ∨ E ≤ x) : RF B E Y v R := by
  cases R with
  | inl T => exact FrzIn.aside H h hx
  | inr V => exact H
theorem RW.aside {w Y : World} {x : Nat} {v : Value} {R : Tal ⊕ View} (H : RW w v R) (h : Aside w Y x x) : RW Y v R := by
  cases R with
  | inl T => exact H
  | inr V => exact IsV.aside H h
/-- How a value of type freezing lies. -/
structure FL where
  a0 : Option Addr
  n0 : Nat
  c0 : Nat
  m : Option Nat
  a2 : Option Addr
  n2 : Nat
  c2 : Nat
  b : Bool
  a4 : Option Addr
  n4 : Nat
  c4 : Nat
  l : VL
abbrev FL.arr (f : FL) : Array Value := #[.slice f.a0 f.n0 f.c0, .map f.m, .slice f.a2 f.n2 f.c2, .bool f.b, .slice f.a4 f.n4 f.c4, .int .u64 f.l.N, .slice f.l.ab f.l.nb f.l.cb, .slice f.l.al f.l.nl f.l.cl, .slice f.l.ac f.l.nc f.l.cc]
abbrev FL.val (f : FL) : Value := .agg f.arr
theorem RF.fl {w : World} {B E : Nat} {v : Value} {R : Tal ⊕ View} (H : RF B E w v R) : ∃ f : FL, v = f.val := by
  cases R with
  | inl T =>
    obtain ⟨az, cz, m, vb, us, vu, ut, l0, l1, l2, l3, rfl, f1, f2, f3, f4, f5, f6, f7, -, -⟩ := H
    obtain ⟨x1, y1, rfl⟩ := f3.shape
    obtain ⟨x2, y2, rfl⟩ := f5.shape
    obtain ⟨l, e, -⟩ := f7.vl
    have e' : #[l0, l1, l2, l3] = l.arr := Value.agg.inj e
    simp only [VL.arr, Array.mk.injEq, List.cons.injEq, and_true] at e'
    obtain ⟨rfl, rfl, rfl, rfl⟩ := e'
    exact ⟨⟨_, _, _, _, _, _, _, _, _, _, _, l⟩, rfl⟩
  | inr V => exact ⟨⟨none, 0, 0, none, none, 0, 0, false, none, 0, 0, ⟨0, none, 0, 0, none, 0, 0, none, 0, 0⟩⟩, H⟩
theorem RW.vl {w : World} {v : Value} {R : Tal ⊕ View} (H : RW w v R) : ∃ l : VL, v = l.val := by
  cases R with
  | inl T => exact ⟨⟨0, none, 0, 0, none, 0, 0, none, 0, 0⟩, H⟩
  | inr V => obtain ⟨l, e, -⟩ := IsV.vl H; exact ⟨l, e⟩

abbrev zero9 : Array Value := #[.slice none 0 0, .map none, .slice none 0 0, .bool false, .slice none 0 0, .int .u64 0, .slice none 0 0, .slice none 0 0, .slice none 0 0]
abbrev zero4 : Array Value := #[.int .u64 0, .slice none 0 0, .slice none 0 0, .slice none 0 0]

theorem ld_ne {l : Array Bool} {i j : Nat} (hne : i ≠ j) (h : (l.setIfInBounds i true).getD j false = true) : l.getD j false = true := by
  rw [getD_set_bool, if_neg (fun e => hne e.1)] at h
  exact h
theorem ld_ne' {l : Array Bool} {i j : Nat} (hne : i ≠ j) (h : l.getD j false = false) : (l.setIfInBounds i true).getD j false = false := by
  rw [getD_set_bool, if_neg (fun e => hne e.1)]
  exact h

section
variable {ops : Array Oper} {Q : Exit → Act → World → Prop}
/-- The law of X0 with the table of what each operation waits for. -/
theorem wpAny_inv2 {T : List (List Nat)} (tab : Region.tabAfter .any ops = T) (hT : (List.range T.length).all (fun i => (T.getD i []).all (fun j => decide (j < i))) = true)
    (I : Array Bool → Act → World → Prop) (hsz : ∀ l a w, I l a w → l.size = ops.size)
    (hstep : ∀ l a w i, i < ops.size → I l a w → l.getD i false = false → (∀ j ∈ T.getD i [], l.getD j false = true) → wpOp Tryz.prog ops Q i (fun a' w' => I (l.setIfInBounds i true) a' w') a w)
    (hdone : ∀ l a w, I l a w → (∀ i, i < ops.size → l.getD i false = true) → Q .normal a w) :
    ∀ fuel l a w, leftOf ops.size l ≤ fuel → I l a w → wpAny Tryz.prog .any ops Q fuel l a w := by
  have key : ∀ i o, ops[i]? = some o → T.getD i [] = (o.after.toList.filter (Region.binds .any)).map (·.on) := by
    intro i o ho
    rw [← tab]
    unfold Region.tabAfter
    rw [List.getD_eq_getElem?_getD, List.getElem?_map, Array.getElem?_toList, ho]
    rfl
  refine wpAny_inv I hsz ?_ ?_ hdone
  · intro i o ho e he hb
    have hm : e.on ∈ T.getD i [] := by
      rw [key i o ho]
      exact List.mem_map.2 ⟨e, List.mem_filter.2 ⟨Array.mem_toList_iff.2 he, hb⟩, rfl⟩
    have hi : i < T.length := by
      rcases Nat.lt_or_ge i T.length with h | h
      · exact h
      · rw [List.getD_eq_getElem?_getD, List.getElem?_eq_none h] at hm; cases hm
    have h1 := List.all_eq_true.1 hT i (List.mem_range.2 hi)
    have h2 := List.all_eq_true.1 h1 _ hm
    simpa using h2
  · intro l a w i o hI ho h1 h2
    have hi : i < ops.size := (Array.getElem?_eq_some_iff.1 ho).1
    refine hstep l a w i hi hI ?_ (fun j hj => ?_)
    · have hl : i < l.size := by rw [hsz l a w hI]; exact hi
      simp only [Array.getD_eq_getD_getElem?, Array.getElem?_eq_getElem hl, Option.getD_some] at h1 ⊢
      exact h1
    · rw [key i o ho] at hj
      obtain ⟨e, he, rfl⟩ := List.mem_map.1 hj
      have := List.mem_filter.1 he
      exact h2 e (Array.mem_toList_iff.1 this.1) this.2
end

end Go.Proofs.Qxb6616331aGreatDoor
