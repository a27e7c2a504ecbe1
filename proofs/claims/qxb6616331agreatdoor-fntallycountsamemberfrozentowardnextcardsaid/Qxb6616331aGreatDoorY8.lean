/-
  THE PLAIN LAW of seat b6616331aZD, Y8: the view of a view's list; one answer more; bounds on what tally finds.
-/
import Derived.Test.Qxb6616331aGreatDoorY3
namespace Go.Proofs.Qxb6616331aGreatDoor
open Go.RowKit
set_option linter.unusedVariables false
set_option linter.unusedSimpArgs false
set_option linter.unnecessarySimpa false

theorem raw_base : ∀ (xs : List Str) (R : View), (xs.map (fun x => (61 : UInt8) :: x)).foldl rawStep R = ⟨R.count, R.base ++ xs, R.last, R.changes⟩
  | [], R => by simp
  | x :: xs, R => by
    rw [List.map_cons, List.foldl_cons, raw_base xs]
    simp [rawStep]
theorem raw_last : ∀ (xs : List Str) (R : View), (xs.map (fun x => (126 : UInt8) :: x)).foldl rawStep R = ⟨R.count, R.base, R.last ++ xs, R.changes⟩
  | [], R => by simp
  | x :: xs, R => by
    rw [List.map_cons, List.foldl_cons, raw_last xs]
    simp [rawStep]
theorem raw_plain : ∀ (xs : List Str) (R : View), (∀ x ∈ xs, Plain x) → xs.foldl rawStep R = ⟨R.count, R.base, R.last, R.changes ++ xs⟩
  | [], R, _ => by simp
  | x :: xs, R, h => by
    rw [List.foldl_cons, raw_plain xs _ (fun y hy => h y (List.mem_cons_of_mem _ hy))]
    have hx := h x List.mem_cons_self
    cases x with
    | nil => simp [rawStep]
    | cons c t =>
      obtain ⟨h1, h2, h3⟩ := hx c t rfl
      simp [rawStep, h1, h2, h3]
/-- The list form of a view. -/
def listP (X : View) (N k : Nat) : List Str := [(64 : UInt8) :: hexK N k] ++ X.base.map (fun x => 61 :: x) ++ X.last.map (fun x => 126 :: x) ++ X.changes
theorem newView_list (X : View) (N k : Nat) (hN : X.count = (N : Int)) (h1 : 1 ≤ k) (h2 : k ≤ 16) (h3 : N < 16 ^ k) (h64 : N < 18446744073709551616) (ab : Asc X.base) (al : Asc X.last) (ac : Asc X.changes) (hp : ∀ x ∈ X.changes, Plain x) : newViewP (listP X N k) = X := by
  have e : rawP (listP X N k) = X := by
    unfold rawP listP
    rw [List.foldl_append, List.foldl_append, List.foldl_append, raw_base, raw_last, raw_plain _ _ hp]
    simp [rawStep, zeroV, parseP_hex N k h1 h2 h3 h64]
    rw [← hN]
  unfold newViewP
  rw [e, setP_of_up (asc_up ab), setP_of_up (asc_up al), setP_of_up (asc_up ac)]
theorem listP_len (X : View) (N k : Nat) : (listP X N k).length = 1 + X.base.length + X.last.length + X.changes.length := by simp [listP]; omega
theorem listP_str (X : View) (N k : Nat) (hk : k ≤ 16) (m : Nat) (hm : 16 ≤ m) (hb : ∀ q, q < X.base.length → (X.base.getD q []).length ≤ m) (hl : ∀ q, q < X.last.length → (X.last.getD q []).length ≤ m) (hc : ∀ q, q < X.changes.length → (X.changes.getD q []).length ≤ m) (j : Nat) (hj : j < (listP X N k).length) : ((listP X N k).getD j []).length ≤ m + 1 := by
  have mem : ∀ x ∈ listP X N k, x.length ≤ m + 1 := by
    intro x hx
    have toMem : ∀ {l : List Str}, (∀ q, q < l.length → (l.getD q []).length ≤ m) → ∀ y ∈ l, y.length ≤ m := fun {l} h y hy => by
      obtain ⟨q, hq, rfl⟩ := List.getElem_of_mem hy
      have := h q hq
      rwa [List.getD_eq_getElem?_getD, List.getElem?_eq_getElem hq] at this
    simp only [listP, List.mem_append, List.mem_map, List.mem_singleton] at hx
    rcases hx with ((rfl | ⟨y, hy, rfl⟩) | ⟨y, hy, rfl⟩) | hy
    · rw [List.length_cons, hexK_length]; omega
    · rw [List.length_cons]; exact Nat.succ_le_succ (toMem hb y hy)
    · rw [List.length_cons]; exact Nat.succ_le_succ (toMem hl y hy)
    · exact Nat.le_succ_of_le (toMem hc x hy)
  rw [List.getD_eq_getElem?_getD, List.getElem?_eq_getElem hj]
  exact mem _ (List.getElem_mem hj)

/-- The answer that the law adds. -/
def extraA (j : Int) (l : List Str) (fz kn : Bool) (mark : Str) : Ans := ⟨j, [], l, fz, [], kn, mark, [], false, false, false⟩
theorem contains_zero (F : View) : containsP F (newViewP []) = true := by
  have : (newViewP []).none = true := rfl
  unfold containsP
  rw [if_pos this]
theorem equal_self (V : View) : equalP V V = true := by simp [equalP]
theorem between_nil (F N : View) : betweenP F N [] = [] := rfl
/-- What one counted answer more turns. -/
def tPlus (T : Tal) (m mark : Str) (fg : Bool) : Tal := ⟨T.pairs ++ [(m, mark)], T.before, T.forgot || fg, T.unsure, T.larger⟩
theorem tGo_extra (F X : View) (tos : List Str) (j : Int) (l : List Str) (fz kn : Bool) (mark : Str) (hl : newViewP l = X) (T : Tal) : tGo F X tos [extraA j l fz kn mark] T = .inl (tPlus T (tos.getD j.toNat []) mark (fz && !kn)) := by
  unfold tGo
  rw [if_pos (show containsP F (newViewP (extraA j l fz kn mark).view) = true from contains_zero F)]
  rw [if_pos (show equalP (newViewP (extraA j l fz kn mark).next) X = true by show equalP (newViewP l) X = true; rw [hl]; exact equal_self X)]
  unfold tGo tTake tPlus
  simp [extraA, between_nil]
theorem tGo_more (F X : View) (tos : List Str) (As : List Ans) (j : Int) (l : List Str) (fz kn : Bool) (mark : Str) (hl : newViewP l = X) (T : Tal) : tGo F X tos (As ++ [extraA j l fz kn mark]) T = match tGo F X tos As T with
    | .inl T' => .inl (tPlus T' (tos.getD j.toNat []) mark (fz && !kn))
    | .inr V => .inr V := by
  rw [tGo_append]
  cases tGo F X tos As T with
  | inl T' => exact tGo_extra F X tos j l fz kn mark hl T'
  | inr V => rfl

/-- Wide bounds on a view. -/
structure Wide (V : View) : Prop where
  base : V.base.length ≤ 4194304
  last : V.last.length ≤ 4194304
  changes : V.changes.length ≤ 4398046511104
theorem Mid.wide {V : View} (h : Mid V) : Wide V := ⟨h.base, h.last, Nat.le_trans h.changes (by decide)⟩
/-- Bounds on what tally has found. -/
structure FinT (T : Tal) : Prop where
  p : T.pairs.length ≤ 1048577
  b : T.before.length ≤ 1099511627776
  u : T.unsure.length ≤ 1099511627776
  bm : ∀ V ∈ T.before, Mid V
  um : ∀ V ∈ T.unsure, Mid V
  l : Wide T.larger

theorem between_mid (F X : View) (ls : List (List Str)) (h : ∀ i, i < ls.length → (ls.getD i []).length ≤ 4194304) : ∀ V ∈ betweenP F X ls, Mid V := by
  intro V hV
  have hV' := (List.mem_filter.1 hV).1
  obtain ⟨l, hl, rfl⟩ := List.mem_map.1 hV'
  obtain ⟨q, hq, rfl⟩ := List.getElem_of_mem hl
  have := h q hq
  rw [List.getD_eq_getElem?_getD, List.getElem?_eq_getElem hq] at this
  exact length_foldl_mid _ this
theorem union_base (V O : View) : (unionP V O).base = V.base ∨ (unionP V O).base = O.base := by
  unfold unionP joinP withP
  repeat' split
  all_goals first | exact .inl rfl | exact .inr rfl
structure InvT (k : Nat) (T : Tal) : Prop where
  ok : OkT k T
  bm : ∀ V ∈ T.before, Mid V
  um : ∀ V ∈ T.unsure, Mid V
  lb : T.larger.base.length ≤ 4194304
theorem InvT.take {k nt : Nat} {T : Tal} {A : Ans} (h : InvT k T) (hA : OkA nt A) (F N : View) (tos : List Str) : InvT (k + 1) (tTake F N tos T A) :=
  ⟨h.ok.take hA F N tos, fun V hV => by
    rcases List.mem_append.1 hV with h1 | h1
    · exact h.bm V h1
    · exact between_mid F N _ (fun i hi => (hA.bs i hi).1) V h1, fun V hV => by
    rcases List.mem_append.1 hV with h1 | h1
    · exact h.um V h1
    · exact between_mid F N _ (fun i hi => (hA.us i hi).1) V h1, h.lb⟩
theorem InvT.join {k nt : Nat} {T : Tal} {A : Ans} (h : InvT k T) (hA : OkA nt A) : InvT (k + 1) (tJoin T A) :=
  ⟨h.ok.join hA, h.bm, h.um, by
    have h1 := (newView_len A.next).1
    have h2 := hA.nx
    show (unionP T.larger (newViewP A.next)).base.length ≤ 4194304
    rcases union_base T.larger (newViewP A.next) with e | e
    · rw [e]; exact h.lb
    · rw [e]; omega⟩
theorem tGo_inv (F X : View) (tos : List Str) (nt : Nat) : ∀ (As : List Ans) (k : Nat) (T : Tal), InvT k T → (∀ A ∈ As, OkA nt A) → match tGo F X tos As T with
    | .inl T' => InvT (k + As.length) T'
    | .inr V => Mid V
  | [], k, T, h, _ => by simpa [tGo] using h
  | A :: As, k, T, h, hA => by
    have hA0 := hA A List.mem_cons_self
    have hAs := fun B hB => hA B (List.mem_cons_of_mem _ hB)
    unfold tGo
    by_cases h1 : containsP F (newViewP A.view) = true
    · rw [if_pos h1]
      by_cases h2 : equalP (newViewP A.next) X = true
      · rw [if_pos h2]
        have := tGo_inv F X tos nt As (k + 1) _ (h.take hA0 F X tos) hAs
        rw [show k + (A :: As).length = k + 1 + As.length by simp; omega]
        exact this
      · rw [if_neg h2]
        have := tGo_inv F X tos nt As (k + 1) _ (h.join hA0) hAs
        rw [show k + (A :: As).length = k + 1 + As.length by simp; omega]
        exact this
    · rw [if_neg h1]
      have := hA0.vw
      exact length_foldl_mid _ (by omega)
theorem InvT.fin {k : Nat} {T : Tal} (h : InvT k T) (hk : k ≤ 1048576) : FinT T := by
  have h1 := h.ok.p
  have h2 := h.ok.b
  have h3 := h.ok.u
  have h4 := h.ok.c
  have h5 := h.ok.l
  have m1 : k * 1048576 ≤ 1048576 * 1048576 := Nat.mul_le_mul_right _ hk
  have m2 : (k + 1) * 3145729 ≤ 1048577 * 3145729 := Nat.mul_le_mul_right _ (Nat.succ_le_succ hk)
  exact ⟨by omega, by omega, by omega, h.bm, h.um, ⟨h.lb, h5, by omega⟩⟩
theorem inv_zero {X : View} (h : Mid X) (hc : X.changes.length ≤ 3145729) : InvT 0 (tZero X) :=
  ⟨⟨Nat.le_refl _, Nat.zero_le _, Nat.zero_le _, by simpa [tZero] using hc, h.last⟩, (fun V hV => by cases hV), (fun V hV => by cases hV), h.base⟩

end Go.Proofs.Qxb6616331aGreatDoor
