/-
  THE WALKS of seat b6616331aZD, p: append of a slice; slices.Grow, slices.Concat.
-/
import Derived.Test.Qxb6616331aGreatDoorZo
import Derived.Shelf.Spec.SlicesGrow
namespace Go.Proofs.Qxb6616331aGreatDoor
open Go.RowKit
set_option linter.unusedVariables false
set_option linter.unusedSimpArgs false
set_option linter.unnecessarySimpa false
set_option maxRecDepth 40000

theorem OwnS.len_lt {w : World} {B : Nat} {v : Value} {xs : List Str} (h : OwnS w B v xs) : ∀ k, v.ownBlock = some k → B ≤ k := fun k e => (h.lt k e).1

/-- The append of a slice of strings: what it leaves. -/
theorem appN (w : World) (B : Nat) (v : Value) (xs : List Str) (a : Option Addr) (n c : Nat) (ys : List Str) (h : OwnS w B v xs) (hL : IsL w a n ys) (hn : xs.length + n ≤ 4398046511104) (hB : B ≤ w.heap.size) :
    ∃ a' c' w', (Builtin.append_ #[23, 23] 23 #[v, .slice a n c]).run Tryz.prog w = .ok (.slice a' (xs.length + n) c') w' ∧
      OwnS w' B (.slice a' (xs.length + n) c') (xs ++ ys) ∧ Below B w w' := by
  obtain ⟨i0, hi, hz0, hz1, hz2⟩ := info_parts Tryz.info9
  have hlen := hL.len
  cases a with
  | none =>
    have hn0 : n = 0 := by
      rcases Nat.eq_zero_or_pos n with e | e
      · exact e
      · obtain ⟨b, off, e', _⟩ := hL.row e
        cases e'
    subst hn0
    have hy : ys = [] := List.eq_nil_of_length_eq_zero hlen
    subst hy
    obtain ⟨a', c', hv, -, -, -⟩ := h.isL
    have hrun : (Builtin.append_ #[23, 23] 23 #[v, .slice none 0 c]).run Tryz.prog w = .ok v w := by
      rcases h.2 with ⟨rfl, h0⟩ | ⟨g, cap, cur, rfl, _, _, hnc, _⟩
      · simp [Builtin.append_, run_underlying Tryz.underlying23, sizeOf, typeInfo, hi, Builtin.lenOf, Builtin.firstCells]
      · simp [Builtin.append_, run_underlying Tryz.underlying23, sizeOf, typeInfo, hi, Builtin.lenOf, Builtin.firstCells, hnc, storeCells]
    subst hv
    exact ⟨a', c', w, by simpa using hrun, by simpa using h, Below.refl _ _⟩
  | some ad =>
    have hcell : ∀ j u, (ys.map sv)[j]? = some u → w.cell? (ad.add j) = some u := by
      intro j u hj
      have hj' : j < ys.length := by simpa using (List.getElem?_eq_some_iff.1 hj).1
      obtain ⟨b, off, e, hc⟩ := hL.row (by omega)
      cases e
      rw [Addr.add_lit, hc j (by omega)]
      simp [hj'] at hj
      simp [hj', ← hj]
    obtain ⟨v', w', hr, h2, h3, h4⟩ := run_append_own (P := Tryz.prog) w B 23 23 9 i0 (sv []) 1 16 Tryz.underlying23 hi hz0 hz1 hz2 rfl (by decide) v xs.length (xs.map sv) h ad n c (ys.map sv) (by simp [hlen])
      hcell (fun u hu => by obtain ⟨i, _, rfl⟩ := List.mem_map.1 hu; rfl) (by unfold maxLen; omega) (by omega) hB
    have h2' : OwnS w' B v' (xs ++ ys) := by
      unfold OwnS
      rw [List.map_append, List.length_append, hlen]
      exact h2
    obtain ⟨a', c', hv, -, -, -⟩ := h2'.isL
    rw [List.length_append, hlen] at hv
    subst hv
    exact ⟨a', c', w', hr, h2', (Below.refl B w).grown h3 hB (fun k e => (h.lt k e).1)⟩

theorem wpList_appN {ops : Array Oper} {rest : List Oper} {o : Oper} {ac : Act} {Q : Exit → Act → World → Prop} (hgd : o.guard = none) (s x : Operand)
    (ho : o.op = .call { callee := .builtin .append, args := #[s, x], argTypes := #[23, 23] }) (hty : o.type = 23)
    (w : World) (B : Nat) (v : Value) (xs : List Str) (a : Option Addr) (n c : Nat) (ys : List Str) (h : OwnS w B v xs) (hL : IsL w a n ys) (hn : xs.length + n ≤ 4398046511104) (hB : B ≤ w.heap.size) (hs : ac.eval s = v) (hx : ac.eval x = .slice a n c)
    (K : ∀ a' c' w', Hid (OwnS w' B (.slice a' (xs.length + n) c') (xs ++ ys)) → Hid (Below B w w') → wpList Tryz.prog ops Q rest (ac.put o.dst (.slice a' (xs.length + n) c')) w') :
    wpList Tryz.prog ops Q (o :: rest) ac w := by
  obtain ⟨a', c', w', hr, h1, h2⟩ := appN w B v xs a n c ys h hL hn hB
  refine wpList_plain hgd fun _ hK => ?_
  unfold Oper.wp execOp
  simp only [ho, hty, resolve, invoke, builtin, Sem.run_bind, Sem.run_pure, Result.andThen_ok, List.map_toArray, List.map_cons, List.map_nil, hs, hx, hr]
  exact hK _ _ (K a' c' w' h1 h2)

set_option maxHeartbeats 1600000 in
theorem grow72 (n : Nat) (w : World) (hn : n ≤ 4398046511104) :
    Calls Tryz.prog 72 #[.slice none 0 0, .int .i64 n] w fun e w' => (∃ v, e = .returned v ∧ OwnS w' w.heap.size v []) ∧ Kept w w' := by
  by_cases h0 : n = 0
  · subst h0
    go_enter Tryz.func72, Tryz.ntmps72
    go_wp2
    go_ret
    exact ⟨⟨_, rfl, ownS_nil _ _⟩, Kept.refl _⟩
  · obtain ⟨i0, hi, hz0, hz1, hz2⟩ := info_parts Tryz.info9
    have hold : (Builtin.firstCells i0.size 0 (.slice none 0 0)).run Tryz.prog w.drew = .ok #[] w.drew := run_firstCells_none w.drew i0.size 0 0 0
    have hrz : ∀ ty, (Builtin.append_ #[23, 3] ty #[.slice none 0 0, .int .i64 (n : Int)]).run Tryz.prog w =
        .ok (.slice (some ⟨w.heap.size, 0, none⟩) n (grownCap w n 0 9)) (w.drew.alloc (.cells (#[] ++ Builtin.zeroCells (sv []).cells n ++ Builtin.zeroCells (sv []).cells (grownCap w n 0 9 - n)) 9)) := fun ty => by
      have h := Lib.run_append_grow_zeros w 23 3 ty 9 i0 (sv []) .i64 .i64 Tryz.underlying23 Tryz.underlying3 hi hz0 none 0 0 [] hold n (by omega) (by omega) (by omega) (by omega) (by rw [hz2]; omega)
        (by rw [Nat.zero_add]; exact growslice_fits (by omega) (by rw [hz2]; omega))
      simpa using h
    have hGn : n ≤ grownCap w n 0 9 := grownCap_ge w _ _ _
    have hGm := grownCap_le_maxLen w n 0 9 (by unfold maxLen; omega)
    obtain ⟨G, hG⟩ : ∃ G, G = grownCap w n 0 9 := ⟨_, rfl⟩
    rw [← hG] at hrz hGn hGm
    have hG63 : G ≤ 9223372036854775807 := by unfold maxLen at hGm; omega
    have HG : Hid (G ≤ maxLen) := hGm
    clear hold hG hGm
    have hp : (0 : Int) < n := by omega
    go_enter Tryz.func72, Tryz.ntmps72
    go_wp2_with (at_builtin; refine Lib.wpList_append_run _ rfl _ _ _ _ rfl _ _ rfl rfl _ _ (hrz _) ?_)
    go_ret
    refine ⟨⟨_, rfl, ?_⟩, Kept.of_below (((Below.refl _ w).drew).alloc (Nat.le_refl _) _)⟩
    refine ⟨rfl, .inr ⟨w.heap.size, G, _, rfl, Nat.le_refl _, heap_alloc_new w.drew _, Nat.zero_le _, HG.out, ?_, by simp⟩⟩
    simp [size_zeroCells, Value.cells]
    omega

end Go.Proofs.Qxb6616331aGreatDoor
