/-
  THE WALKS of seat b6616331aZD, X7: the law's first part: its two loops over the input, and zzAscending.
-/
import Derived.Test.Qxb6616331aGreatDoorX6
namespace Go.Proofs.Qxb6616331aGreatDoor
open Go.RowKit
set_option linter.unusedVariables false
set_option linter.unusedSimpArgs false
set_option linter.unnecessarySimpa false
set_option maxRecDepth 40000

/-- A test behind which the function returns a constant; nothing behind. -/
theorem cond_ret' {Q : Exit → Act → World → Prop} {a : Act} {w : World} {L : List (Nat × Value)} {t id : Nat} {o : Oper} {b val : Bool} (hr : rd a t = .bool b) (hf : Fr 373 a L) (ho : o.op = .assign (.const (.bool val))) (hd : o.dst = some 16) (hg : o.guard = none)
    (h1 : b = true → ∀ a', Fr 373 a' [(16, .bool val)] → Q .ret a' w) (h2 : b = false → Q .normal a w) :
    (Code.cond (.tmp t) (.seq (.region id #[o] false) .ret) .skip).wp Tryz.prog Q a w := by
  cases b
  · exact wp_cond_false hr (wp_skip (h2 rfl))
  · refine wp_cond_true hr (wp_seq (wp_region_list (wl_val (wanted_none hg) (run_const ho) ?_)))
    show Code.wp _ _ _ (a.put o.dst _) w
    rw [hd]
    exact wp_ret (h1 rfl _ ((hf.sub (Has.nil _)).put 16 _ (by decide) rfl))
/-- A loop of the law over n elements. -/
theorem loopL (P : Nat → Prop) {Q : Exit → Act → World → Prop} {a : Act} {w : World} {L : List (Nat × Value)} {n idx : Nat} {val : Bool} {i4 B i5 t5 B' i9 : Nat} {o4 : Oper} {o5 o9 : Array Oper} {BODY REST : Code}
    (hF : Fr 373 a L) (ho : o4.op = .assign (.const (.int .i64 0))) (hd : o4.dst = some idx) (hg : o4.guard = none) (hi : idx < 373) (hc : (L.map Prod.fst).contains idx = false)
    (test : ∀ (Q' : Exit → Act → World → Prop) (k : Nat) a, Fr 373 a ((idx, .int .i64 (k : Int)) :: L) → (∀ a', Fr 373 a' ((t5, .bool (decide ((k : Int) < (n : Int)))) :: (idx, .int .i64 (k : Int)) :: L) → Q' .normal a' w) → wpList Tryz.prog o5 Q' o5.toList a w)
    (body : ∀ (Q' : Exit → Act → World → Prop) (k : Nat) a, k < n → Fr 373 a ((idx, .int .i64 (k : Int)) :: L) → (∀ a', Fr 373 a' ((idx, .int .i64 (k : Int)) :: L) → P k → Q' .normal a' w) → (∀ a', Fr 373 a' [(16, .bool val)] → Q' .ret a' w) → BODY.wp Tryz.prog Q' a w)
    (inc : ∀ (Q' : Exit → Act → World → Prop) (k : Nat) a, k < n → Fr 373 a ((idx, .int .i64 (k : Int)) :: L) → (∀ a', Fr 373 a' ((idx, .int .i64 ((k + 1 : Nat) : Int)) :: L) → Q' .normal a' w) → wpList Tryz.prog o9 Q' o9.toList a w)
    (hret : ∀ a', Fr 373 a' [(16, .bool val)] → Q .ret a' w)
    (rest : ∀ a', Fr 373 a' L → (∀ j, j < n → P j) → REST.wp Tryz.prog Q a' w) :
    (Code.seq (.seq (.region i4 #[o4] false) (.block B (.loop (.seq (.seq (.region i5 o5 false) (.cond (.tmp t5) .skip (.exit B))) (.seq (.block B' BODY) (.region i9 o9 false)))))) REST).wp Tryz.prog Q a w := by
  refine wp_seq (wp_seq (wp_region_list (wl_valF (wanted_none hg) (run_const ho) hF hd hi hc (fun a h0 => ?_))))
  show Code.wp _ _ _ _ _
  refine wp_block (wp_loop (fun a w' => w' = w ∧ ∃ k : Nat, k ≤ n ∧ Fr 373 a ((idx, .int .i64 (k : Int)) :: L) ∧ ∀ j, j < k → P j) (fun a _ => n - (intOf (rd a idx)).toNat) ⟨rfl, 0, Nat.zero_le _, h0, fun j hj => absurd hj (Nat.not_lt_zero _)⟩ ?_)
  rintro a w' ⟨rfl, k, hk, h1, hP⟩
  refine wp_seq (wp_seq (wp_region_list (test _ k a h1 (fun a' h2 => ?_))))
  show Code.wp _ _ _ _ _
  by_cases hlt : k < n
  · have g2 := h2.at 0 rfl
    rw [show decide ((k : Int) < (n : Int)) = true from decide_eq_true (by omega)] at g2
    refine wp_cond_true g2 (wp_skip ?_)
    show Code.wp _ _ _ _ _
    refine wp_seq (wp_block ?_)
    refine body _ k a' hlt (h2.sub (fun i k' v' e => h2.at (i + 1) e)) (fun a2 h3 hPk => ?_) (fun a2 h3 => hret a2 h3)
    show Code.wp _ _ _ _ _
    refine wp_region_list (inc _ k a2 hlt h3 (fun a3 h4 => ?_))
    refine ⟨⟨rfl, k + 1, by omega, h4, fun j hj => ?_⟩, ?_⟩
    · by_cases e : j < k
      · exact hP j e
      · obtain rfl : j = k := by omega
        exact hPk
    · rw [h4.at 0 rfl, h1.at 0 rfl]
      simp [intOf]
      omega
  · have g2 := h2.at 0 rfl
    rw [show decide ((k : Int) < (n : Int)) = false from decide_eq_false (by omega)] at g2
    refine wp_cond_false g2 (wp_exit ?_)
    show if B = B then _ else _
    rw [if_pos rfl]
    exact rest a' (h2.sub (fun i k' v' e => h2.at (i + 2) e)) (fun j hj => hP j (by omega))

section
variable {w : World} {lF lX : VL} {F X : View} {at_ : Option Addr} {nt ct : Nat} {tos : List Str} {a3 : Option Addr} {n c3 : Nat} {As : List Ans} {j : Int} {mark : Str} {fz kn : Bool} {Q : Exit → Act → World → Prop}
set_option maxHeartbeats 1600000 in
theorem st5 (hret : ∀ a w', Fr 373 a [(16, .bool true)] → Kept w w' → Q .ret a w') (hA : IsA w a3 n As) (hn : n ≤ 1048576) {a : Act} {w1 : World} (H : SA w lF lX at_ nt ct a3 n c3 j mark fz kn a w1)
    (next : ∀ a w2, SA w lF lX at_ nt ct a3 n c3 j mark fz kn a w2 → (∀ i, i < n → 0 ≤ (As.getD i noAns).sender ∧ (As.getD i noAns).sender < nt) → (restC 6).wp Tryz.prog Q a w2) : (restC 5).wp Tryz.prog Q a w1 := by
  have h0 := H.fr
  refine loopL (fun i => 0 ≤ (As.getD i noAns).sender ∧ (As.getD i noAns).sender < nt) (n := n) (val := true) H.fr rfl rfl rfl (by decide) rfl ?_ ?_ ?_ (fun a' h => hret _ _ h H.k) (fun a' h hP => next _ _ (H.go (Kept.refl _) h) hP)
  · intro Q' k a h0 hq
    refine wl_valF (wanted_none rfl) (run_move' rfl (h0.at 0 rfl)) h0 rfl (by decide) rfl (fun a h1 => ?_)
    refine wl_valF (wanted_none rfl) (run_move' rfl (h1.at 3 rfl)) h1 rfl (by decide) rfl (fun a h2 => ?_)
    refine wl_valF (wanted_none rfl) (run_lenS rfl (by decide) (h2.at 0 rfl)) h2 rfl (by decide) rfl (fun a h3 => ?_)
    refine wl_valF (wanted_none rfl) (run_lss rfl (h3.at 2 rfl) (h3.at 0 rfl)) h3 rfl (by decide) rfl (fun a h4 => ?_)
    exact hq _ (h4.sub (Has.cons (h4.at 0 rfl) (Has.cons (h4.at 4 rfl) (Has.cons (h4.at 5 rfl) (Has.cons (h4.at 6 rfl) (Has.cons (h4.at 7 rfl) (Has.cons (h4.at 8 rfl) (Has.cons (h4.at 9 rfl) (Has.cons (h4.at 10 rfl) (Has.cons (h4.at 11 rfl) (Has.cons (h4.at 12 rfl) (Has.nil _))))))))))))
  · intro Q' k a hk h0 hq hr
    obtain ⟨bA, offA, rfl, hc⟩ := (hA.kept H.k).row (by omega)
    have c0 := (hc k hk).c0
    obtain ⟨se, hse⟩ : ∃ se, se = (As.getD k noAns).sender := ⟨_, rfl⟩
    rw [← hse] at c0 hq
    refine wp_seq (wp_region_list ?_)
    by_cases hs : se < 0
    · skip
      refine wl_valF (wanted_none rfl) (run_move' rfl (h0.at 2 rfl)) h0 rfl (by decide) rfl (fun a h1 => ?_)
      refine wl_valF (wanted_none rfl) (run_move' rfl (h1.at 1 rfl)) h1 rfl (by decide) rfl (fun a h2 => ?_)
      refine wl_valF (wanted_none rfl) (run_index26 rfl (h2.at 1 rfl) (h2.at 0 rfl) hk) h2 rfl (by decide) rfl (fun a h3 => ?_)
      refine wl_valF (wanted_none rfl) (run_field31z rfl (h3.at 0 rfl)) h3 rfl (by decide) rfl (fun a h4 => ?_)
      refine wl_valF (wanted_none rfl) (run_load3 rfl (h4.at 0 rfl) c0) h4 rfl (by decide) rfl (fun a h5 => ?_)
      refine wl_valF (wanted_none rfl) (run_bool (run_lssC rfl (h5.at 0 rfl)) (decide_eq_true hs)) h5 rfl (by decide) rfl (fun a h6 => ?_)
      refine wl_valF (wanted_none rfl) (run_move' rfl (h6.at 0 rfl)) h6 rfl (by decide) rfl (fun a h7 => ?_)
      refine wl_notF (wanted_fr rfl rfl h7 (by decide) (h7.at 0 rfl) rfl) h7 rfl (by decide) rfl (fun a h8 => ?_)
      refine wl_notF (wanted_fr rfl rfl h8 (by decide) (h8.at 1 rfl) rfl) h8 rfl (by decide) rfl (fun a h9 => ?_)
      refine wl_notF (wanted_fr rfl rfl h9 (by decide) (h9.at 2 rfl) rfl) h9 rfl (by decide) rfl (fun a h10 => ?_)
      refine wl_notF (wanted_fr rfl rfl h10 (by decide) (h10.at 3 rfl) rfl) h10 rfl (by decide) rfl (fun a h11 => ?_)
      refine wl_notF (wanted_fr rfl rfl h11 (by decide) (h11.at 4 rfl) rfl) h11 rfl (by decide) rfl (fun a h12 => ?_)
      refine wl_notF (wanted_fr rfl rfl h12 (by decide) (h12.at 5 rfl) rfl) h12 rfl (by decide) rfl (fun a h13 => ?_)
      refine wl_notF (wanted_fr rfl rfl h13 (by decide) (h13.at 6 rfl) rfl) h13 rfl (by decide) rfl (fun a h14 => ?_)
      refine wl_notF (wanted_fr rfl rfl h14 (by decide) (h14.at 7 rfl) rfl) h14 rfl (by decide) rfl (fun a h15 => ?_)
      refine wl_valF (wanted_none rfl) (run_pick (v := .bool true) (v' := undef) rfl (h15.at 8 rfl) rfl (h15.at 0 rfl)) h15 rfl (by decide) rfl (fun a h16 => ?_)
      show Code.wp _ _ _ _ _
      exact cond_ret' (h16.at 0 rfl) h16 rfl rfl rfl (fun _ a' ha => hr a' ha) (fun h => by cases h)
    · by_cases hs2 : (nt : Int) ≤ se
      · skip
        refine wl_valF (wanted_none rfl) (run_move' rfl (h0.at 2 rfl)) h0 rfl (by decide) rfl (fun a h1 => ?_)
        refine wl_valF (wanted_none rfl) (run_move' rfl (h1.at 1 rfl)) h1 rfl (by decide) rfl (fun a h2 => ?_)
        refine wl_valF (wanted_none rfl) (run_index26 rfl (h2.at 1 rfl) (h2.at 0 rfl) hk) h2 rfl (by decide) rfl (fun a h3 => ?_)
        refine wl_valF (wanted_none rfl) (run_field31z rfl (h3.at 0 rfl)) h3 rfl (by decide) rfl (fun a h4 => ?_)
        refine wl_valF (wanted_none rfl) (run_load3 rfl (h4.at 0 rfl) c0) h4 rfl (by decide) rfl (fun a h5 => ?_)
        refine wl_valF (wanted_none rfl) (run_bool (run_lssC rfl (h5.at 0 rfl)) (decide_eq_false hs)) h5 rfl (by decide) rfl (fun a h6 => ?_)
        refine wl_valF (wanted_none rfl) (run_move' rfl (h6.at 0 rfl)) h6 rfl (by decide) rfl (fun a h7 => ?_)
        refine wl_valF (wanted_fr rfl rfl h7 (by decide) (h7.at 0 rfl) rfl) (run_move' rfl (h7.at 9 rfl)) h7 rfl (by decide) rfl (fun a h8 => ?_)
        refine wl_valF (wanted_fr rfl rfl h8 (by decide) (h8.at 1 rfl) rfl) (run_move' rfl (h8.at 8 rfl)) h8 rfl (by decide) rfl (fun a h9 => ?_)
        refine wl_valF (wanted_fr rfl rfl h9 (by decide) (h9.at 2 rfl) rfl) (run_index26 rfl (h9.at 1 rfl) (h9.at 0 rfl) hk) h9 rfl (by decide) rfl (fun a h10 => ?_)
        refine wl_valF (wanted_fr rfl rfl h10 (by decide) (h10.at 3 rfl) rfl) (run_field31z rfl (h10.at 0 rfl)) h10 rfl (by decide) rfl (fun a h11 => ?_)
        refine wl_valF (wanted_fr rfl rfl h11 (by decide) (h11.at 4 rfl) rfl) (run_load3 rfl (h11.at 0 rfl) c0) h11 rfl (by decide) rfl (fun a h12 => ?_)
        refine wl_valF (wanted_fr rfl rfl h12 (by decide) (h12.at 5 rfl) rfl) (run_move' rfl (h12.at 13 rfl)) h12 rfl (by decide) rfl (fun a h13 => ?_)
        refine wl_valF (wanted_fr rfl rfl h13 (by decide) (h13.at 6 rfl) rfl) (run_lenS rfl (by decide) (h13.at 0 rfl)) h13 rfl (by decide) rfl (fun a h14 => ?_)
        refine wl_valF (wanted_fr rfl rfl h14 (by decide) (h14.at 7 rfl) rfl) (run_bool (run_geq rfl (h14.at 2 rfl) (h14.at 0 rfl)) (decide_eq_true hs2)) h14 rfl (by decide) rfl (fun a h15 => ?_)
        refine wl_valF (wanted_none rfl) (run_pick (v := .bool true) (v' := .bool true) rfl (h15.at 8 rfl) rfl (h15.at 0 rfl)) h15 rfl (by decide) rfl (fun a h16 => ?_)
        show Code.wp _ _ _ _ _
        exact cond_ret' (h16.at 0 rfl) h16 rfl rfl rfl (fun _ a' ha => hr a' ha) (fun h => by cases h)
      · skip
        refine wl_valF (wanted_none rfl) (run_move' rfl (h0.at 2 rfl)) h0 rfl (by decide) rfl (fun a h1 => ?_)
        refine wl_valF (wanted_none rfl) (run_move' rfl (h1.at 1 rfl)) h1 rfl (by decide) rfl (fun a h2 => ?_)
        refine wl_valF (wanted_none rfl) (run_index26 rfl (h2.at 1 rfl) (h2.at 0 rfl) hk) h2 rfl (by decide) rfl (fun a h3 => ?_)
        refine wl_valF (wanted_none rfl) (run_field31z rfl (h3.at 0 rfl)) h3 rfl (by decide) rfl (fun a h4 => ?_)
        refine wl_valF (wanted_none rfl) (run_load3 rfl (h4.at 0 rfl) c0) h4 rfl (by decide) rfl (fun a h5 => ?_)
        refine wl_valF (wanted_none rfl) (run_bool (run_lssC rfl (h5.at 0 rfl)) (decide_eq_false hs)) h5 rfl (by decide) rfl (fun a h6 => ?_)
        refine wl_valF (wanted_none rfl) (run_move' rfl (h6.at 0 rfl)) h6 rfl (by decide) rfl (fun a h7 => ?_)
        refine wl_valF (wanted_fr rfl rfl h7 (by decide) (h7.at 0 rfl) rfl) (run_move' rfl (h7.at 9 rfl)) h7 rfl (by decide) rfl (fun a h8 => ?_)
        refine wl_valF (wanted_fr rfl rfl h8 (by decide) (h8.at 1 rfl) rfl) (run_move' rfl (h8.at 8 rfl)) h8 rfl (by decide) rfl (fun a h9 => ?_)
        refine wl_valF (wanted_fr rfl rfl h9 (by decide) (h9.at 2 rfl) rfl) (run_index26 rfl (h9.at 1 rfl) (h9.at 0 rfl) hk) h9 rfl (by decide) rfl (fun a h10 => ?_)
        refine wl_valF (wanted_fr rfl rfl h10 (by decide) (h10.at 3 rfl) rfl) (run_field31z rfl (h10.at 0 rfl)) h10 rfl (by decide) rfl (fun a h11 => ?_)
        refine wl_valF (wanted_fr rfl rfl h11 (by decide) (h11.at 4 rfl) rfl) (run_load3 rfl (h11.at 0 rfl) c0) h11 rfl (by decide) rfl (fun a h12 => ?_)
        refine wl_valF (wanted_fr rfl rfl h12 (by decide) (h12.at 5 rfl) rfl) (run_move' rfl (h12.at 13 rfl)) h12 rfl (by decide) rfl (fun a h13 => ?_)
        refine wl_valF (wanted_fr rfl rfl h13 (by decide) (h13.at 6 rfl) rfl) (run_lenS rfl (by decide) (h13.at 0 rfl)) h13 rfl (by decide) rfl (fun a h14 => ?_)
        refine wl_valF (wanted_fr rfl rfl h14 (by decide) (h14.at 7 rfl) rfl) (run_bool (run_geq rfl (h14.at 2 rfl) (h14.at 0 rfl)) (decide_eq_false hs2)) h14 rfl (by decide) rfl (fun a h15 => ?_)
        refine wl_valF (wanted_none rfl) (run_pick (v := .bool true) (v' := .bool false) rfl (h15.at 8 rfl) rfl (h15.at 0 rfl)) h15 rfl (by decide) rfl (fun a h16 => ?_)
        show Code.wp _ _ _ _ _
        exact cond_ret' (h16.at 0 rfl) h16 rfl rfl rfl (fun h => by cases h) (fun _ => hq _ (h16.sub (Has.cons (h16.at 16 rfl) (Has.cons (h16.at 17 rfl) (Has.cons (h16.at 18 rfl) (Has.cons (h16.at 19 rfl) (Has.cons (h16.at 20 rfl) (Has.cons (h16.at 21 rfl) (Has.cons (h16.at 22 rfl) (Has.cons (h16.at 23 rfl) (Has.cons (h16.at 24 rfl) (Has.nil _))))))))))) ⟨by omega, by omega⟩)
  · intro Q' k a hk h0 hq
    refine wl_valF (wanted_none rfl) (run_move' rfl (h0.at 0 rfl)) h0 rfl (by decide) rfl (fun a h1 => ?_)
    refine wl_valF (wanted_none rfl) (run_inc' rfl (h1.at 0 rfl) (by omega)) h1 rfl (by decide) rfl (fun a h2 => ?_)
    refine wl_valF (wanted_none rfl) (run_assign' rfl (h2.at 0 rfl)) (h2.sub (Has.cons (h2.at 0 rfl) (Has.cons (h2.at 1 rfl) (Has.cons (h2.at 3 rfl) (Has.cons (h2.at 4 rfl) (Has.cons (h2.at 5 rfl) (Has.cons (h2.at 6 rfl) (Has.cons (h2.at 7 rfl) (Has.cons (h2.at 8 rfl) (Has.cons (h2.at 9 rfl) (Has.cons (h2.at 10 rfl) (Has.nil _)))))))))))) rfl (by decide) rfl (fun a h3 => ?_)
    exact hq _ (h3.sub (Has.cons (h3.at 0 rfl) (Has.cons (h3.at 3 rfl) (Has.cons (h3.at 4 rfl) (Has.cons (h3.at 5 rfl) (Has.cons (h3.at 6 rfl) (Has.cons (h3.at 7 rfl) (Has.cons (h3.at 8 rfl) (Has.cons (h3.at 9 rfl) (Has.cons (h3.at 10 rfl) (Has.nil _)))))))))))

set_option maxHeartbeats 1600000 in
theorem st6 (hret : ∀ a w', Fr 373 a [(16, .bool true)] → Kept w w' → Q .ret a w') (hX : IsV w lX.val X) (hs : Small X) {a : Act} {w1 : World} (H : SA w lF lX at_ nt ct a3 n c3 j mark fz kn a w1)
    (next : ∀ a w2, SA w lF lX at_ nt ct a3 n c3 j mark fz kn a w2 → Asc X.base → Asc X.last → Asc X.changes → (restC 7).wp Tryz.prog Q a w2) : (restC 6).wp Tryz.prog Q a w1 := by
  have h0 := H.fr
  obtain ⟨ab, nb, cb, al, nl, cl, ac, nc, cc, e, g1, g2, g3⟩ := hX.ex
  have e' : lX.arr = _ := Value.agg.inj e
  simp only [VL.arr, Array.mk.injEq, List.cons.injEq, Value.slice.injEq, and_true] at e'
  obtain ⟨-, ⟨rfl, rfl, rfl⟩, ⟨rfl, rfl, rfl⟩, rfl, rfl, rfl⟩ := e'
  have m1 := hs.base
  have m2 := hs.last
  have m3 := hs.changes
  rw [g1.len] at m1
  rw [g2.len] at m2
  rw [g3.len] at m3
  refine wp_seq (wp_seq (wp_region_list ?_))
  obtain ⟨-, y1, -, -⟩ := (Kept.refl w1).box4 H.b10
  refine wl_valF (wanted_none rfl) (run_field25 rfl (by decide) (h0.at 7 rfl)) h0 rfl (by decide) rfl (fun a h1 => ?_)
  refine wl_valF (wanted_none rfl) (run_load23 rfl (h1.at 0 rfl) y1) h1 rfl (by decide) rfl (fun a h2 => ?_)
  refine wl_callF (wanted_none rfl) (run_enter1 (en7 _) rfl (h2.at 0 rfl)) (ascending7 lX.ab lX.nb lX.cb _ w1 m1 (g1.kept H.k)) h2 rfl (by decide) rfl ?_
  rintro e w2 ⟨⟨b1, rfl, hb1⟩, qw2⟩
  refine ⟨_, rfl, fun a h3 => ?_⟩
  cases b1
  · skip
    refine wl_valF (wanted_none rfl) (run_not rfl (h3.at 0 rfl)) h3 rfl (by decide) rfl (fun a h4 => ?_)
    refine wl_valF (wanted_none rfl) (run_move' rfl (h4.at 0 rfl)) h4 rfl (by decide) rfl (fun a h5 => ?_)
    refine wl_notF (wanted_fr rfl rfl h5 (by decide) (h5.at 0 rfl) rfl) h5 rfl (by decide) rfl (fun a h6 => ?_)
    refine wl_notF (wanted_fr rfl rfl h6 (by decide) (h6.at 1 rfl) rfl) h6 rfl (by decide) rfl (fun a h7 => ?_)
    refine wl_notF (wanted_fr rfl rfl h7 (by decide) (h7.at 2 rfl) rfl) h7 rfl (by decide) rfl (fun a h8 => ?_)
    refine wl_notF (wanted_fr rfl rfl h8 (by decide) (h8.at 3 rfl) rfl) h8 rfl (by decide) rfl (fun a h9 => ?_)
    refine wl_valF (wanted_none rfl) (run_pick (v := .bool true) (v' := undef) rfl (h9.at 4 rfl) rfl (h9.at 0 rfl)) h9 rfl (by decide) rfl (fun a h10 => ?_)
    refine wl_valF (wanted_none rfl) (run_move' rfl (h10.at 0 rfl)) h10 rfl (by decide) rfl (fun a h11 => ?_)
    refine wl_notF (wanted_fr rfl rfl h11 (by decide) (h11.at 0 rfl) rfl) h11 rfl (by decide) rfl (fun a h12 => ?_)
    refine wl_notF (wanted_fr rfl rfl h12 (by decide) (h12.at 1 rfl) rfl) h12 rfl (by decide) rfl (fun a h13 => ?_)
    refine wl_notF (wanted_fr rfl rfl h13 (by decide) (h13.at 2 rfl) rfl) h13 rfl (by decide) rfl (fun a h14 => ?_)
    refine wl_notF (wanted_fr rfl rfl h14 (by decide) (h14.at 3 rfl) rfl) h14 rfl (by decide) rfl (fun a h15 => ?_)
    refine wl_valF (wanted_none rfl) (run_pick (v := .bool true) (v' := undef) rfl (h15.at 4 rfl) rfl (h15.at 0 rfl)) h15 rfl (by decide) rfl (fun a h16 => ?_)
    show Code.wp _ _ _ _ _
    exact cond_ret (h16.at 0 rfl) h16 rfl rfl rfl (fun _ a' ha => hret _ _ ha (H.k.trans qw2)) (fun h => by cases h)
  · skip
    obtain ⟨-, -, y2, -⟩ := qw2.box4 H.b10
    refine wl_valF (wanted_none rfl) (run_not rfl (h3.at 0 rfl)) h3 rfl (by decide) rfl (fun a h4 => ?_)
    refine wl_valF (wanted_none rfl) (run_move' rfl (h4.at 0 rfl)) h4 rfl (by decide) rfl (fun a h5 => ?_)
    refine wl_valF (wanted_fr rfl rfl h5 (by decide) (h5.at 0 rfl) rfl) (run_field25 rfl (by decide) (h5.at 12 rfl)) h5 rfl (by decide) rfl (fun a h6 => ?_)
    refine wl_valF (wanted_fr rfl rfl h6 (by decide) (h6.at 1 rfl) rfl) (run_load23 rfl (h6.at 0 rfl) y2) h6 rfl (by decide) rfl (fun a h7 => ?_)
    refine wl_callF (wanted_fr rfl rfl h7 (by decide) (h7.at 2 rfl) rfl) (run_enter1 (en7 _) rfl (h7.at 0 rfl)) (ascending7 lX.al lX.nl lX.cl _ w2 m2 (g2.kept (H.k.trans qw2))) h7 rfl (by decide) rfl ?_
    rintro e w3 ⟨⟨b2, rfl, hb2⟩, qw3⟩
    refine ⟨_, rfl, fun a h8 => ?_⟩
    cases b2
    · skip
      refine wl_valF (wanted_fr rfl rfl h8 (by decide) (h8.at 3 rfl) rfl) (run_not rfl (h8.at 0 rfl)) h8 rfl (by decide) rfl (fun a h9 => ?_)
      refine wl_valF (wanted_none rfl) (run_pick (v := .bool true) (v' := .bool true) rfl (h9.at 4 rfl) rfl (h9.at 0 rfl)) h9 rfl (by decide) rfl (fun a h10 => ?_)
      refine wl_valF (wanted_none rfl) (run_move' rfl (h10.at 0 rfl)) h10 rfl (by decide) rfl (fun a h11 => ?_)
      refine wl_notF (wanted_fr rfl rfl h11 (by decide) (h11.at 0 rfl) rfl) h11 rfl (by decide) rfl (fun a h12 => ?_)
      refine wl_notF (wanted_fr rfl rfl h12 (by decide) (h12.at 1 rfl) rfl) h12 rfl (by decide) rfl (fun a h13 => ?_)
      refine wl_notF (wanted_fr rfl rfl h13 (by decide) (h13.at 2 rfl) rfl) h13 rfl (by decide) rfl (fun a h14 => ?_)
      refine wl_notF (wanted_fr rfl rfl h14 (by decide) (h14.at 3 rfl) rfl) h14 rfl (by decide) rfl (fun a h15 => ?_)
      refine wl_valF (wanted_none rfl) (run_pick (v := .bool true) (v' := undef) rfl (h15.at 4 rfl) rfl (h15.at 0 rfl)) h15 rfl (by decide) rfl (fun a h16 => ?_)
      show Code.wp _ _ _ _ _
      exact cond_ret (h16.at 0 rfl) h16 rfl rfl rfl (fun _ a' ha => hret _ _ ha ((H.k.trans qw2).trans qw3)) (fun h => by cases h)
    · skip
      obtain ⟨-, -, -, y3⟩ := (qw2.trans qw3).box4 H.b10
      refine wl_valF (wanted_fr rfl rfl h8 (by decide) (h8.at 3 rfl) rfl) (run_not rfl (h8.at 0 rfl)) h8 rfl (by decide) rfl (fun a h9 => ?_)
      refine wl_valF (wanted_none rfl) (run_pick (v := .bool true) (v' := .bool false) rfl (h9.at 4 rfl) rfl (h9.at 0 rfl)) h9 rfl (by decide) rfl (fun a h10 => ?_)
      refine wl_valF (wanted_none rfl) (run_move' rfl (h10.at 0 rfl)) h10 rfl (by decide) rfl (fun a h11 => ?_)
      refine wl_valF (wanted_fr rfl rfl h11 (by decide) (h11.at 0 rfl) rfl) (run_field25 rfl (by decide) (h11.at 18 rfl)) h11 rfl (by decide) rfl (fun a h12 => ?_)
      refine wl_valF (wanted_fr rfl rfl h12 (by decide) (h12.at 1 rfl) rfl) (run_load23 rfl (h12.at 0 rfl) y3) h12 rfl (by decide) rfl (fun a h13 => ?_)
      refine wl_callF (wanted_fr rfl rfl h13 (by decide) (h13.at 2 rfl) rfl) (run_enter1 (en7 _) rfl (h13.at 0 rfl)) (ascending7 lX.ac lX.nc lX.cc _ w3 m3 (g3.kept ((H.k.trans qw2).trans qw3))) h13 rfl (by decide) rfl ?_
      rintro e w4 ⟨⟨b3, rfl, hb3⟩, qw4⟩
      refine ⟨_, rfl, fun a h14 => ?_⟩
      cases b3
      · skip
        refine wl_valF (wanted_fr rfl rfl h14 (by decide) (h14.at 3 rfl) rfl) (run_not rfl (h14.at 0 rfl)) h14 rfl (by decide) rfl (fun a h15 => ?_)
        refine wl_valF (wanted_none rfl) (run_pick (v := .bool true) (v' := .bool true) rfl (h15.at 4 rfl) rfl (h15.at 0 rfl)) h15 rfl (by decide) rfl (fun a h16 => ?_)
        show Code.wp _ _ _ _ _
        exact cond_ret (h16.at 0 rfl) h16 rfl rfl rfl (fun _ a' ha => hret _ _ ha (((H.k.trans qw2).trans qw3).trans qw4)) (fun h => by cases h)
      · skip
        refine wl_valF (wanted_fr rfl rfl h14 (by decide) (h14.at 3 rfl) rfl) (run_not rfl (h14.at 0 rfl)) h14 rfl (by decide) rfl (fun a h15 => ?_)
        refine wl_valF (wanted_none rfl) (run_pick (v := .bool true) (v' := .bool false) rfl (h15.at 4 rfl) rfl (h15.at 0 rfl)) h15 rfl (by decide) rfl (fun a h16 => ?_)
        show Code.wp _ _ _ _ _
        exact cond_ret (h16.at 0 rfl) h16 rfl rfl rfl (fun h => by cases h) (fun _ => next _ _ (H.go ((qw2.trans qw3).trans qw4) (h16.sub (Has.cons (h16.at 16 rfl) (Has.cons (h16.at 17 rfl) (Has.cons (h16.at 18 rfl) (Has.cons (h16.at 19 rfl) (Has.cons (h16.at 20 rfl) (Has.cons (h16.at 21 rfl) (Has.cons (h16.at 22 rfl) (Has.cons (h16.at 23 rfl) (Has.nil _))))))))))) (hb1 rfl) (hb2 rfl) (hb3 rfl))

set_option maxHeartbeats 1600000 in
theorem st7 (hret : ∀ a w', Fr 373 a [(16, .bool true)] → Kept w w' → Q .ret a w') (hX : IsV w lX.val X) (B : BndL X.changes) {a : Act} {w1 : World} (H : SA w lF lX at_ nt ct a3 n c3 j mark fz kn a w1)
    (next : ∀ a w2, SA w lF lX at_ nt ct a3 n c3 j mark fz kn a w2 → (∀ x ∈ X.changes, Plain x) → (restC 8).wp Tryz.prog Q a w2) : (restC 7).wp Tryz.prog Q a w1 := by
  have h0 := H.fr
  obtain ⟨ab, nb, cb, al, nl, cl, ac, nc, cc, e, g1, g2, g3⟩ := hX.ex
  have e' : lX.arr = _ := Value.agg.inj e
  simp only [VL.arr, Array.mk.injEq, List.cons.injEq, Value.slice.injEq, and_true] at e'
  obtain ⟨-, -, -, rfl, rfl, rfl⟩ := e'
  have g3' := g3.kept H.k
  have m3 := B.n
  rw [g3.len] at m3
  obtain ⟨-, -, -, y3⟩ := (Kept.refl w1).box4 H.b10
  refine loopL (fun i => Plain (X.changes.getD i [])) (n := lX.nc) (val := true) H.fr rfl rfl rfl (by decide) rfl ?_ ?_ ?_ (fun a' h => hret _ _ h H.k) (fun a' h hP => next _ _ (H.go (Kept.refl _) h) (fun x hx => ?_))
  · intro Q' k a h0 hq
    refine wl_valF (wanted_none rfl) (run_move' rfl (h0.at 0 rfl)) h0 rfl (by decide) rfl (fun a h1 => ?_)
    refine wl_valF (wanted_none rfl) (run_field25 rfl (by decide) (h1.at 9 rfl)) h1 rfl (by decide) rfl (fun a h2 => ?_)
    refine wl_valF (wanted_none rfl) (run_load23 rfl (h2.at 0 rfl) y3) h2 rfl (by decide) rfl (fun a h3 => ?_)
    refine wl_valF (wanted_none rfl) (run_lenS rfl (by decide) (h3.at 0 rfl)) h3 rfl (by decide) rfl (fun a h4 => ?_)
    refine wl_valF (wanted_none rfl) (run_lss rfl (h4.at 3 rfl) (h4.at 0 rfl)) h4 rfl (by decide) rfl (fun a h5 => ?_)
    exact hq _ (h5.sub (Has.cons (h5.at 0 rfl) (Has.cons (h5.at 5 rfl) (Has.cons (h5.at 6 rfl) (Has.cons (h5.at 7 rfl) (Has.cons (h5.at 8 rfl) (Has.cons (h5.at 9 rfl) (Has.cons (h5.at 10 rfl) (Has.cons (h5.at 11 rfl) (Has.cons (h5.at 12 rfl) (Has.cons (h5.at 13 rfl) (Has.nil _))))))))))))
  · intro Q' k a hk h0 hq hr
    obtain ⟨bc, offc, ea, hc⟩ := g3'.row (by omega)
    have cc0 := hc k hk
    obtain ⟨x, hx⟩ : ∃ x, x = X.changes.getD k [] := ⟨_, rfl⟩
    have hxl : x.length ≤ 1048576 := by rw [hx]; exact B.s k (by rw [g3.len]; exact hk)
    rw [← hx] at cc0 hq
    have y3' := y3
    rw [ea] at y3'
    refine wp_seq (wp_region_list ?_)
    refine wl_valF (wanted_none rfl) (run_field25 rfl (by decide) (h0.at 8 rfl)) h0 rfl (by decide) rfl (fun a h1 => ?_)
    refine wl_valF (wanted_none rfl) (run_load23 rfl (h1.at 0 rfl) y3') h1 rfl (by decide) rfl (fun a h2 => ?_)
    refine wl_valF (wanted_none rfl) (run_move' rfl (h2.at 2 rfl)) h2 rfl (by decide) rfl (fun a h3 => ?_)
    refine wl_valF (wanted_none rfl) (run_index23 rfl (h3.at 1 rfl) (h3.at 0 rfl) hk) h3 rfl (by decide) rfl (fun a h4 => ?_)
    refine wl_valF (wanted_none rfl) (run_load9 rfl (h4.at 0 rfl) cc0) h4 rfl (by decide) rfl (fun a h5 => ?_)
    refine wl_callF (wanted_none rfl) (run_enter1 (en8 _) rfl (h5.at 0 rfl)) (plain8 x w1 hxl) h5 rfl (by decide) rfl ?_
    rintro e w2 ⟨⟨b, rfl, hb⟩, rfl⟩
    refine ⟨_, rfl, fun a h6 => ?_⟩
    cases b
    · skip
      refine wl_valF (wanted_none rfl) (run_not rfl (h6.at 0 rfl)) h6 rfl (by decide) rfl (fun a h7 => ?_)
      show Code.wp _ _ _ _ _
      exact cond_ret' (h7.at 0 rfl) h7 rfl rfl rfl (fun _ a' ha => hr a' ha) (fun h => by cases h)
    · skip
      refine wl_valF (wanted_none rfl) (run_not rfl (h6.at 0 rfl)) h6 rfl (by decide) rfl (fun a h7 => ?_)
      show Code.wp _ _ _ _ _
      exact cond_ret' (h7.at 0 rfl) h7 rfl rfl rfl (fun h => by cases h) (fun _ => hq _ (h7.sub (Has.cons (h7.at 7 rfl) (Has.cons (h7.at 8 rfl) (Has.cons (h7.at 9 rfl) (Has.cons (h7.at 10 rfl) (Has.cons (h7.at 11 rfl) (Has.cons (h7.at 12 rfl) (Has.cons (h7.at 13 rfl) (Has.cons (h7.at 14 rfl) (Has.cons (h7.at 15 rfl) (Has.nil _))))))))))) (hb rfl))
  · intro Q' k a hk h0 hq
    refine wl_valF (wanted_none rfl) (run_move' rfl (h0.at 0 rfl)) h0 rfl (by decide) rfl (fun a h1 => ?_)
    refine wl_valF (wanted_none rfl) (run_inc' rfl (h1.at 0 rfl) (by omega)) h1 rfl (by decide) rfl (fun a h2 => ?_)
    refine wl_valF (wanted_none rfl) (run_assign' rfl (h2.at 0 rfl)) (h2.sub (Has.cons (h2.at 0 rfl) (Has.cons (h2.at 1 rfl) (Has.cons (h2.at 3 rfl) (Has.cons (h2.at 4 rfl) (Has.cons (h2.at 5 rfl) (Has.cons (h2.at 6 rfl) (Has.cons (h2.at 7 rfl) (Has.cons (h2.at 8 rfl) (Has.cons (h2.at 9 rfl) (Has.cons (h2.at 10 rfl) (Has.nil _)))))))))))) rfl (by decide) rfl (fun a h3 => ?_)
    exact hq _ (h3.sub (Has.cons (h3.at 0 rfl) (Has.cons (h3.at 3 rfl) (Has.cons (h3.at 4 rfl) (Has.cons (h3.at 5 rfl) (Has.cons (h3.at 6 rfl) (Has.cons (h3.at 7 rfl) (Has.cons (h3.at 8 rfl) (Has.cons (h3.at 9 rfl) (Has.cons (h3.at 10 rfl) (Has.nil _)))))))))))
  · obtain ⟨q, hq, rfl⟩ := List.getElem_of_mem hx
    have := hP q (by rw [← g3.len]; exact hq)
    rwa [List.getD_eq_getElem?_getD, List.getElem?_eq_getElem hq] at this

end

end Go.Proofs.Qxb6616331aGreatDoor
