/-
  THE WALKS of seat b6616331aZD, X6: the law's first part: what it asks of its input.
-/
import Derived.Test.Qxb6616331aGreatDoorX5
namespace Go.Proofs.Qxb6616331aGreatDoor
open Go.RowKit
set_option linter.unusedVariables false
set_option linter.unusedSimpArgs false
set_option linter.unnecessarySimpa false
set_option maxRecDepth 40000

section
variable {ops : Array Oper} {Q : Exit → Act → World → Prop} {a : Act} {w w' : World} {rest : List Oper} {o : Oper} {v : Value} {n d : Nat} {L L' : List (Nat × Value)}
theorem wanted_fr {j d : Nat} {b b' c : Bool} (hg : o.guard = some (j, b)) (hj : (ops[j]?).bind (·.dst) = some d) (hF : Fr n a L') (hd : d < n) (hr : rd a d = .bool b') (e : (b' == b) = c) : Region.wanted o (yielded ops a.tmps) = c := (wanted_some hg hj hF.size hd hr).trans e
theorem wl_valF (hw : Region.wanted o (yielded ops a.tmps) = true) (hr : (execOp a.eval o).run Tryz.prog w = .ok (.value v) w') (hF : Fr n a L) (hd : o.dst = some d) (hn : d < n) (hc : (L.map Prod.fst).contains d = false) (h : ∀ a', Fr n a' ((d, v) :: L) → wpList Tryz.prog ops Q rest a' w') : wpList Tryz.prog ops Q (o :: rest) a w :=
  wl_val hw hr (by rw [hd]; exact h _ (hF.put d v hn hc))
theorem wl_notF (hw : Region.wanted o (yielded ops a.tmps) = false) (hF : Fr n a L) (hd : o.dst = some d) (hn : d < n) (hc : (L.map Prod.fst).contains d = false) (h : ∀ a', Fr n a' ((d, undef) :: L) → wpList Tryz.prog ops Q rest a' w) : wpList Tryz.prog ops Q (o :: rest) a w :=
  wl_not hw (by rw [hd]; exact h _ (hF.put d undef hn hc))
theorem wl_callF {f : FuncId} {args : Array Value} {post : Ending → World → Prop} (hw : Region.wanted o (yielded ops a.tmps) = true) (hr : (execOp a.eval o).run Tryz.prog w = .ok (.enter f args) w) (hcl : Calls Tryz.prog f args w post) (hF : Fr n a L) (hd : o.dst = some d) (hn : d < n) (hc : (L.map Prod.fst).contains d = false)
    (h : ∀ e w', post e w' → ∃ v, e = .returned v ∧ ∀ a', Fr n a' ((d, v) :: L) → wpList Tryz.prog ops Q rest a' w') : wpList Tryz.prog ops Q (o :: rest) a w :=
  wl_call hw hr hcl (fun e w' hp => by
    obtain ⟨v, e1, h1⟩ := h e w' hp
    exact ⟨v, e1, by rw [hd]; exact h1 _ (hF.put d v hn hc)⟩)
end
theorem run_bool {W : World} {a : Act} {o : Oper} {b c : Bool} (hr : (execOp a.eval o).run Tryz.prog W = .ok (.value (.bool b)) W) (e : b = c) : (execOp a.eval o).run Tryz.prog W = .ok (.value (.bool c)) W := e ▸ hr
theorem en5 (W : World) (args : Array Value) : (callFunc 5 args).run Tryz.prog W = .ok (.enter 5 args) W := callFunc_enter Tryz.func5 (by decide +kernel) rfl args W
theorem en6 (W : World) (args : Array Value) : (callFunc 6 args).run Tryz.prog W = .ok (.enter 6 args) W := callFunc_enter Tryz.func6 (by decide +kernel) rfl args W
theorem en7 (W : World) (args : Array Value) : (callFunc 7 args).run Tryz.prog W = .ok (.enter 7 args) W := callFunc_enter Tryz.func7 (by decide +kernel) rfl args W
theorem en8 (W : World) (args : Array Value) : (callFunc 8 args).run Tryz.prog W = .ok (.enter 8 args) W := callFunc_enter Tryz.func8 (by decide +kernel) rfl args W
theorem en9 (W : World) (args : Array Value) : (callFunc 9 args).run Tryz.prog W = .ok (.enter 9 args) W := callFunc_enter Tryz.func9 (by decide +kernel) rfl args W
theorem en10 (W : World) (args : Array Value) : (callFunc 10 args).run Tryz.prog W = .ok (.enter 10 args) W := callFunc_enter Tryz.func10 (by decide +kernel) rfl args W
theorem en11 (W : World) (args : Array Value) : (callFunc 11 args).run Tryz.prog W = .ok (.enter 11 args) W := callFunc_enter Tryz.func11 (by decide +kernel) rfl args W
theorem en12 (W : World) (args : Array Value) : (callFunc 12 args).run Tryz.prog W = .ok (.enter 12 args) W := callFunc_enter Tryz.func12 (by decide +kernel) rfl args W
theorem en13 (W : World) (args : Array Value) : (callFunc 13 args).run Tryz.prog W = .ok (.enter 13 args) W := callFunc_enter Tryz.func13 (by decide +kernel) rfl args W
theorem en14 (W : World) (args : Array Value) : (callFunc 14 args).run Tryz.prog W = .ok (.enter 14 args) W := callFunc_enter Tryz.func14 (by decide +kernel) rfl args W
theorem en15 (W : World) (args : Array Value) : (callFunc 15 args).run Tryz.prog W = .ok (.enter 15 args) W := callFunc_enter Tryz.func15 (by decide +kernel) rfl args W
theorem en16 (W : World) (args : Array Value) : (callFunc 16 args).run Tryz.prog W = .ok (.enter 16 args) W := callFunc_enter Tryz.func16 (by decide +kernel) rfl args W
theorem en17 (W : World) (args : Array Value) : (callFunc 17 args).run Tryz.prog W = .ok (.enter 17 args) W := callFunc_enter Tryz.func17 (by decide +kernel) rfl args W
theorem en18 (W : World) (args : Array Value) : (callFunc 18 args).run Tryz.prog W = .ok (.enter 18 args) W := callFunc_enter Tryz.func18 (by decide +kernel) rfl args W
theorem en19 (W : World) (args : Array Value) : (callFunc 19 args).run Tryz.prog W = .ok (.enter 19 args) W := callFunc_enter Tryz.func19 (by decide +kernel) rfl args W
theorem en20 (W : World) (args : Array Value) : (callFunc 20 args).run Tryz.prog W = .ok (.enter 20 args) W := callFunc_enter Tryz.func20 (by decide +kernel) rfl args W
theorem en21 (W : World) (args : Array Value) : (callFunc 21 args).run Tryz.prog W = .ok (.enter 21 args) W := callFunc_enter Tryz.func21 (by decide +kernel) rfl args W
theorem en22 (W : World) (args : Array Value) : (callFunc 22 args).run Tryz.prog W = .ok (.enter 22 args) W := callFunc_enter Tryz.func22 (by decide +kernel) rfl args W
theorem en23 (W : World) (args : Array Value) : (callFunc 23 args).run Tryz.prog W = .ok (.enter 23 args) W := callFunc_enter Tryz.func23 (by decide +kernel) rfl args W
theorem en24 (W : World) (args : Array Value) : (callFunc 24 args).run Tryz.prog W = .ok (.enter 24 args) W := callFunc_enter Tryz.func24 (by decide +kernel) rfl args W

theorem BndA.small {A : Ans} (h : BndA A) : SmallA A := ⟨h.vw.n, h.nx.n, h.bn, h.un, fun l hl => by
  obtain ⟨q, hq, rfl⟩ := List.getElem_of_mem hl
  have := (h.bs q hq).n
  rwa [List.getD_eq_getElem?_getD, List.getElem?_eq_getElem hq] at this, fun l hl => by
  obtain ⟨q, hq, rfl⟩ := List.getElem_of_mem hl
  have := (h.us q hq).n
  rwa [List.getD_eq_getElem?_getD, List.getElem?_eq_getElem hq] at this⟩
theorem Bnd.sF {F X : View} {tos : List Str} {As : List Ans} {mark : Str} (B : Bnd F X tos As mark) : Small F := ⟨B.fb.n, B.fl.n, B.fc.n⟩
theorem Bnd.sX {F X : View} {tos : List Str} {As : List Ans} {mark : Str} (B : Bnd F X tos As mark) : Small X := ⟨B.xb.n, B.xl.n, B.xc.n⟩

/-- The law's state while it looks at its input. -/
structure SA (w : World) (lF lX : VL) (at_ : Option Addr) (nt ct : Nat) (a3 : Option Addr) (n c3 : Nat) (j : Int) (mark : Str) (fz kn : Bool) (a : Act) (w' : World) : Prop where
  fr : Fr 373 a [(1, .slice at_ nt ct), (3, .slice a3 n c3), (4, .int .i64 j), (5, sv mark), (6, .bool fz), (7, .bool kn), (8, .pointer (some ⟨w.heap.size, 0, none⟩)), (10, .pointer (some ⟨(w.heap.size + 1), 0, none⟩))]
  k : Kept w w'
  b8 : w'.heap[w.heap.size]? = some (.cells lF.arr 25 (0, 0))
  b10 : w'.heap[w.heap.size + 1]? = some (.cells lX.arr 25 (0, 0))
theorem SA.go {w : World} {lF lX : VL} {at_ : Option Addr} {nt ct : Nat} {a3 : Option Addr} {n c3 : Nat} {j : Int} {mark : Str} {fz kn : Bool} {a a' : Act} {w1 w2 : World} (h : SA w lF lX at_ nt ct a3 n c3 j mark fz kn a w1) (q : Kept w1 w2) (hf : Fr 373 a' [(1, .slice at_ nt ct), (3, .slice a3 n c3), (4, .int .i64 j), (5, sv mark), (6, .bool fz), (7, .bool kn), (8, .pointer (some ⟨w.heap.size, 0, none⟩)), (10, .pointer (some ⟨(w.heap.size + 1), 0, none⟩))]) : SA w lF lX at_ nt ct a3 n c3 j mark fz kn a' w2 :=
  ⟨hf, h.k.trans q, q.blk h.b8, q.blk h.b10⟩

section
variable {w : World} {lF lX : VL} {F X : View} {at_ : Option Addr} {nt ct : Nat} {tos : List Str} {a3 : Option Addr} {n c3 : Nat} {As : List Ans} {j : Int} {mark : Str} {fz kn : Bool} {Q : Exit → Act → World → Prop}
set_option maxHeartbeats 6400000 in
theorem st1 (hret : ∀ a w', Fr 373 a [(16, .bool true)] → Kept w w' → Q .ret a w') (hF : IsV w lF.val F) (hX : IsV w lX.val X) (hT : IsL w at_ nt tos) (hA : IsA w a3 n As) {a : Act} {w1 : World} (H : SA w lF lX at_ nt ct a3 n c3 j mark fz kn a w1)
    (next : ∀ a w2, SA w lF lX at_ nt ct a3 n c3 j mark fz kn a w2 → Bnd F X tos As mark → (restC 2).wp Tryz.prog Q a w2) : (restC 1).wp Tryz.prog Q a w1 := by
  have h0 := H.fr
  refine wp_seq (wp_seq (wp_region_list ?_))
  refine wl_valF (wanted_none rfl) (run_load25 rfl (h0.at 6 rfl) H.b8) h0 rfl (by decide) rfl (fun a h1 => ?_)
  refine wl_valF (wanted_none rfl) (run_move' rfl (h1.at 1 rfl)) h1 rfl (by decide) rfl (fun a h2 => ?_)
  refine wl_valF (wanted_none rfl) (run_load25 rfl (h2.at 9 rfl) H.b10) h2 rfl (by decide) rfl (fun a h3 => ?_)
  refine wl_valF (wanted_none rfl) (run_move' rfl (h3.at 4 rfl)) h3 rfl (by decide) rfl (fun a h4 => ?_)
  refine wl_valF (wanted_none rfl) (run_move' rfl (h4.at 6 rfl)) h4 rfl (by decide) rfl (fun a h5 => ?_)
  refine wl_valF (wanted_none rfl) (run_move' rfl (h5.at 8 rfl)) h5 rfl (by decide) rfl (fun a h6 => ?_)
  refine wl_valF (wanted_none rfl) (run_move' rfl (h6.at 10 rfl)) h6 rfl (by decide) rfl (fun a h7 => ?_)
  refine wl_valF (wanted_none rfl) (run_move' rfl (h7.at 12 rfl)) h7 rfl (by decide) rfl (fun a h8 => ?_)
  refine wl_callF (wanted_none rfl) (run_enter8 (en5 _) rfl (h8.at 7 rfl) (h8.at 6 rfl) (h8.at 5 rfl) (h8.at 4 rfl) (h8.at 3 rfl) (h8.at 2 rfl) (h8.at 1 rfl) (h8.at 0 rfl)) (bytes5 lF.val lX.val F X at_ a3 nt ct n c3 tos As j mark fz kn w1 (hF.kept H.k) (hX.kept H.k) (hT.kept H.k) (hA.kept H.k)) h8 rfl (by decide) rfl ?_
  rintro e w2 ⟨⟨b, rfl, hb⟩, k2⟩
  refine ⟨_, rfl, fun a h9 => ?_⟩
  cases b
  · skip
    refine wl_valF (wanted_none rfl) (run_not rfl (h9.at 0 rfl)) h9 rfl (by decide) rfl (fun a h10 => ?_)
    show Code.wp _ _ _ _ _
    exact cond_ret (h10.at 0 rfl) h10 rfl rfl rfl (fun _ a' ha => hret _ _ ha (H.k.trans k2)) (fun h => by cases h)
  · skip
    refine wl_valF (wanted_none rfl) (run_not rfl (h9.at 0 rfl)) h9 rfl (by decide) rfl (fun a h10 => ?_)
    show Code.wp _ _ _ _ _
    exact cond_ret (h10.at 0 rfl) h10 rfl rfl rfl (fun h => by cases h) (fun _ => next _ _ (H.go k2 (h10.sub (Has.cons (h10.at 10 rfl) (Has.cons (h10.at 11 rfl) (Has.cons (h10.at 12 rfl) (Has.cons (h10.at 13 rfl) (Has.cons (h10.at 14 rfl) (Has.cons (h10.at 15 rfl) (Has.cons (h10.at 16 rfl) (Has.cons (h10.at 17 rfl) (Has.nil _))))))))))) (hb rfl))

set_option maxHeartbeats 6400000 in
theorem st2 (hret : ∀ a w', Fr 373 a [(16, .bool true)] → Kept w w' → Q .ret a w') (hF : IsV w lF.val F) (hX : IsV w lX.val X) (hT : IsL w at_ nt tos) (hA : IsA w a3 n As) (B : Bnd F X tos As mark) {a : Act} {w1 : World} (H : SA w lF lX at_ nt ct a3 n c3 j mark fz kn a w1)
    (next : ∀ a w2, SA w lF lX at_ nt ct a3 n c3 j mark fz kn a w2 → (restC 3).wp Tryz.prog Q a w2) : (restC 2).wp Tryz.prog Q a w1 := by
  have h0 := H.fr
  have hn1 : nt ≤ 1048576 := by rw [← hT.len]; exact B.t.n
  have hn2 : n ≤ 1048576 := by rw [← hA.len]; exact B.an
  refine wp_seq (wp_seq (wp_region_list ?_))
  refine wl_valF (wanted_none rfl) (run_load25 rfl (h0.at 6 rfl) H.b8) h0 rfl (by decide) rfl (fun a h1 => ?_)
  refine wl_valF (wanted_none rfl) (run_move' rfl (h1.at 1 rfl)) h1 rfl (by decide) rfl (fun a h2 => ?_)
  refine wl_valF (wanted_none rfl) (run_load25 rfl (h2.at 9 rfl) H.b10) h2 rfl (by decide) rfl (fun a h3 => ?_)
  refine wl_valF (wanted_none rfl) (run_move' rfl (h3.at 4 rfl)) h3 rfl (by decide) rfl (fun a h4 => ?_)
  refine wl_callF (wanted_none rfl) (run_enter5 (en6 _) rfl (h4.at 3 rfl) (h4.at 2 rfl) (h4.at 1 rfl) (h4.at 0 rfl)) (tallyBytes6 1048576 lF.val lX.val F X at_ a3 nt ct n c3 tos As w1 (hF.kept H.k) B.sF (hX.kept H.k) B.sX (hT.kept H.k) hn1 (hA.kept H.k) hn2 (fun i hi => (B.a i (by rw [hA.len]; exact hi)).small)) h4 rfl (by decide) rfl ?_
  rintro e w2 ⟨⟨r, rfl⟩, k2⟩
  refine ⟨_, rfl, fun a h5 => ?_⟩
  refine wl_valF (wanted_none rfl) (run_gtr rfl (h5.at 0 rfl)) h5 rfl (by decide) rfl (fun a h6 => ?_)
  show Code.wp _ _ _ _ _
  exact cond_ret (h6.at 0 rfl) h6 rfl rfl rfl (fun hb a' ha => hret _ _ ha (H.k.trans k2)) (fun hb => next _ _ (H.go k2 (h6.sub (Has.cons (h6.at 6 rfl) (Has.cons (h6.at 7 rfl) (Has.cons (h6.at 8 rfl) (Has.cons (h6.at 9 rfl) (Has.cons (h6.at 10 rfl) (Has.cons (h6.at 11 rfl) (Has.cons (h6.at 12 rfl) (Has.cons (h6.at 13 rfl) (Has.nil _))))))))))))

set_option maxHeartbeats 6400000 in
theorem st3 (hret : ∀ a w', Fr 373 a [(16, .bool true)] → Kept w w' → Q .ret a w') {a : Act} {w1 : World} (H : SA w lF lX at_ nt ct a3 n c3 j mark fz kn a w1)
    (next : ∀ a w2, SA w lF lX at_ nt ct a3 n c3 j mark fz kn a w2 → (restC 4).wp Tryz.prog Q a w2) : (restC 3).wp Tryz.prog Q a w1 := by
  have h0 := H.fr
  refine wp_seq (wp_seq (wp_region_list ?_))
  refine wl_valF (wanted_none rfl) (run_move' rfl (h0.at 3 rfl)) h0 rfl (by decide) rfl (fun a h1 => ?_)
  refine wl_valF (wanted_none rfl) (run_lenT rfl (h1.at 0 rfl)) h1 rfl (by decide) rfl (fun a h2 => ?_)
  refine wl_valF (wanted_none rfl) (run_gtr rfl (h2.at 0 rfl)) h2 rfl (by decide) rfl (fun a h3 => ?_)
  show Code.wp _ _ _ _ _
  exact cond_ret (h3.at 0 rfl) h3 rfl rfl rfl (fun hb a' ha => hret _ _ ha H.k) (fun hb => next _ _ (H.go (Kept.refl _) (h3.sub (Has.cons (h3.at 3 rfl) (Has.cons (h3.at 4 rfl) (Has.cons (h3.at 5 rfl) (Has.cons (h3.at 6 rfl) (Has.cons (h3.at 7 rfl) (Has.cons (h3.at 8 rfl) (Has.cons (h3.at 9 rfl) (Has.cons (h3.at 10 rfl) (Has.nil _))))))))))))

set_option maxHeartbeats 6400000 in
theorem st4 (hret : ∀ a w', Fr 373 a [(16, .bool true)] → Kept w w' → Q .ret a w') {a : Act} {w1 : World} (H : SA w lF lX at_ nt ct a3 n c3 j mark fz kn a w1)
    (next : ∀ a w2, SA w lF lX at_ nt ct a3 n c3 j mark fz kn a w2 → 0 ≤ j → j < nt → (restC 5).wp Tryz.prog Q a w2) : (restC 4).wp Tryz.prog Q a w1 := by
  have h0 := H.fr
  refine wp_seq (wp_seq (wp_region_list ?_))
  by_cases hj : j < 0
  · skip
    refine wl_valF (wanted_none rfl) (run_move' rfl (h0.at 2 rfl)) h0 rfl (by decide) rfl (fun a h1 => ?_)
    refine wl_valF (wanted_none rfl) (run_bool (run_lssC rfl (h1.at 0 rfl)) (decide_eq_true hj)) h1 rfl (by decide) rfl (fun a h2 => ?_)
    refine wl_valF (wanted_none rfl) (run_move' rfl (h2.at 0 rfl)) h2 rfl (by decide) rfl (fun a h3 => ?_)
    refine wl_notF (wanted_fr rfl rfl h3 (by decide) (h3.at 0 rfl) rfl) h3 rfl (by decide) rfl (fun a h4 => ?_)
    refine wl_notF (wanted_fr rfl rfl h4 (by decide) (h4.at 1 rfl) rfl) h4 rfl (by decide) rfl (fun a h5 => ?_)
    refine wl_notF (wanted_fr rfl rfl h5 (by decide) (h5.at 2 rfl) rfl) h5 rfl (by decide) rfl (fun a h6 => ?_)
    refine wl_notF (wanted_fr rfl rfl h6 (by decide) (h6.at 3 rfl) rfl) h6 rfl (by decide) rfl (fun a h7 => ?_)
    refine wl_valF (wanted_none rfl) (run_pick (v := .bool true) (v' := undef) rfl (h7.at 4 rfl) rfl (h7.at 0 rfl)) h7 rfl (by decide) rfl (fun a h8 => ?_)
    show Code.wp _ _ _ _ _
    exact cond_ret (h8.at 0 rfl) h8 rfl rfl rfl (fun _ a' ha => hret _ _ ha H.k) (fun h => by cases h)
  · by_cases hj2 : (nt : Int) ≤ j
    · skip
      refine wl_valF (wanted_none rfl) (run_move' rfl (h0.at 2 rfl)) h0 rfl (by decide) rfl (fun a h1 => ?_)
      refine wl_valF (wanted_none rfl) (run_bool (run_lssC rfl (h1.at 0 rfl)) (decide_eq_false hj)) h1 rfl (by decide) rfl (fun a h2 => ?_)
      refine wl_valF (wanted_none rfl) (run_move' rfl (h2.at 0 rfl)) h2 rfl (by decide) rfl (fun a h3 => ?_)
      refine wl_valF (wanted_fr rfl rfl h3 (by decide) (h3.at 0 rfl) rfl) (run_move' rfl (h3.at 5 rfl)) h3 rfl (by decide) rfl (fun a h4 => ?_)
      refine wl_valF (wanted_fr rfl rfl h4 (by decide) (h4.at 1 rfl) rfl) (run_move' rfl (h4.at 4 rfl)) h4 rfl (by decide) rfl (fun a h5 => ?_)
      refine wl_valF (wanted_fr rfl rfl h5 (by decide) (h5.at 2 rfl) rfl) (run_lenS rfl (by decide) (h5.at 0 rfl)) h5 rfl (by decide) rfl (fun a h6 => ?_)
      refine wl_valF (wanted_fr rfl rfl h6 (by decide) (h6.at 3 rfl) rfl) (run_bool (run_geq rfl (h6.at 2 rfl) (h6.at 0 rfl)) (decide_eq_true hj2)) h6 rfl (by decide) rfl (fun a h7 => ?_)
      refine wl_valF (wanted_none rfl) (run_pick (v := .bool true) (v' := .bool true) rfl (h7.at 4 rfl) rfl (h7.at 0 rfl)) h7 rfl (by decide) rfl (fun a h8 => ?_)
      show Code.wp _ _ _ _ _
      exact cond_ret (h8.at 0 rfl) h8 rfl rfl rfl (fun _ a' ha => hret _ _ ha H.k) (fun h => by cases h)
    · skip
      refine wl_valF (wanted_none rfl) (run_move' rfl (h0.at 2 rfl)) h0 rfl (by decide) rfl (fun a h1 => ?_)
      refine wl_valF (wanted_none rfl) (run_bool (run_lssC rfl (h1.at 0 rfl)) (decide_eq_false hj)) h1 rfl (by decide) rfl (fun a h2 => ?_)
      refine wl_valF (wanted_none rfl) (run_move' rfl (h2.at 0 rfl)) h2 rfl (by decide) rfl (fun a h3 => ?_)
      refine wl_valF (wanted_fr rfl rfl h3 (by decide) (h3.at 0 rfl) rfl) (run_move' rfl (h3.at 5 rfl)) h3 rfl (by decide) rfl (fun a h4 => ?_)
      refine wl_valF (wanted_fr rfl rfl h4 (by decide) (h4.at 1 rfl) rfl) (run_move' rfl (h4.at 4 rfl)) h4 rfl (by decide) rfl (fun a h5 => ?_)
      refine wl_valF (wanted_fr rfl rfl h5 (by decide) (h5.at 2 rfl) rfl) (run_lenS rfl (by decide) (h5.at 0 rfl)) h5 rfl (by decide) rfl (fun a h6 => ?_)
      refine wl_valF (wanted_fr rfl rfl h6 (by decide) (h6.at 3 rfl) rfl) (run_bool (run_geq rfl (h6.at 2 rfl) (h6.at 0 rfl)) (decide_eq_false hj2)) h6 rfl (by decide) rfl (fun a h7 => ?_)
      refine wl_valF (wanted_none rfl) (run_pick (v := .bool true) (v' := .bool false) rfl (h7.at 4 rfl) rfl (h7.at 0 rfl)) h7 rfl (by decide) rfl (fun a h8 => ?_)
      show Code.wp _ _ _ _ _
      exact cond_ret (h8.at 0 rfl) h8 rfl rfl rfl (fun h => by cases h) (fun _ => next _ _ (H.go (Kept.refl _) (h8.sub (Has.cons (h8.at 8 rfl) (Has.cons (h8.at 9 rfl) (Has.cons (h8.at 10 rfl) (Has.cons (h8.at 11 rfl) (Has.cons (h8.at 12 rfl) (Has.cons (h8.at 13 rfl) (Has.cons (h8.at 14 rfl) (Has.cons (h8.at 15 rfl) (Has.nil _))))))))))) (by omega) (by omega))

end

end Go.Proofs.Qxb6616331aGreatDoor
