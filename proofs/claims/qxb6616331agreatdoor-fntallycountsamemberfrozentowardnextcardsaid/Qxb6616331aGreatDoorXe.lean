/-
  THE WALKS of seat b6616331aZD, Xe: the law compares what ZZtally says without and with the further answer.
-/
import Derived.Test.Qxb6616331aGreatDoorXd
namespace Go.Proofs.Qxb6616331aGreatDoor
open Go.RowKit
set_option linter.unusedVariables false
set_option linter.unusedSimpArgs false
set_option linter.unnecessarySimpa false
set_option maxRecDepth 40000

theorem wanted_undef {ops : Array Oper} {a : Act} {o : Oper} {n : Nat} {L : List (Nat × Value)} {j d : Nat} {b : Bool} (hg : o.guard = some (j, b)) (hj : (ops[j]?).bind (·.dst) = some d) (hF : Fr n a L) (hd : d < n) (hr : rd a d = undef) : Region.wanted o (yielded ops a.tmps) = false := by
  unfold Region.wanted yielded
  simp only [hg, hj]
  have hd' : d < a.tmps.size := by rw [hF.size]; exact hd
  have h : a.tmps[d]? = some undef := by
    have h1 : a.tmps[d]? = some a.tmps[d] := Array.getElem?_eq_getElem hd'
    have h2 : rd a d = a.tmps[d] := by simp [rd, Array.getD_eq_getD_getElem?, hd']
    rw [h1, ← h2, hr]
  simp only [Option.bind_some, h]
  rfl
/-- The keys are of tos. -/
theorem tGo_keys (F X : View) (tos : List Str) (M : Nat) (ht : ∀ q, (tos.getD q []).length ≤ M) : ∀ (As : List Ans) (T : Tal), (∀ p ∈ T.pairs, p.1.length ≤ M) → ∀ T', tGo F X tos As T = .inl T' → ∀ p ∈ T'.pairs, p.1.length ≤ M
  | [], T, h, T', e => by
    unfold tGo at e
    cases e
    exact h
  | A :: As, T, h, T', e => by
    unfold tGo at e
    by_cases h1 : containsP F (newViewP A.view) = true
    · rw [if_pos h1] at e
      by_cases h2 : equalP (newViewP A.next) X = true
      · rw [if_pos h2] at e
        refine tGo_keys F X tos M ht As _ (fun p hp => ?_) T' e
        rcases List.mem_append.1 hp with hp | hp
        · exact h p hp
        · rw [List.mem_singleton.1 hp]; exact ht _
      · rw [if_neg h2] at e
        exact tGo_keys F X tos M ht As (tJoin T A) h T' e
    · rw [if_neg h1] at e
      cases e
theorem run_incW {W : World} {a : Act} {o : Oper} {s k : Nat} (ho : o.op = .binOp .add 3 (.tmp s) (.const (.int .i64 1)) 3) (h : rd a s = .int .i64 (k : Int)) (h1 : k < 4194304) : (execOp a.eval o).run Tryz.prog W = .ok (.value (.int .i64 ((k + 1 : Nat) : Int))) W := by
  rw [run_inc ho h (by omega) (by omega)]
  congr 3
theorem mem_getD {xs : List Str} {k : Nat} (h : k < xs.length) : xs.getD k [] ∈ xs := by
  rw [List.getD_eq_getElem?_getD, List.getElem?_eq_getElem h]
  exact List.getElem_mem h
theorem getD_mid {Vs : List View} (h : ∀ V ∈ Vs, Mid V) (i : Nat) (hi : i < Vs.length) : Mid (Vs.getD i zeroV) := by
  rw [List.getD_eq_getElem?_getD, List.getElem?_eq_getElem hi]
  exact h _ (List.getElem_mem hi)
theorem fl_zero {f : FL} (h : f.val = zeroFrz) : f.m = none := by
  have e := Value.agg.inj (show (Value.agg f.arr) = .agg _ from h)
  simp only [FL.arr, Array.mk.injEq, List.cons.injEq, Value.map.injEq] at e
  exact e.2.1

section
variable {w : World} {member mark : Str} {fz kn : Bool} {Q : Exit → Act → World → Prop}
set_option maxHeartbeats 3200000 in
theorem st22a (hret : ∀ a w', Fr 373 a [(16, .bool true)] → Kept w w' → Q .ret a w') {b31 b32 b33 b34 : Nat} {fA fB : FL} {lA lB : VL} {a : Act} {w1 : World} (k1 : Kept w w1) (h0 : Fr 373 a [(33, .pointer (some ⟨b33, 0, none⟩)), (34, .pointer (some ⟨b34, 0, none⟩)), (31, .pointer (some ⟨b31, 0, none⟩)), (32, .pointer (some ⟨b32, 0, none⟩)), (5, sv mark), (6, .bool fz), (7, .bool kn), (19, sv member)])
    (hb31 : w1.heap[b31]? = some (.cells fA.arr 44 (0, 0))) (hb32 : w1.heap[b32]? = some (.cells lA.arr 42 (0, 0))) (hb33 : w1.heap[b33]? = some (.cells fB.arr 44 (0, 0))) (hb34 : w1.heap[b34]? = some (.cells lB.arr 42 (0, 0))) {V : View} (hA : fA.val = zeroFrz) (hB : fB.val = zeroFrz) (vA : IsV w1 lA.val V) (vB : IsV w1 lB.val V) (hM : Mid V) : (restC 22).wp Tryz.prog Q a w1 := by
  refine wp_seq (wp_region_list ?_)
  refine wl_valF (wanted_none rfl) (run_load44 rfl (h0.at 2 rfl) hb31) h0 rfl (by decide) rfl (fun a h1 => ?_)
  refine wl_callF (wanted_none rfl) (run_enter1 (en16 _) rfl (h1.at 0 rfl)) (frzFields16 w1 fA.a0 fA.n0 fA.c0 fA.m fA.a2 fA.n2 fA.c2 fA.b fA.a4 fA.n4 fA.c4 fA.l.N fA.l.ab fA.l.nb fA.l.cb fA.l.al fA.l.nl fA.l.cl fA.l.ac fA.l.nc fA.l.cc) h1 rfl (by decide) rfl ?_
  rintro e w2a ⟨rfl, qw2⟩
  refine ⟨_, rfl, fun a h2 => ?_⟩
  refine wl_valF (wanted_none rfl) (run_move' rfl (h2.at 0 rfl)) h2 rfl (by decide) rfl (fun a h3 => ?_)
  refine wl_valF (wanted_none rfl) (run_extract rfl (h3.at 0 rfl) rfl) h3 rfl (by decide) rfl (fun a h4 => ?_)
  refine wl_valF (wanted_none rfl) (run_extract rfl (h4.at 1 rfl) rfl) h4 rfl (by decide) rfl (fun a h5 => ?_)
  refine wl_valF (wanted_none rfl) (run_extract rfl (h5.at 2 rfl) rfl) h5 rfl (by decide) rfl (fun a h6 => ?_)
  refine wl_valF (wanted_none rfl) (run_extract rfl (h6.at 3 rfl) rfl) h6 rfl (by decide) rfl (fun a h7 => ?_)
  refine wl_valF (wanted_none rfl) (run_extract rfl (h7.at 4 rfl) rfl) h7 rfl (by decide) rfl (fun a h8 => ?_)
  refine wl_valF (wanted_none rfl) (run_extract rfl (h8.at 5 rfl) rfl) h8 rfl (by decide) rfl (fun a h9 => ?_)
  refine wl_valF (wanted_none rfl) (run_alloc42 rfl) h9 rfl (by decide) rfl (fun a h10 => ?_)
  refine wl_valF (wanted_none rfl) (run_assign' rfl (h10.at 6 rfl)) h10 rfl (by decide) rfl (fun a h11 => ?_)
  refine wl_valF (wanted_none rfl) (run_assign' rfl (h11.at 6 rfl)) h11 rfl (by decide) rfl (fun a h12 => ?_)
  refine wl_valF (wanted_none rfl) (run_assign' rfl (h12.at 6 rfl)) h12 rfl (by decide) rfl (fun a h13 => ?_)
  refine wl_valF (wanted_none rfl) (run_assign' rfl (h13.at 6 rfl)) h13 rfl (by decide) rfl (fun a h14 => ?_)
  refine wl_valF (wanted_none rfl) (run_assign' rfl (h14.at 6 rfl)) h14 rfl (by decide) rfl (fun a h15 => ?_)
  have nbw2 := heap_alloc_new w2a (.cells #[.int .u64 0, .slice none 0 0, .slice none 0 0, .slice none 0 0] 42)
  refine wl_skip (wanted_none rfl) rfl (run_store42 rfl (h15.at 5 rfl) (h15.at 6 rfl) nbw2) ?_
  show Code.wp _ _ _ _ _
  have kpw2 := (Kept.alloc w2a (.cells #[.int .u64 0, .slice none 0 0, .slice none 0 0, .slice none 0 0] 42)).put4 w2a.heap.size (Nat.le_refl _) (.int .u64 fA.l.N) (.slice fA.l.ab fA.l.nb fA.l.cb) (.slice fA.l.al fA.l.nl fA.l.cl) (.slice fA.l.ac fA.l.nc fA.l.cc)
  have bkw2 := put4_blk nbw2 (.int .u64 fA.l.N) (.slice fA.l.ab fA.l.nb fA.l.cb) (.slice fA.l.al fA.l.nl fA.l.cl) (.slice fA.l.ac fA.l.nc fA.l.cc)
  refine world_abs (F := fun w5 => Kept w1 w5 ∧ w5.heap[w2a.heap.size]? = some (.cells fA.l.arr 42 (0, 0))) ⟨qw2.trans kpw2, bkw2⟩ (fun w2 hw2 => ?_)
  obtain ⟨Kw2, Cw2⟩ := hw2
  have g0 := (h15.sub (Has.cons (h15.at 4 rfl) (Has.cons (h15.at 3 rfl) (Has.cons (h15.at 2 rfl) (Has.cons (h15.at 1 rfl) (Has.cons (h15.at 0 rfl) (Has.cons (h15.at 5 rfl) (Has.cons (h15.at 15 rfl) (Has.cons (h15.at 16 rfl) (Has.cons (h15.at 17 rfl) (Has.cons (h15.at 18 rfl) (Has.cons (h15.at 19 rfl) (Has.cons (h15.at 20 rfl) (Has.cons (h15.at 21 rfl) (Has.cons (h15.at 22 rfl) (Has.nil _))))))))))))))))
  refine wp_seq (wp_region_list ?_)
  refine wl_valF (wanted_none rfl) (run_load44 rfl (g0.at 6 rfl) (Kw2.blk hb33)) g0 rfl (by decide) rfl (fun a h16 => ?_)
  refine wl_callF (wanted_none rfl) (run_enter1 (en16 _) rfl (h16.at 0 rfl)) (frzFields16 w2 fB.a0 fB.n0 fB.c0 fB.m fB.a2 fB.n2 fB.c2 fB.b fB.a4 fB.n4 fB.c4 fB.l.N fB.l.ab fB.l.nb fB.l.cb fB.l.al fB.l.nl fB.l.cl fB.l.ac fB.l.nc fB.l.cc) h16 rfl (by decide) rfl ?_
  rintro e w3a ⟨rfl, qw3⟩
  refine ⟨_, rfl, fun a h17 => ?_⟩
  refine wl_valF (wanted_none rfl) (run_move' rfl (h17.at 0 rfl)) h17 rfl (by decide) rfl (fun a h18 => ?_)
  refine wl_valF (wanted_none rfl) (run_extract rfl (h18.at 0 rfl) rfl) h18 rfl (by decide) rfl (fun a h19 => ?_)
  refine wl_valF (wanted_none rfl) (run_extract rfl (h19.at 1 rfl) rfl) h19 rfl (by decide) rfl (fun a h20 => ?_)
  refine wl_valF (wanted_none rfl) (run_extract rfl (h20.at 2 rfl) rfl) h20 rfl (by decide) rfl (fun a h21 => ?_)
  refine wl_valF (wanted_none rfl) (run_extract rfl (h21.at 3 rfl) rfl) h21 rfl (by decide) rfl (fun a h22 => ?_)
  refine wl_valF (wanted_none rfl) (run_extract rfl (h22.at 4 rfl) rfl) h22 rfl (by decide) rfl (fun a h23 => ?_)
  refine wl_valF (wanted_none rfl) (run_extract rfl (h23.at 5 rfl) rfl) h23 rfl (by decide) rfl (fun a h24 => ?_)
  refine wl_valF (wanted_none rfl) (run_alloc42 rfl) h24 rfl (by decide) rfl (fun a h25 => ?_)
  refine wl_valF (wanted_none rfl) (run_assign' rfl (h25.at 6 rfl)) h25 rfl (by decide) rfl (fun a h26 => ?_)
  refine wl_valF (wanted_none rfl) (run_assign' rfl (h26.at 6 rfl)) h26 rfl (by decide) rfl (fun a h27 => ?_)
  refine wl_valF (wanted_none rfl) (run_assign' rfl (h27.at 6 rfl)) h27 rfl (by decide) rfl (fun a h28 => ?_)
  refine wl_valF (wanted_none rfl) (run_assign' rfl (h28.at 6 rfl)) h28 rfl (by decide) rfl (fun a h29 => ?_)
  refine wl_valF (wanted_none rfl) (run_assign' rfl (h29.at 6 rfl)) h29 rfl (by decide) rfl (fun a h30 => ?_)
  have nbw3 := heap_alloc_new w3a (.cells #[.int .u64 0, .slice none 0 0, .slice none 0 0, .slice none 0 0] 42)
  refine wl_skip (wanted_none rfl) rfl (run_store42 rfl (h30.at 5 rfl) (h30.at 6 rfl) nbw3) ?_
  show Code.wp _ _ _ _ _
  have kpw3 := (Kept.alloc w3a (.cells #[.int .u64 0, .slice none 0 0, .slice none 0 0, .slice none 0 0] 42)).put4 w3a.heap.size (Nat.le_refl _) (.int .u64 fB.l.N) (.slice fB.l.ab fB.l.nb fB.l.cb) (.slice fB.l.al fB.l.nl fB.l.cl) (.slice fB.l.ac fB.l.nc fB.l.cc)
  have bkw3 := put4_blk nbw3 (.int .u64 fB.l.N) (.slice fB.l.ab fB.l.nb fB.l.cb) (.slice fB.l.al fB.l.nl fB.l.cl) (.slice fB.l.ac fB.l.nc fB.l.cc)
  refine world_abs (F := fun w5 => Kept w2 w5 ∧ w5.heap[w3a.heap.size]? = some (.cells fB.l.arr 42 (0, 0))) ⟨qw3.trans kpw3, bkw3⟩ (fun w3 hw3 => ?_)
  obtain ⟨Kw3, Cw3⟩ := hw3
  have g1 := (h30.sub (Has.cons (h30.at 4 rfl) (Has.cons (h30.at 3 rfl) (Has.cons (h30.at 2 rfl) (Has.cons (h30.at 1 rfl) (Has.cons (h30.at 0 rfl) (Has.cons (h30.at 5 rfl) (Has.cons (h30.at 15 rfl) (Has.cons (h30.at 16 rfl) (Has.cons (h30.at 17 rfl) (Has.cons (h30.at 18 rfl) (Has.cons (h30.at 19 rfl) (Has.cons (h30.at 20 rfl) (Has.cons (h30.at 21 rfl) (Has.cons (h30.at 22 rfl) (Has.cons (h30.at 23 rfl) (Has.cons (h30.at 24 rfl) (Has.cons (h30.at 25 rfl) (Has.cons (h30.at 26 rfl) (Has.cons (h30.at 27 rfl) (Has.cons (h30.at 28 rfl) (Has.nil _))))))))))))))))))))))
  have K3 := Kw2.trans Kw3
  have emA := fl_zero hA
  refine wp_seq (wp_seq (wp_region_list ?_))
  refine wl_valF (wanted_none rfl) (run_move' rfl (g1.at 7 rfl)) g1 rfl (by decide) rfl (fun a h31 => ?_)
  refine wl_valF (wanted_none rfl) (run_bool (b := (fA.m.isNone)) (c := true) (run_eqlM rfl (h31.at 0 rfl)) (by rw [emA]; rfl)) h31 rfl (by decide) rfl (fun a h32 => ?_)
  show Code.wp _ _ _ _ _
  refine wp_cond_true (h32.at 0 rfl) (wp_seq (wp_region_list ?_))
  refine wl_valF (wanted_none rfl) (run_load44 rfl (h32.at 16 rfl) (K3.blk hb31)) h32 rfl (by decide) rfl (fun a h33 => ?_)
  refine wl_callF (wanted_none rfl) (run_enter1 (en20 _) rfl ((h33.at 0 rfl).trans hA)) (frzIsZero20 w3) h33 rfl (by decide) rfl ?_
  rintro e w4 ⟨rfl, q4⟩
  refine ⟨_, rfl, fun a h34 => ?_⟩
  refine wl_valF (wanted_none rfl) (run_move' rfl (h34.at 0 rfl)) h34 rfl (by decide) rfl (fun a h35 => ?_)
  refine wl_valF (wanted_fr rfl rfl h35 (by decide) (h35.at 0 rfl) rfl) (run_load44 rfl (h35.at 17 rfl) (q4.blk (K3.blk hb33))) h35 rfl (by decide) rfl (fun a h36 => ?_)
  refine wl_callF (wanted_fr rfl rfl h36 (by decide) (h36.at 1 rfl) rfl) (run_enter1 (en20 _) rfl ((h36.at 0 rfl).trans hB)) (frzIsZero20 w4) h36 rfl (by decide) rfl ?_
  rintro e w5 ⟨rfl, q5⟩
  refine ⟨_, rfl, fun a h37 => ?_⟩
  have K5 := (K3.trans q4).trans q5
  refine wl_valF (wanted_none rfl) (run_pick (v := .bool true) (v' := .bool false) rfl (h37.at 2 rfl) (h37.at 0 rfl) rfl) h37 rfl (by decide) rfl (fun a h38 => ?_)
  refine wl_valF (wanted_none rfl) (run_move' rfl (h38.at 0 rfl)) h38 rfl (by decide) rfl (fun a h39 => ?_)
  refine wl_valF (wanted_fr rfl rfl h39 (by decide) (h39.at 0 rfl) rfl) (run_load42 rfl (h39.at 24 rfl) (K5.blk hb32)) h39 rfl (by decide) rfl (fun a h40 => ?_)
  refine wl_valF (wanted_fr rfl rfl h40 (by decide) (h40.at 1 rfl) rfl) (run_load42 rfl (h40.at 23 rfl) (K5.blk hb34)) h40 rfl (by decide) rfl (fun a h41 => ?_)
  refine wl_callF (wanted_fr rfl rfl h41 (by decide) (h41.at 2 rfl) rfl) (run_enter2 (en21 _) rfl (h41.at 1 rfl) (h41.at 0 rfl)) (viewsEq21 lA.val lB.val V w5 (vA.kept K5) (vB.kept K5) hM) h41 rfl (by decide) rfl ?_
  rintro e w6 ⟨rfl, q6⟩
  refine ⟨_, rfl, fun a h42 => ?_⟩
  refine wl_valF (wanted_none rfl) (run_pick (v := .bool true) (v' := .bool false) rfl (h42.at 3 rfl) (h42.at 0 rfl) rfl) h42 rfl (by decide) rfl (fun a h43 => ?_)
  refine wl_valF (wanted_none rfl) (run_assign' rfl (h43.at 0 rfl)) h43 rfl (by decide) rfl (fun a h44 => ?_)
  show Code.wp _ _ _ _ _
  exact wp_ret (hret _ _ (h44.sub (Has.cons (h44.at 0 rfl) (Has.nil _))) (k1.trans (K5.trans q6)))

set_option maxHeartbeats 6400000 in
theorem st22b (hret : ∀ a w', Fr 373 a [(16, .bool true)] → Kept w w' → Q .ret a w') (hmem : member.length ≤ 1048576) {b31 b32 b33 b34 : Nat} {fA fB : FL} {lA lB : VL} {a : Act} {w1 : World} (k1 : Kept w w1) (h0 : Fr 373 a [(33, .pointer (some ⟨b33, 0, none⟩)), (34, .pointer (some ⟨b34, 0, none⟩)), (31, .pointer (some ⟨b31, 0, none⟩)), (32, .pointer (some ⟨b32, 0, none⟩)), (5, sv mark), (6, .bool fz), (7, .bool kn), (19, sv member)])
    (hb31 : w1.heap[b31]? = some (.cells fA.arr 44 (0, 0))) (hb32 : w1.heap[b32]? = some (.cells lA.arr 42 (0, 0))) (hb33 : w1.heap[b33]? = some (.cells fB.arr 44 (0, 0))) (hb34 : w1.heap[b34]? = some (.cells lB.arr 42 (0, 0))) {T : Tal} {mA mB : Nat} (rA : FRd w1 fA T mA) (rB : FRd w1 fB (tPlus T member mark (fz && !kn)) mB) (zA : lA.val = zeroVw) (zB : lB.val = zeroVw) (hT : FinT T) (hK : ∀ p ∈ T.pairs, p.1.length ≤ 1048576) : (restC 22).wp Tryz.prog Q a w1 := by
  refine wp_seq (wp_region_list ?_)
  refine wl_valF (wanted_none rfl) (run_load44 rfl (h0.at 2 rfl) hb31) h0 rfl (by decide) rfl (fun a h1 => ?_)
  refine wl_callF (wanted_none rfl) (run_enter1 (en16 _) rfl (h1.at 0 rfl)) (frzFields16 w1 fA.a0 fA.n0 fA.c0 fA.m fA.a2 fA.n2 fA.c2 fA.b fA.a4 fA.n4 fA.c4 fA.l.N fA.l.ab fA.l.nb fA.l.cb fA.l.al fA.l.nl fA.l.cl fA.l.ac fA.l.nc fA.l.cc) h1 rfl (by decide) rfl ?_
  rintro e w2a ⟨rfl, qw2⟩
  refine ⟨_, rfl, fun a h2 => ?_⟩
  refine wl_valF (wanted_none rfl) (run_move' rfl (h2.at 0 rfl)) h2 rfl (by decide) rfl (fun a h3 => ?_)
  refine wl_valF (wanted_none rfl) (run_extract rfl (h3.at 0 rfl) rfl) h3 rfl (by decide) rfl (fun a h4 => ?_)
  refine wl_valF (wanted_none rfl) (run_extract rfl (h4.at 1 rfl) rfl) h4 rfl (by decide) rfl (fun a h5 => ?_)
  refine wl_valF (wanted_none rfl) (run_extract rfl (h5.at 2 rfl) rfl) h5 rfl (by decide) rfl (fun a h6 => ?_)
  refine wl_valF (wanted_none rfl) (run_extract rfl (h6.at 3 rfl) rfl) h6 rfl (by decide) rfl (fun a h7 => ?_)
  refine wl_valF (wanted_none rfl) (run_extract rfl (h7.at 4 rfl) rfl) h7 rfl (by decide) rfl (fun a h8 => ?_)
  refine wl_valF (wanted_none rfl) (run_extract rfl (h8.at 5 rfl) rfl) h8 rfl (by decide) rfl (fun a h9 => ?_)
  refine wl_valF (wanted_none rfl) (run_alloc42 rfl) h9 rfl (by decide) rfl (fun a h10 => ?_)
  refine wl_valF (wanted_none rfl) (run_assign' rfl (h10.at 6 rfl)) h10 rfl (by decide) rfl (fun a h11 => ?_)
  refine wl_valF (wanted_none rfl) (run_assign' rfl (h11.at 6 rfl)) h11 rfl (by decide) rfl (fun a h12 => ?_)
  refine wl_valF (wanted_none rfl) (run_assign' rfl (h12.at 6 rfl)) h12 rfl (by decide) rfl (fun a h13 => ?_)
  refine wl_valF (wanted_none rfl) (run_assign' rfl (h13.at 6 rfl)) h13 rfl (by decide) rfl (fun a h14 => ?_)
  refine wl_valF (wanted_none rfl) (run_assign' rfl (h14.at 6 rfl)) h14 rfl (by decide) rfl (fun a h15 => ?_)
  have nbw2 := heap_alloc_new w2a (.cells #[.int .u64 0, .slice none 0 0, .slice none 0 0, .slice none 0 0] 42)
  refine wl_skip (wanted_none rfl) rfl (run_store42 rfl (h15.at 5 rfl) (h15.at 6 rfl) nbw2) ?_
  show Code.wp _ _ _ _ _
  have kpw2 := (Kept.alloc w2a (.cells #[.int .u64 0, .slice none 0 0, .slice none 0 0, .slice none 0 0] 42)).put4 w2a.heap.size (Nat.le_refl _) (.int .u64 fA.l.N) (.slice fA.l.ab fA.l.nb fA.l.cb) (.slice fA.l.al fA.l.nl fA.l.cl) (.slice fA.l.ac fA.l.nc fA.l.cc)
  have bkw2 := put4_blk nbw2 (.int .u64 fA.l.N) (.slice fA.l.ab fA.l.nb fA.l.cb) (.slice fA.l.al fA.l.nl fA.l.cl) (.slice fA.l.ac fA.l.nc fA.l.cc)
  refine world_abs (F := fun w5 => Kept w1 w5 ∧ w5.heap[w2a.heap.size]? = some (.cells fA.l.arr 42 (0, 0))) ⟨qw2.trans kpw2, bkw2⟩ (fun w2 hw2 => ?_)
  obtain ⟨Kw2, Cw2⟩ := hw2
  have g0 := (h15.sub (Has.cons (h15.at 4 rfl) (Has.cons (h15.at 3 rfl) (Has.cons (h15.at 2 rfl) (Has.cons (h15.at 1 rfl) (Has.cons (h15.at 0 rfl) (Has.cons (h15.at 5 rfl) (Has.cons (h15.at 15 rfl) (Has.cons (h15.at 16 rfl) (Has.cons (h15.at 17 rfl) (Has.cons (h15.at 18 rfl) (Has.cons (h15.at 19 rfl) (Has.cons (h15.at 20 rfl) (Has.cons (h15.at 21 rfl) (Has.cons (h15.at 22 rfl) (Has.nil _))))))))))))))))
  refine wp_seq (wp_region_list ?_)
  refine wl_valF (wanted_none rfl) (run_load44 rfl (g0.at 6 rfl) (Kw2.blk hb33)) g0 rfl (by decide) rfl (fun a h16 => ?_)
  refine wl_callF (wanted_none rfl) (run_enter1 (en16 _) rfl (h16.at 0 rfl)) (frzFields16 w2 fB.a0 fB.n0 fB.c0 fB.m fB.a2 fB.n2 fB.c2 fB.b fB.a4 fB.n4 fB.c4 fB.l.N fB.l.ab fB.l.nb fB.l.cb fB.l.al fB.l.nl fB.l.cl fB.l.ac fB.l.nc fB.l.cc) h16 rfl (by decide) rfl ?_
  rintro e w3a ⟨rfl, qw3⟩
  refine ⟨_, rfl, fun a h17 => ?_⟩
  refine wl_valF (wanted_none rfl) (run_move' rfl (h17.at 0 rfl)) h17 rfl (by decide) rfl (fun a h18 => ?_)
  refine wl_valF (wanted_none rfl) (run_extract rfl (h18.at 0 rfl) rfl) h18 rfl (by decide) rfl (fun a h19 => ?_)
  refine wl_valF (wanted_none rfl) (run_extract rfl (h19.at 1 rfl) rfl) h19 rfl (by decide) rfl (fun a h20 => ?_)
  refine wl_valF (wanted_none rfl) (run_extract rfl (h20.at 2 rfl) rfl) h20 rfl (by decide) rfl (fun a h21 => ?_)
  refine wl_valF (wanted_none rfl) (run_extract rfl (h21.at 3 rfl) rfl) h21 rfl (by decide) rfl (fun a h22 => ?_)
  refine wl_valF (wanted_none rfl) (run_extract rfl (h22.at 4 rfl) rfl) h22 rfl (by decide) rfl (fun a h23 => ?_)
  refine wl_valF (wanted_none rfl) (run_extract rfl (h23.at 5 rfl) rfl) h23 rfl (by decide) rfl (fun a h24 => ?_)
  refine wl_valF (wanted_none rfl) (run_alloc42 rfl) h24 rfl (by decide) rfl (fun a h25 => ?_)
  refine wl_valF (wanted_none rfl) (run_assign' rfl (h25.at 6 rfl)) h25 rfl (by decide) rfl (fun a h26 => ?_)
  refine wl_valF (wanted_none rfl) (run_assign' rfl (h26.at 6 rfl)) h26 rfl (by decide) rfl (fun a h27 => ?_)
  refine wl_valF (wanted_none rfl) (run_assign' rfl (h27.at 6 rfl)) h27 rfl (by decide) rfl (fun a h28 => ?_)
  refine wl_valF (wanted_none rfl) (run_assign' rfl (h28.at 6 rfl)) h28 rfl (by decide) rfl (fun a h29 => ?_)
  refine wl_valF (wanted_none rfl) (run_assign' rfl (h29.at 6 rfl)) h29 rfl (by decide) rfl (fun a h30 => ?_)
  have nbw3 := heap_alloc_new w3a (.cells #[.int .u64 0, .slice none 0 0, .slice none 0 0, .slice none 0 0] 42)
  refine wl_skip (wanted_none rfl) rfl (run_store42 rfl (h30.at 5 rfl) (h30.at 6 rfl) nbw3) ?_
  show Code.wp _ _ _ _ _
  have kpw3 := (Kept.alloc w3a (.cells #[.int .u64 0, .slice none 0 0, .slice none 0 0, .slice none 0 0] 42)).put4 w3a.heap.size (Nat.le_refl _) (.int .u64 fB.l.N) (.slice fB.l.ab fB.l.nb fB.l.cb) (.slice fB.l.al fB.l.nl fB.l.cl) (.slice fB.l.ac fB.l.nc fB.l.cc)
  have bkw3 := put4_blk nbw3 (.int .u64 fB.l.N) (.slice fB.l.ab fB.l.nb fB.l.cb) (.slice fB.l.al fB.l.nl fB.l.cl) (.slice fB.l.ac fB.l.nc fB.l.cc)
  refine world_abs (F := fun w5 => Kept w2 w5 ∧ w5.heap[w3a.heap.size]? = some (.cells fB.l.arr 42 (0, 0))) ⟨qw3.trans kpw3, bkw3⟩ (fun w3 hw3 => ?_)
  obtain ⟨Kw3, Cw3⟩ := hw3
  have g1 := (h30.sub (Has.cons (h30.at 4 rfl) (Has.cons (h30.at 3 rfl) (Has.cons (h30.at 2 rfl) (Has.cons (h30.at 1 rfl) (Has.cons (h30.at 0 rfl) (Has.cons (h30.at 5 rfl) (Has.cons (h30.at 15 rfl) (Has.cons (h30.at 16 rfl) (Has.cons (h30.at 17 rfl) (Has.cons (h30.at 18 rfl) (Has.cons (h30.at 19 rfl) (Has.cons (h30.at 20 rfl) (Has.cons (h30.at 21 rfl) (Has.cons (h30.at 22 rfl) (Has.cons (h30.at 23 rfl) (Has.cons (h30.at 24 rfl) (Has.cons (h30.at 25 rfl) (Has.cons (h30.at 26 rfl) (Has.cons (h30.at 27 rfl) (Has.cons (h30.at 28 rfl) (Has.nil _))))))))))))))))))))))
  have K3 := Kw2.trans Kw3
  have emA := rA.em
  have emB := rB.em
  have ebA := rA.b
  have ebB := rB.b
  have eK : setP ((tPlus T member mark (fz && !kn)).pairs.map (·.1)) = ins member (setP (T.pairs.map (·.1))) := by
    show setP ((T.pairs ++ [(member, mark)]).map (·.1)) = _
    rw [List.map_append]
    exact setP_snoc _ _
  have frB := rB.fr
  rw [eK] at frB
  rw [emA, emB, ebA] at g1
  have mpA := rA.mp
  have mpB := rB.mp
  refine wp_seq (wp_seq (wp_region_list ?_))
  refine wl_valF (wanted_none rfl) (run_move' rfl (g1.at 7 rfl)) g1 rfl (by decide) rfl (fun a h31 => ?_)
  refine wl_valF (wanted_none rfl) (run_bool (b := ((some mA).isNone)) (c := false) (run_eqlM rfl (h31.at 0 rfl)) (by rfl)) h31 rfl (by decide) rfl (fun a h32 => ?_)
  show Code.wp _ _ _ _ _
  refine wp_cond_false (h32.at 0 rfl) (wp_skip ?_)
  show Code.wp _ _ _ _ _
  have g2 := (h32.sub (Has.cons (h32.at 2 rfl) (Has.cons (h32.at 3 rfl) (Has.cons (h32.at 4 rfl) (Has.cons (h32.at 5 rfl) (Has.cons (h32.at 6 rfl) (Has.cons (h32.at 7 rfl) (Has.cons (h32.at 8 rfl) (Has.cons (h32.at 9 rfl) (Has.cons (h32.at 10 rfl) (Has.cons (h32.at 11 rfl) (Has.cons (h32.at 12 rfl) (Has.cons (h32.at 13 rfl) (Has.cons (h32.at 14 rfl) (Has.cons (h32.at 15 rfl) (Has.cons (h32.at 16 rfl) (Has.cons (h32.at 17 rfl) (Has.cons (h32.at 18 rfl) (Has.cons (h32.at 19 rfl) (Has.cons (h32.at 20 rfl) (Has.cons (h32.at 21 rfl) (Has.nil _))))))))))))))))))))))
  refine wp_seq (wp_seq (wp_region_list ?_))
  refine wl_valF (wanted_none rfl) (run_move' rfl (g2.at 1 rfl)) g2 rfl (by decide) rfl (fun a h33 => ?_)
  refine wl_valF (wanted_none rfl) (run_bool (b := ((some mB).isNone)) (c := false) (run_eqlM rfl (h33.at 0 rfl)) (by rfl)) h33 rfl (by decide) rfl (fun a h34 => ?_)
  refine wl_valF (wanted_none rfl) (run_move' rfl (h34.at 0 rfl)) h34 rfl (by decide) rfl (fun a h35 => ?_)
  refine wl_valF (wanted_fr rfl rfl h35 (by decide) (h35.at 0 rfl) rfl) (run_load42 rfl (h35.at 18 rfl) (K3.blk hb32)) h35 rfl (by decide) rfl (fun a h36 => ?_)
  refine wl_callF (wanted_fr rfl rfl h36 (by decide) (h36.at 1 rfl) rfl) (run_enter1 (en18 _) rfl (h36.at 0 rfl)) (viewIsZero18 lA.val w3 (zA ▸ isZero w3)) h36 rfl (by decide) rfl ?_
  rintro e w4 ⟨rfl, q4⟩
  refine ⟨_, rfl, fun a h37 => ?_⟩
  refine wl_valF (wanted_fr rfl rfl h37 (by decide) (h37.at 2 rfl) rfl) (run_not rfl (h37.at 0 rfl)) h37 rfl (by decide) rfl (fun a h38 => ?_)
  refine wl_valF (wanted_none rfl) (run_pick (v := .bool true) (v' := .bool false) rfl (h38.at 3 rfl) rfl (h38.at 0 rfl)) h38 rfl (by decide) rfl (fun a h39 => ?_)
  refine wl_valF (wanted_none rfl) (run_move' rfl (h39.at 0 rfl)) h39 rfl (by decide) rfl (fun a h40 => ?_)
  refine wl_valF (wanted_fr rfl rfl h40 (by decide) (h40.at 0 rfl) rfl) (run_load42 rfl (h40.at 21 rfl) (q4.blk (K3.blk hb34))) h40 rfl (by decide) rfl (fun a h41 => ?_)
  refine wl_callF (wanted_fr rfl rfl h41 (by decide) (h41.at 1 rfl) rfl) (run_enter1 (en18 _) rfl (h41.at 0 rfl)) (viewIsZero18 lB.val w4 (zB ▸ isZero w4)) h41 rfl (by decide) rfl ?_
  rintro e w5 ⟨rfl, q5⟩
  refine ⟨_, rfl, fun a h42 => ?_⟩
  refine wl_valF (wanted_fr rfl rfl h42 (by decide) (h42.at 2 rfl) rfl) (run_not rfl (h42.at 0 rfl)) h42 rfl (by decide) rfl (fun a h43 => ?_)
  refine wl_valF (wanted_none rfl) (run_pick (v := .bool true) (v' := .bool false) rfl (h43.at 3 rfl) rfl (h43.at 0 rfl)) h43 rfl (by decide) rfl (fun a h44 => ?_)
  have K5 := (K3.trans q4).trans q5
  show Code.wp _ _ _ _ _
  refine cond_ret (h44.at 0 rfl) h44 rfl rfl rfl (fun h => by cases h) (fun _ => ?_)
  have g3 := (h44.sub (Has.cons (h44.at 12 rfl) (Has.cons (h44.at 13 rfl) (Has.cons (h44.at 14 rfl) (Has.cons (h44.at 15 rfl) (Has.cons (h44.at 16 rfl) (Has.cons (h44.at 17 rfl) (Has.cons (h44.at 18 rfl) (Has.cons (h44.at 19 rfl) (Has.cons (h44.at 20 rfl) (Has.cons (h44.at 21 rfl) (Has.cons (h44.at 22 rfl) (Has.cons (h44.at 23 rfl) (Has.cons (h44.at 24 rfl) (Has.cons (h44.at 25 rfl) (Has.cons (h44.at 26 rfl) (Has.cons (h44.at 27 rfl) (Has.cons (h44.at 28 rfl) (Has.cons (h44.at 29 rfl) (Has.cons (h44.at 30 rfl) (Has.cons (h44.at 31 rfl) (Has.nil _))))))))))))))))))))))
  refine wp_seq (wp_seq (wp_region_list ?_))
  have lenA : fA.n0 ≤ 1048577 := by rw [← rA.fr.len]; exact Nat.le_trans (length_setP_le _) (by rw [List.length_map]; exact hT.p)
  have lenB : fB.n0 ≤ 1048578 := by rw [← frB.len]; exact Nat.le_trans (length_ins_le _ _) (by rw [rA.fr.len]; omega)
  refine wl_valF (wanted_none rfl) (run_move' rfl (g3.at 0 rfl)) g3 rfl (by decide) rfl (fun a h45 => ?_)
  refine wl_valF (wanted_none rfl) (run_move' rfl (h45.at 7 rfl)) h45 rfl (by decide) rfl (fun a h46 => ?_)
  refine wl_valF (wanted_none rfl) (run_move' rfl (h46.at 21 rfl)) h46 rfl (by decide) rfl (fun a h47 => ?_)
  refine wl_callF (wanted_none rfl) (run_enter2 (en23 _) rfl (h47.at 1 rfl) (h47.at 0 rfl)) (insert23 fA.a0 fA.n0 fA.c0 (setP (T.pairs.map (·.1))) member w5 (by omega) (rA.fr.kept K5)) h47 rfl (by decide) rfl ?_
  rintro e w6 ⟨⟨v6, rfl, O6⟩, q6⟩
  obtain ⟨ai, ni, ci, rfl, I6⟩ := O6.sl
  refine ⟨_, rfl, fun a h48 => ?_⟩
  refine wl_callF (wanted_none rfl) (run_enter2 (en22 _) rfl (h48.at 3 rfl) (h48.at 0 rfl)) (same22 fB.a0 ai fB.n0 fB.c0 ni ci _ w6 (by omega) ((frB.kept K5).kept q6) I6) h48 rfl (by decide) rfl ?_
  rintro e w7 ⟨rfl, q7⟩
  refine ⟨_, rfl, fun a h49 => ?_⟩
  have K7 := (K5.trans q6).trans q7
  refine wl_valF (wanted_none rfl) (run_not rfl (h49.at 0 rfl)) h49 rfl (by decide) rfl (fun a h50 => ?_)
  refine wl_valF (wanted_none rfl) (run_move' rfl (h50.at 0 rfl)) h50 rfl (by decide) rfl (fun a h51 => ?_)
  refine wl_valF (wanted_fr rfl rfl h51 (by decide) (h51.at 0 rfl) rfl) (run_move' rfl (h51.at 8 rfl)) h51 rfl (by decide) rfl (fun a h52 => ?_)
  refine wl_valF (wanted_fr rfl rfl h52 (by decide) (h52.at 1 rfl) rfl) (run_len39 rfl (h52.at 0 rfl) (mpB.kept K7)) h52 rfl (by decide) rfl (fun a h53 => ?_)
  refine wl_valF (wanted_fr rfl rfl h53 (by decide) (h53.at 2 rfl) rfl) (run_move' rfl (h53.at 9 rfl)) h53 rfl (by decide) rfl (fun a h54 => ?_)
  refine wl_valF (wanted_fr rfl rfl h54 (by decide) (h54.at 3 rfl) rfl) (run_lenS rfl (by decide) (h54.at 0 rfl)) h54 rfl (by decide) rfl (fun a h55 => ?_)
  refine wl_valF (wanted_fr rfl rfl h55 (by decide) (h55.at 4 rfl) rfl) (run_bool (b := ((((setP ((tPlus T member mark (fz && !kn)).pairs.map (·.1))).length : Nat) : Int) != ((fB.n0 : Nat) : Int))) (c := false) (run_neqI rfl (h55.at 2 rfl) (h55.at 0 rfl)) (by rw [eK, frB.len]; simp)) h55 rfl (by decide) rfl (fun a h56 => ?_)
  refine wl_valF (wanted_none rfl) (run_pick (v := .bool true) (v' := .bool false) rfl (h56.at 5 rfl) rfl (h56.at 0 rfl)) h56 rfl (by decide) rfl (fun a h57 => ?_)
  show Code.wp _ _ _ _ _
  refine cond_ret (h57.at 0 rfl) h57 rfl rfl rfl (fun h => by cases h) (fun _ => ?_)
  have g4 := (h57.sub (Has.cons (h57.at 13 rfl) (Has.cons (h57.at 14 rfl) (Has.cons (h57.at 15 rfl) (Has.cons (h57.at 16 rfl) (Has.cons (h57.at 17 rfl) (Has.cons (h57.at 18 rfl) (Has.cons (h57.at 19 rfl) (Has.cons (h57.at 20 rfl) (Has.cons (h57.at 21 rfl) (Has.cons (h57.at 22 rfl) (Has.cons (h57.at 23 rfl) (Has.cons (h57.at 24 rfl) (Has.cons (h57.at 25 rfl) (Has.cons (h57.at 26 rfl) (Has.cons (h57.at 27 rfl) (Has.cons (h57.at 28 rfl) (Has.cons (h57.at 29 rfl) (Has.cons (h57.at 30 rfl) (Has.cons (h57.at 31 rfl) (Has.cons (h57.at 32 rfl) (Has.nil _))))))))))))))))))))))
  refine loopL (fun _ => True) (n := fB.n0) (val := true) g4 rfl rfl rfl (by decide) rfl ?_ ?_ ?_ (fun a' h => hret _ _ h (k1.trans K7)) (fun a' g5 _ => ?_)
  · intro Q' k a h0 hq
    refine wl_valF (wanted_none rfl) (run_move' rfl (h0.at 0 rfl)) h0 rfl (by decide) rfl (fun a h1 => ?_)
    refine wl_valF (wanted_none rfl) (run_move' rfl (h1.at 2 rfl)) h1 rfl (by decide) rfl (fun a h2 => ?_)
    refine wl_valF (wanted_none rfl) (run_lenS rfl (by decide) (h2.at 0 rfl)) h2 rfl (by decide) rfl (fun a h3 => ?_)
    refine wl_valF (wanted_none rfl) (run_lss rfl (h3.at 2 rfl) (h3.at 0 rfl)) h3 rfl (by decide) rfl (fun a h4 => ?_)
    exact hq _ (h4.sub (Has.cons (h4.at 0 rfl) (Has.cons (h4.at 4 rfl) (Has.cons (h4.at 5 rfl) (Has.cons (h4.at 6 rfl) (Has.cons (h4.at 7 rfl) (Has.cons (h4.at 8 rfl) (Has.cons (h4.at 9 rfl) (Has.cons (h4.at 10 rfl) (Has.cons (h4.at 11 rfl) (Has.cons (h4.at 12 rfl) (Has.cons (h4.at 13 rfl) (Has.cons (h4.at 14 rfl) (Has.cons (h4.at 15 rfl) (Has.cons (h4.at 16 rfl) (Has.cons (h4.at 17 rfl) (Has.cons (h4.at 18 rfl) (Has.cons (h4.at 19 rfl) (Has.cons (h4.at 20 rfl) (Has.cons (h4.at 21 rfl) (Has.cons (h4.at 22 rfl) (Has.cons (h4.at 23 rfl) (Has.cons (h4.at 24 rfl) (Has.nil _))))))))))))))))))))))))
  · intro Q' k a hk h0 hq hr
    obtain ⟨bk, offk, ea, hc⟩ := (frB.kept K7).row (by omega)
    have ck := hc k hk
    obtain ⟨x, hx⟩ : ∃ x, x = (ins member (setP (T.pairs.map (·.1)))).getD k [] := ⟨_, rfl⟩
    rw [← hx] at ck
    have hxm : x ∈ ins member (setP (T.pairs.map (·.1))) := by rw [hx]; exact mem_getD (by rw [frB.len]; exact hk)
    have hxor : x = member ∨ x ∈ T.pairs.map (·.1) := by rcases (mem_ins member x _).1 hxm with h | h; exact .inl h; exact .inr ((mem_setP x _).1 h)
    have hxl : x.length ≤ 1073741824 := by
      rcases hxor with rfl | h
      · omega
      · obtain ⟨p, hp, rfl⟩ := List.mem_map.1 h
        exact Nat.le_trans (hK p hp) (by decide)
    have hB : hasM (tPlus T member mark (fz && !kn)).pairs x = true := (hasM_mem _ _).2 (by
      show x ∈ (T.pairs ++ [(member, mark)]).map (·.1)
      rw [List.map_append]
      rcases hxor with h | h
      · exact List.mem_append.2 (.inr (by rw [h]; exact List.mem_singleton.2 rfl))
      · exact List.mem_append.2 (.inl h))
    have gB : getM (tPlus T member mark (fz && !kn)).pairs x = if member = x then mark else getM T.pairs x := getM_snoc _ _ _
    rw [ea] at h0
    refine wp_seq (wp_region_list ?_)
    refine wl_valF (wanted_none rfl) (run_move' rfl (h0.at 1 rfl)) h0 rfl (by decide) rfl (fun a h1 => ?_)
    refine wl_valF (wanted_none rfl) (run_move' rfl (h1.at 1 rfl)) h1 rfl (by decide) rfl (fun a h2 => ?_)
    refine wl_valF (wanted_none rfl) (run_index23 rfl (h2.at 1 rfl) (h2.at 0 rfl) hk) h2 rfl (by decide) rfl (fun a h3 => ?_)
    refine wl_valF (wanted_none rfl) (run_load9 rfl (h3.at 0 rfl) ck) h3 rfl (by decide) rfl (fun a h4 => ?_)
    refine wl_valF (wanted_none rfl) (run_assign' rfl (h4.at 0 rfl)) h4 rfl (by decide) rfl (fun a h5 => ?_)
    show Code.wp _ _ _ _ _
    refine wp_seq (wp_region_list ?_)
    refine wl_valF (wanted_none rfl) (run_move' rfl (h5.at 7 rfl)) h5 rfl (by decide) rfl (fun a h6 => ?_)
    refine wl_valF (wanted_none rfl) (run_move' rfl (h6.at 1 rfl)) h6 rfl (by decide) rfl (fun a h7 => ?_)
    refine wl_valF (wanted_none rfl) (run_look rfl (h7.at 1 rfl) (h7.at 0 rfl) (mpB.kept K7) hxl) h7 rfl (by decide) rfl (fun a h8 => ?_)
    refine wl_valF (wanted_none rfl) (run_move' rfl (h8.at 0 rfl)) h8 rfl (by decide) rfl (fun a h9 => ?_)
    refine wl_valF (wanted_none rfl) (run_extract rfl (h9.at 0 rfl) rfl) h9 rfl (by decide) rfl (fun a h10 => ?_)
    refine wl_valF (wanted_none rfl) (run_bool (b := (hasM (tPlus T member mark (fz && !kn)).pairs x)) (c := true) (run_extract rfl (h10.at 1 rfl) rfl) hB) h10 rfl (by decide) rfl (fun a h11 => ?_)
    refine wl_valF (wanted_none rfl) (run_assign' rfl (h11.at 1 rfl)) h11 rfl (by decide) rfl (fun a h12 => ?_)
    refine wl_valF (wanted_none rfl) (run_assign' rfl (h12.at 1 rfl)) h12 rfl (by decide) rfl (fun a h13 => ?_)
    show Code.wp _ _ _ _ _
    refine wp_seq (wp_seq (wp_region_list ?_))
    refine wl_valF (wanted_none rfl) (run_move' rfl (h13.at 0 rfl)) h13 rfl (by decide) rfl (fun a h14 => ?_)
    refine wl_valF (wanted_none rfl) (run_not rfl (h14.at 0 rfl)) h14 rfl (by decide) rfl (fun a h15 => ?_)
    show Code.wp _ _ _ _ _
    refine cond_ret (h15.at 0 rfl) h15 rfl rfl rfl (fun h => by cases h) (fun _ => ?_)
    refine wp_seq (wp_region_list ?_)
    by_cases hxe : x = member
    · skip
      refine wl_valF (wanted_none rfl) (run_move' rfl (h15.at 10 rfl)) h15 rfl (by decide) rfl (fun a h16 => ?_)
      refine wl_valF (wanted_none rfl) (run_move' rfl (h16.at 36 rfl)) h16 rfl (by decide) rfl (fun a h17 => ?_)
      refine wl_valF (wanted_none rfl) (run_bool (b := (x == member)) (c := true) (run_eqlS rfl (h17.at 1 rfl) (h17.at 0 rfl)) (by simpa using hxe)) h17 rfl (by decide) rfl (fun a h18 => ?_)
      show Code.wp _ _ _ _ _
      refine wp_cond_true (h18.at 0 rfl) (wp_seq (wp_region_list ?_))
      refine wl_valF (wanted_none rfl) (run_move' rfl (h18.at 6 rfl)) h18 rfl (by decide) rfl (fun a h19 => ?_)
      refine wl_valF (wanted_none rfl) (run_move' rfl (h19.at 36 rfl)) h19 rfl (by decide) rfl (fun a h20 => ?_)
      refine wl_valF (wanted_none rfl) (run_bool (b := ((getM (tPlus T member mark (fz && !kn)).pairs x) != mark)) (c := false) (run_neqS rfl (h20.at 1 rfl) (h20.at 0 rfl)) (by rw [gB, if_pos hxe.symm]; simp)) h20 rfl (by decide) rfl (fun a h21 => ?_)
      show Code.wp _ _ _ _ _
      have gz := (h21.sub (Has.cons (h21.at 21 rfl) (Has.cons (h21.at 22 rfl) (Has.cons (h21.at 23 rfl) (Has.cons (h21.at 24 rfl) (Has.cons (h21.at 25 rfl) (Has.cons (h21.at 26 rfl) (Has.cons (h21.at 27 rfl) (Has.cons (h21.at 28 rfl) (Has.cons (h21.at 29 rfl) (Has.cons (h21.at 30 rfl) (Has.cons (h21.at 31 rfl) (Has.cons (h21.at 32 rfl) (Has.cons (h21.at 33 rfl) (Has.cons (h21.at 34 rfl) (Has.cons (h21.at 35 rfl) (Has.cons (h21.at 36 rfl) (Has.cons (h21.at 37 rfl) (Has.cons (h21.at 38 rfl) (Has.cons (h21.at 39 rfl) (Has.cons (h21.at 40 rfl) (Has.cons (h21.at 41 rfl) (Has.nil _)))))))))))))))))))))))
      rw [← ea] at gz
      exact cond_ret' (h21.at 0 rfl) h21 rfl rfl rfl (fun h => by cases h) (fun _ => hq _ gz trivial)
    · skip
      have hA1 : hasM T.pairs x = true := (hasM_mem _ _).2 (hxor.resolve_left hxe)
      refine wl_valF (wanted_none rfl) (run_move' rfl (h15.at 10 rfl)) h15 rfl (by decide) rfl (fun a h16 => ?_)
      refine wl_valF (wanted_none rfl) (run_move' rfl (h16.at 36 rfl)) h16 rfl (by decide) rfl (fun a h17 => ?_)
      refine wl_valF (wanted_none rfl) (run_bool (b := (x == member)) (c := false) (run_eqlS rfl (h17.at 1 rfl) (h17.at 0 rfl)) (by simpa using hxe)) h17 rfl (by decide) rfl (fun a h18 => ?_)
      show Code.wp _ _ _ _ _
      refine wp_cond_false (h18.at 0 rfl) (wp_seq (wp_region_list ?_))
      refine wl_valF (wanted_none rfl) (run_move' rfl (h18.at 26 rfl)) h18 rfl (by decide) rfl (fun a h19 => ?_)
      refine wl_valF (wanted_none rfl) (run_move' rfl (h19.at 14 rfl)) h19 rfl (by decide) rfl (fun a h20 => ?_)
      refine wl_valF (wanted_none rfl) (run_look rfl (h20.at 1 rfl) (h20.at 0 rfl) (mpA.kept K7) hxl) h20 rfl (by decide) rfl (fun a h21 => ?_)
      refine wl_valF (wanted_none rfl) (run_move' rfl (h21.at 0 rfl)) h21 rfl (by decide) rfl (fun a h22 => ?_)
      refine wl_valF (wanted_none rfl) (run_extract rfl (h22.at 0 rfl) rfl) h22 rfl (by decide) rfl (fun a h23 => ?_)
      refine wl_valF (wanted_none rfl) (run_bool (b := (hasM T.pairs x)) (c := true) (run_extract rfl (h23.at 1 rfl) rfl) hA1) h23 rfl (by decide) rfl (fun a h24 => ?_)
      refine wl_valF (wanted_none rfl) (run_assign' rfl (h24.at 1 rfl)) h24 rfl (by decide) rfl (fun a h25 => ?_)
      refine wl_valF (wanted_none rfl) (run_assign' rfl (h25.at 1 rfl)) h25 rfl (by decide) rfl (fun a h26 => ?_)
      show Code.wp _ _ _ _ _
      refine wp_seq (wp_region_list ?_)
      refine wl_valF (wanted_none rfl) (run_move' rfl (h26.at 0 rfl)) h26 rfl (by decide) rfl (fun a h27 => ?_)
      refine wl_valF (wanted_none rfl) (run_not rfl (h27.at 0 rfl)) h27 rfl (by decide) rfl (fun a h28 => ?_)
      refine wl_valF (wanted_none rfl) (run_move' rfl (h28.at 0 rfl)) h28 rfl (by decide) rfl (fun a h29 => ?_)
      refine wl_valF (wanted_fr rfl rfl h29 (by decide) (h29.at 0 rfl) rfl) (run_move' rfl (h29.at 17 rfl)) h29 rfl (by decide) rfl (fun a h30 => ?_)
      refine wl_valF (wanted_fr rfl rfl h30 (by decide) (h30.at 1 rfl) rfl) (run_move' rfl (h30.at 5 rfl)) h30 rfl (by decide) rfl (fun a h31 => ?_)
      refine wl_valF (wanted_fr rfl rfl h31 (by decide) (h31.at 2 rfl) rfl) (run_bool (b := ((getM (tPlus T member mark (fz && !kn)).pairs x) != (getM T.pairs x))) (c := false) (run_neqS rfl (h31.at 1 rfl) (h31.at 0 rfl)) (by rw [gB, if_neg (fun e => hxe e.symm)]; simp)) h31 rfl (by decide) rfl (fun a h32 => ?_)
      refine wl_valF (wanted_none rfl) (run_pick (v := .bool true) (v' := .bool false) rfl (h32.at 3 rfl) rfl (h32.at 0 rfl)) h32 rfl (by decide) rfl (fun a h33 => ?_)
      show Code.wp _ _ _ _ _
      have gz := (h33.sub (Has.cons (h33.at 33 rfl) (Has.cons (h33.at 34 rfl) (Has.cons (h33.at 35 rfl) (Has.cons (h33.at 36 rfl) (Has.cons (h33.at 37 rfl) (Has.cons (h33.at 38 rfl) (Has.cons (h33.at 39 rfl) (Has.cons (h33.at 40 rfl) (Has.cons (h33.at 41 rfl) (Has.cons (h33.at 42 rfl) (Has.cons (h33.at 43 rfl) (Has.cons (h33.at 44 rfl) (Has.cons (h33.at 45 rfl) (Has.cons (h33.at 46 rfl) (Has.cons (h33.at 47 rfl) (Has.cons (h33.at 48 rfl) (Has.cons (h33.at 49 rfl) (Has.cons (h33.at 50 rfl) (Has.cons (h33.at 51 rfl) (Has.cons (h33.at 52 rfl) (Has.cons (h33.at 53 rfl) (Has.nil _)))))))))))))))))))))))
      rw [← ea] at gz
      exact cond_ret' (h33.at 0 rfl) h33 rfl rfl rfl (fun h => by cases h) (fun _ => hq _ gz trivial)
  · intro Q' k a hk h0 hq
    refine wl_valF (wanted_none rfl) (run_move' rfl (h0.at 0 rfl)) h0 rfl (by decide) rfl (fun a h1 => ?_)
    refine wl_valF (wanted_none rfl) (run_incW rfl (h1.at 0 rfl) (by omega)) h1 rfl (by decide) rfl (fun a h2 => ?_)
    refine wl_valF (wanted_none rfl) (run_assign' rfl (h2.at 0 rfl)) (h2.sub (Has.cons (h2.at 0 rfl) (Has.cons (h2.at 1 rfl) (Has.cons (h2.at 3 rfl) (Has.cons (h2.at 4 rfl) (Has.cons (h2.at 5 rfl) (Has.cons (h2.at 6 rfl) (Has.cons (h2.at 7 rfl) (Has.cons (h2.at 8 rfl) (Has.cons (h2.at 9 rfl) (Has.cons (h2.at 10 rfl) (Has.cons (h2.at 11 rfl) (Has.cons (h2.at 12 rfl) (Has.cons (h2.at 13 rfl) (Has.cons (h2.at 14 rfl) (Has.cons (h2.at 15 rfl) (Has.cons (h2.at 16 rfl) (Has.cons (h2.at 17 rfl) (Has.cons (h2.at 18 rfl) (Has.cons (h2.at 19 rfl) (Has.cons (h2.at 20 rfl) (Has.cons (h2.at 21 rfl) (Has.cons (h2.at 22 rfl) (Has.nil _)))))))))))))))))))))))) rfl (by decide) rfl (fun a h3 => ?_)
    exact hq _ (h3.sub (Has.cons (h3.at 0 rfl) (Has.cons (h3.at 3 rfl) (Has.cons (h3.at 4 rfl) (Has.cons (h3.at 5 rfl) (Has.cons (h3.at 6 rfl) (Has.cons (h3.at 7 rfl) (Has.cons (h3.at 8 rfl) (Has.cons (h3.at 9 rfl) (Has.cons (h3.at 10 rfl) (Has.cons (h3.at 11 rfl) (Has.cons (h3.at 12 rfl) (Has.cons (h3.at 13 rfl) (Has.cons (h3.at 14 rfl) (Has.cons (h3.at 15 rfl) (Has.cons (h3.at 16 rfl) (Has.cons (h3.at 17 rfl) (Has.cons (h3.at 18 rfl) (Has.cons (h3.at 19 rfl) (Has.cons (h3.at 20 rfl) (Has.cons (h3.at 21 rfl) (Has.cons (h3.at 22 rfl) (Has.nil _)))))))))))))))))))))))
  refine wp_seq (wp_region_list ?_)
  have nbA : fA.n2 ≤ 1099511627776 := by rw [← rA.bf.len]; exact hT.b
  have nuA : fA.n4 ≤ 1099511627776 := by rw [← rA.un.len]; exact hT.u
  refine wl_valF (wanted_none rfl) (run_move' rfl (g5.at 8 rfl)) g5 rfl (by decide) rfl (fun a h358 => ?_)
  refine wl_valF (wanted_none rfl) (run_move' rfl (h358.at 3 rfl)) h358 rfl (by decide) rfl (fun a h359 => ?_)
  refine wl_callF (wanted_none rfl) (run_enter2 (en24 _) rfl (h359.at 1 rfl) (h359.at 0 rfl)) (viewListsEq24 fA.a2 fA.n2 fA.c2 fB.a2 fB.n2 fB.c2 T.before w7 nbA (rA.bf.kept K7) (rB.bf.kept K7) (fun i hi => getD_mid hT.bm i (by rw [rA.bf.len]; exact hi))) h359 rfl (by decide) rfl ?_
  rintro e w8 ⟨rfl, q8⟩
  refine ⟨_, rfl, fun a h360 => ?_⟩
  refine wl_valF (wanted_none rfl) (run_move' rfl (h360.at 0 rfl)) h360 rfl (by decide) rfl (fun a h361 => ?_)
  refine wl_valF (wanted_fr rfl rfl h361 (by decide) (h361.at 0 rfl) rfl) (run_move' rfl (h361.at 14 rfl)) h361 rfl (by decide) rfl (fun a h362 => ?_)
  refine wl_valF (wanted_fr rfl rfl h362 (by decide) (h362.at 1 rfl) rfl) (run_move' rfl (h362.at 9 rfl)) h362 rfl (by decide) rfl (fun a h363 => ?_)
  refine wl_callF (wanted_fr rfl rfl h363 (by decide) (h363.at 2 rfl) rfl) (run_enter2 (en24 _) rfl (h363.at 1 rfl) (h363.at 0 rfl)) (viewListsEq24 fA.a4 fA.n4 fA.c4 fB.a4 fB.n4 fB.c4 T.unsure w8 nuA ((rA.un.kept K7).kept q8) ((rB.un.kept K7).kept q8) (fun i hi => getD_mid hT.um i (by rw [rA.un.len]; exact hi))) h363 rfl (by decide) rfl ?_
  rintro e w9 ⟨rfl, q9⟩
  refine ⟨_, rfl, fun a h364 => ?_⟩
  refine wl_valF (wanted_none rfl) (run_pick (v := .bool true) (v' := .bool false) rfl (h364.at 3 rfl) (h364.at 0 rfl) rfl) h364 rfl (by decide) rfl (fun a h365 => ?_)
  refine wl_valF (wanted_none rfl) (run_move' rfl (h365.at 0 rfl)) h365 rfl (by decide) rfl (fun a h366 => ?_)
  have K9 := (K7.trans q8).trans q9
  have K93 := ((((q4.trans q5).trans q6).trans q7).trans q8).trans q9
  have g6 := (h366.sub (Has.cons (h366.at 1 rfl) (Has.cons (h366.at 0 rfl) (Has.cons (h366.at 9 rfl) (Has.cons (h366.at 10 rfl) (Has.cons (h366.at 11 rfl) (Has.cons (h366.at 12 rfl) (Has.cons (h366.at 13 rfl) (Has.cons (h366.at 14 rfl) (Has.cons (h366.at 15 rfl) (Has.cons (h366.at 16 rfl) (Has.cons (h366.at 17 rfl) (Has.cons (h366.at 18 rfl) (Has.cons (h366.at 19 rfl) (Has.cons (h366.at 20 rfl) (Has.cons (h366.at 21 rfl) (Has.cons (h366.at 22 rfl) (Has.cons (h366.at 23 rfl) (Has.cons (h366.at 24 rfl) (Has.cons (h366.at 25 rfl) (Has.cons (h366.at 26 rfl) (Has.cons (h366.at 27 rfl) (Has.cons (h366.at 28 rfl) (Has.nil _))))))))))))))))))))))))
  have ebB' : fB.b = (T.forgot || (fz && !kn)) := ebB
  cases hfg : T.forgot
  · cases fz
    · rw [hfg] at g6 ebB'
      refine wl_valF (wanted_fr rfl rfl g6 (by decide) (g6.at 1 rfl) rfl) (run_move' rfl (g6.at 5 rfl)) g6 rfl (by decide) rfl (fun a h501 => ?_)
      refine wl_valF (wanted_fr rfl rfl h501 (by decide) (h501.at 2 rfl) rfl) (run_move' rfl (h501.at 12 rfl)) h501 rfl (by decide) rfl (fun a h502 => ?_)
      refine wl_valF (wanted_fr rfl rfl h502 (by decide) (h502.at 3 rfl) rfl) (run_move' rfl (h502.at 0 rfl)) h502 rfl (by decide) rfl (fun a h503 => ?_)
      refine wl_valF (wanted_fr rfl rfl h503 (by decide) (h503.at 0 rfl) rfl) (run_move' rfl (h503.at 22 rfl)) h503 rfl (by decide) rfl (fun a h504 => ?_)
      refine wl_valF (wanted_fr rfl rfl h504 (by decide) (h504.at 1 rfl) rfl) (run_move' rfl (h504.at 0 rfl)) h504 rfl (by decide) rfl (fun a h505 => ?_)
      refine wl_notF (wanted_fr rfl rfl h505 (by decide) (h505.at 0 rfl) rfl) h505 rfl (by decide) rfl (fun a h506 => ?_)
      refine wl_notF (wanted_fr rfl rfl h506 (by decide) (h506.at 1 rfl) rfl) h506 rfl (by decide) rfl (fun a h507 => ?_)
      refine wl_valF (wanted_fr rfl rfl h507 (by decide) (h507.at 4 rfl) rfl) (run_pick (v := undef) (v' := .bool false) rfl (h507.at 2 rfl) (h507.at 0 rfl) rfl) h507 rfl (by decide) rfl (fun a h508 => ?_)
      refine wl_valF (wanted_fr rfl rfl h508 (by decide) (h508.at 9 rfl) rfl) (run_pick (v := .bool true) (v' := .bool false) rfl (h508.at 5 rfl) rfl (h508.at 0 rfl)) h508 rfl (by decide) rfl (fun a h509 => ?_)
      refine wl_valF (wanted_fr rfl rfl h509 (by decide) (h509.at 10 rfl) rfl) (run_bool (b := (fB.b == false)) (c := true) (run_eqlB rfl (h509.at 8 rfl) (h509.at 0 rfl)) (by rw [ebB']; simp)) h509 rfl (by decide) rfl (fun a h510 => ?_)
      refine wl_valF (wanted_none rfl) (run_pick (v := .bool true) (v' := .bool false) rfl (h510.at 11 rfl) (h510.at 0 rfl) rfl) h510 rfl (by decide) rfl (fun a h511 => ?_)
      refine wl_valF (wanted_none rfl) (run_move' rfl (h511.at 0 rfl)) h511 rfl (by decide) rfl (fun a h512 => ?_)
      refine wl_valF (wanted_fr rfl rfl h512 (by decide) (h512.at 0 rfl) rfl) (run_load42 rfl (h512.at 25 rfl) (K93.blk (Kw3.blk Cw2))) h512 rfl (by decide) rfl (fun a h513 => ?_)
      refine wl_valF (wanted_fr rfl rfl h513 (by decide) (h513.at 1 rfl) rfl) (run_load42 rfl (h513.at 20 rfl) (K93.blk Cw3)) h513 rfl (by decide) rfl (fun a h514 => ?_)
      refine wl_callF (wanted_fr rfl rfl h514 (by decide) (h514.at 2 rfl) rfl) (run_enter2 (en21 _) rfl (h514.at 1 rfl) (h514.at 0 rfl)) (viewsEq21w fA.l.val fB.l.val T.larger w9 (rA.lg.kept K9) (rB.lg.kept K9) hT.l) h514 rfl (by decide) rfl ?_
      rintro e w10 ⟨rfl, q10⟩
      refine ⟨_, rfl, fun a h515 => ?_⟩
      refine wl_valF (wanted_none rfl) (run_pick (v := .bool true) (v' := .bool false) rfl (h515.at 3 rfl) (h515.at 0 rfl) rfl) h515 rfl (by decide) rfl (fun a h516 => ?_)
      refine wl_valF (wanted_none rfl) (run_assign' rfl (h516.at 0 rfl)) h516 rfl (by decide) rfl (fun a h517 => ?_)
      show Code.wp _ _ _ _ _
      exact wp_ret (hret _ _ (h517.sub (Has.cons (h517.at 0 rfl) (Has.nil _))) (k1.trans (K9.trans q10)))
    · rw [hfg] at g6 ebB'
      refine wl_valF (wanted_fr rfl rfl g6 (by decide) (g6.at 1 rfl) rfl) (run_move' rfl (g6.at 5 rfl)) g6 rfl (by decide) rfl (fun a h501 => ?_)
      refine wl_valF (wanted_fr rfl rfl h501 (by decide) (h501.at 2 rfl) rfl) (run_move' rfl (h501.at 12 rfl)) h501 rfl (by decide) rfl (fun a h502 => ?_)
      refine wl_valF (wanted_fr rfl rfl h502 (by decide) (h502.at 3 rfl) rfl) (run_move' rfl (h502.at 0 rfl)) h502 rfl (by decide) rfl (fun a h503 => ?_)
      refine wl_valF (wanted_fr rfl rfl h503 (by decide) (h503.at 0 rfl) rfl) (run_move' rfl (h503.at 22 rfl)) h503 rfl (by decide) rfl (fun a h504 => ?_)
      refine wl_valF (wanted_fr rfl rfl h504 (by decide) (h504.at 1 rfl) rfl) (run_move' rfl (h504.at 0 rfl)) h504 rfl (by decide) rfl (fun a h505 => ?_)
      refine wl_valF (wanted_fr rfl rfl h505 (by decide) (h505.at 0 rfl) rfl) (run_move' rfl (h505.at 25 rfl)) h505 rfl (by decide) rfl (fun a h506 => ?_)
      refine wl_valF (wanted_fr rfl rfl h506 (by decide) (h506.at 1 rfl) rfl) (run_not rfl (h506.at 0 rfl)) h506 rfl (by decide) rfl (fun a h507 => ?_)
      refine wl_valF (wanted_fr rfl rfl h507 (by decide) (h507.at 4 rfl) rfl) (run_pick (v := .bool (!kn)) (v' := .bool false) rfl (h507.at 2 rfl) (h507.at 0 rfl) rfl) h507 rfl (by decide) rfl (fun a h508 => ?_)
      refine wl_valF (wanted_fr rfl rfl h508 (by decide) (h508.at 9 rfl) rfl) (run_pick (v := .bool true) (v' := .bool (!kn)) rfl (h508.at 5 rfl) rfl (h508.at 0 rfl)) h508 rfl (by decide) rfl (fun a h509 => ?_)
      refine wl_valF (wanted_fr rfl rfl h509 (by decide) (h509.at 10 rfl) rfl) (run_bool (b := (fB.b == (!kn))) (c := true) (run_eqlB rfl (h509.at 8 rfl) (h509.at 0 rfl)) (by rw [ebB']; simp)) h509 rfl (by decide) rfl (fun a h510 => ?_)
      refine wl_valF (wanted_none rfl) (run_pick (v := .bool true) (v' := .bool false) rfl (h510.at 11 rfl) (h510.at 0 rfl) rfl) h510 rfl (by decide) rfl (fun a h511 => ?_)
      refine wl_valF (wanted_none rfl) (run_move' rfl (h511.at 0 rfl)) h511 rfl (by decide) rfl (fun a h512 => ?_)
      refine wl_valF (wanted_fr rfl rfl h512 (by decide) (h512.at 0 rfl) rfl) (run_load42 rfl (h512.at 25 rfl) (K93.blk (Kw3.blk Cw2))) h512 rfl (by decide) rfl (fun a h513 => ?_)
      refine wl_valF (wanted_fr rfl rfl h513 (by decide) (h513.at 1 rfl) rfl) (run_load42 rfl (h513.at 20 rfl) (K93.blk Cw3)) h513 rfl (by decide) rfl (fun a h514 => ?_)
      refine wl_callF (wanted_fr rfl rfl h514 (by decide) (h514.at 2 rfl) rfl) (run_enter2 (en21 _) rfl (h514.at 1 rfl) (h514.at 0 rfl)) (viewsEq21w fA.l.val fB.l.val T.larger w9 (rA.lg.kept K9) (rB.lg.kept K9) hT.l) h514 rfl (by decide) rfl ?_
      rintro e w10 ⟨rfl, q10⟩
      refine ⟨_, rfl, fun a h515 => ?_⟩
      refine wl_valF (wanted_none rfl) (run_pick (v := .bool true) (v' := .bool false) rfl (h515.at 3 rfl) (h515.at 0 rfl) rfl) h515 rfl (by decide) rfl (fun a h516 => ?_)
      refine wl_valF (wanted_none rfl) (run_assign' rfl (h516.at 0 rfl)) h516 rfl (by decide) rfl (fun a h517 => ?_)
      show Code.wp _ _ _ _ _
      exact wp_ret (hret _ _ (h517.sub (Has.cons (h517.at 0 rfl) (Has.nil _))) (k1.trans (K9.trans q10)))
  · cases fz
    · rw [hfg] at g6 ebB'
      refine wl_valF (wanted_fr rfl rfl g6 (by decide) (g6.at 1 rfl) rfl) (run_move' rfl (g6.at 5 rfl)) g6 rfl (by decide) rfl (fun a h501 => ?_)
      refine wl_valF (wanted_fr rfl rfl h501 (by decide) (h501.at 2 rfl) rfl) (run_move' rfl (h501.at 12 rfl)) h501 rfl (by decide) rfl (fun a h502 => ?_)
      refine wl_valF (wanted_fr rfl rfl h502 (by decide) (h502.at 3 rfl) rfl) (run_move' rfl (h502.at 0 rfl)) h502 rfl (by decide) rfl (fun a h503 => ?_)
      refine wl_notF (wanted_fr rfl rfl h503 (by decide) (h503.at 0 rfl) rfl) h503 rfl (by decide) rfl (fun a h504 => ?_)
      refine wl_notF (wanted_fr rfl rfl h504 (by decide) (h504.at 1 rfl) rfl) h504 rfl (by decide) rfl (fun a h505 => ?_)
      refine wl_notF (wanted_undef rfl rfl h505 (by decide) (h505.at 0 rfl)) h505 rfl (by decide) rfl (fun a h506 => ?_)
      refine wl_notF (wanted_undef rfl rfl h506 (by decide) (h506.at 1 rfl)) h506 rfl (by decide) rfl (fun a h507 => ?_)
      refine wl_notF (wanted_fr rfl rfl h507 (by decide) (h507.at 4 rfl) rfl) h507 rfl (by decide) rfl (fun a h508 => ?_)
      refine wl_valF (wanted_fr rfl rfl h508 (by decide) (h508.at 9 rfl) rfl) (run_pick (v := .bool true) (v' := undef) rfl (h508.at 5 rfl) rfl (h508.at 0 rfl)) h508 rfl (by decide) rfl (fun a h509 => ?_)
      refine wl_valF (wanted_fr rfl rfl h509 (by decide) (h509.at 10 rfl) rfl) (run_bool (b := (fB.b == true)) (c := true) (run_eqlB rfl (h509.at 8 rfl) (h509.at 0 rfl)) (by rw [ebB']; simp)) h509 rfl (by decide) rfl (fun a h510 => ?_)
      refine wl_valF (wanted_none rfl) (run_pick (v := .bool true) (v' := .bool false) rfl (h510.at 11 rfl) (h510.at 0 rfl) rfl) h510 rfl (by decide) rfl (fun a h511 => ?_)
      refine wl_valF (wanted_none rfl) (run_move' rfl (h511.at 0 rfl)) h511 rfl (by decide) rfl (fun a h512 => ?_)
      refine wl_valF (wanted_fr rfl rfl h512 (by decide) (h512.at 0 rfl) rfl) (run_load42 rfl (h512.at 25 rfl) (K93.blk (Kw3.blk Cw2))) h512 rfl (by decide) rfl (fun a h513 => ?_)
      refine wl_valF (wanted_fr rfl rfl h513 (by decide) (h513.at 1 rfl) rfl) (run_load42 rfl (h513.at 20 rfl) (K93.blk Cw3)) h513 rfl (by decide) rfl (fun a h514 => ?_)
      refine wl_callF (wanted_fr rfl rfl h514 (by decide) (h514.at 2 rfl) rfl) (run_enter2 (en21 _) rfl (h514.at 1 rfl) (h514.at 0 rfl)) (viewsEq21w fA.l.val fB.l.val T.larger w9 (rA.lg.kept K9) (rB.lg.kept K9) hT.l) h514 rfl (by decide) rfl ?_
      rintro e w10 ⟨rfl, q10⟩
      refine ⟨_, rfl, fun a h515 => ?_⟩
      refine wl_valF (wanted_none rfl) (run_pick (v := .bool true) (v' := .bool false) rfl (h515.at 3 rfl) (h515.at 0 rfl) rfl) h515 rfl (by decide) rfl (fun a h516 => ?_)
      refine wl_valF (wanted_none rfl) (run_assign' rfl (h516.at 0 rfl)) h516 rfl (by decide) rfl (fun a h517 => ?_)
      show Code.wp _ _ _ _ _
      exact wp_ret (hret _ _ (h517.sub (Has.cons (h517.at 0 rfl) (Has.nil _))) (k1.trans (K9.trans q10)))
    · rw [hfg] at g6 ebB'
      refine wl_valF (wanted_fr rfl rfl g6 (by decide) (g6.at 1 rfl) rfl) (run_move' rfl (g6.at 5 rfl)) g6 rfl (by decide) rfl (fun a h501 => ?_)
      refine wl_valF (wanted_fr rfl rfl h501 (by decide) (h501.at 2 rfl) rfl) (run_move' rfl (h501.at 12 rfl)) h501 rfl (by decide) rfl (fun a h502 => ?_)
      refine wl_valF (wanted_fr rfl rfl h502 (by decide) (h502.at 3 rfl) rfl) (run_move' rfl (h502.at 0 rfl)) h502 rfl (by decide) rfl (fun a h503 => ?_)
      refine wl_notF (wanted_fr rfl rfl h503 (by decide) (h503.at 0 rfl) rfl) h503 rfl (by decide) rfl (fun a h504 => ?_)
      refine wl_notF (wanted_fr rfl rfl h504 (by decide) (h504.at 1 rfl) rfl) h504 rfl (by decide) rfl (fun a h505 => ?_)
      refine wl_notF (wanted_undef rfl rfl h505 (by decide) (h505.at 0 rfl)) h505 rfl (by decide) rfl (fun a h506 => ?_)
      refine wl_notF (wanted_undef rfl rfl h506 (by decide) (h506.at 1 rfl)) h506 rfl (by decide) rfl (fun a h507 => ?_)
      refine wl_notF (wanted_fr rfl rfl h507 (by decide) (h507.at 4 rfl) rfl) h507 rfl (by decide) rfl (fun a h508 => ?_)
      refine wl_valF (wanted_fr rfl rfl h508 (by decide) (h508.at 9 rfl) rfl) (run_pick (v := .bool true) (v' := undef) rfl (h508.at 5 rfl) rfl (h508.at 0 rfl)) h508 rfl (by decide) rfl (fun a h509 => ?_)
      refine wl_valF (wanted_fr rfl rfl h509 (by decide) (h509.at 10 rfl) rfl) (run_bool (b := (fB.b == true)) (c := true) (run_eqlB rfl (h509.at 8 rfl) (h509.at 0 rfl)) (by rw [ebB']; simp)) h509 rfl (by decide) rfl (fun a h510 => ?_)
      refine wl_valF (wanted_none rfl) (run_pick (v := .bool true) (v' := .bool false) rfl (h510.at 11 rfl) (h510.at 0 rfl) rfl) h510 rfl (by decide) rfl (fun a h511 => ?_)
      refine wl_valF (wanted_none rfl) (run_move' rfl (h511.at 0 rfl)) h511 rfl (by decide) rfl (fun a h512 => ?_)
      refine wl_valF (wanted_fr rfl rfl h512 (by decide) (h512.at 0 rfl) rfl) (run_load42 rfl (h512.at 25 rfl) (K93.blk (Kw3.blk Cw2))) h512 rfl (by decide) rfl (fun a h513 => ?_)
      refine wl_valF (wanted_fr rfl rfl h513 (by decide) (h513.at 1 rfl) rfl) (run_load42 rfl (h513.at 20 rfl) (K93.blk Cw3)) h513 rfl (by decide) rfl (fun a h514 => ?_)
      refine wl_callF (wanted_fr rfl rfl h514 (by decide) (h514.at 2 rfl) rfl) (run_enter2 (en21 _) rfl (h514.at 1 rfl) (h514.at 0 rfl)) (viewsEq21w fA.l.val fB.l.val T.larger w9 (rA.lg.kept K9) (rB.lg.kept K9) hT.l) h514 rfl (by decide) rfl ?_
      rintro e w10 ⟨rfl, q10⟩
      refine ⟨_, rfl, fun a h515 => ?_⟩
      refine wl_valF (wanted_none rfl) (run_pick (v := .bool true) (v' := .bool false) rfl (h515.at 3 rfl) (h515.at 0 rfl) rfl) h515 rfl (by decide) rfl (fun a h516 => ?_)
      refine wl_valF (wanted_none rfl) (run_assign' rfl (h516.at 0 rfl)) h516 rfl (by decide) rfl (fun a h517 => ?_)
      show Code.wp _ _ _ _ _
      exact wp_ret (hret _ _ (h517.sub (Has.cons (h517.at 0 rfl) (Has.nil _))) (k1.trans (K9.trans q10)))
end

end Go.Proofs.Qxb6616331aGreatDoor
