/-
  THE WALKS of seat b6616331aZD, X8: the law copies its input and lays the further answer.
-/
import Derived.Test.Qxb6616331aGreatDoorX7
import Derived.Test.Qxb6616331aGreatDoorZ8
import Derived.Test.Qxb6616331aGreatDoorZl
namespace Go.Proofs.Qxb6616331aGreatDoor
open Go.RowKit
set_option linter.unusedVariables false
set_option linter.unusedSimpArgs false
set_option linter.unnecessarySimpa false
set_option maxRecDepth 40000

theorem world_abs {P : Program} {Q : Exit → Act → World → Prop} {a : Act} {w : World} {c : Code} {F : World → Prop} (h : F w) (k : ∀ w, F w → c.wp P Q a w) : c.wp P Q a w := k w h
theorem put4_facts {w w2 : World} {b : Nat} (q : Kept w w2) (hb : w.heap.size ≤ b) {l l' : VL} {t : TypeId} (e : w2.heap[b]? = some (.cells l.arr t (0, 0))) :
    Kept w (put4 w2 b (.int .u64 l'.N) (.slice l'.ab l'.nb l'.cb) (.slice l'.al l'.nl l'.cl) (.slice l'.ac l'.nc l'.cc)) ∧ (put4 w2 b (.int .u64 l'.N) (.slice l'.ab l'.nb l'.cb) (.slice l'.al l'.nl l'.cl) (.slice l'.ac l'.nc l'.cc)).heap[b]? = some (.cells l'.arr t (0, 0)) ∧ Aside w2 (put4 w2 b (.int .u64 l'.N) (.slice l'.ab l'.nb l'.cb) (.slice l'.al l'.nl l'.cl) (.slice l'.ac l'.nc l'.cc)) b b :=
  ⟨q.put4 b hb _ _ _ _, put4_blk e _ _ _ _, ⟨fun k h _ => put4_other _ _ _ _ _ _ _ h, noStr_blk e (by simp), noStr_blk e (by simp), fun es k => by rw [e]; simp, fun es k => by rw [e]; simp⟩⟩

theorem OwnS.sl {w : World} {B : Nat} {v : Value} {xs : List Str} (h : OwnS w B v xs) : ∃ a n c, v = .slice a n c ∧ IsL w a n xs := by
  obtain ⟨a, c, e, hL, -, -⟩ := h.isL
  exact ⟨a, _, c, e, hL⟩

/-- The law's state behind its copies. b20: the box of the further answer; lx, nx, cx: its list. -/
structure SB (w : World) (F X : View) (tos : List Str) (As : List Ans) (nt n jn : Nat) (mark member : Str) (fz kn : Bool) (lF lX : VL) (at_ : Option Addr) (ct : Nat) (a3 : Option Addr) (c3 b20 : Nat) (ax : Option Addr) (nx cx : Nat) (xl : List Str) (w' : World) : Prop where
  k : Kept w w'
  b8 : w'.heap[w.heap.size]? = some (.cells lF.arr 25 (0, 0))
  b10 : w'.heap[w.heap.size + 1]? = some (.cells lX.arr 25 (0, 0))
  b20 : w'.heap[b20]? = some (.cells #[.int .i64 (jn : Int), .slice none 0 0, .slice ax nx cx, .bool fz, .slice none 0 0, .bool kn, sv mark, .slice none 0 0, .bool false, .bool false, .bool false] 31 (0, 0))
  f : IsV w' lF.val F
  x : IsV w' lX.val X
  t : IsL w' at_ nt tos
  a : IsA w' a3 n As
  l : IsL w' ax nx xl
theorem SB.kept {w : World} {F X : View} {tos : List Str} {As : List Ans} {nt n jn : Nat} {mark member : Str} {fz kn : Bool} {lF lX : VL} {at_ : Option Addr} {ct : Nat} {a3 : Option Addr} {c3 b20 : Nat} {ax : Option Addr} {nx cx : Nat} {xl : List Str} {w1 w2 : World} (h : SB w F X tos As nt n jn mark member fz kn lF lX at_ ct a3 c3 b20 ax nx cx xl w1) (q : Kept w1 w2) : SB w F X tos As nt n jn mark member fz kn lF lX at_ ct a3 c3 b20 ax nx cx xl w2 :=
  ⟨h.k.trans q, q.blk h.b8, q.blk h.b10, q.blk h.b20, h.f.kept q, h.x.kept q, h.t.kept q, h.a.kept q, h.l.kept q⟩

section
variable {w : World} {lF lX : VL} {F X : View} {at_ : Option Addr} {nt ct : Nat} {tos : List Str} {a3 : Option Addr} {n c3 : Nat} {As : List Ans} {jn : Nat} {mark : Str} {fz kn : Bool} {Q : Exit → Act → World → Prop}
set_option maxHeartbeats 3200000 in
theorem st8 (hF : IsV w lF.val F) (hX : IsV w lX.val X) (hT : IsL w at_ nt tos) (hA : IsA w a3 n As) (B : Bnd F X tos As mark) (hj : jn < nt) {a : Act} {w1 : World} (H : SA w lF lX at_ nt ct a3 n c3 (jn : Int) mark fz kn a w1)
    (next : ∀ a w2 lF lX at_ ct a3 c3 b20 ax nx cx k, 1 ≤ k → k ≤ 16 → X.count.toNat < 16 ^ k → Fr 373 a [(1, .slice at_ nt ct), (3, .slice a3 n c3), (4, .int .i64 (jn : Int)), (5, sv mark), (6, .bool fz), (7, .bool kn), (8, .pointer (some ⟨w.heap.size, 0, none⟩)), (10, .pointer (some ⟨(w.heap.size + 1), 0, none⟩)), (19, sv (tos.getD jn [])), (20, .pointer (some ⟨b20, 0, none⟩))] → SB w F X tos As nt n jn mark (tos.getD jn []) fz kn lF lX at_ ct a3 c3 b20 ax nx cx (listP X X.count.toNat k) w2 → (restC 14).wp Tryz.prog Q a w2) : (restC 8).wp Tryz.prog Q a w1 := by
  have h0 := H.fr
  have hn1 : nt ≤ 1048576 := by rw [← hT.len]; exact B.t.n
  have hn2 : n ≤ 1048576 := by rw [← hA.len]; exact B.an
  refine wp_seq (wp_region_list ?_)
  refine wl_valF (wanted_none rfl) (run_load25 rfl (h0.at 6 rfl) H.b8) h0 rfl (by decide) rfl (fun a h1 => ?_)
  refine wl_callF (wanted_none rfl) (run_enter1 (en9 _) rfl (h1.at 0 rfl)) (copyView9 lF.val F w1 (hF.kept H.k) B.sF) h1 rfl (by decide) rfl ?_
  rintro e w2 ⟨⟨v2, rfl, hv2⟩, q2⟩
  obtain ⟨lF2, rfl, -⟩ := hv2.vl
  refine ⟨_, rfl, fun a h2 => ?_⟩
  refine wl_skip (wanted_none rfl) rfl (run_store25 rfl (h2.at 8 rfl) (h2.at 0 rfl) (q2.blk H.b8)) ?_
  show Code.wp _ _ _ _ _
  have K2 := H.k.trans q2
  obtain ⟨f1, f2, f3⟩ := put4_facts (l' := lF2) K2 (Nat.le_refl _) (q2.blk H.b8)
  refine world_abs (F := fun w3 => Kept w w3 ∧ w3.heap[w.heap.size]? = some (.cells lF2.arr 25 (0, 0)) ∧ w3.heap[w.heap.size + 1]? = some (.cells lX.arr 25 (0, 0)) ∧ IsV w3 lF2.val F) ⟨f1, f2, (f3.same _ (by omega) (by omega)).trans (q2.blk H.b10), hv2.aside f3⟩ (fun w3 h3 => ?_)
  obtain ⟨K3, B8, B10, V8⟩ := h3
  clear f1 f2 f3
  refine wp_seq (wp_region_list ?_)
  have hc1 := (h2.sub (Has.cons (h2.at 2 rfl) (Has.cons (h2.at 3 rfl) (Has.cons (h2.at 4 rfl) (Has.cons (h2.at 5 rfl) (Has.cons (h2.at 6 rfl) (Has.cons (h2.at 7 rfl) (Has.cons (h2.at 8 rfl) (Has.cons (h2.at 9 rfl) (Has.nil _))))))))))
  refine wl_valF (wanted_none rfl) (run_move' rfl (hc1.at 0 rfl)) hc1 rfl (by decide) rfl (fun a h3 => ?_)
  refine wl_callF (wanted_none rfl) (run_enter1 (en10 _) rfl (h3.at 0 rfl)) (copyStrs10 at_ nt ct tos w3 (by omega) (hT.kept K3)) h3 rfl (by decide) rfl ?_
  rintro e w4 ⟨⟨at2, ct2, rfl, T4, -, -⟩, q4⟩
  refine ⟨_, rfl, fun a h4 => ?_⟩
  refine wl_valF (wanted_none rfl) (run_assign' rfl (h4.at 0 rfl)) (h4.sub (Has.cons (h4.at 0 rfl) (Has.cons (h4.at 1 rfl) (Has.cons (h4.at 3 rfl) (Has.cons (h4.at 4 rfl) (Has.cons (h4.at 5 rfl) (Has.cons (h4.at 6 rfl) (Has.cons (h4.at 7 rfl) (Has.cons (h4.at 8 rfl) (Has.cons (h4.at 9 rfl) (Has.nil _))))))))))) rfl (by decide) rfl (fun a h5 => ?_)
  show Code.wp _ _ _ _ _
  have hc2 := (h5.sub (Has.cons (h5.at 0 rfl) (Has.cons (h5.at 3 rfl) (Has.cons (h5.at 4 rfl) (Has.cons (h5.at 5 rfl) (Has.cons (h5.at 6 rfl) (Has.cons (h5.at 7 rfl) (Has.cons (h5.at 8 rfl) (Has.cons (h5.at 9 rfl) (Has.nil _))))))))))
  refine wp_seq (wp_region_list ?_)
  refine wl_valF (wanted_none rfl) (run_load25 rfl (hc2.at 7 rfl) (q4.blk B10)) hc2 rfl (by decide) rfl (fun a h6 => ?_)
  refine wl_callF (wanted_none rfl) (run_enter1 (en9 _) rfl (h6.at 0 rfl)) (copyView9 lX.val X w4 (hX.kept (K3.trans q4)) B.sX) h6 rfl (by decide) rfl ?_
  rintro e w5 ⟨⟨v5, rfl, hv5⟩, q5⟩
  obtain ⟨lX2, rfl, g1, g2, g3, gN⟩ := hv5.vl
  refine ⟨_, rfl, fun a h7 => ?_⟩
  refine wl_skip (wanted_none rfl) rfl (run_store25 rfl (h7.at 9 rfl) (h7.at 0 rfl) (q5.blk (q4.blk B10))) ?_
  show Code.wp _ _ _ _ _
  have K5 := K3.trans (q4.trans q5)
  obtain ⟨f1, f2, f3⟩ := put4_facts (l' := lX2) K5 (Nat.le_succ _) (q5.blk (q4.blk B10))
  refine world_abs (F := fun w6 => Kept w w6 ∧ w6.heap[w.heap.size]? = some (.cells lF2.arr 25 (0, 0)) ∧ w6.heap[w.heap.size + 1]? = some (.cells lX2.arr 25 (0, 0)) ∧ IsV w6 lF2.val F ∧ IsV w6 lX2.val X ∧ IsL w6 at2 nt tos) ⟨f1, (f3.same _ (by omega) (by omega)).trans (q5.blk (q4.blk B8)), f2, ((V8.kept q4).kept q5).aside f3, hv5.aside f3, (T4.kept q5).aside f3⟩ (fun w6 h6 => ?_)
  obtain ⟨K6, C8, C10, V8, V10, T6⟩ := h6
  clear f1 f2 f3 B8 B10 T4
  have hc3 := (h7.sub (Has.cons (h7.at 2 rfl) (Has.cons (h7.at 3 rfl) (Has.cons (h7.at 4 rfl) (Has.cons (h7.at 5 rfl) (Has.cons (h7.at 6 rfl) (Has.cons (h7.at 7 rfl) (Has.cons (h7.at 8 rfl) (Has.cons (h7.at 9 rfl) (Has.nil _))))))))))
  refine wp_seq (wp_region_list ?_)
  refine wl_valF (wanted_none rfl) (run_move' rfl (hc3.at 1 rfl)) hc3 rfl (by decide) rfl (fun a h8 => ?_)
  refine wl_callF (wanted_none rfl) (run_enter1 (en11 _) rfl (h8.at 0 rfl)) (copyAnswers11 a3 n c3 As w6 hn2 (hA.kept K6) (fun i hi => (B.a i (by rw [hA.len]; exact hi)).small)) h8 rfl (by decide) rfl ?_
  rintro e w7 ⟨⟨an2, cn2, rfl, A7, -⟩, q7⟩
  refine ⟨_, rfl, fun a h9 => ?_⟩
  refine wl_valF (wanted_none rfl) (run_assign' rfl (h9.at 0 rfl)) (h9.sub (Has.cons (h9.at 0 rfl) (Has.cons (h9.at 1 rfl) (Has.cons (h9.at 2 rfl) (Has.cons (h9.at 4 rfl) (Has.cons (h9.at 5 rfl) (Has.cons (h9.at 6 rfl) (Has.cons (h9.at 7 rfl) (Has.cons (h9.at 8 rfl) (Has.cons (h9.at 9 rfl) (Has.nil _))))))))))) rfl (by decide) rfl (fun a h10 => ?_)
  show Code.wp _ _ _ _ _
  have hc4 := (h10.sub (Has.cons (h10.at 3 rfl) (Has.cons (h10.at 0 rfl) (Has.cons (h10.at 4 rfl) (Has.cons (h10.at 5 rfl) (Has.cons (h10.at 6 rfl) (Has.cons (h10.at 7 rfl) (Has.cons (h10.at 8 rfl) (Has.cons (h10.at 9 rfl) (Has.nil _))))))))))
  refine wp_seq (wp_region_list ?_)
  obtain ⟨bt, offt, ea, hc⟩ := (T6.kept q7).row (by omega)
  have cm := hc jn hj
  subst ea
  refine wl_valF (wanted_none rfl) (run_move' rfl (hc4.at 0 rfl)) hc4 rfl (by decide) rfl (fun a h11 => ?_)
  refine wl_valF (wanted_none rfl) (run_move' rfl (h11.at 3 rfl)) h11 rfl (by decide) rfl (fun a h12 => ?_)
  refine wl_valF (wanted_none rfl) (run_index23 rfl (h12.at 1 rfl) (h12.at 0 rfl) hj) h12 rfl (by decide) rfl (fun a h13 => ?_)
  refine wl_valF (wanted_none rfl) (run_load9 rfl (h13.at 0 rfl) cm) h13 rfl (by decide) rfl (fun a h14 => ?_)
  refine wl_valF (wanted_none rfl) (run_assign' rfl (h14.at 0 rfl)) h14 rfl (by decide) rfl (fun a h15 => ?_)
  show Code.wp _ _ _ _ _
  have hc5 := (h15.sub (Has.cons (h15.at 5 rfl) (Has.cons (h15.at 6 rfl) (Has.cons (h15.at 7 rfl) (Has.cons (h15.at 8 rfl) (Has.cons (h15.at 9 rfl) (Has.cons (h15.at 10 rfl) (Has.cons (h15.at 11 rfl) (Has.cons (h15.at 12 rfl) (Has.cons (h15.at 0 rfl) (Has.nil _)))))))))))
  refine wp_seq (wp_region_list ?_)
  have m1 := B.xb.n
  have m2 := B.xl.n
  have m3 := B.xc.n
  rw [g1.len] at m1
  rw [g2.len] at m2
  rw [g3.len] at m3
  obtain ⟨N, hN⟩ : ∃ N : Nat, X.count = (N : Int) := ⟨X.count.toNat, by have := hX.lo; omega⟩
  have hN64 : N < 18446744073709551616 := by have := hX.hi; omega
  have hlN : lX2.N = (N : Int) := gN.trans hN
  have hNN : X.count.toNat = N := by omega
  obtain ⟨gb, gl, gc⟩ : IsL w7 lX2.ab lX2.nb X.base ∧ IsL w7 lX2.al lX2.nl X.last ∧ IsL w7 lX2.ac lX2.nc X.changes := by
    obtain ⟨ab, nb, cb, al, nl, cl, ac, nc, cc, e, e1, e2, e3⟩ := (V10.kept q7).ex
    have e' : lX2.arr = _ := Value.agg.inj e
    simp only [VL.arr, Array.mk.injEq, List.cons.injEq, Value.slice.injEq, and_true] at e'
    obtain ⟨-, ⟨r1, r2, -⟩, ⟨r3, r4, -⟩, r5, r6, -⟩ := e'
    rw [r1, r2, r3, r4, r5, r6]
    exact ⟨e1, e2, e3⟩
  refine wl_valF (wanted_none rfl) (run_move' rfl (hc5.at 2 rfl)) hc5 rfl (by decide) rfl (fun a h16 => ?_)
  refine wl_valF (wanted_none rfl) (run_load25 rfl (h16.at 8 rfl) (q7.blk C10)) h16 rfl (by decide) rfl (fun a h17 => ?_)
  refine wl_callF (wanted_none rfl) (run_enter1 (en12 _) rfl (h17.at 0 rfl)) (by have := listOf12_in N lX2.ab lX2.al lX2.ac lX2.nb lX2.cb lX2.nl lX2.cl lX2.nc lX2.cc X.base X.last X.changes w7 hN64 gb gl gc (by omega) (by omega) (by omega) (fun i hi => B.xb.s i (by rw [g1.len]; exact hi)) (fun i hi => B.xl.s i (by rw [g2.len]; exact hi)); rw [← hlN] at this; exact this) h17 rfl (by decide) rfl ?_
  rintro e w8 ⟨⟨k, v8, k1, k2, k3, rfl, O8⟩, q8⟩
  obtain ⟨ax, nx, cx, rfl, I8⟩ := O8.sl
  refine ⟨_, rfl, fun a h18 => ?_⟩
  refine wl_valF (wanted_none rfl) (run_move' rfl (h18.at 7 rfl)) h18 rfl (by decide) rfl (fun a h19 => ?_)
  refine wl_valF (wanted_none rfl) (run_move' rfl (h19.at 9 rfl)) h19 rfl (by decide) rfl (fun a h20 => ?_)
  refine wl_valF (wanted_none rfl) (run_move' rfl (h20.at 8 rfl)) h20 rfl (by decide) rfl (fun a h21 => ?_)
  refine wl_valF (wanted_none rfl) (run_build31 rfl (h21.at 5 rfl) (h21.at 3 rfl) (h21.at 2 rfl) (h21.at 1 rfl) (h21.at 0 rfl)) h21 rfl (by decide) rfl (fun a h22 => ?_)
  refine wl_valF (wanted_none rfl) (run_alloc31 rfl) h22 rfl (by decide) rfl (fun a h23 => ?_)
  have hb20 := heap_alloc_new w8 (.cells #[.int .i64 0, .slice none 0 0, .slice none 0 0, .bool false, .slice none 0 0, .bool false, sv [], .slice none 0 0, .bool false, .bool false, .bool false] 31)
  refine wl_skip (wanted_none rfl) rfl (run_store31 rfl (h23.at 0 rfl) (h23.at 1 rfl) hb20) ?_
  show Code.wp _ _ _ _ _
  have Q10 := (Kept.alloc w8 (.cells #[.int .i64 0, .slice none 0 0, .slice none 0 0, .bool false, .slice none 0 0, .bool false, sv [], .slice none 0 0, .bool false, .bool false, .bool false] 31)).put11 w8.heap.size (Nat.le_refl _) (.int .i64 (jn : Int)) (.slice none 0 0) (.slice ax nx cx) (.bool fz) (.slice none 0 0) (.bool kn) (sv mark) (.slice none 0 0) (.bool false) (.bool false) (.bool false)
  have E10 := put11_blk hb20 (.int .i64 (jn : Int)) (.slice none 0 0) (.slice ax nx cx) (.bool fz) (.slice none 0 0) (.bool kn) (sv mark) (.slice none 0 0) (.bool false) (.bool false) (.bool false)
  refine next a _ lF2 lX2 _ ct2 an2 cn2 w8.heap.size ax nx cx k k1 k2 (by rw [hNN]; exact k3) (h23.sub (Has.cons (h23.at 8 rfl) (Has.cons (h23.at 9 rfl) (Has.cons (h23.at 10 rfl) (Has.cons (h23.at 11 rfl) (Has.cons (h23.at 12 rfl) (Has.cons (h23.at 13 rfl) (Has.cons (h23.at 14 rfl) (Has.cons (h23.at 15 rfl) (Has.cons (h23.at 16 rfl) (Has.cons (h23.at 0 rfl) (Has.nil _)))))))))))) ?_
  have q78 := q8.trans Q10
  exact ⟨(K6.trans q7).trans q78, q78.blk (q7.blk C8), q78.blk (q7.blk C10), E10, (V8.kept q7).kept q78, (V10.kept q7).kept q78, (T6.kept q7).kept q78, A7.kept q78, by rw [hNN]; exact I8.kept Q10⟩

end

end Go.Proofs.Qxb6616331aGreatDoor
