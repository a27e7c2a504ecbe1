/-
  THE WALKS of seat b6616331aZD, Xf: the law FnTallyCountsAMemberFrozenTowardNext: true.
-/
import Derived.Test.Qxb6616331aGreatDoorXe
namespace Go.Proofs.Qxb6616331aGreatDoor
open Go.RowKit
set_option linter.unusedVariables false
set_option linter.unusedSimpArgs false
set_option linter.unnecessarySimpa false
set_option maxRecDepth 40000

theorem BndL.all {tos : List Str} (h : BndL tos) (q : Nat) : (tos.getD q []).length ≤ 1048576 := by
  by_cases hq : q < tos.length
  · exact h.s q hq
  · rw [List.getD_eq_getElem?_getD, List.getElem?_eq_none (by omega)]
    exact Nat.zero_le _

set_option maxHeartbeats 3200000 in
theorem law3_wp (lF lX : VL) (F X : View) (at_ a3 : Option Addr) (nt ct n c3 : Nat) (tos : List Str) (As : List Ans) (j : Int) (mark : Str) (fz kn : Bool) (w : World) (hF : IsV w lF.val F) (hX : IsV w lX.val X) (hT : IsL w at_ nt tos) (hA : IsA w a3 n As) (hE : Errs w) {Q : Exit → Act → World → Prop}
    (hret : ∀ a w', Fr 373 a [(16, .bool true)] → Kept w w' → Q .ret a w') {a : Act} {w1 : World} (H : SA w lF lX at_ nt ct a3 n c3 j mark fz kn a w1) : (restC 1).wp Tryz.prog Q a w1 := by
  refine st1 hret hF hX hT hA H (fun a w2 H B => ?_)
  have hn2 : n ≤ 1048576 := by rw [← hA.len]; exact B.an
  refine st2 hret hF hX hT hA B H (fun a w3 H => ?_)
  refine st3 hret H (fun a w4 H => ?_)
  refine st4 hret H (fun a w5 H hj0 hj1 => ?_)
  refine st5 hret hA hn2 H (fun a w6 H hs => ?_)
  refine st6 hret hX B.sX H (fun a w7 H ab al ac => ?_)
  refine st7 hret hX B.xc H (fun a w8 H hp => ?_)
  obtain ⟨jn, rfl⟩ : ∃ jn : Nat, j = (jn : Int) := ⟨j.toNat, by omega⟩
  have hj : jn < nt := by omega
  refine st8 hF hX hT hA B hj H (fun a W lF2 lX2 at2 ct2 an2 cn2 b20 ax nx cx k k1 k2 k3 h0 S => ?_)
  clear H
  have hcnt : X.count = (X.count.toNat : Int) := by have := hX.lo; omega
  have hxv : newViewP (listP X X.count.toNat k) = X := newView_list X X.count.toNat k hcnt k1 k2 k3 (by have := hX.hi; omega) ab al ac hp
  have hxl : XL (listP X X.count.toNat k) := ⟨by have := B.xs; rw [listP_len]; omega, fun q hq => listP_str X _ k k2 1048576 (by decide) B.xb.s B.xl.s B.xc.s q hq⟩
  generalize listP X X.count.toNat k = xl at hxv hxl S
  have hmem : (tos.getD jn []).length ≤ 1048576 := B.t.all jn
  refine st14 B hs hE hj hxl S h0 (fun a W2 B1 E1 b21 f1 b22 l1 g0 q2 hb21 hb22 hf1 hl1 => ?_)
  rw [tGo_extra F X tos (jn : Int) xl fz kn mark hxv (tZero X)] at hf1 hl1
  refine st15 B.mX hmem S q2 g0 hb21 hb22 hf1 hl1 (fun a W3 q3 g1 => ?_)
  have S3 := S.kept (q2.trans q3)
  refine st20 B hs hE hj hxl S3 g1 (fun a W4 BA EA b31 fA b32 lA g2 q4 hb31 hb32 hfA hlA => ?_)
  have S4 := S3.kept q4
  refine st21 B hs hE hj hxl S4 (g2.sub (Has.cons (g2.at 2 rfl) (Has.cons (g2.at 3 rfl) (Has.cons (g2.at 4 rfl) (Has.cons (g2.at 5 rfl) (Has.cons (g2.at 6 rfl) (Has.cons (g2.at 7 rfl) (Has.cons (g2.at 8 rfl) (Has.cons (g2.at 9 rfl) (Has.cons (g2.at 10 rfl) (Has.cons (g2.at 11 rfl) (Has.cons (g2.at 0 rfl) (Has.cons (g2.at 1 rfl) (Has.nil _)))))))))))))) (fun a W5 BB EB b33 fB b34 lB g3 q5 hb33 hb34 hfB hlB => ?_)
  have g4 := (g3.sub (Has.cons (g3.at 0 rfl) (Has.cons (g3.at 1 rfl) (Has.cons (g3.at 12 rfl) (Has.cons (g3.at 13 rfl) (Has.cons (g3.at 5 rfl) (Has.cons (g3.at 6 rfl) (Has.cons (g3.at 7 rfl) (Has.cons (g3.at 10 rfl) (Has.nil _))))))))))
  have K5 := S4.k.trans q5
  rw [tGo_more F X tos As (jn : Int) xl fz kn mark hxv (tZero X)] at hfB hlB
  have hAall : ∀ A ∈ As, OkA nt A := fun A hA' => by
    obtain ⟨q, hq, rfl⟩ := List.getElem_of_mem hA'
    have hqn : q < n := by rw [← hA.len]; exact hq
    have := (B.a q hq).ok (hs q hqn).1 (hs q hqn).2
    rwa [List.getD_eq_getElem?_getD, List.getElem?_eq_getElem hq] at this
  have inv := tGo_inv F X tos nt As 0 (tZero X) (inv_zero B.mX (Nat.le_trans B.xc.n (by decide))) hAall
  have keys := tGo_keys F X tos 1048576 B.t.all As (tZero X) (fun p hp => by cases hp)
  cases hR : tGo F X tos As (tZero X) with
  | inl T =>
    rw [hR] at hfA hlA hfB hlB inv
    obtain ⟨mA, rA⟩ := (FrzIn.kept hfA q5).rd
    obtain ⟨mB, rB⟩ := FrzIn.rd hfB
    have hfin : FinT T := InvT.fin inv (by rw [Nat.zero_add]; exact B.an)
    exact st22b hret hmem K5 g4 (q5.blk hb31) (q5.blk hb32) hb33 hb34 rA rB hlA hlB hfin (keys T hR)
  | inr V =>
    rw [hR] at hfA hlA hfB hlB inv
    exact st22a hret K5 g4 (q5.blk hb31) (q5.blk hb32) hb33 hb34 hfA hfB (IsV.kept hlA q5) hlB inv

theorem law3_body (lF lX : VL) (F X : View) (at_ a3 : Option Addr) (nt ct n c3 : Nat) (tos : List Str) (As : List Ans) (j : Int) (mark : Str) (fz kn : Bool) (w : World) (hF : IsV w lF.val F) (hX : IsV w lX.val X) (hT : IsL w at_ nt tos) (hA : IsA w a3 n As) (hE : Errs w) (a : Act)
    (h0 : Fr 373 a [(0, lF.val), (1, .slice at_ nt ct), (2, lX.val), (3, .slice a3 n c3), (4, .int .i64 j), (5, sv mark), (6, .bool fz), (7, .bool kn)]) :
    (restC 0).wp Tryz.prog (bodyPost Tryz.prog Tryz.f3 fun e w' => e = .returned (.bool true) ∧ Kept w w') a w := by
  refine wp_seq (wp_region_list ?_)
  refine wl_valF (wanted_none rfl) (run_box25 rfl (h0.at 0 rfl)) h0 rfl (by decide) rfl (fun a h1 => ?_)
  refine wl_valF (wanted_none rfl) (run_box25 rfl (h1.at 3 rfl)) h1 rfl (by decide) rfl (fun a h2 => ?_)
  have hS : (w.alloc (.cells lF.arr 25)).heap.size = w.heap.size + 1 := by simp
  have hb1 := new1 w (.cells lF.arr 25) (.cells lX.arr 25)
  have hb2 := new2 w (.cells lF.arr 25) (.cells lX.arr 25)
  have KW : Kept w ((w.alloc (.cells lF.arr 25)).alloc (.cells lX.arr 25)) := (Kept.alloc _ _).more _
  rw [hS] at h2
  refine wl_valF (wanted_none rfl) (run_const rfl) h2 rfl (by decide) rfl (fun a h3 => ?_)
  show Code.wp _ _ _ _ _
  refine world_abs (F := fun W => Kept w W ∧ W.heap[w.heap.size]? = some (.cells lF.arr 25 (0, 0)) ∧ W.heap[w.heap.size + 1]? = some (.cells lX.arr 25 (0, 0))) ⟨KW, hb1, hb2⟩ (fun W hW => ?_)
  obtain ⟨KW, hb1, hb2⟩ := hW
  refine law3_wp lF lX F X at_ a3 nt ct n c3 tos As j mark fz kn w hF hX hT hA hE (fun a w' h k => ?_) ⟨h3.sub (Has.cons (h3.at 4 rfl) (Has.cons (h3.at 6 rfl) (Has.cons (h3.at 7 rfl) (Has.cons (h3.at 8 rfl) (Has.cons (h3.at 9 rfl) (Has.cons (h3.at 10 rfl) (Has.cons (h3.at 2 rfl) (Has.cons (h3.at 1 rfl) (Has.nil _))))))))), KW, hb1, hb2⟩
  exact bodyPost_ret (v := .bool true) (ret16 Tryz.results3 (h.at 0 rfl)) h.defers ⟨rfl, k⟩

/-- THE LAW: true, whatever the input. -/
theorem law3 (v0 v2 : Value) (F X : View) (at_ a3 : Option Addr) (nt ct n c3 : Nat) (tos : List Str) (As : List Ans) (j : Int) (mark : Str) (fz kn : Bool) (w : World) (hF : IsV w v0 F) (hX : IsV w v2 X) (hT : IsL w at_ nt tos) (hA : IsA w a3 n As) (hE : Errs w) :
    Calls Tryz.prog 3 #[v0, .slice at_ nt ct, v2, .slice a3 n c3, .int .i64 j, sv mark, .bool fz, .bool kn] w fun e w' => e = .returned (.bool true) ∧ Kept w w' := by
  obtain ⟨lF, rfl, -⟩ := hF.vl
  obtain ⟨lX, rfl, -⟩ := hX.vl
  refine calls_of_wp Tryz.func3 (c := _) rfl ?_
  exact law3_body lF lX F X at_ a3 nt ct n c3 tos As j mark fz kn w hF hX hT hA hE _ ⟨init_size _ _ _ rfl, rfl, Has.cons (init_rd _ _ _ _ rfl) (Has.cons (init_rd _ _ _ _ rfl) (Has.cons (init_rd _ _ _ _ rfl) (Has.cons (init_rd _ _ _ _ rfl) (Has.cons (init_rd _ _ _ _ rfl) (Has.cons (init_rd _ _ _ _ rfl) (Has.cons (init_rd _ _ _ _ rfl) (Has.cons (init_rd _ _ _ _ rfl) (Has.nil _))))))))⟩

end Go.Proofs.Qxb6616331aGreatDoor
