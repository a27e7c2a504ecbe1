/-
  THE WALKS of seat b6616331aZD, X3: zzBytes: where it says true, each length is at most 2^20.
-/
import Derived.Test.Qxb6616331aGreatDoorX2
namespace Go.Proofs.Qxb6616331aGreatDoor
open Go.RowKit
set_option linter.unusedVariables false
set_option linter.unusedSimpArgs false
set_option linter.unnecessarySimpa false
set_option maxRecDepth 40000

/-- A list of at most 2^20 strings, each of at most 2^20 bytes. -/
structure BndL (xs : List Str) : Prop where
  n : xs.length ≤ 1048576
  s : ∀ q, q < xs.length → (xs.getD q []).length ≤ 1048576
structure BndA (A : Ans) : Prop where
  vw : BndL A.view
  nx : BndL A.next
  bn : A.before.length ≤ 1048576
  bs : ∀ q, q < A.before.length → BndL (A.before.getD q [])
  mr : A.mark.length ≤ 1048576
  un : A.unsure.length ≤ 1048576
  us : ∀ q, q < A.unsure.length → BndL (A.unsure.getD q [])
structure Bnd (F X : View) (tos : List Str) (As : List Ans) (mark : Str) : Prop where
  fb : BndL F.base
  fl : BndL F.last
  fc : BndL F.changes
  t : BndL tos
  xb : BndL X.base
  xl : BndL X.last
  xc : BndL X.changes
  an : As.length ≤ 1048576
  a : ∀ q, q < As.length → BndA (As.getD q noAns)
  m : mark.length ≤ 1048576
  xs : X.base.length + X.last.length + X.changes.length ≤ 1048576
theorem Tr.absurd {T : Prop} {W : World} {p q : Act → Prop} {c : Code} (h : ∀ a, p a → False) : Tr T W p c q := fun Q _ _ a ha => (h a ha).elim

set_option maxHeartbeats 6400000 in
theorem bytes5_body (N1 N2 : Int) (F X : View) (at_ a3 : Option Addr) (nt ct n c3 : Nat) (tos : List Str) (As : List Ans) (mark : Str) (w W : World)
    (a1 : Option Addr) (n1 d1 : Nat) (a2 : Option Addr) (n2 d2 : Nat) (a3' : Option Addr) (n3 d3 : Nat) (a4 : Option Addr) (n4 d4 : Nat) (a5 : Option Addr) (n5 d5 : Nat) (a6 : Option Addr) (n6 d6 : Nat)
    (y1 : W.cell? ⟨w.heap.size, 1, none⟩ = some (.slice a1 n1 d1)) (y2 : W.cell? ⟨w.heap.size, 2, none⟩ = some (.slice a2 n2 d2)) (y3 : W.cell? ⟨w.heap.size, 3, none⟩ = some (.slice a3' n3 d3))
    (y4 : W.cell? ⟨w.heap.size + 1, 1, none⟩ = some (.slice a4 n4 d4)) (y5 : W.cell? ⟨w.heap.size + 1, 2, none⟩ = some (.slice a5 n5 d5)) (y6 : W.cell? ⟨w.heap.size + 1, 3, none⟩ = some (.slice a6 n6 d6))
    (f1 : IsL W a1 n1 F.base) (f2 : IsL W a2 n2 F.last) (f3 : IsL W a3' n3 F.changes) (h1 : IsL W at_ nt tos) (f4 : IsL W a4 n4 X.base) (f5 : IsL W a5 n5 X.last) (f6 : IsL W a6 n6 X.changes) (h3 : IsA W a3 n As) (c : Code) (o0 o1 : Code) (hc : Tryz.f5.body = some (.seq o0 (.seq o1 c))) :
    Tr (Bnd F X tos As mark) W (fun a => ∃ s : Int, 0 ≤ s ∧ s ≤ 1048576 ∧ Fr 597 a ((17, .int .i64 s) :: [(1, .slice at_ nt ct), (3, .slice a3 n c3), (5, sv mark), (8, .pointer (some ⟨w.heap.size, 0, none⟩)), (10, .pointer (some ⟨(w.heap.size + 1), 0, none⟩))])) c (fun _ => False) := by
  have hc' : c = _ := ((Code.seq.inj ((Code.seq.inj (Option.some.inj hc)).2)).2).symm
  subst hc'
  refine seg13 (L := [(1, .slice at_ nt ct), (3, .slice a3 n c3), (5, sv mark), (8, .pointer (some ⟨w.heap.size, 0, none⟩)), (10, .pointer (some ⟨(w.heap.size + 1), 0, none⟩))]) (n := n1) (lo := 0) rfl rfl rfl rfl rfl rfl (by omega) ?_ ?_ ?_ (fun hn2 => ?_)
  · intro s a h0
    have h1 := h0.put 32 (.pointer (some ⟨w.heap.size, 1, none⟩)) (by decide) rfl
    have h2 := h1.put 33 (.slice a1 n1 d1) (by decide) rfl
    have h3 := h2.put 34 (.int .i64 ((n1 : Nat) : Int)) (by decide) rfl
    have h4 := h3.put 35 (.bool (decide ((1048576 : Int) < ((n1 : Nat) : Int)))) (by decide) rfl
    exact ⟨_, (.cons rfl (run_field25 rfl (by decide) (h0.at 4 rfl)) (.cons rfl (run_load23 rfl (h1.at 0 rfl) y1) (.cons rfl (run_lenS rfl (by decide) (h2.at 0 rfl)) (.cons rfl (run_gtr rfl (h3.at 0 rfl)) (.nil _))))), (h4.at 0 rfl), h4.sub (Has.cons (h4.at 4 rfl) (Has.cons (h4.at 5 rfl) (Has.cons (h4.at 6 rfl) (Has.cons (h4.at 7 rfl) (Has.cons (h4.at 8 rfl) (Has.cons (h4.at 9 rfl) (Has.nil _)))))))⟩
  · intro s a hs0 hs1 hn0 h0
    have h1 := h0.put 36 (.int .i64 s) (by decide) rfl
    have h2 := h1.put 37 (.pointer (some ⟨w.heap.size, 1, none⟩)) (by decide) rfl
    have h3 := h2.put 38 (.slice a1 n1 d1) (by decide) rfl
    have h4 := h3.put 39 (.int .i64 ((n1 : Nat) : Int)) (by decide) rfl
    have h5 := h4.put 40 (.int .i64 (s + ((n1 : Nat) : Int))) (by decide) rfl
    have h5d := h5.sub (Has.cons (h5.at 0 rfl) (Has.cons (h5.at 1 rfl) (Has.cons (h5.at 2 rfl) (Has.cons (h5.at 3 rfl) (Has.cons (h5.at 4 rfl) (Has.cons (h5.at 6 rfl) (Has.cons (h5.at 7 rfl) (Has.cons (h5.at 8 rfl) (Has.cons (h5.at 9 rfl) (Has.cons (h5.at 10 rfl) (Has.nil _)))))))))))
    have h6 := h5d.put 17 (.int .i64 (s + ((n1 : Nat) : Int))) (by decide) rfl
    exact ⟨_, (.cons rfl (run_move' rfl (h0.at 0 rfl)) (.cons rfl (run_field25 rfl (by decide) (h1.at 5 rfl)) (.cons rfl (run_load23 rfl (h2.at 0 rfl) y1) (.cons rfl (run_lenS rfl (by decide) (h3.at 0 rfl)) (.cons rfl (run_add rfl (h4.at 3 rfl) (h4.at 0 rfl) (by omega) (by omega)) (.cons rfl (run_assign' rfl (h5.at 0 rfl)) (.nil _))))))), h6.sub (Has.cons (h6.at 0 rfl) (Has.cons (h6.at 6 rfl) (Has.cons (h6.at 7 rfl) (Has.cons (h6.at 8 rfl) (Has.cons (h6.at 9 rfl) (Has.cons (h6.at 10 rfl) (Has.nil _)))))))⟩
  · intro s a h0
    have h1 := h0.put 41 (.int .i64 s) (by decide) rfl
    have h2 := h1.put 42 (.bool (decide ((1048576 : Int) < s))) (by decide) rfl
    exact ⟨_, (.cons rfl (run_move' rfl (h0.at 0 rfl)) (.cons rfl (run_gtr rfl (h1.at 0 rfl)) (.nil _))), (h2.at 0 rfl), h2.sub (Has.cons (h2.at 2 rfl) (Has.cons (h2.at 3 rfl) (Has.cons (h2.at 4 rfl) (Has.cons (h2.at 5 rfl) (Has.cons (h2.at 6 rfl) (Has.cons (h2.at 7 rfl) (Has.nil _)))))))⟩
  refine Tr.seq (loopG (fun k => (F.base.getD k []).length ≤ 1048576) (L := [(1, .slice at_ nt ct), (3, .slice a3 n c3), (5, sv mark), (8, .pointer (some ⟨w.heap.size, 0, none⟩)), (10, .pointer (some ⟨(w.heap.size + 1), 0, none⟩))]) (n := n1) (idx := 18) (lo := (0 + (n1 : Int))) hn2 ?_ ?_ ?_ (fun k7 hk7 => ?_)) ?_
  · intro s a h0
    have h1 := h0.put 18 (.int .i64 ((0 : Nat) : Int)) (by decide) rfl
    exact ⟨_, (.cons rfl (run_const rfl) (.nil _)), h1.sub (Has.cons (h1.at 1 rfl) (Has.cons (h1.at 0 rfl) (Has.cons (h1.at 2 rfl) (Has.cons (h1.at 3 rfl) (Has.cons (h1.at 4 rfl) (Has.cons (h1.at 5 rfl) (Has.cons (h1.at 6 rfl) (Has.nil _))))))))⟩
  · intro s k a h0
    have h1 := h0.put 43 (.int .i64 (k : Int)) (by decide) rfl
    have h2 := h1.put 44 (.pointer (some ⟨w.heap.size, 1, none⟩)) (by decide) rfl
    have h3 := h2.put 45 (.slice a1 n1 d1) (by decide) rfl
    have h4 := h3.put 46 (.int .i64 ((n1 : Nat) : Int)) (by decide) rfl
    have h5 := h4.put 47 (.bool (decide ((k : Int) < ((n1 : Nat) : Int)))) (by decide) rfl
    exact ⟨_, (.cons rfl (run_move' rfl (h0.at 1 rfl)) (.cons rfl (run_field25 rfl (by decide) (h1.at 6 rfl)) (.cons rfl (run_load23 rfl (h2.at 0 rfl) y1) (.cons rfl (run_lenS rfl (by decide) (h3.at 0 rfl)) (.cons rfl (run_lss rfl (h4.at 3 rfl) (h4.at 0 rfl)) (.nil _)))))), (h5.at 0 rfl), h5.sub (Has.cons (h5.at 5 rfl) (Has.cons (h5.at 6 rfl) (Has.cons (h5.at 7 rfl) (Has.cons (h5.at 8 rfl) (Has.cons (h5.at 9 rfl) (Has.cons (h5.at 10 rfl) (Has.cons (h5.at 11 rfl) (Has.nil _))))))))⟩
  · intro s k a hk h0
    have h1 := h0.put 48 (.int .i64 (k : Int)) (by decide) rfl
    have h2 := h1.put 49 (.int .i64 ((k + 1 : Nat) : Int)) (by decide) rfl
    have h2d := h2.sub (Has.cons (h2.at 0 rfl) (Has.cons (h2.at 1 rfl) (Has.cons (h2.at 2 rfl) (Has.cons (h2.at 4 rfl) (Has.cons (h2.at 5 rfl) (Has.cons (h2.at 6 rfl) (Has.cons (h2.at 7 rfl) (Has.cons (h2.at 8 rfl) (Has.nil _)))))))))
    have h3 := h2d.put 18 (.int .i64 ((k + 1 : Nat) : Int)) (by decide) rfl
    exact ⟨_, (.cons rfl (run_move' rfl (h0.at 1 rfl)) (.cons rfl (run_inc' rfl (h1.at 0 rfl) hk) (.cons rfl (run_assign' rfl (h2.at 0 rfl)) (.nil _)))), h3.sub (Has.cons (h3.at 3 rfl) (Has.cons (h3.at 0 rfl) (Has.cons (h3.at 4 rfl) (Has.cons (h3.at 5 rfl) (Has.cons (h3.at 6 rfl) (Has.cons (h3.at 7 rfl) (Has.cons (h3.at 8 rfl) (Has.nil _))))))))⟩
  · skip
    obtain ⟨b10, off10, rfl, hc10⟩ := f1.row (by omega)
    have cc10 := hc10 k7 hk7
    obtain ⟨x10, hx10⟩ : ∃ x, x = F.base.getD k7 [] := ⟨_, rfl⟩
    rw [← hx10] at cc10 ⊢
    refine seg13' (L := [(18, .int .i64 (k7 : Int)), (1, .slice at_ nt ct), (3, .slice a3 n c3), (5, sv mark), (8, .pointer (some ⟨w.heap.size, 0, none⟩)), (10, .pointer (some ⟨(w.heap.size + 1), 0, none⟩))]) (n := x10.length) (lo := (0 + (n1 : Int))) rfl rfl rfl rfl rfl rfl (by omega) ?_ ?_ ?_
    · intro s a h0
      have h1 := h0.put 50 (.pointer (some ⟨w.heap.size, 1, none⟩)) (by decide) rfl
      have h2 := h1.put 51 (.slice (some ⟨b10, off10, none⟩) n1 d1) (by decide) rfl
      have h3 := h2.put 52 (.int .i64 (k7 : Int)) (by decide) rfl
      have h4 := h3.put 53 (.pointer (some ⟨b10, off10 + k7, none⟩)) (by decide) rfl
      have h5 := h4.put 54 (sv x10) (by decide) rfl
      have h6 := h5.put 55 (.int .i64 ((x10.length : Nat) : Int)) (by decide) rfl
      have h7 := h6.put 56 (.bool (decide ((1048576 : Int) < ((x10.length : Nat) : Int)))) (by decide) rfl
      exact ⟨_, (.cons rfl (run_field25 rfl (by decide) (h0.at 5 rfl)) (.cons rfl (run_load23 rfl (h1.at 0 rfl) y1) (.cons rfl (run_move' rfl (h2.at 3 rfl)) (.cons rfl (run_index23 rfl (h3.at 1 rfl) (h3.at 0 rfl) hk7) (.cons rfl (run_load9 rfl (h4.at 0 rfl) cc10) (.cons rfl (run_lenT rfl (h5.at 0 rfl)) (.cons rfl (run_gtr rfl (h6.at 0 rfl)) (.nil _)))))))), (h7.at 0 rfl), h7.sub (Has.cons (h7.at 7 rfl) (Has.cons (h7.at 8 rfl) (Has.cons (h7.at 9 rfl) (Has.cons (h7.at 10 rfl) (Has.cons (h7.at 11 rfl) (Has.cons (h7.at 12 rfl) (Has.cons (h7.at 13 rfl) (Has.nil _))))))))⟩
    · intro s a hs0 hs1 hn0 h0
      have h1 := h0.put 57 (.int .i64 s) (by decide) rfl
      have h2 := h1.put 58 (.pointer (some ⟨w.heap.size, 1, none⟩)) (by decide) rfl
      have h3 := h2.put 59 (.slice (some ⟨b10, off10, none⟩) n1 d1) (by decide) rfl
      have h4 := h3.put 60 (.int .i64 (k7 : Int)) (by decide) rfl
      have h5 := h4.put 61 (.pointer (some ⟨b10, off10 + k7, none⟩)) (by decide) rfl
      have h6 := h5.put 62 (sv x10) (by decide) rfl
      have h7 := h6.put 63 (.int .i64 ((x10.length : Nat) : Int)) (by decide) rfl
      have h8 := h7.put 64 (.int .i64 (s + ((x10.length : Nat) : Int))) (by decide) rfl
      have h8d := h8.sub (Has.cons (h8.at 0 rfl) (Has.cons (h8.at 1 rfl) (Has.cons (h8.at 2 rfl) (Has.cons (h8.at 3 rfl) (Has.cons (h8.at 4 rfl) (Has.cons (h8.at 5 rfl) (Has.cons (h8.at 6 rfl) (Has.cons (h8.at 7 rfl) (Has.cons (h8.at 9 rfl) (Has.cons (h8.at 10 rfl) (Has.cons (h8.at 11 rfl) (Has.cons (h8.at 12 rfl) (Has.cons (h8.at 13 rfl) (Has.cons (h8.at 14 rfl) (Has.nil _)))))))))))))))
      have h9 := h8d.put 17 (.int .i64 (s + ((x10.length : Nat) : Int))) (by decide) rfl
      exact ⟨_, (.cons rfl (run_move' rfl (h0.at 0 rfl)) (.cons rfl (run_field25 rfl (by decide) (h1.at 6 rfl)) (.cons rfl (run_load23 rfl (h2.at 0 rfl) y1) (.cons rfl (run_move' rfl (h3.at 4 rfl)) (.cons rfl (run_index23 rfl (h4.at 1 rfl) (h4.at 0 rfl) hk7) (.cons rfl (run_load9 rfl (h5.at 0 rfl) cc10) (.cons rfl (run_lenT rfl (h6.at 0 rfl)) (.cons rfl (run_add rfl (h7.at 6 rfl) (h7.at 0 rfl) (by omega) (by omega)) (.cons rfl (run_assign' rfl (h8.at 0 rfl)) (.nil _)))))))))), h9.sub (Has.cons (h9.at 0 rfl) (Has.cons (h9.at 9 rfl) (Has.cons (h9.at 10 rfl) (Has.cons (h9.at 11 rfl) (Has.cons (h9.at 12 rfl) (Has.cons (h9.at 13 rfl) (Has.cons (h9.at 14 rfl) (Has.nil _))))))))⟩
    · intro s a h0
      have h1 := h0.put 65 (.int .i64 s) (by decide) rfl
      have h2 := h1.put 66 (.bool (decide ((1048576 : Int) < s))) (by decide) rfl
      exact ⟨_, (.cons rfl (run_move' rfl (h0.at 0 rfl)) (.cons rfl (run_gtr rfl (h1.at 0 rfl)) (.nil _))), (h2.at 0 rfl), h2.sub (Has.cons (h2.at 2 rfl) (Has.cons (h2.at 3 rfl) (Has.cons (h2.at 4 rfl) (Has.cons (h2.at 5 rfl) (Has.cons (h2.at 6 rfl) (Has.cons (h2.at 7 rfl) (Has.cons (h2.at 8 rfl) (Has.nil _))))))))⟩
  refine Tr.fact (fun hP2 => ?_)
  have HB2 : BndL F.base := ⟨by rw [f1.len]; exact hn2, fun q hq => hP2 q (by rw [f1.len] at hq; exact hq)⟩
  clear hP2
  refine seg13 (L := [(1, .slice at_ nt ct), (3, .slice a3 n c3), (5, sv mark), (8, .pointer (some ⟨w.heap.size, 0, none⟩)), (10, .pointer (some ⟨(w.heap.size + 1), 0, none⟩))]) (n := n2) (lo := (0 + (n1 : Int))) rfl rfl rfl rfl rfl rfl (by omega) ?_ ?_ ?_ (fun hn15 => ?_)
  · intro s a h0
    have h1 := h0.put 67 (.pointer (some ⟨w.heap.size, 2, none⟩)) (by decide) rfl
    have h2 := h1.put 68 (.slice a2 n2 d2) (by decide) rfl
    have h3 := h2.put 69 (.int .i64 ((n2 : Nat) : Int)) (by decide) rfl
    have h4 := h3.put 70 (.bool (decide ((1048576 : Int) < ((n2 : Nat) : Int)))) (by decide) rfl
    exact ⟨_, (.cons rfl (run_field25 rfl (by decide) (h0.at 4 rfl)) (.cons rfl (run_load23 rfl (h1.at 0 rfl) y2) (.cons rfl (run_lenS rfl (by decide) (h2.at 0 rfl)) (.cons rfl (run_gtr rfl (h3.at 0 rfl)) (.nil _))))), (h4.at 0 rfl), h4.sub (Has.cons (h4.at 4 rfl) (Has.cons (h4.at 5 rfl) (Has.cons (h4.at 6 rfl) (Has.cons (h4.at 7 rfl) (Has.cons (h4.at 8 rfl) (Has.cons (h4.at 9 rfl) (Has.nil _)))))))⟩
  · intro s a hs0 hs1 hn0 h0
    have h1 := h0.put 71 (.int .i64 s) (by decide) rfl
    have h2 := h1.put 72 (.pointer (some ⟨w.heap.size, 2, none⟩)) (by decide) rfl
    have h3 := h2.put 73 (.slice a2 n2 d2) (by decide) rfl
    have h4 := h3.put 74 (.int .i64 ((n2 : Nat) : Int)) (by decide) rfl
    have h5 := h4.put 75 (.int .i64 (s + ((n2 : Nat) : Int))) (by decide) rfl
    have h5d := h5.sub (Has.cons (h5.at 0 rfl) (Has.cons (h5.at 1 rfl) (Has.cons (h5.at 2 rfl) (Has.cons (h5.at 3 rfl) (Has.cons (h5.at 4 rfl) (Has.cons (h5.at 6 rfl) (Has.cons (h5.at 7 rfl) (Has.cons (h5.at 8 rfl) (Has.cons (h5.at 9 rfl) (Has.cons (h5.at 10 rfl) (Has.nil _)))))))))))
    have h6 := h5d.put 17 (.int .i64 (s + ((n2 : Nat) : Int))) (by decide) rfl
    exact ⟨_, (.cons rfl (run_move' rfl (h0.at 0 rfl)) (.cons rfl (run_field25 rfl (by decide) (h1.at 5 rfl)) (.cons rfl (run_load23 rfl (h2.at 0 rfl) y2) (.cons rfl (run_lenS rfl (by decide) (h3.at 0 rfl)) (.cons rfl (run_add rfl (h4.at 3 rfl) (h4.at 0 rfl) (by omega) (by omega)) (.cons rfl (run_assign' rfl (h5.at 0 rfl)) (.nil _))))))), h6.sub (Has.cons (h6.at 0 rfl) (Has.cons (h6.at 6 rfl) (Has.cons (h6.at 7 rfl) (Has.cons (h6.at 8 rfl) (Has.cons (h6.at 9 rfl) (Has.cons (h6.at 10 rfl) (Has.nil _)))))))⟩
  · intro s a h0
    have h1 := h0.put 76 (.int .i64 s) (by decide) rfl
    have h2 := h1.put 77 (.bool (decide ((1048576 : Int) < s))) (by decide) rfl
    exact ⟨_, (.cons rfl (run_move' rfl (h0.at 0 rfl)) (.cons rfl (run_gtr rfl (h1.at 0 rfl)) (.nil _))), (h2.at 0 rfl), h2.sub (Has.cons (h2.at 2 rfl) (Has.cons (h2.at 3 rfl) (Has.cons (h2.at 4 rfl) (Has.cons (h2.at 5 rfl) (Has.cons (h2.at 6 rfl) (Has.cons (h2.at 7 rfl) (Has.nil _)))))))⟩
  refine Tr.seq (loopG (fun k => (F.last.getD k []).length ≤ 1048576) (L := [(1, .slice at_ nt ct), (3, .slice a3 n c3), (5, sv mark), (8, .pointer (some ⟨w.heap.size, 0, none⟩)), (10, .pointer (some ⟨(w.heap.size + 1), 0, none⟩))]) (n := n2) (idx := 19) (lo := ((0 + (n1 : Int)) + (n2 : Int))) hn15 ?_ ?_ ?_ (fun k20 hk20 => ?_)) ?_
  · intro s a h0
    have h1 := h0.put 19 (.int .i64 ((0 : Nat) : Int)) (by decide) rfl
    exact ⟨_, (.cons rfl (run_const rfl) (.nil _)), h1.sub (Has.cons (h1.at 1 rfl) (Has.cons (h1.at 0 rfl) (Has.cons (h1.at 2 rfl) (Has.cons (h1.at 3 rfl) (Has.cons (h1.at 4 rfl) (Has.cons (h1.at 5 rfl) (Has.cons (h1.at 6 rfl) (Has.nil _))))))))⟩
  · intro s k a h0
    have h1 := h0.put 78 (.int .i64 (k : Int)) (by decide) rfl
    have h2 := h1.put 79 (.pointer (some ⟨w.heap.size, 2, none⟩)) (by decide) rfl
    have h3 := h2.put 80 (.slice a2 n2 d2) (by decide) rfl
    have h4 := h3.put 81 (.int .i64 ((n2 : Nat) : Int)) (by decide) rfl
    have h5 := h4.put 82 (.bool (decide ((k : Int) < ((n2 : Nat) : Int)))) (by decide) rfl
    exact ⟨_, (.cons rfl (run_move' rfl (h0.at 1 rfl)) (.cons rfl (run_field25 rfl (by decide) (h1.at 6 rfl)) (.cons rfl (run_load23 rfl (h2.at 0 rfl) y2) (.cons rfl (run_lenS rfl (by decide) (h3.at 0 rfl)) (.cons rfl (run_lss rfl (h4.at 3 rfl) (h4.at 0 rfl)) (.nil _)))))), (h5.at 0 rfl), h5.sub (Has.cons (h5.at 5 rfl) (Has.cons (h5.at 6 rfl) (Has.cons (h5.at 7 rfl) (Has.cons (h5.at 8 rfl) (Has.cons (h5.at 9 rfl) (Has.cons (h5.at 10 rfl) (Has.cons (h5.at 11 rfl) (Has.nil _))))))))⟩
  · intro s k a hk h0
    have h1 := h0.put 83 (.int .i64 (k : Int)) (by decide) rfl
    have h2 := h1.put 84 (.int .i64 ((k + 1 : Nat) : Int)) (by decide) rfl
    have h2d := h2.sub (Has.cons (h2.at 0 rfl) (Has.cons (h2.at 1 rfl) (Has.cons (h2.at 2 rfl) (Has.cons (h2.at 4 rfl) (Has.cons (h2.at 5 rfl) (Has.cons (h2.at 6 rfl) (Has.cons (h2.at 7 rfl) (Has.cons (h2.at 8 rfl) (Has.nil _)))))))))
    have h3 := h2d.put 19 (.int .i64 ((k + 1 : Nat) : Int)) (by decide) rfl
    exact ⟨_, (.cons rfl (run_move' rfl (h0.at 1 rfl)) (.cons rfl (run_inc' rfl (h1.at 0 rfl) hk) (.cons rfl (run_assign' rfl (h2.at 0 rfl)) (.nil _)))), h3.sub (Has.cons (h3.at 3 rfl) (Has.cons (h3.at 0 rfl) (Has.cons (h3.at 4 rfl) (Has.cons (h3.at 5 rfl) (Has.cons (h3.at 6 rfl) (Has.cons (h3.at 7 rfl) (Has.cons (h3.at 8 rfl) (Has.nil _))))))))⟩
  · skip
    obtain ⟨b23, off23, rfl, hc23⟩ := f2.row (by omega)
    have cc23 := hc23 k20 hk20
    obtain ⟨x23, hx23⟩ : ∃ x, x = F.last.getD k20 [] := ⟨_, rfl⟩
    rw [← hx23] at cc23 ⊢
    refine seg13' (L := [(19, .int .i64 (k20 : Int)), (1, .slice at_ nt ct), (3, .slice a3 n c3), (5, sv mark), (8, .pointer (some ⟨w.heap.size, 0, none⟩)), (10, .pointer (some ⟨(w.heap.size + 1), 0, none⟩))]) (n := x23.length) (lo := ((0 + (n1 : Int)) + (n2 : Int))) rfl rfl rfl rfl rfl rfl (by omega) ?_ ?_ ?_
    · intro s a h0
      have h1 := h0.put 85 (.pointer (some ⟨w.heap.size, 2, none⟩)) (by decide) rfl
      have h2 := h1.put 86 (.slice (some ⟨b23, off23, none⟩) n2 d2) (by decide) rfl
      have h3 := h2.put 87 (.int .i64 (k20 : Int)) (by decide) rfl
      have h4 := h3.put 88 (.pointer (some ⟨b23, off23 + k20, none⟩)) (by decide) rfl
      have h5 := h4.put 89 (sv x23) (by decide) rfl
      have h6 := h5.put 90 (.int .i64 ((x23.length : Nat) : Int)) (by decide) rfl
      have h7 := h6.put 91 (.bool (decide ((1048576 : Int) < ((x23.length : Nat) : Int)))) (by decide) rfl
      exact ⟨_, (.cons rfl (run_field25 rfl (by decide) (h0.at 5 rfl)) (.cons rfl (run_load23 rfl (h1.at 0 rfl) y2) (.cons rfl (run_move' rfl (h2.at 3 rfl)) (.cons rfl (run_index23 rfl (h3.at 1 rfl) (h3.at 0 rfl) hk20) (.cons rfl (run_load9 rfl (h4.at 0 rfl) cc23) (.cons rfl (run_lenT rfl (h5.at 0 rfl)) (.cons rfl (run_gtr rfl (h6.at 0 rfl)) (.nil _)))))))), (h7.at 0 rfl), h7.sub (Has.cons (h7.at 7 rfl) (Has.cons (h7.at 8 rfl) (Has.cons (h7.at 9 rfl) (Has.cons (h7.at 10 rfl) (Has.cons (h7.at 11 rfl) (Has.cons (h7.at 12 rfl) (Has.cons (h7.at 13 rfl) (Has.nil _))))))))⟩
    · intro s a hs0 hs1 hn0 h0
      have h1 := h0.put 92 (.int .i64 s) (by decide) rfl
      have h2 := h1.put 93 (.pointer (some ⟨w.heap.size, 2, none⟩)) (by decide) rfl
      have h3 := h2.put 94 (.slice (some ⟨b23, off23, none⟩) n2 d2) (by decide) rfl
      have h4 := h3.put 95 (.int .i64 (k20 : Int)) (by decide) rfl
      have h5 := h4.put 96 (.pointer (some ⟨b23, off23 + k20, none⟩)) (by decide) rfl
      have h6 := h5.put 97 (sv x23) (by decide) rfl
      have h7 := h6.put 98 (.int .i64 ((x23.length : Nat) : Int)) (by decide) rfl
      have h8 := h7.put 99 (.int .i64 (s + ((x23.length : Nat) : Int))) (by decide) rfl
      have h8d := h8.sub (Has.cons (h8.at 0 rfl) (Has.cons (h8.at 1 rfl) (Has.cons (h8.at 2 rfl) (Has.cons (h8.at 3 rfl) (Has.cons (h8.at 4 rfl) (Has.cons (h8.at 5 rfl) (Has.cons (h8.at 6 rfl) (Has.cons (h8.at 7 rfl) (Has.cons (h8.at 9 rfl) (Has.cons (h8.at 10 rfl) (Has.cons (h8.at 11 rfl) (Has.cons (h8.at 12 rfl) (Has.cons (h8.at 13 rfl) (Has.cons (h8.at 14 rfl) (Has.nil _)))))))))))))))
      have h9 := h8d.put 17 (.int .i64 (s + ((x23.length : Nat) : Int))) (by decide) rfl
      exact ⟨_, (.cons rfl (run_move' rfl (h0.at 0 rfl)) (.cons rfl (run_field25 rfl (by decide) (h1.at 6 rfl)) (.cons rfl (run_load23 rfl (h2.at 0 rfl) y2) (.cons rfl (run_move' rfl (h3.at 4 rfl)) (.cons rfl (run_index23 rfl (h4.at 1 rfl) (h4.at 0 rfl) hk20) (.cons rfl (run_load9 rfl (h5.at 0 rfl) cc23) (.cons rfl (run_lenT rfl (h6.at 0 rfl)) (.cons rfl (run_add rfl (h7.at 6 rfl) (h7.at 0 rfl) (by omega) (by omega)) (.cons rfl (run_assign' rfl (h8.at 0 rfl)) (.nil _)))))))))), h9.sub (Has.cons (h9.at 0 rfl) (Has.cons (h9.at 9 rfl) (Has.cons (h9.at 10 rfl) (Has.cons (h9.at 11 rfl) (Has.cons (h9.at 12 rfl) (Has.cons (h9.at 13 rfl) (Has.cons (h9.at 14 rfl) (Has.nil _))))))))⟩
    · intro s a h0
      have h1 := h0.put 100 (.int .i64 s) (by decide) rfl
      have h2 := h1.put 101 (.bool (decide ((1048576 : Int) < s))) (by decide) rfl
      exact ⟨_, (.cons rfl (run_move' rfl (h0.at 0 rfl)) (.cons rfl (run_gtr rfl (h1.at 0 rfl)) (.nil _))), (h2.at 0 rfl), h2.sub (Has.cons (h2.at 2 rfl) (Has.cons (h2.at 3 rfl) (Has.cons (h2.at 4 rfl) (Has.cons (h2.at 5 rfl) (Has.cons (h2.at 6 rfl) (Has.cons (h2.at 7 rfl) (Has.cons (h2.at 8 rfl) (Has.nil _))))))))⟩
  refine Tr.fact (fun hP15 => ?_)
  have HB15 : BndL F.last := ⟨by rw [f2.len]; exact hn15, fun q hq => hP15 q (by rw [f2.len] at hq; exact hq)⟩
  clear hP15
  refine seg13 (L := [(1, .slice at_ nt ct), (3, .slice a3 n c3), (5, sv mark), (8, .pointer (some ⟨w.heap.size, 0, none⟩)), (10, .pointer (some ⟨(w.heap.size + 1), 0, none⟩))]) (n := n3) (lo := ((0 + (n1 : Int)) + (n2 : Int))) rfl rfl rfl rfl rfl rfl (by omega) ?_ ?_ ?_ (fun hn28 => ?_)
  · intro s a h0
    have h1 := h0.put 102 (.pointer (some ⟨w.heap.size, 3, none⟩)) (by decide) rfl
    have h2 := h1.put 103 (.slice a3' n3 d3) (by decide) rfl
    have h3 := h2.put 104 (.int .i64 ((n3 : Nat) : Int)) (by decide) rfl
    have h4 := h3.put 105 (.bool (decide ((1048576 : Int) < ((n3 : Nat) : Int)))) (by decide) rfl
    exact ⟨_, (.cons rfl (run_field25 rfl (by decide) (h0.at 4 rfl)) (.cons rfl (run_load23 rfl (h1.at 0 rfl) y3) (.cons rfl (run_lenS rfl (by decide) (h2.at 0 rfl)) (.cons rfl (run_gtr rfl (h3.at 0 rfl)) (.nil _))))), (h4.at 0 rfl), h4.sub (Has.cons (h4.at 4 rfl) (Has.cons (h4.at 5 rfl) (Has.cons (h4.at 6 rfl) (Has.cons (h4.at 7 rfl) (Has.cons (h4.at 8 rfl) (Has.cons (h4.at 9 rfl) (Has.nil _)))))))⟩
  · intro s a hs0 hs1 hn0 h0
    have h1 := h0.put 106 (.int .i64 s) (by decide) rfl
    have h2 := h1.put 107 (.pointer (some ⟨w.heap.size, 3, none⟩)) (by decide) rfl
    have h3 := h2.put 108 (.slice a3' n3 d3) (by decide) rfl
    have h4 := h3.put 109 (.int .i64 ((n3 : Nat) : Int)) (by decide) rfl
    have h5 := h4.put 110 (.int .i64 (s + ((n3 : Nat) : Int))) (by decide) rfl
    have h5d := h5.sub (Has.cons (h5.at 0 rfl) (Has.cons (h5.at 1 rfl) (Has.cons (h5.at 2 rfl) (Has.cons (h5.at 3 rfl) (Has.cons (h5.at 4 rfl) (Has.cons (h5.at 6 rfl) (Has.cons (h5.at 7 rfl) (Has.cons (h5.at 8 rfl) (Has.cons (h5.at 9 rfl) (Has.cons (h5.at 10 rfl) (Has.nil _)))))))))))
    have h6 := h5d.put 17 (.int .i64 (s + ((n3 : Nat) : Int))) (by decide) rfl
    exact ⟨_, (.cons rfl (run_move' rfl (h0.at 0 rfl)) (.cons rfl (run_field25 rfl (by decide) (h1.at 5 rfl)) (.cons rfl (run_load23 rfl (h2.at 0 rfl) y3) (.cons rfl (run_lenS rfl (by decide) (h3.at 0 rfl)) (.cons rfl (run_add rfl (h4.at 3 rfl) (h4.at 0 rfl) (by omega) (by omega)) (.cons rfl (run_assign' rfl (h5.at 0 rfl)) (.nil _))))))), h6.sub (Has.cons (h6.at 0 rfl) (Has.cons (h6.at 6 rfl) (Has.cons (h6.at 7 rfl) (Has.cons (h6.at 8 rfl) (Has.cons (h6.at 9 rfl) (Has.cons (h6.at 10 rfl) (Has.nil _)))))))⟩
  · intro s a h0
    have h1 := h0.put 111 (.int .i64 s) (by decide) rfl
    have h2 := h1.put 112 (.bool (decide ((1048576 : Int) < s))) (by decide) rfl
    exact ⟨_, (.cons rfl (run_move' rfl (h0.at 0 rfl)) (.cons rfl (run_gtr rfl (h1.at 0 rfl)) (.nil _))), (h2.at 0 rfl), h2.sub (Has.cons (h2.at 2 rfl) (Has.cons (h2.at 3 rfl) (Has.cons (h2.at 4 rfl) (Has.cons (h2.at 5 rfl) (Has.cons (h2.at 6 rfl) (Has.cons (h2.at 7 rfl) (Has.nil _)))))))⟩
  refine Tr.seq (loopG (fun k => (F.changes.getD k []).length ≤ 1048576) (L := [(1, .slice at_ nt ct), (3, .slice a3 n c3), (5, sv mark), (8, .pointer (some ⟨w.heap.size, 0, none⟩)), (10, .pointer (some ⟨(w.heap.size + 1), 0, none⟩))]) (n := n3) (idx := 20) (lo := (((0 + (n1 : Int)) + (n2 : Int)) + (n3 : Int))) hn28 ?_ ?_ ?_ (fun k33 hk33 => ?_)) ?_
  · intro s a h0
    have h1 := h0.put 20 (.int .i64 ((0 : Nat) : Int)) (by decide) rfl
    exact ⟨_, (.cons rfl (run_const rfl) (.nil _)), h1.sub (Has.cons (h1.at 1 rfl) (Has.cons (h1.at 0 rfl) (Has.cons (h1.at 2 rfl) (Has.cons (h1.at 3 rfl) (Has.cons (h1.at 4 rfl) (Has.cons (h1.at 5 rfl) (Has.cons (h1.at 6 rfl) (Has.nil _))))))))⟩
  · intro s k a h0
    have h1 := h0.put 113 (.int .i64 (k : Int)) (by decide) rfl
    have h2 := h1.put 114 (.pointer (some ⟨w.heap.size, 3, none⟩)) (by decide) rfl
    have h3 := h2.put 115 (.slice a3' n3 d3) (by decide) rfl
    have h4 := h3.put 116 (.int .i64 ((n3 : Nat) : Int)) (by decide) rfl
    have h5 := h4.put 117 (.bool (decide ((k : Int) < ((n3 : Nat) : Int)))) (by decide) rfl
    exact ⟨_, (.cons rfl (run_move' rfl (h0.at 1 rfl)) (.cons rfl (run_field25 rfl (by decide) (h1.at 6 rfl)) (.cons rfl (run_load23 rfl (h2.at 0 rfl) y3) (.cons rfl (run_lenS rfl (by decide) (h3.at 0 rfl)) (.cons rfl (run_lss rfl (h4.at 3 rfl) (h4.at 0 rfl)) (.nil _)))))), (h5.at 0 rfl), h5.sub (Has.cons (h5.at 5 rfl) (Has.cons (h5.at 6 rfl) (Has.cons (h5.at 7 rfl) (Has.cons (h5.at 8 rfl) (Has.cons (h5.at 9 rfl) (Has.cons (h5.at 10 rfl) (Has.cons (h5.at 11 rfl) (Has.nil _))))))))⟩
  · intro s k a hk h0
    have h1 := h0.put 118 (.int .i64 (k : Int)) (by decide) rfl
    have h2 := h1.put 119 (.int .i64 ((k + 1 : Nat) : Int)) (by decide) rfl
    have h2d := h2.sub (Has.cons (h2.at 0 rfl) (Has.cons (h2.at 1 rfl) (Has.cons (h2.at 2 rfl) (Has.cons (h2.at 4 rfl) (Has.cons (h2.at 5 rfl) (Has.cons (h2.at 6 rfl) (Has.cons (h2.at 7 rfl) (Has.cons (h2.at 8 rfl) (Has.nil _)))))))))
    have h3 := h2d.put 20 (.int .i64 ((k + 1 : Nat) : Int)) (by decide) rfl
    exact ⟨_, (.cons rfl (run_move' rfl (h0.at 1 rfl)) (.cons rfl (run_inc' rfl (h1.at 0 rfl) hk) (.cons rfl (run_assign' rfl (h2.at 0 rfl)) (.nil _)))), h3.sub (Has.cons (h3.at 3 rfl) (Has.cons (h3.at 0 rfl) (Has.cons (h3.at 4 rfl) (Has.cons (h3.at 5 rfl) (Has.cons (h3.at 6 rfl) (Has.cons (h3.at 7 rfl) (Has.cons (h3.at 8 rfl) (Has.nil _))))))))⟩
  · skip
    obtain ⟨b36, off36, rfl, hc36⟩ := f3.row (by omega)
    have cc36 := hc36 k33 hk33
    obtain ⟨x36, hx36⟩ : ∃ x, x = F.changes.getD k33 [] := ⟨_, rfl⟩
    rw [← hx36] at cc36 ⊢
    refine seg13' (L := [(20, .int .i64 (k33 : Int)), (1, .slice at_ nt ct), (3, .slice a3 n c3), (5, sv mark), (8, .pointer (some ⟨w.heap.size, 0, none⟩)), (10, .pointer (some ⟨(w.heap.size + 1), 0, none⟩))]) (n := x36.length) (lo := (((0 + (n1 : Int)) + (n2 : Int)) + (n3 : Int))) rfl rfl rfl rfl rfl rfl (by omega) ?_ ?_ ?_
    · intro s a h0
      have h1 := h0.put 120 (.pointer (some ⟨w.heap.size, 3, none⟩)) (by decide) rfl
      have h2 := h1.put 121 (.slice (some ⟨b36, off36, none⟩) n3 d3) (by decide) rfl
      have h3 := h2.put 122 (.int .i64 (k33 : Int)) (by decide) rfl
      have h4 := h3.put 123 (.pointer (some ⟨b36, off36 + k33, none⟩)) (by decide) rfl
      have h5 := h4.put 124 (sv x36) (by decide) rfl
      have h6 := h5.put 125 (.int .i64 ((x36.length : Nat) : Int)) (by decide) rfl
      have h7 := h6.put 126 (.bool (decide ((1048576 : Int) < ((x36.length : Nat) : Int)))) (by decide) rfl
      exact ⟨_, (.cons rfl (run_field25 rfl (by decide) (h0.at 5 rfl)) (.cons rfl (run_load23 rfl (h1.at 0 rfl) y3) (.cons rfl (run_move' rfl (h2.at 3 rfl)) (.cons rfl (run_index23 rfl (h3.at 1 rfl) (h3.at 0 rfl) hk33) (.cons rfl (run_load9 rfl (h4.at 0 rfl) cc36) (.cons rfl (run_lenT rfl (h5.at 0 rfl)) (.cons rfl (run_gtr rfl (h6.at 0 rfl)) (.nil _)))))))), (h7.at 0 rfl), h7.sub (Has.cons (h7.at 7 rfl) (Has.cons (h7.at 8 rfl) (Has.cons (h7.at 9 rfl) (Has.cons (h7.at 10 rfl) (Has.cons (h7.at 11 rfl) (Has.cons (h7.at 12 rfl) (Has.cons (h7.at 13 rfl) (Has.nil _))))))))⟩
    · intro s a hs0 hs1 hn0 h0
      have h1 := h0.put 127 (.int .i64 s) (by decide) rfl
      have h2 := h1.put 128 (.pointer (some ⟨w.heap.size, 3, none⟩)) (by decide) rfl
      have h3 := h2.put 129 (.slice (some ⟨b36, off36, none⟩) n3 d3) (by decide) rfl
      have h4 := h3.put 130 (.int .i64 (k33 : Int)) (by decide) rfl
      have h5 := h4.put 131 (.pointer (some ⟨b36, off36 + k33, none⟩)) (by decide) rfl
      have h6 := h5.put 132 (sv x36) (by decide) rfl
      have h7 := h6.put 133 (.int .i64 ((x36.length : Nat) : Int)) (by decide) rfl
      have h8 := h7.put 134 (.int .i64 (s + ((x36.length : Nat) : Int))) (by decide) rfl
      have h8d := h8.sub (Has.cons (h8.at 0 rfl) (Has.cons (h8.at 1 rfl) (Has.cons (h8.at 2 rfl) (Has.cons (h8.at 3 rfl) (Has.cons (h8.at 4 rfl) (Has.cons (h8.at 5 rfl) (Has.cons (h8.at 6 rfl) (Has.cons (h8.at 7 rfl) (Has.cons (h8.at 9 rfl) (Has.cons (h8.at 10 rfl) (Has.cons (h8.at 11 rfl) (Has.cons (h8.at 12 rfl) (Has.cons (h8.at 13 rfl) (Has.cons (h8.at 14 rfl) (Has.nil _)))))))))))))))
      have h9 := h8d.put 17 (.int .i64 (s + ((x36.length : Nat) : Int))) (by decide) rfl
      exact ⟨_, (.cons rfl (run_move' rfl (h0.at 0 rfl)) (.cons rfl (run_field25 rfl (by decide) (h1.at 6 rfl)) (.cons rfl (run_load23 rfl (h2.at 0 rfl) y3) (.cons rfl (run_move' rfl (h3.at 4 rfl)) (.cons rfl (run_index23 rfl (h4.at 1 rfl) (h4.at 0 rfl) hk33) (.cons rfl (run_load9 rfl (h5.at 0 rfl) cc36) (.cons rfl (run_lenT rfl (h6.at 0 rfl)) (.cons rfl (run_add rfl (h7.at 6 rfl) (h7.at 0 rfl) (by omega) (by omega)) (.cons rfl (run_assign' rfl (h8.at 0 rfl)) (.nil _)))))))))), h9.sub (Has.cons (h9.at 0 rfl) (Has.cons (h9.at 9 rfl) (Has.cons (h9.at 10 rfl) (Has.cons (h9.at 11 rfl) (Has.cons (h9.at 12 rfl) (Has.cons (h9.at 13 rfl) (Has.cons (h9.at 14 rfl) (Has.nil _))))))))⟩
    · intro s a h0
      have h1 := h0.put 135 (.int .i64 s) (by decide) rfl
      have h2 := h1.put 136 (.bool (decide ((1048576 : Int) < s))) (by decide) rfl
      exact ⟨_, (.cons rfl (run_move' rfl (h0.at 0 rfl)) (.cons rfl (run_gtr rfl (h1.at 0 rfl)) (.nil _))), (h2.at 0 rfl), h2.sub (Has.cons (h2.at 2 rfl) (Has.cons (h2.at 3 rfl) (Has.cons (h2.at 4 rfl) (Has.cons (h2.at 5 rfl) (Has.cons (h2.at 6 rfl) (Has.cons (h2.at 7 rfl) (Has.cons (h2.at 8 rfl) (Has.nil _))))))))⟩
  refine Tr.fact (fun hP28 => ?_)
  have HB28 : BndL F.changes := ⟨by rw [f3.len]; exact hn28, fun q hq => hP28 q (by rw [f3.len] at hq; exact hq)⟩
  clear hP28
  refine seg13 (L := [(1, .slice at_ nt ct), (3, .slice a3 n c3), (5, sv mark), (8, .pointer (some ⟨w.heap.size, 0, none⟩)), (10, .pointer (some ⟨(w.heap.size + 1), 0, none⟩))]) (n := nt) (lo := (((0 + (n1 : Int)) + (n2 : Int)) + (n3 : Int))) rfl rfl rfl rfl rfl rfl (by omega) ?_ ?_ ?_ (fun hn41 => ?_)
  · intro s a h0
    have h1 := h0.put 137 (.slice at_ nt ct) (by decide) rfl
    have h2 := h1.put 138 (.int .i64 ((nt : Nat) : Int)) (by decide) rfl
    have h3 := h2.put 139 (.bool (decide ((1048576 : Int) < ((nt : Nat) : Int)))) (by decide) rfl
    exact ⟨_, (.cons rfl (run_move' rfl (h0.at 1 rfl)) (.cons rfl (run_lenS rfl (by decide) (h1.at 0 rfl)) (.cons rfl (run_gtr rfl (h2.at 0 rfl)) (.nil _)))), (h3.at 0 rfl), h3.sub (Has.cons (h3.at 3 rfl) (Has.cons (h3.at 4 rfl) (Has.cons (h3.at 5 rfl) (Has.cons (h3.at 6 rfl) (Has.cons (h3.at 7 rfl) (Has.cons (h3.at 8 rfl) (Has.nil _)))))))⟩
  · intro s a hs0 hs1 hn0 h0
    have h1 := h0.put 140 (.int .i64 s) (by decide) rfl
    have h2 := h1.put 141 (.slice at_ nt ct) (by decide) rfl
    have h3 := h2.put 142 (.int .i64 ((nt : Nat) : Int)) (by decide) rfl
    have h4 := h3.put 143 (.int .i64 (s + ((nt : Nat) : Int))) (by decide) rfl
    have h4d := h4.sub (Has.cons (h4.at 0 rfl) (Has.cons (h4.at 1 rfl) (Has.cons (h4.at 2 rfl) (Has.cons (h4.at 3 rfl) (Has.cons (h4.at 5 rfl) (Has.cons (h4.at 6 rfl) (Has.cons (h4.at 7 rfl) (Has.cons (h4.at 8 rfl) (Has.cons (h4.at 9 rfl) (Has.nil _))))))))))
    have h5 := h4d.put 17 (.int .i64 (s + ((nt : Nat) : Int))) (by decide) rfl
    exact ⟨_, (.cons rfl (run_move' rfl (h0.at 0 rfl)) (.cons rfl (run_move' rfl (h1.at 2 rfl)) (.cons rfl (run_lenS rfl (by decide) (h2.at 0 rfl)) (.cons rfl (run_add rfl (h3.at 2 rfl) (h3.at 0 rfl) (by omega) (by omega)) (.cons rfl (run_assign' rfl (h4.at 0 rfl)) (.nil _)))))), h5.sub (Has.cons (h5.at 0 rfl) (Has.cons (h5.at 5 rfl) (Has.cons (h5.at 6 rfl) (Has.cons (h5.at 7 rfl) (Has.cons (h5.at 8 rfl) (Has.cons (h5.at 9 rfl) (Has.nil _)))))))⟩
  · intro s a h0
    have h1 := h0.put 144 (.int .i64 s) (by decide) rfl
    have h2 := h1.put 145 (.bool (decide ((1048576 : Int) < s))) (by decide) rfl
    exact ⟨_, (.cons rfl (run_move' rfl (h0.at 0 rfl)) (.cons rfl (run_gtr rfl (h1.at 0 rfl)) (.nil _))), (h2.at 0 rfl), h2.sub (Has.cons (h2.at 2 rfl) (Has.cons (h2.at 3 rfl) (Has.cons (h2.at 4 rfl) (Has.cons (h2.at 5 rfl) (Has.cons (h2.at 6 rfl) (Has.cons (h2.at 7 rfl) (Has.nil _)))))))⟩
  refine Tr.seq (loopG (fun k => (tos.getD k []).length ≤ 1048576) (L := [(1, .slice at_ nt ct), (3, .slice a3 n c3), (5, sv mark), (8, .pointer (some ⟨w.heap.size, 0, none⟩)), (10, .pointer (some ⟨(w.heap.size + 1), 0, none⟩))]) (n := nt) (idx := 21) (lo := ((((0 + (n1 : Int)) + (n2 : Int)) + (n3 : Int)) + (nt : Int))) hn41 ?_ ?_ ?_ (fun k46 hk46 => ?_)) ?_
  · intro s a h0
    have h1 := h0.put 21 (.int .i64 ((0 : Nat) : Int)) (by decide) rfl
    exact ⟨_, (.cons rfl (run_const rfl) (.nil _)), h1.sub (Has.cons (h1.at 1 rfl) (Has.cons (h1.at 0 rfl) (Has.cons (h1.at 2 rfl) (Has.cons (h1.at 3 rfl) (Has.cons (h1.at 4 rfl) (Has.cons (h1.at 5 rfl) (Has.cons (h1.at 6 rfl) (Has.nil _))))))))⟩
  · intro s k a h0
    have h1 := h0.put 146 (.int .i64 (k : Int)) (by decide) rfl
    have h2 := h1.put 147 (.slice at_ nt ct) (by decide) rfl
    have h3 := h2.put 148 (.int .i64 ((nt : Nat) : Int)) (by decide) rfl
    have h4 := h3.put 149 (.bool (decide ((k : Int) < ((nt : Nat) : Int)))) (by decide) rfl
    exact ⟨_, (.cons rfl (run_move' rfl (h0.at 1 rfl)) (.cons rfl (run_move' rfl (h1.at 3 rfl)) (.cons rfl (run_lenS rfl (by decide) (h2.at 0 rfl)) (.cons rfl (run_lss rfl (h3.at 2 rfl) (h3.at 0 rfl)) (.nil _))))), (h4.at 0 rfl), h4.sub (Has.cons (h4.at 4 rfl) (Has.cons (h4.at 5 rfl) (Has.cons (h4.at 6 rfl) (Has.cons (h4.at 7 rfl) (Has.cons (h4.at 8 rfl) (Has.cons (h4.at 9 rfl) (Has.cons (h4.at 10 rfl) (Has.nil _))))))))⟩
  · intro s k a hk h0
    have h1 := h0.put 150 (.int .i64 (k : Int)) (by decide) rfl
    have h2 := h1.put 151 (.int .i64 ((k + 1 : Nat) : Int)) (by decide) rfl
    have h2d := h2.sub (Has.cons (h2.at 0 rfl) (Has.cons (h2.at 1 rfl) (Has.cons (h2.at 2 rfl) (Has.cons (h2.at 4 rfl) (Has.cons (h2.at 5 rfl) (Has.cons (h2.at 6 rfl) (Has.cons (h2.at 7 rfl) (Has.cons (h2.at 8 rfl) (Has.nil _)))))))))
    have h3 := h2d.put 21 (.int .i64 ((k + 1 : Nat) : Int)) (by decide) rfl
    exact ⟨_, (.cons rfl (run_move' rfl (h0.at 1 rfl)) (.cons rfl (run_inc' rfl (h1.at 0 rfl) hk) (.cons rfl (run_assign' rfl (h2.at 0 rfl)) (.nil _)))), h3.sub (Has.cons (h3.at 3 rfl) (Has.cons (h3.at 0 rfl) (Has.cons (h3.at 4 rfl) (Has.cons (h3.at 5 rfl) (Has.cons (h3.at 6 rfl) (Has.cons (h3.at 7 rfl) (Has.cons (h3.at 8 rfl) (Has.nil _))))))))⟩
  · skip
    obtain ⟨b49, off49, rfl, hc49⟩ := h1.row (by omega)
    have cc49 := hc49 k46 hk46
    obtain ⟨x49, hx49⟩ : ∃ x, x = tos.getD k46 [] := ⟨_, rfl⟩
    rw [← hx49] at cc49 ⊢
    refine seg13' (L := [(21, .int .i64 (k46 : Int)), (1, .slice (some ⟨b49, off49, none⟩) nt ct), (3, .slice a3 n c3), (5, sv mark), (8, .pointer (some ⟨w.heap.size, 0, none⟩)), (10, .pointer (some ⟨(w.heap.size + 1), 0, none⟩))]) (n := x49.length) (lo := ((((0 + (n1 : Int)) + (n2 : Int)) + (n3 : Int)) + (nt : Int))) rfl rfl rfl rfl rfl rfl (by omega) ?_ ?_ ?_
    · intro s a h0
      have h1 := h0.put 152 (.slice (some ⟨b49, off49, none⟩) nt ct) (by decide) rfl
      have h2 := h1.put 153 (.int .i64 (k46 : Int)) (by decide) rfl
      have h3 := h2.put 154 (.pointer (some ⟨b49, off49 + k46, none⟩)) (by decide) rfl
      have h4 := h3.put 155 (sv x49) (by decide) rfl
      have h5 := h4.put 156 (.int .i64 ((x49.length : Nat) : Int)) (by decide) rfl
      have h6 := h5.put 157 (.bool (decide ((1048576 : Int) < ((x49.length : Nat) : Int)))) (by decide) rfl
      exact ⟨_, (.cons rfl (run_move' rfl (h0.at 2 rfl)) (.cons rfl (run_move' rfl (h1.at 2 rfl)) (.cons rfl (run_index23 rfl (h2.at 1 rfl) (h2.at 0 rfl) hk46) (.cons rfl (run_load9 rfl (h3.at 0 rfl) cc49) (.cons rfl (run_lenT rfl (h4.at 0 rfl)) (.cons rfl (run_gtr rfl (h5.at 0 rfl)) (.nil _))))))), (h6.at 0 rfl), h6.sub (Has.cons (h6.at 6 rfl) (Has.cons (h6.at 7 rfl) (Has.cons (h6.at 8 rfl) (Has.cons (h6.at 9 rfl) (Has.cons (h6.at 10 rfl) (Has.cons (h6.at 11 rfl) (Has.cons (h6.at 12 rfl) (Has.nil _))))))))⟩
    · intro s a hs0 hs1 hn0 h0
      have h1 := h0.put 158 (.int .i64 s) (by decide) rfl
      have h2 := h1.put 159 (.slice (some ⟨b49, off49, none⟩) nt ct) (by decide) rfl
      have h3 := h2.put 160 (.int .i64 (k46 : Int)) (by decide) rfl
      have h4 := h3.put 161 (.pointer (some ⟨b49, off49 + k46, none⟩)) (by decide) rfl
      have h5 := h4.put 162 (sv x49) (by decide) rfl
      have h6 := h5.put 163 (.int .i64 ((x49.length : Nat) : Int)) (by decide) rfl
      have h7 := h6.put 164 (.int .i64 (s + ((x49.length : Nat) : Int))) (by decide) rfl
      have h7d := h7.sub (Has.cons (h7.at 0 rfl) (Has.cons (h7.at 1 rfl) (Has.cons (h7.at 2 rfl) (Has.cons (h7.at 3 rfl) (Has.cons (h7.at 4 rfl) (Has.cons (h7.at 5 rfl) (Has.cons (h7.at 6 rfl) (Has.cons (h7.at 8 rfl) (Has.cons (h7.at 9 rfl) (Has.cons (h7.at 10 rfl) (Has.cons (h7.at 11 rfl) (Has.cons (h7.at 12 rfl) (Has.cons (h7.at 13 rfl) (Has.nil _))))))))))))))
      have h8 := h7d.put 17 (.int .i64 (s + ((x49.length : Nat) : Int))) (by decide) rfl
      exact ⟨_, (.cons rfl (run_move' rfl (h0.at 0 rfl)) (.cons rfl (run_move' rfl (h1.at 3 rfl)) (.cons rfl (run_move' rfl (h2.at 3 rfl)) (.cons rfl (run_index23 rfl (h3.at 1 rfl) (h3.at 0 rfl) hk46) (.cons rfl (run_load9 rfl (h4.at 0 rfl) cc49) (.cons rfl (run_lenT rfl (h5.at 0 rfl)) (.cons rfl (run_add rfl (h6.at 5 rfl) (h6.at 0 rfl) (by omega) (by omega)) (.cons rfl (run_assign' rfl (h7.at 0 rfl)) (.nil _))))))))), h8.sub (Has.cons (h8.at 0 rfl) (Has.cons (h8.at 8 rfl) (Has.cons (h8.at 9 rfl) (Has.cons (h8.at 10 rfl) (Has.cons (h8.at 11 rfl) (Has.cons (h8.at 12 rfl) (Has.cons (h8.at 13 rfl) (Has.nil _))))))))⟩
    · intro s a h0
      have h1 := h0.put 165 (.int .i64 s) (by decide) rfl
      have h2 := h1.put 166 (.bool (decide ((1048576 : Int) < s))) (by decide) rfl
      exact ⟨_, (.cons rfl (run_move' rfl (h0.at 0 rfl)) (.cons rfl (run_gtr rfl (h1.at 0 rfl)) (.nil _))), (h2.at 0 rfl), h2.sub (Has.cons (h2.at 2 rfl) (Has.cons (h2.at 3 rfl) (Has.cons (h2.at 4 rfl) (Has.cons (h2.at 5 rfl) (Has.cons (h2.at 6 rfl) (Has.cons (h2.at 7 rfl) (Has.cons (h2.at 8 rfl) (Has.nil _))))))))⟩
  refine Tr.fact (fun hP41 => ?_)
  have HB41 : BndL tos := ⟨by rw [h1.len]; exact hn41, fun q hq => hP41 q (by rw [h1.len] at hq; exact hq)⟩
  clear hP41
  refine seg13 (L := [(1, .slice at_ nt ct), (3, .slice a3 n c3), (5, sv mark), (8, .pointer (some ⟨w.heap.size, 0, none⟩)), (10, .pointer (some ⟨(w.heap.size + 1), 0, none⟩))]) (n := n4) (lo := ((((0 + (n1 : Int)) + (n2 : Int)) + (n3 : Int)) + (nt : Int))) rfl rfl rfl rfl rfl rfl (by omega) ?_ ?_ ?_ (fun hn54 => ?_)
  · intro s a h0
    have h1 := h0.put 167 (.pointer (some ⟨(w.heap.size + 1), 1, none⟩)) (by decide) rfl
    have h2 := h1.put 168 (.slice a4 n4 d4) (by decide) rfl
    have h3 := h2.put 169 (.int .i64 ((n4 : Nat) : Int)) (by decide) rfl
    have h4 := h3.put 170 (.bool (decide ((1048576 : Int) < ((n4 : Nat) : Int)))) (by decide) rfl
    exact ⟨_, (.cons rfl (run_field25 rfl (by decide) (h0.at 5 rfl)) (.cons rfl (run_load23 rfl (h1.at 0 rfl) y4) (.cons rfl (run_lenS rfl (by decide) (h2.at 0 rfl)) (.cons rfl (run_gtr rfl (h3.at 0 rfl)) (.nil _))))), (h4.at 0 rfl), h4.sub (Has.cons (h4.at 4 rfl) (Has.cons (h4.at 5 rfl) (Has.cons (h4.at 6 rfl) (Has.cons (h4.at 7 rfl) (Has.cons (h4.at 8 rfl) (Has.cons (h4.at 9 rfl) (Has.nil _)))))))⟩
  · intro s a hs0 hs1 hn0 h0
    have h1 := h0.put 171 (.int .i64 s) (by decide) rfl
    have h2 := h1.put 172 (.pointer (some ⟨(w.heap.size + 1), 1, none⟩)) (by decide) rfl
    have h3 := h2.put 173 (.slice a4 n4 d4) (by decide) rfl
    have h4 := h3.put 174 (.int .i64 ((n4 : Nat) : Int)) (by decide) rfl
    have h5 := h4.put 175 (.int .i64 (s + ((n4 : Nat) : Int))) (by decide) rfl
    have h5d := h5.sub (Has.cons (h5.at 0 rfl) (Has.cons (h5.at 1 rfl) (Has.cons (h5.at 2 rfl) (Has.cons (h5.at 3 rfl) (Has.cons (h5.at 4 rfl) (Has.cons (h5.at 6 rfl) (Has.cons (h5.at 7 rfl) (Has.cons (h5.at 8 rfl) (Has.cons (h5.at 9 rfl) (Has.cons (h5.at 10 rfl) (Has.nil _)))))))))))
    have h6 := h5d.put 17 (.int .i64 (s + ((n4 : Nat) : Int))) (by decide) rfl
    exact ⟨_, (.cons rfl (run_move' rfl (h0.at 0 rfl)) (.cons rfl (run_field25 rfl (by decide) (h1.at 6 rfl)) (.cons rfl (run_load23 rfl (h2.at 0 rfl) y4) (.cons rfl (run_lenS rfl (by decide) (h3.at 0 rfl)) (.cons rfl (run_add rfl (h4.at 3 rfl) (h4.at 0 rfl) (by omega) (by omega)) (.cons rfl (run_assign' rfl (h5.at 0 rfl)) (.nil _))))))), h6.sub (Has.cons (h6.at 0 rfl) (Has.cons (h6.at 6 rfl) (Has.cons (h6.at 7 rfl) (Has.cons (h6.at 8 rfl) (Has.cons (h6.at 9 rfl) (Has.cons (h6.at 10 rfl) (Has.nil _)))))))⟩
  · intro s a h0
    have h1 := h0.put 176 (.int .i64 s) (by decide) rfl
    have h2 := h1.put 177 (.bool (decide ((1048576 : Int) < s))) (by decide) rfl
    exact ⟨_, (.cons rfl (run_move' rfl (h0.at 0 rfl)) (.cons rfl (run_gtr rfl (h1.at 0 rfl)) (.nil _))), (h2.at 0 rfl), h2.sub (Has.cons (h2.at 2 rfl) (Has.cons (h2.at 3 rfl) (Has.cons (h2.at 4 rfl) (Has.cons (h2.at 5 rfl) (Has.cons (h2.at 6 rfl) (Has.cons (h2.at 7 rfl) (Has.nil _)))))))⟩
  refine Tr.seq (loopG (fun k => (X.base.getD k []).length ≤ 1048576) (L := [(1, .slice at_ nt ct), (3, .slice a3 n c3), (5, sv mark), (8, .pointer (some ⟨w.heap.size, 0, none⟩)), (10, .pointer (some ⟨(w.heap.size + 1), 0, none⟩))]) (n := n4) (idx := 22) (lo := (((((0 + (n1 : Int)) + (n2 : Int)) + (n3 : Int)) + (nt : Int)) + (n4 : Int))) hn54 ?_ ?_ ?_ (fun k59 hk59 => ?_)) ?_
  · intro s a h0
    have h1 := h0.put 22 (.int .i64 ((0 : Nat) : Int)) (by decide) rfl
    exact ⟨_, (.cons rfl (run_const rfl) (.nil _)), h1.sub (Has.cons (h1.at 1 rfl) (Has.cons (h1.at 0 rfl) (Has.cons (h1.at 2 rfl) (Has.cons (h1.at 3 rfl) (Has.cons (h1.at 4 rfl) (Has.cons (h1.at 5 rfl) (Has.cons (h1.at 6 rfl) (Has.nil _))))))))⟩
  · intro s k a h0
    have h1 := h0.put 178 (.int .i64 (k : Int)) (by decide) rfl
    have h2 := h1.put 179 (.pointer (some ⟨(w.heap.size + 1), 1, none⟩)) (by decide) rfl
    have h3 := h2.put 180 (.slice a4 n4 d4) (by decide) rfl
    have h4 := h3.put 181 (.int .i64 ((n4 : Nat) : Int)) (by decide) rfl
    have h5 := h4.put 182 (.bool (decide ((k : Int) < ((n4 : Nat) : Int)))) (by decide) rfl
    exact ⟨_, (.cons rfl (run_move' rfl (h0.at 1 rfl)) (.cons rfl (run_field25 rfl (by decide) (h1.at 7 rfl)) (.cons rfl (run_load23 rfl (h2.at 0 rfl) y4) (.cons rfl (run_lenS rfl (by decide) (h3.at 0 rfl)) (.cons rfl (run_lss rfl (h4.at 3 rfl) (h4.at 0 rfl)) (.nil _)))))), (h5.at 0 rfl), h5.sub (Has.cons (h5.at 5 rfl) (Has.cons (h5.at 6 rfl) (Has.cons (h5.at 7 rfl) (Has.cons (h5.at 8 rfl) (Has.cons (h5.at 9 rfl) (Has.cons (h5.at 10 rfl) (Has.cons (h5.at 11 rfl) (Has.nil _))))))))⟩
  · intro s k a hk h0
    have h1 := h0.put 183 (.int .i64 (k : Int)) (by decide) rfl
    have h2 := h1.put 184 (.int .i64 ((k + 1 : Nat) : Int)) (by decide) rfl
    have h2d := h2.sub (Has.cons (h2.at 0 rfl) (Has.cons (h2.at 1 rfl) (Has.cons (h2.at 2 rfl) (Has.cons (h2.at 4 rfl) (Has.cons (h2.at 5 rfl) (Has.cons (h2.at 6 rfl) (Has.cons (h2.at 7 rfl) (Has.cons (h2.at 8 rfl) (Has.nil _)))))))))
    have h3 := h2d.put 22 (.int .i64 ((k + 1 : Nat) : Int)) (by decide) rfl
    exact ⟨_, (.cons rfl (run_move' rfl (h0.at 1 rfl)) (.cons rfl (run_inc' rfl (h1.at 0 rfl) hk) (.cons rfl (run_assign' rfl (h2.at 0 rfl)) (.nil _)))), h3.sub (Has.cons (h3.at 3 rfl) (Has.cons (h3.at 0 rfl) (Has.cons (h3.at 4 rfl) (Has.cons (h3.at 5 rfl) (Has.cons (h3.at 6 rfl) (Has.cons (h3.at 7 rfl) (Has.cons (h3.at 8 rfl) (Has.nil _))))))))⟩
  · skip
    obtain ⟨b62, off62, rfl, hc62⟩ := f4.row (by omega)
    have cc62 := hc62 k59 hk59
    obtain ⟨x62, hx62⟩ : ∃ x, x = X.base.getD k59 [] := ⟨_, rfl⟩
    rw [← hx62] at cc62 ⊢
    refine seg13' (L := [(22, .int .i64 (k59 : Int)), (1, .slice at_ nt ct), (3, .slice a3 n c3), (5, sv mark), (8, .pointer (some ⟨w.heap.size, 0, none⟩)), (10, .pointer (some ⟨(w.heap.size + 1), 0, none⟩))]) (n := x62.length) (lo := (((((0 + (n1 : Int)) + (n2 : Int)) + (n3 : Int)) + (nt : Int)) + (n4 : Int))) rfl rfl rfl rfl rfl rfl (by omega) ?_ ?_ ?_
    · intro s a h0
      have h1 := h0.put 185 (.pointer (some ⟨(w.heap.size + 1), 1, none⟩)) (by decide) rfl
      have h2 := h1.put 186 (.slice (some ⟨b62, off62, none⟩) n4 d4) (by decide) rfl
      have h3 := h2.put 187 (.int .i64 (k59 : Int)) (by decide) rfl
      have h4 := h3.put 188 (.pointer (some ⟨b62, off62 + k59, none⟩)) (by decide) rfl
      have h5 := h4.put 189 (sv x62) (by decide) rfl
      have h6 := h5.put 190 (.int .i64 ((x62.length : Nat) : Int)) (by decide) rfl
      have h7 := h6.put 191 (.bool (decide ((1048576 : Int) < ((x62.length : Nat) : Int)))) (by decide) rfl
      exact ⟨_, (.cons rfl (run_field25 rfl (by decide) (h0.at 6 rfl)) (.cons rfl (run_load23 rfl (h1.at 0 rfl) y4) (.cons rfl (run_move' rfl (h2.at 3 rfl)) (.cons rfl (run_index23 rfl (h3.at 1 rfl) (h3.at 0 rfl) hk59) (.cons rfl (run_load9 rfl (h4.at 0 rfl) cc62) (.cons rfl (run_lenT rfl (h5.at 0 rfl)) (.cons rfl (run_gtr rfl (h6.at 0 rfl)) (.nil _)))))))), (h7.at 0 rfl), h7.sub (Has.cons (h7.at 7 rfl) (Has.cons (h7.at 8 rfl) (Has.cons (h7.at 9 rfl) (Has.cons (h7.at 10 rfl) (Has.cons (h7.at 11 rfl) (Has.cons (h7.at 12 rfl) (Has.cons (h7.at 13 rfl) (Has.nil _))))))))⟩
    · intro s a hs0 hs1 hn0 h0
      have h1 := h0.put 192 (.int .i64 s) (by decide) rfl
      have h2 := h1.put 193 (.pointer (some ⟨(w.heap.size + 1), 1, none⟩)) (by decide) rfl
      have h3 := h2.put 194 (.slice (some ⟨b62, off62, none⟩) n4 d4) (by decide) rfl
      have h4 := h3.put 195 (.int .i64 (k59 : Int)) (by decide) rfl
      have h5 := h4.put 196 (.pointer (some ⟨b62, off62 + k59, none⟩)) (by decide) rfl
      have h6 := h5.put 197 (sv x62) (by decide) rfl
      have h7 := h6.put 198 (.int .i64 ((x62.length : Nat) : Int)) (by decide) rfl
      have h8 := h7.put 199 (.int .i64 (s + ((x62.length : Nat) : Int))) (by decide) rfl
      have h8d := h8.sub (Has.cons (h8.at 0 rfl) (Has.cons (h8.at 1 rfl) (Has.cons (h8.at 2 rfl) (Has.cons (h8.at 3 rfl) (Has.cons (h8.at 4 rfl) (Has.cons (h8.at 5 rfl) (Has.cons (h8.at 6 rfl) (Has.cons (h8.at 7 rfl) (Has.cons (h8.at 9 rfl) (Has.cons (h8.at 10 rfl) (Has.cons (h8.at 11 rfl) (Has.cons (h8.at 12 rfl) (Has.cons (h8.at 13 rfl) (Has.cons (h8.at 14 rfl) (Has.nil _)))))))))))))))
      have h9 := h8d.put 17 (.int .i64 (s + ((x62.length : Nat) : Int))) (by decide) rfl
      exact ⟨_, (.cons rfl (run_move' rfl (h0.at 0 rfl)) (.cons rfl (run_field25 rfl (by decide) (h1.at 7 rfl)) (.cons rfl (run_load23 rfl (h2.at 0 rfl) y4) (.cons rfl (run_move' rfl (h3.at 4 rfl)) (.cons rfl (run_index23 rfl (h4.at 1 rfl) (h4.at 0 rfl) hk59) (.cons rfl (run_load9 rfl (h5.at 0 rfl) cc62) (.cons rfl (run_lenT rfl (h6.at 0 rfl)) (.cons rfl (run_add rfl (h7.at 6 rfl) (h7.at 0 rfl) (by omega) (by omega)) (.cons rfl (run_assign' rfl (h8.at 0 rfl)) (.nil _)))))))))), h9.sub (Has.cons (h9.at 0 rfl) (Has.cons (h9.at 9 rfl) (Has.cons (h9.at 10 rfl) (Has.cons (h9.at 11 rfl) (Has.cons (h9.at 12 rfl) (Has.cons (h9.at 13 rfl) (Has.cons (h9.at 14 rfl) (Has.nil _))))))))⟩
    · intro s a h0
      have h1 := h0.put 200 (.int .i64 s) (by decide) rfl
      have h2 := h1.put 201 (.bool (decide ((1048576 : Int) < s))) (by decide) rfl
      exact ⟨_, (.cons rfl (run_move' rfl (h0.at 0 rfl)) (.cons rfl (run_gtr rfl (h1.at 0 rfl)) (.nil _))), (h2.at 0 rfl), h2.sub (Has.cons (h2.at 2 rfl) (Has.cons (h2.at 3 rfl) (Has.cons (h2.at 4 rfl) (Has.cons (h2.at 5 rfl) (Has.cons (h2.at 6 rfl) (Has.cons (h2.at 7 rfl) (Has.cons (h2.at 8 rfl) (Has.nil _))))))))⟩
  refine Tr.fact (fun hP54 => ?_)
  have HB54 : BndL X.base := ⟨by rw [f4.len]; exact hn54, fun q hq => hP54 q (by rw [f4.len] at hq; exact hq)⟩
  clear hP54
  refine seg13 (L := [(1, .slice at_ nt ct), (3, .slice a3 n c3), (5, sv mark), (8, .pointer (some ⟨w.heap.size, 0, none⟩)), (10, .pointer (some ⟨(w.heap.size + 1), 0, none⟩))]) (n := n5) (lo := (((((0 + (n1 : Int)) + (n2 : Int)) + (n3 : Int)) + (nt : Int)) + (n4 : Int))) rfl rfl rfl rfl rfl rfl (by omega) ?_ ?_ ?_ (fun hn67 => ?_)
  · intro s a h0
    have h1 := h0.put 202 (.pointer (some ⟨(w.heap.size + 1), 2, none⟩)) (by decide) rfl
    have h2 := h1.put 203 (.slice a5 n5 d5) (by decide) rfl
    have h3 := h2.put 204 (.int .i64 ((n5 : Nat) : Int)) (by decide) rfl
    have h4 := h3.put 205 (.bool (decide ((1048576 : Int) < ((n5 : Nat) : Int)))) (by decide) rfl
    exact ⟨_, (.cons rfl (run_field25 rfl (by decide) (h0.at 5 rfl)) (.cons rfl (run_load23 rfl (h1.at 0 rfl) y5) (.cons rfl (run_lenS rfl (by decide) (h2.at 0 rfl)) (.cons rfl (run_gtr rfl (h3.at 0 rfl)) (.nil _))))), (h4.at 0 rfl), h4.sub (Has.cons (h4.at 4 rfl) (Has.cons (h4.at 5 rfl) (Has.cons (h4.at 6 rfl) (Has.cons (h4.at 7 rfl) (Has.cons (h4.at 8 rfl) (Has.cons (h4.at 9 rfl) (Has.nil _)))))))⟩
  · intro s a hs0 hs1 hn0 h0
    have h1 := h0.put 206 (.int .i64 s) (by decide) rfl
    have h2 := h1.put 207 (.pointer (some ⟨(w.heap.size + 1), 2, none⟩)) (by decide) rfl
    have h3 := h2.put 208 (.slice a5 n5 d5) (by decide) rfl
    have h4 := h3.put 209 (.int .i64 ((n5 : Nat) : Int)) (by decide) rfl
    have h5 := h4.put 210 (.int .i64 (s + ((n5 : Nat) : Int))) (by decide) rfl
    have h5d := h5.sub (Has.cons (h5.at 0 rfl) (Has.cons (h5.at 1 rfl) (Has.cons (h5.at 2 rfl) (Has.cons (h5.at 3 rfl) (Has.cons (h5.at 4 rfl) (Has.cons (h5.at 6 rfl) (Has.cons (h5.at 7 rfl) (Has.cons (h5.at 8 rfl) (Has.cons (h5.at 9 rfl) (Has.cons (h5.at 10 rfl) (Has.nil _)))))))))))
    have h6 := h5d.put 17 (.int .i64 (s + ((n5 : Nat) : Int))) (by decide) rfl
    exact ⟨_, (.cons rfl (run_move' rfl (h0.at 0 rfl)) (.cons rfl (run_field25 rfl (by decide) (h1.at 6 rfl)) (.cons rfl (run_load23 rfl (h2.at 0 rfl) y5) (.cons rfl (run_lenS rfl (by decide) (h3.at 0 rfl)) (.cons rfl (run_add rfl (h4.at 3 rfl) (h4.at 0 rfl) (by omega) (by omega)) (.cons rfl (run_assign' rfl (h5.at 0 rfl)) (.nil _))))))), h6.sub (Has.cons (h6.at 0 rfl) (Has.cons (h6.at 6 rfl) (Has.cons (h6.at 7 rfl) (Has.cons (h6.at 8 rfl) (Has.cons (h6.at 9 rfl) (Has.cons (h6.at 10 rfl) (Has.nil _)))))))⟩
  · intro s a h0
    have h1 := h0.put 211 (.int .i64 s) (by decide) rfl
    have h2 := h1.put 212 (.bool (decide ((1048576 : Int) < s))) (by decide) rfl
    exact ⟨_, (.cons rfl (run_move' rfl (h0.at 0 rfl)) (.cons rfl (run_gtr rfl (h1.at 0 rfl)) (.nil _))), (h2.at 0 rfl), h2.sub (Has.cons (h2.at 2 rfl) (Has.cons (h2.at 3 rfl) (Has.cons (h2.at 4 rfl) (Has.cons (h2.at 5 rfl) (Has.cons (h2.at 6 rfl) (Has.cons (h2.at 7 rfl) (Has.nil _)))))))⟩
  refine Tr.seq (loopG (fun k => (X.last.getD k []).length ≤ 1048576) (L := [(1, .slice at_ nt ct), (3, .slice a3 n c3), (5, sv mark), (8, .pointer (some ⟨w.heap.size, 0, none⟩)), (10, .pointer (some ⟨(w.heap.size + 1), 0, none⟩))]) (n := n5) (idx := 23) (lo := ((((((0 + (n1 : Int)) + (n2 : Int)) + (n3 : Int)) + (nt : Int)) + (n4 : Int)) + (n5 : Int))) hn67 ?_ ?_ ?_ (fun k72 hk72 => ?_)) ?_
  · intro s a h0
    have h1 := h0.put 23 (.int .i64 ((0 : Nat) : Int)) (by decide) rfl
    exact ⟨_, (.cons rfl (run_const rfl) (.nil _)), h1.sub (Has.cons (h1.at 1 rfl) (Has.cons (h1.at 0 rfl) (Has.cons (h1.at 2 rfl) (Has.cons (h1.at 3 rfl) (Has.cons (h1.at 4 rfl) (Has.cons (h1.at 5 rfl) (Has.cons (h1.at 6 rfl) (Has.nil _))))))))⟩
  · intro s k a h0
    have h1 := h0.put 213 (.int .i64 (k : Int)) (by decide) rfl
    have h2 := h1.put 214 (.pointer (some ⟨(w.heap.size + 1), 2, none⟩)) (by decide) rfl
    have h3 := h2.put 215 (.slice a5 n5 d5) (by decide) rfl
    have h4 := h3.put 216 (.int .i64 ((n5 : Nat) : Int)) (by decide) rfl
    have h5 := h4.put 217 (.bool (decide ((k : Int) < ((n5 : Nat) : Int)))) (by decide) rfl
    exact ⟨_, (.cons rfl (run_move' rfl (h0.at 1 rfl)) (.cons rfl (run_field25 rfl (by decide) (h1.at 7 rfl)) (.cons rfl (run_load23 rfl (h2.at 0 rfl) y5) (.cons rfl (run_lenS rfl (by decide) (h3.at 0 rfl)) (.cons rfl (run_lss rfl (h4.at 3 rfl) (h4.at 0 rfl)) (.nil _)))))), (h5.at 0 rfl), h5.sub (Has.cons (h5.at 5 rfl) (Has.cons (h5.at 6 rfl) (Has.cons (h5.at 7 rfl) (Has.cons (h5.at 8 rfl) (Has.cons (h5.at 9 rfl) (Has.cons (h5.at 10 rfl) (Has.cons (h5.at 11 rfl) (Has.nil _))))))))⟩
  · intro s k a hk h0
    have h1 := h0.put 218 (.int .i64 (k : Int)) (by decide) rfl
    have h2 := h1.put 219 (.int .i64 ((k + 1 : Nat) : Int)) (by decide) rfl
    have h2d := h2.sub (Has.cons (h2.at 0 rfl) (Has.cons (h2.at 1 rfl) (Has.cons (h2.at 2 rfl) (Has.cons (h2.at 4 rfl) (Has.cons (h2.at 5 rfl) (Has.cons (h2.at 6 rfl) (Has.cons (h2.at 7 rfl) (Has.cons (h2.at 8 rfl) (Has.nil _)))))))))
    have h3 := h2d.put 23 (.int .i64 ((k + 1 : Nat) : Int)) (by decide) rfl
    exact ⟨_, (.cons rfl (run_move' rfl (h0.at 1 rfl)) (.cons rfl (run_inc' rfl (h1.at 0 rfl) hk) (.cons rfl (run_assign' rfl (h2.at 0 rfl)) (.nil _)))), h3.sub (Has.cons (h3.at 3 rfl) (Has.cons (h3.at 0 rfl) (Has.cons (h3.at 4 rfl) (Has.cons (h3.at 5 rfl) (Has.cons (h3.at 6 rfl) (Has.cons (h3.at 7 rfl) (Has.cons (h3.at 8 rfl) (Has.nil _))))))))⟩
  · skip
    obtain ⟨b75, off75, rfl, hc75⟩ := f5.row (by omega)
    have cc75 := hc75 k72 hk72
    obtain ⟨x75, hx75⟩ : ∃ x, x = X.last.getD k72 [] := ⟨_, rfl⟩
    rw [← hx75] at cc75 ⊢
    refine seg13' (L := [(23, .int .i64 (k72 : Int)), (1, .slice at_ nt ct), (3, .slice a3 n c3), (5, sv mark), (8, .pointer (some ⟨w.heap.size, 0, none⟩)), (10, .pointer (some ⟨(w.heap.size + 1), 0, none⟩))]) (n := x75.length) (lo := ((((((0 + (n1 : Int)) + (n2 : Int)) + (n3 : Int)) + (nt : Int)) + (n4 : Int)) + (n5 : Int))) rfl rfl rfl rfl rfl rfl (by omega) ?_ ?_ ?_
    · intro s a h0
      have h1 := h0.put 220 (.pointer (some ⟨(w.heap.size + 1), 2, none⟩)) (by decide) rfl
      have h2 := h1.put 221 (.slice (some ⟨b75, off75, none⟩) n5 d5) (by decide) rfl
      have h3 := h2.put 222 (.int .i64 (k72 : Int)) (by decide) rfl
      have h4 := h3.put 223 (.pointer (some ⟨b75, off75 + k72, none⟩)) (by decide) rfl
      have h5 := h4.put 224 (sv x75) (by decide) rfl
      have h6 := h5.put 225 (.int .i64 ((x75.length : Nat) : Int)) (by decide) rfl
      have h7 := h6.put 226 (.bool (decide ((1048576 : Int) < ((x75.length : Nat) : Int)))) (by decide) rfl
      exact ⟨_, (.cons rfl (run_field25 rfl (by decide) (h0.at 6 rfl)) (.cons rfl (run_load23 rfl (h1.at 0 rfl) y5) (.cons rfl (run_move' rfl (h2.at 3 rfl)) (.cons rfl (run_index23 rfl (h3.at 1 rfl) (h3.at 0 rfl) hk72) (.cons rfl (run_load9 rfl (h4.at 0 rfl) cc75) (.cons rfl (run_lenT rfl (h5.at 0 rfl)) (.cons rfl (run_gtr rfl (h6.at 0 rfl)) (.nil _)))))))), (h7.at 0 rfl), h7.sub (Has.cons (h7.at 7 rfl) (Has.cons (h7.at 8 rfl) (Has.cons (h7.at 9 rfl) (Has.cons (h7.at 10 rfl) (Has.cons (h7.at 11 rfl) (Has.cons (h7.at 12 rfl) (Has.cons (h7.at 13 rfl) (Has.nil _))))))))⟩
    · intro s a hs0 hs1 hn0 h0
      have h1 := h0.put 227 (.int .i64 s) (by decide) rfl
      have h2 := h1.put 228 (.pointer (some ⟨(w.heap.size + 1), 2, none⟩)) (by decide) rfl
      have h3 := h2.put 229 (.slice (some ⟨b75, off75, none⟩) n5 d5) (by decide) rfl
      have h4 := h3.put 230 (.int .i64 (k72 : Int)) (by decide) rfl
      have h5 := h4.put 231 (.pointer (some ⟨b75, off75 + k72, none⟩)) (by decide) rfl
      have h6 := h5.put 232 (sv x75) (by decide) rfl
      have h7 := h6.put 233 (.int .i64 ((x75.length : Nat) : Int)) (by decide) rfl
      have h8 := h7.put 234 (.int .i64 (s + ((x75.length : Nat) : Int))) (by decide) rfl
      have h8d := h8.sub (Has.cons (h8.at 0 rfl) (Has.cons (h8.at 1 rfl) (Has.cons (h8.at 2 rfl) (Has.cons (h8.at 3 rfl) (Has.cons (h8.at 4 rfl) (Has.cons (h8.at 5 rfl) (Has.cons (h8.at 6 rfl) (Has.cons (h8.at 7 rfl) (Has.cons (h8.at 9 rfl) (Has.cons (h8.at 10 rfl) (Has.cons (h8.at 11 rfl) (Has.cons (h8.at 12 rfl) (Has.cons (h8.at 13 rfl) (Has.cons (h8.at 14 rfl) (Has.nil _)))))))))))))))
      have h9 := h8d.put 17 (.int .i64 (s + ((x75.length : Nat) : Int))) (by decide) rfl
      exact ⟨_, (.cons rfl (run_move' rfl (h0.at 0 rfl)) (.cons rfl (run_field25 rfl (by decide) (h1.at 7 rfl)) (.cons rfl (run_load23 rfl (h2.at 0 rfl) y5) (.cons rfl (run_move' rfl (h3.at 4 rfl)) (.cons rfl (run_index23 rfl (h4.at 1 rfl) (h4.at 0 rfl) hk72) (.cons rfl (run_load9 rfl (h5.at 0 rfl) cc75) (.cons rfl (run_lenT rfl (h6.at 0 rfl)) (.cons rfl (run_add rfl (h7.at 6 rfl) (h7.at 0 rfl) (by omega) (by omega)) (.cons rfl (run_assign' rfl (h8.at 0 rfl)) (.nil _)))))))))), h9.sub (Has.cons (h9.at 0 rfl) (Has.cons (h9.at 9 rfl) (Has.cons (h9.at 10 rfl) (Has.cons (h9.at 11 rfl) (Has.cons (h9.at 12 rfl) (Has.cons (h9.at 13 rfl) (Has.cons (h9.at 14 rfl) (Has.nil _))))))))⟩
    · intro s a h0
      have h1 := h0.put 235 (.int .i64 s) (by decide) rfl
      have h2 := h1.put 236 (.bool (decide ((1048576 : Int) < s))) (by decide) rfl
      exact ⟨_, (.cons rfl (run_move' rfl (h0.at 0 rfl)) (.cons rfl (run_gtr rfl (h1.at 0 rfl)) (.nil _))), (h2.at 0 rfl), h2.sub (Has.cons (h2.at 2 rfl) (Has.cons (h2.at 3 rfl) (Has.cons (h2.at 4 rfl) (Has.cons (h2.at 5 rfl) (Has.cons (h2.at 6 rfl) (Has.cons (h2.at 7 rfl) (Has.cons (h2.at 8 rfl) (Has.nil _))))))))⟩
  refine Tr.fact (fun hP67 => ?_)
  have HB67 : BndL X.last := ⟨by rw [f5.len]; exact hn67, fun q hq => hP67 q (by rw [f5.len] at hq; exact hq)⟩
  clear hP67
  refine seg13 (L := [(1, .slice at_ nt ct), (3, .slice a3 n c3), (5, sv mark), (8, .pointer (some ⟨w.heap.size, 0, none⟩)), (10, .pointer (some ⟨(w.heap.size + 1), 0, none⟩))]) (n := n6) (lo := ((((((0 + (n1 : Int)) + (n2 : Int)) + (n3 : Int)) + (nt : Int)) + (n4 : Int)) + (n5 : Int))) rfl rfl rfl rfl rfl rfl (by omega) ?_ ?_ ?_ (fun hn80 => ?_)
  · intro s a h0
    have h1 := h0.put 237 (.pointer (some ⟨(w.heap.size + 1), 3, none⟩)) (by decide) rfl
    have h2 := h1.put 238 (.slice a6 n6 d6) (by decide) rfl
    have h3 := h2.put 239 (.int .i64 ((n6 : Nat) : Int)) (by decide) rfl
    have h4 := h3.put 240 (.bool (decide ((1048576 : Int) < ((n6 : Nat) : Int)))) (by decide) rfl
    exact ⟨_, (.cons rfl (run_field25 rfl (by decide) (h0.at 5 rfl)) (.cons rfl (run_load23 rfl (h1.at 0 rfl) y6) (.cons rfl (run_lenS rfl (by decide) (h2.at 0 rfl)) (.cons rfl (run_gtr rfl (h3.at 0 rfl)) (.nil _))))), (h4.at 0 rfl), h4.sub (Has.cons (h4.at 4 rfl) (Has.cons (h4.at 5 rfl) (Has.cons (h4.at 6 rfl) (Has.cons (h4.at 7 rfl) (Has.cons (h4.at 8 rfl) (Has.cons (h4.at 9 rfl) (Has.nil _)))))))⟩
  · intro s a hs0 hs1 hn0 h0
    have h1 := h0.put 241 (.int .i64 s) (by decide) rfl
    have h2 := h1.put 242 (.pointer (some ⟨(w.heap.size + 1), 3, none⟩)) (by decide) rfl
    have h3 := h2.put 243 (.slice a6 n6 d6) (by decide) rfl
    have h4 := h3.put 244 (.int .i64 ((n6 : Nat) : Int)) (by decide) rfl
    have h5 := h4.put 245 (.int .i64 (s + ((n6 : Nat) : Int))) (by decide) rfl
    have h5d := h5.sub (Has.cons (h5.at 0 rfl) (Has.cons (h5.at 1 rfl) (Has.cons (h5.at 2 rfl) (Has.cons (h5.at 3 rfl) (Has.cons (h5.at 4 rfl) (Has.cons (h5.at 6 rfl) (Has.cons (h5.at 7 rfl) (Has.cons (h5.at 8 rfl) (Has.cons (h5.at 9 rfl) (Has.cons (h5.at 10 rfl) (Has.nil _)))))))))))
    have h6 := h5d.put 17 (.int .i64 (s + ((n6 : Nat) : Int))) (by decide) rfl
    exact ⟨_, (.cons rfl (run_move' rfl (h0.at 0 rfl)) (.cons rfl (run_field25 rfl (by decide) (h1.at 6 rfl)) (.cons rfl (run_load23 rfl (h2.at 0 rfl) y6) (.cons rfl (run_lenS rfl (by decide) (h3.at 0 rfl)) (.cons rfl (run_add rfl (h4.at 3 rfl) (h4.at 0 rfl) (by omega) (by omega)) (.cons rfl (run_assign' rfl (h5.at 0 rfl)) (.nil _))))))), h6.sub (Has.cons (h6.at 0 rfl) (Has.cons (h6.at 6 rfl) (Has.cons (h6.at 7 rfl) (Has.cons (h6.at 8 rfl) (Has.cons (h6.at 9 rfl) (Has.cons (h6.at 10 rfl) (Has.nil _)))))))⟩
  · intro s a h0
    have h1 := h0.put 246 (.int .i64 s) (by decide) rfl
    have h2 := h1.put 247 (.bool (decide ((1048576 : Int) < s))) (by decide) rfl
    exact ⟨_, (.cons rfl (run_move' rfl (h0.at 0 rfl)) (.cons rfl (run_gtr rfl (h1.at 0 rfl)) (.nil _))), (h2.at 0 rfl), h2.sub (Has.cons (h2.at 2 rfl) (Has.cons (h2.at 3 rfl) (Has.cons (h2.at 4 rfl) (Has.cons (h2.at 5 rfl) (Has.cons (h2.at 6 rfl) (Has.cons (h2.at 7 rfl) (Has.nil _)))))))⟩
  refine Tr.seq (loopG (fun k => (X.changes.getD k []).length ≤ 1048576) (L := [(1, .slice at_ nt ct), (3, .slice a3 n c3), (5, sv mark), (8, .pointer (some ⟨w.heap.size, 0, none⟩)), (10, .pointer (some ⟨(w.heap.size + 1), 0, none⟩))]) (n := n6) (idx := 24) (lo := (((((((0 + (n1 : Int)) + (n2 : Int)) + (n3 : Int)) + (nt : Int)) + (n4 : Int)) + (n5 : Int)) + (n6 : Int))) hn80 ?_ ?_ ?_ (fun k85 hk85 => ?_)) ?_
  · intro s a h0
    have h1 := h0.put 24 (.int .i64 ((0 : Nat) : Int)) (by decide) rfl
    exact ⟨_, (.cons rfl (run_const rfl) (.nil _)), h1.sub (Has.cons (h1.at 1 rfl) (Has.cons (h1.at 0 rfl) (Has.cons (h1.at 2 rfl) (Has.cons (h1.at 3 rfl) (Has.cons (h1.at 4 rfl) (Has.cons (h1.at 5 rfl) (Has.cons (h1.at 6 rfl) (Has.nil _))))))))⟩
  · intro s k a h0
    have h1 := h0.put 248 (.int .i64 (k : Int)) (by decide) rfl
    have h2 := h1.put 249 (.pointer (some ⟨(w.heap.size + 1), 3, none⟩)) (by decide) rfl
    have h3 := h2.put 250 (.slice a6 n6 d6) (by decide) rfl
    have h4 := h3.put 251 (.int .i64 ((n6 : Nat) : Int)) (by decide) rfl
    have h5 := h4.put 252 (.bool (decide ((k : Int) < ((n6 : Nat) : Int)))) (by decide) rfl
    exact ⟨_, (.cons rfl (run_move' rfl (h0.at 1 rfl)) (.cons rfl (run_field25 rfl (by decide) (h1.at 7 rfl)) (.cons rfl (run_load23 rfl (h2.at 0 rfl) y6) (.cons rfl (run_lenS rfl (by decide) (h3.at 0 rfl)) (.cons rfl (run_lss rfl (h4.at 3 rfl) (h4.at 0 rfl)) (.nil _)))))), (h5.at 0 rfl), h5.sub (Has.cons (h5.at 5 rfl) (Has.cons (h5.at 6 rfl) (Has.cons (h5.at 7 rfl) (Has.cons (h5.at 8 rfl) (Has.cons (h5.at 9 rfl) (Has.cons (h5.at 10 rfl) (Has.cons (h5.at 11 rfl) (Has.nil _))))))))⟩
  · intro s k a hk h0
    have h1 := h0.put 253 (.int .i64 (k : Int)) (by decide) rfl
    have h2 := h1.put 254 (.int .i64 ((k + 1 : Nat) : Int)) (by decide) rfl
    have h2d := h2.sub (Has.cons (h2.at 0 rfl) (Has.cons (h2.at 1 rfl) (Has.cons (h2.at 2 rfl) (Has.cons (h2.at 4 rfl) (Has.cons (h2.at 5 rfl) (Has.cons (h2.at 6 rfl) (Has.cons (h2.at 7 rfl) (Has.cons (h2.at 8 rfl) (Has.nil _)))))))))
    have h3 := h2d.put 24 (.int .i64 ((k + 1 : Nat) : Int)) (by decide) rfl
    exact ⟨_, (.cons rfl (run_move' rfl (h0.at 1 rfl)) (.cons rfl (run_inc' rfl (h1.at 0 rfl) hk) (.cons rfl (run_assign' rfl (h2.at 0 rfl)) (.nil _)))), h3.sub (Has.cons (h3.at 3 rfl) (Has.cons (h3.at 0 rfl) (Has.cons (h3.at 4 rfl) (Has.cons (h3.at 5 rfl) (Has.cons (h3.at 6 rfl) (Has.cons (h3.at 7 rfl) (Has.cons (h3.at 8 rfl) (Has.nil _))))))))⟩
  · skip
    obtain ⟨b88, off88, rfl, hc88⟩ := f6.row (by omega)
    have cc88 := hc88 k85 hk85
    obtain ⟨x88, hx88⟩ : ∃ x, x = X.changes.getD k85 [] := ⟨_, rfl⟩
    rw [← hx88] at cc88 ⊢
    refine seg13' (L := [(24, .int .i64 (k85 : Int)), (1, .slice at_ nt ct), (3, .slice a3 n c3), (5, sv mark), (8, .pointer (some ⟨w.heap.size, 0, none⟩)), (10, .pointer (some ⟨(w.heap.size + 1), 0, none⟩))]) (n := x88.length) (lo := (((((((0 + (n1 : Int)) + (n2 : Int)) + (n3 : Int)) + (nt : Int)) + (n4 : Int)) + (n5 : Int)) + (n6 : Int))) rfl rfl rfl rfl rfl rfl (by omega) ?_ ?_ ?_
    · intro s a h0
      have h1 := h0.put 255 (.pointer (some ⟨(w.heap.size + 1), 3, none⟩)) (by decide) rfl
      have h2 := h1.put 256 (.slice (some ⟨b88, off88, none⟩) n6 d6) (by decide) rfl
      have h3 := h2.put 257 (.int .i64 (k85 : Int)) (by decide) rfl
      have h4 := h3.put 258 (.pointer (some ⟨b88, off88 + k85, none⟩)) (by decide) rfl
      have h5 := h4.put 259 (sv x88) (by decide) rfl
      have h6 := h5.put 260 (.int .i64 ((x88.length : Nat) : Int)) (by decide) rfl
      have h7 := h6.put 261 (.bool (decide ((1048576 : Int) < ((x88.length : Nat) : Int)))) (by decide) rfl
      exact ⟨_, (.cons rfl (run_field25 rfl (by decide) (h0.at 6 rfl)) (.cons rfl (run_load23 rfl (h1.at 0 rfl) y6) (.cons rfl (run_move' rfl (h2.at 3 rfl)) (.cons rfl (run_index23 rfl (h3.at 1 rfl) (h3.at 0 rfl) hk85) (.cons rfl (run_load9 rfl (h4.at 0 rfl) cc88) (.cons rfl (run_lenT rfl (h5.at 0 rfl)) (.cons rfl (run_gtr rfl (h6.at 0 rfl)) (.nil _)))))))), (h7.at 0 rfl), h7.sub (Has.cons (h7.at 7 rfl) (Has.cons (h7.at 8 rfl) (Has.cons (h7.at 9 rfl) (Has.cons (h7.at 10 rfl) (Has.cons (h7.at 11 rfl) (Has.cons (h7.at 12 rfl) (Has.cons (h7.at 13 rfl) (Has.nil _))))))))⟩
    · intro s a hs0 hs1 hn0 h0
      have h1 := h0.put 262 (.int .i64 s) (by decide) rfl
      have h2 := h1.put 263 (.pointer (some ⟨(w.heap.size + 1), 3, none⟩)) (by decide) rfl
      have h3 := h2.put 264 (.slice (some ⟨b88, off88, none⟩) n6 d6) (by decide) rfl
      have h4 := h3.put 265 (.int .i64 (k85 : Int)) (by decide) rfl
      have h5 := h4.put 266 (.pointer (some ⟨b88, off88 + k85, none⟩)) (by decide) rfl
      have h6 := h5.put 267 (sv x88) (by decide) rfl
      have h7 := h6.put 268 (.int .i64 ((x88.length : Nat) : Int)) (by decide) rfl
      have h8 := h7.put 269 (.int .i64 (s + ((x88.length : Nat) : Int))) (by decide) rfl
      have h8d := h8.sub (Has.cons (h8.at 0 rfl) (Has.cons (h8.at 1 rfl) (Has.cons (h8.at 2 rfl) (Has.cons (h8.at 3 rfl) (Has.cons (h8.at 4 rfl) (Has.cons (h8.at 5 rfl) (Has.cons (h8.at 6 rfl) (Has.cons (h8.at 7 rfl) (Has.cons (h8.at 9 rfl) (Has.cons (h8.at 10 rfl) (Has.cons (h8.at 11 rfl) (Has.cons (h8.at 12 rfl) (Has.cons (h8.at 13 rfl) (Has.cons (h8.at 14 rfl) (Has.nil _)))))))))))))))
      have h9 := h8d.put 17 (.int .i64 (s + ((x88.length : Nat) : Int))) (by decide) rfl
      exact ⟨_, (.cons rfl (run_move' rfl (h0.at 0 rfl)) (.cons rfl (run_field25 rfl (by decide) (h1.at 7 rfl)) (.cons rfl (run_load23 rfl (h2.at 0 rfl) y6) (.cons rfl (run_move' rfl (h3.at 4 rfl)) (.cons rfl (run_index23 rfl (h4.at 1 rfl) (h4.at 0 rfl) hk85) (.cons rfl (run_load9 rfl (h5.at 0 rfl) cc88) (.cons rfl (run_lenT rfl (h6.at 0 rfl)) (.cons rfl (run_add rfl (h7.at 6 rfl) (h7.at 0 rfl) (by omega) (by omega)) (.cons rfl (run_assign' rfl (h8.at 0 rfl)) (.nil _)))))))))), h9.sub (Has.cons (h9.at 0 rfl) (Has.cons (h9.at 9 rfl) (Has.cons (h9.at 10 rfl) (Has.cons (h9.at 11 rfl) (Has.cons (h9.at 12 rfl) (Has.cons (h9.at 13 rfl) (Has.cons (h9.at 14 rfl) (Has.nil _))))))))⟩
    · intro s a h0
      have h1 := h0.put 270 (.int .i64 s) (by decide) rfl
      have h2 := h1.put 271 (.bool (decide ((1048576 : Int) < s))) (by decide) rfl
      exact ⟨_, (.cons rfl (run_move' rfl (h0.at 0 rfl)) (.cons rfl (run_gtr rfl (h1.at 0 rfl)) (.nil _))), (h2.at 0 rfl), h2.sub (Has.cons (h2.at 2 rfl) (Has.cons (h2.at 3 rfl) (Has.cons (h2.at 4 rfl) (Has.cons (h2.at 5 rfl) (Has.cons (h2.at 6 rfl) (Has.cons (h2.at 7 rfl) (Has.cons (h2.at 8 rfl) (Has.nil _))))))))⟩
  refine Tr.fact (fun hP80 => ?_)
  have HB80 : BndL X.changes := ⟨by rw [f6.len]; exact hn80, fun q hq => hP80 q (by rw [f6.len] at hq; exact hq)⟩
  clear hP80
  have HSum : n4 + n5 + n6 ≤ 1048576 ∨ 1048576 < n4 + n5 + n6 := by omega
  rcases HSum with HSum | HSum
  rotate_left
  · exact Tr.absurd (fun a ha => by obtain ⟨s, h1, h2, -⟩ := ha; omega)
  refine seg13 (L := [(1, .slice at_ nt ct), (3, .slice a3 n c3), (5, sv mark), (8, .pointer (some ⟨w.heap.size, 0, none⟩)), (10, .pointer (some ⟨(w.heap.size + 1), 0, none⟩))]) (n := n) (lo := (((((((0 + (n1 : Int)) + (n2 : Int)) + (n3 : Int)) + (nt : Int)) + (n4 : Int)) + (n5 : Int)) + (n6 : Int))) rfl rfl rfl rfl rfl rfl (by omega) ?_ ?_ ?_ (fun hn93 => ?_)
  · intro s a h0
    have h1 := h0.put 272 (.slice a3 n c3) (by decide) rfl
    have h2 := h1.put 273 (.int .i64 ((n : Nat) : Int)) (by decide) rfl
    have h3 := h2.put 274 (.bool (decide ((1048576 : Int) < ((n : Nat) : Int)))) (by decide) rfl
    exact ⟨_, (.cons rfl (run_move' rfl (h0.at 2 rfl)) (.cons rfl (run_lenS rfl (by decide) (h1.at 0 rfl)) (.cons rfl (run_gtr rfl (h2.at 0 rfl)) (.nil _)))), (h3.at 0 rfl), h3.sub (Has.cons (h3.at 3 rfl) (Has.cons (h3.at 4 rfl) (Has.cons (h3.at 5 rfl) (Has.cons (h3.at 6 rfl) (Has.cons (h3.at 7 rfl) (Has.cons (h3.at 8 rfl) (Has.nil _)))))))⟩
  · intro s a hs0 hs1 hn0 h0
    have h1 := h0.put 275 (.int .i64 s) (by decide) rfl
    have h2 := h1.put 276 (.slice a3 n c3) (by decide) rfl
    have h3 := h2.put 277 (.int .i64 ((n : Nat) : Int)) (by decide) rfl
    have h4 := h3.put 278 (.int .i64 (s + ((n : Nat) : Int))) (by decide) rfl
    have h4d := h4.sub (Has.cons (h4.at 0 rfl) (Has.cons (h4.at 1 rfl) (Has.cons (h4.at 2 rfl) (Has.cons (h4.at 3 rfl) (Has.cons (h4.at 5 rfl) (Has.cons (h4.at 6 rfl) (Has.cons (h4.at 7 rfl) (Has.cons (h4.at 8 rfl) (Has.cons (h4.at 9 rfl) (Has.nil _))))))))))
    have h5 := h4d.put 17 (.int .i64 (s + ((n : Nat) : Int))) (by decide) rfl
    exact ⟨_, (.cons rfl (run_move' rfl (h0.at 0 rfl)) (.cons rfl (run_move' rfl (h1.at 3 rfl)) (.cons rfl (run_lenS rfl (by decide) (h2.at 0 rfl)) (.cons rfl (run_add rfl (h3.at 2 rfl) (h3.at 0 rfl) (by omega) (by omega)) (.cons rfl (run_assign' rfl (h4.at 0 rfl)) (.nil _)))))), h5.sub (Has.cons (h5.at 0 rfl) (Has.cons (h5.at 5 rfl) (Has.cons (h5.at 6 rfl) (Has.cons (h5.at 7 rfl) (Has.cons (h5.at 8 rfl) (Has.cons (h5.at 9 rfl) (Has.nil _)))))))⟩
  · intro s a h0
    have h1 := h0.put 279 (.int .i64 s) (by decide) rfl
    have h2 := h1.put 280 (.bool (decide ((1048576 : Int) < s))) (by decide) rfl
    exact ⟨_, (.cons rfl (run_move' rfl (h0.at 0 rfl)) (.cons rfl (run_gtr rfl (h1.at 0 rfl)) (.nil _))), (h2.at 0 rfl), h2.sub (Has.cons (h2.at 2 rfl) (Has.cons (h2.at 3 rfl) (Has.cons (h2.at 4 rfl) (Has.cons (h2.at 5 rfl) (Has.cons (h2.at 6 rfl) (Has.cons (h2.at 7 rfl) (Has.nil _)))))))⟩
  obtain ⟨lo, hlo⟩ : ∃ lo : Int, lo = ((((((((0 + (n1 : Int)) + (n2 : Int)) + (n3 : Int)) + (nt : Int)) + (n4 : Int)) + (n5 : Int)) + (n6 : Int)) + (n : Int)) := ⟨_, rfl⟩
  rw [← hlo]
  have hlo0 : 0 ≤ lo := by omega
  refine Tr.seq (loopG (fun k => BndA (As.getD k noAns)) (L := [(1, .slice at_ nt ct), (3, .slice a3 n c3), (5, sv mark), (8, .pointer (some ⟨w.heap.size, 0, none⟩)), (10, .pointer (some ⟨(w.heap.size + 1), 0, none⟩))]) (n := n) (idx := 25) (lo := lo) hn93 ?_ ?_ ?_ (fun k98 hk98 => ?_)) ?_
  · intro s a h0
    have h1 := h0.put 25 (.int .i64 ((0 : Nat) : Int)) (by decide) rfl
    exact ⟨_, (.cons rfl (run_const rfl) (.nil _)), h1.sub (Has.cons (h1.at 1 rfl) (Has.cons (h1.at 0 rfl) (Has.cons (h1.at 2 rfl) (Has.cons (h1.at 3 rfl) (Has.cons (h1.at 4 rfl) (Has.cons (h1.at 5 rfl) (Has.cons (h1.at 6 rfl) (Has.nil _))))))))⟩
  · intro s k a h0
    have h1 := h0.put 281 (.int .i64 (k : Int)) (by decide) rfl
    have h2 := h1.put 282 (.slice a3 n c3) (by decide) rfl
    have h3 := h2.put 283 (.int .i64 ((n : Nat) : Int)) (by decide) rfl
    have h4 := h3.put 284 (.bool (decide ((k : Int) < ((n : Nat) : Int)))) (by decide) rfl
    exact ⟨_, (.cons rfl (run_move' rfl (h0.at 1 rfl)) (.cons rfl (run_move' rfl (h1.at 4 rfl)) (.cons rfl (run_lenS rfl (by decide) (h2.at 0 rfl)) (.cons rfl (run_lss rfl (h3.at 2 rfl) (h3.at 0 rfl)) (.nil _))))), (h4.at 0 rfl), h4.sub (Has.cons (h4.at 4 rfl) (Has.cons (h4.at 5 rfl) (Has.cons (h4.at 6 rfl) (Has.cons (h4.at 7 rfl) (Has.cons (h4.at 8 rfl) (Has.cons (h4.at 9 rfl) (Has.cons (h4.at 10 rfl) (Has.nil _))))))))⟩
  · intro s k a hk h0
    have h1 := h0.put 285 (.int .i64 (k : Int)) (by decide) rfl
    have h2 := h1.put 286 (.int .i64 ((k + 1 : Nat) : Int)) (by decide) rfl
    have h2d := h2.sub (Has.cons (h2.at 0 rfl) (Has.cons (h2.at 1 rfl) (Has.cons (h2.at 2 rfl) (Has.cons (h2.at 4 rfl) (Has.cons (h2.at 5 rfl) (Has.cons (h2.at 6 rfl) (Has.cons (h2.at 7 rfl) (Has.cons (h2.at 8 rfl) (Has.nil _)))))))))
    have h3 := h2d.put 25 (.int .i64 ((k + 1 : Nat) : Int)) (by decide) rfl
    exact ⟨_, (.cons rfl (run_move' rfl (h0.at 1 rfl)) (.cons rfl (run_inc' rfl (h1.at 0 rfl) hk) (.cons rfl (run_assign' rfl (h2.at 0 rfl)) (.nil _)))), h3.sub (Has.cons (h3.at 3 rfl) (Has.cons (h3.at 0 rfl) (Has.cons (h3.at 4 rfl) (Has.cons (h3.at 5 rfl) (Has.cons (h3.at 6 rfl) (Has.cons (h3.at 7 rfl) (Has.cons (h3.at 8 rfl) (Has.nil _))))))))⟩
  · skip
    obtain ⟨bA, offA, rfl, hcA⟩ := h3.row (by omega)
    have IA := hcA k98 hk98
    obtain ⟨A, hA⟩ : ∃ A, A = As.getD k98 noAns := ⟨_, rfl⟩
    rw [← hA] at IA ⊢
    obtain ⟨av, nv, dv, cv, Lv⟩ := IA.c1
    obtain ⟨an, nn, dn, cn, Ln⟩ := IA.c2
    obtain ⟨ab, nb, db, cb, Lb⟩ := IA.c4
    have cm := IA.c6
    obtain ⟨au, nu, du, cu, Lu⟩ := IA.c7
    refine seg13 (L := [(25, .int .i64 (k98 : Int)), (1, .slice at_ nt ct), (3, .slice (some ⟨bA, offA, none⟩) n c3), (5, sv mark), (8, .pointer (some ⟨w.heap.size, 0, none⟩)), (10, .pointer (some ⟨(w.heap.size + 1), 0, none⟩))]) (n := nv) (lo := lo) rfl rfl rfl rfl rfl rfl (by omega) ?_ ?_ ?_ (fun hn101 => ?_)
    · intro s a h0
      have h1 := h0.put 287 (.slice (some ⟨bA, offA, none⟩) n c3) (by decide) rfl
      have h2 := h1.put 288 (.int .i64 (k98 : Int)) (by decide) rfl
      have h3 := h2.put 289 (.pointer (some ⟨bA, offA + k98 * 11, none⟩)) (by decide) rfl
      have h4 := h3.put 290 (.pointer (some ⟨bA, offA + k98 * 11 + 1, none⟩)) (by decide) rfl
      have h5 := h4.put 291 (.slice av nv dv) (by decide) rfl
      have h6 := h5.put 292 (.int .i64 ((nv : Nat) : Int)) (by decide) rfl
      have h7 := h6.put 293 (.bool (decide ((1048576 : Int) < ((nv : Nat) : Int)))) (by decide) rfl
      exact ⟨_, (.cons rfl (run_move' rfl (h0.at 3 rfl)) (.cons rfl (run_move' rfl (h1.at 2 rfl)) (.cons rfl (run_index26 rfl (h2.at 1 rfl) (h2.at 0 rfl) hk98) (.cons rfl (run_field31 rfl (by decide) (h3.at 0 rfl)) (.cons rfl (run_load23 rfl (h4.at 0 rfl) cv) (.cons rfl (run_lenS rfl (by decide) (h5.at 0 rfl)) (.cons rfl (run_gtr rfl (h6.at 0 rfl)) (.nil _)))))))), (h7.at 0 rfl), h7.sub (Has.cons (h7.at 7 rfl) (Has.cons (h7.at 8 rfl) (Has.cons (h7.at 9 rfl) (Has.cons (h7.at 10 rfl) (Has.cons (h7.at 11 rfl) (Has.cons (h7.at 12 rfl) (Has.cons (h7.at 13 rfl) (Has.nil _))))))))⟩
    · intro s a hs0 hs1 hn0 h0
      have h1 := h0.put 294 (.int .i64 s) (by decide) rfl
      have h2 := h1.put 295 (.slice (some ⟨bA, offA, none⟩) n c3) (by decide) rfl
      have h3 := h2.put 296 (.int .i64 (k98 : Int)) (by decide) rfl
      have h4 := h3.put 297 (.pointer (some ⟨bA, offA + k98 * 11, none⟩)) (by decide) rfl
      have h5 := h4.put 298 (.pointer (some ⟨bA, offA + k98 * 11 + 1, none⟩)) (by decide) rfl
      have h6 := h5.put 299 (.slice av nv dv) (by decide) rfl
      have h7 := h6.put 300 (.int .i64 ((nv : Nat) : Int)) (by decide) rfl
      have h8 := h7.put 301 (.int .i64 (s + ((nv : Nat) : Int))) (by decide) rfl
      have h8d := h8.sub (Has.cons (h8.at 0 rfl) (Has.cons (h8.at 1 rfl) (Has.cons (h8.at 2 rfl) (Has.cons (h8.at 3 rfl) (Has.cons (h8.at 4 rfl) (Has.cons (h8.at 5 rfl) (Has.cons (h8.at 6 rfl) (Has.cons (h8.at 7 rfl) (Has.cons (h8.at 9 rfl) (Has.cons (h8.at 10 rfl) (Has.cons (h8.at 11 rfl) (Has.cons (h8.at 12 rfl) (Has.cons (h8.at 13 rfl) (Has.cons (h8.at 14 rfl) (Has.nil _)))))))))))))))
      have h9 := h8d.put 17 (.int .i64 (s + ((nv : Nat) : Int))) (by decide) rfl
      exact ⟨_, (.cons rfl (run_move' rfl (h0.at 0 rfl)) (.cons rfl (run_move' rfl (h1.at 4 rfl)) (.cons rfl (run_move' rfl (h2.at 3 rfl)) (.cons rfl (run_index26 rfl (h3.at 1 rfl) (h3.at 0 rfl) hk98) (.cons rfl (run_field31 rfl (by decide) (h4.at 0 rfl)) (.cons rfl (run_load23 rfl (h5.at 0 rfl) cv) (.cons rfl (run_lenS rfl (by decide) (h6.at 0 rfl)) (.cons rfl (run_add rfl (h7.at 6 rfl) (h7.at 0 rfl) (by omega) (by omega)) (.cons rfl (run_assign' rfl (h8.at 0 rfl)) (.nil _)))))))))), h9.sub (Has.cons (h9.at 0 rfl) (Has.cons (h9.at 9 rfl) (Has.cons (h9.at 10 rfl) (Has.cons (h9.at 11 rfl) (Has.cons (h9.at 12 rfl) (Has.cons (h9.at 13 rfl) (Has.cons (h9.at 14 rfl) (Has.nil _))))))))⟩
    · intro s a h0
      have h1 := h0.put 302 (.int .i64 s) (by decide) rfl
      have h2 := h1.put 303 (.bool (decide ((1048576 : Int) < s))) (by decide) rfl
      exact ⟨_, (.cons rfl (run_move' rfl (h0.at 0 rfl)) (.cons rfl (run_gtr rfl (h1.at 0 rfl)) (.nil _))), (h2.at 0 rfl), h2.sub (Has.cons (h2.at 2 rfl) (Has.cons (h2.at 3 rfl) (Has.cons (h2.at 4 rfl) (Has.cons (h2.at 5 rfl) (Has.cons (h2.at 6 rfl) (Has.cons (h2.at 7 rfl) (Has.cons (h2.at 8 rfl) (Has.nil _))))))))⟩
    refine Tr.seq (loopG (fun k => (A.view.getD k []).length ≤ 1048576) (L := [(25, .int .i64 (k98 : Int)), (1, .slice at_ nt ct), (3, .slice (some ⟨bA, offA, none⟩) n c3), (5, sv mark), (8, .pointer (some ⟨w.heap.size, 0, none⟩)), (10, .pointer (some ⟨(w.heap.size + 1), 0, none⟩))]) (n := nv) (idx := 26) (lo := (lo + (nv : Int))) hn101 ?_ ?_ ?_ (fun k106 hk106 => ?_)) ?_
    · intro s a h0
      have h1 := h0.put 26 (.int .i64 ((0 : Nat) : Int)) (by decide) rfl
      exact ⟨_, (.cons rfl (run_const rfl) (.nil _)), h1.sub (Has.cons (h1.at 1 rfl) (Has.cons (h1.at 0 rfl) (Has.cons (h1.at 2 rfl) (Has.cons (h1.at 3 rfl) (Has.cons (h1.at 4 rfl) (Has.cons (h1.at 5 rfl) (Has.cons (h1.at 6 rfl) (Has.cons (h1.at 7 rfl) (Has.nil _)))))))))⟩
    · intro s k a h0
      have h1 := h0.put 304 (.int .i64 (k : Int)) (by decide) rfl
      have h2 := h1.put 305 (.slice (some ⟨bA, offA, none⟩) n c3) (by decide) rfl
      have h3 := h2.put 306 (.int .i64 (k98 : Int)) (by decide) rfl
      have h4 := h3.put 307 (.pointer (some ⟨bA, offA + k98 * 11, none⟩)) (by decide) rfl
      have h5 := h4.put 308 (.pointer (some ⟨bA, offA + k98 * 11 + 1, none⟩)) (by decide) rfl
      have h6 := h5.put 309 (.slice av nv dv) (by decide) rfl
      have h7 := h6.put 310 (.int .i64 ((nv : Nat) : Int)) (by decide) rfl
      have h8 := h7.put 311 (.bool (decide ((k : Int) < ((nv : Nat) : Int)))) (by decide) rfl
      exact ⟨_, (.cons rfl (run_move' rfl (h0.at 1 rfl)) (.cons rfl (run_move' rfl (h1.at 5 rfl)) (.cons rfl (run_move' rfl (h2.at 4 rfl)) (.cons rfl (run_index26 rfl (h3.at 1 rfl) (h3.at 0 rfl) hk98) (.cons rfl (run_field31 rfl (by decide) (h4.at 0 rfl)) (.cons rfl (run_load23 rfl (h5.at 0 rfl) cv) (.cons rfl (run_lenS rfl (by decide) (h6.at 0 rfl)) (.cons rfl (run_lss rfl (h7.at 6 rfl) (h7.at 0 rfl)) (.nil _))))))))), (h8.at 0 rfl), h8.sub (Has.cons (h8.at 8 rfl) (Has.cons (h8.at 9 rfl) (Has.cons (h8.at 10 rfl) (Has.cons (h8.at 11 rfl) (Has.cons (h8.at 12 rfl) (Has.cons (h8.at 13 rfl) (Has.cons (h8.at 14 rfl) (Has.cons (h8.at 15 rfl) (Has.nil _)))))))))⟩
    · intro s k a hk h0
      have h1 := h0.put 312 (.int .i64 (k : Int)) (by decide) rfl
      have h2 := h1.put 313 (.int .i64 ((k + 1 : Nat) : Int)) (by decide) rfl
      have h2d := h2.sub (Has.cons (h2.at 0 rfl) (Has.cons (h2.at 1 rfl) (Has.cons (h2.at 2 rfl) (Has.cons (h2.at 4 rfl) (Has.cons (h2.at 5 rfl) (Has.cons (h2.at 6 rfl) (Has.cons (h2.at 7 rfl) (Has.cons (h2.at 8 rfl) (Has.cons (h2.at 9 rfl) (Has.nil _))))))))))
      have h3 := h2d.put 26 (.int .i64 ((k + 1 : Nat) : Int)) (by decide) rfl
      exact ⟨_, (.cons rfl (run_move' rfl (h0.at 1 rfl)) (.cons rfl (run_inc' rfl (h1.at 0 rfl) hk) (.cons rfl (run_assign' rfl (h2.at 0 rfl)) (.nil _)))), h3.sub (Has.cons (h3.at 3 rfl) (Has.cons (h3.at 0 rfl) (Has.cons (h3.at 4 rfl) (Has.cons (h3.at 5 rfl) (Has.cons (h3.at 6 rfl) (Has.cons (h3.at 7 rfl) (Has.cons (h3.at 8 rfl) (Has.cons (h3.at 9 rfl) (Has.nil _)))))))))⟩
    · skip
      obtain ⟨b109, off109, rfl, hc109⟩ := Lv.row (by omega)
      have cc109 := hc109 k106 hk106
      obtain ⟨x109, hx109⟩ : ∃ x, x = A.view.getD k106 [] := ⟨_, rfl⟩
      rw [← hx109] at cc109 ⊢
      refine seg13' (L := [(26, .int .i64 (k106 : Int)), (25, .int .i64 (k98 : Int)), (1, .slice at_ nt ct), (3, .slice (some ⟨bA, offA, none⟩) n c3), (5, sv mark), (8, .pointer (some ⟨w.heap.size, 0, none⟩)), (10, .pointer (some ⟨(w.heap.size + 1), 0, none⟩))]) (n := x109.length) (lo := (lo + (nv : Int))) rfl rfl rfl rfl rfl rfl (by omega) ?_ ?_ ?_
      · intro s a h0
        have h1 := h0.put 314 (.slice (some ⟨bA, offA, none⟩) n c3) (by decide) rfl
        have h2 := h1.put 315 (.int .i64 (k98 : Int)) (by decide) rfl
        have h3 := h2.put 316 (.pointer (some ⟨bA, offA + k98 * 11, none⟩)) (by decide) rfl
        have h4 := h3.put 317 (.pointer (some ⟨bA, offA + k98 * 11 + 1, none⟩)) (by decide) rfl
        have h5 := h4.put 318 (.slice (some ⟨b109, off109, none⟩) nv dv) (by decide) rfl
        have h6 := h5.put 319 (.int .i64 (k106 : Int)) (by decide) rfl
        have h7 := h6.put 320 (.pointer (some ⟨b109, off109 + k106, none⟩)) (by decide) rfl
        have h8 := h7.put 321 (sv x109) (by decide) rfl
        have h9 := h8.put 322 (.int .i64 ((x109.length : Nat) : Int)) (by decide) rfl
        have h10 := h9.put 323 (.bool (decide ((1048576 : Int) < ((x109.length : Nat) : Int)))) (by decide) rfl
        exact ⟨_, (.cons rfl (run_move' rfl (h0.at 4 rfl)) (.cons rfl (run_move' rfl (h1.at 3 rfl)) (.cons rfl (run_index26 rfl (h2.at 1 rfl) (h2.at 0 rfl) hk98) (.cons rfl (run_field31 rfl (by decide) (h3.at 0 rfl)) (.cons rfl (run_load23 rfl (h4.at 0 rfl) cv) (.cons rfl (run_move' rfl (h5.at 6 rfl)) (.cons rfl (run_index23 rfl (h6.at 1 rfl) (h6.at 0 rfl) hk106) (.cons rfl (run_load9 rfl (h7.at 0 rfl) cc109) (.cons rfl (run_lenT rfl (h8.at 0 rfl)) (.cons rfl (run_gtr rfl (h9.at 0 rfl)) (.nil _))))))))))), (h10.at 0 rfl), h10.sub (Has.cons (h10.at 10 rfl) (Has.cons (h10.at 11 rfl) (Has.cons (h10.at 12 rfl) (Has.cons (h10.at 13 rfl) (Has.cons (h10.at 14 rfl) (Has.cons (h10.at 15 rfl) (Has.cons (h10.at 16 rfl) (Has.cons (h10.at 17 rfl) (Has.nil _)))))))))⟩
      · intro s a hs0 hs1 hn0 h0
        have h1 := h0.put 324 (.int .i64 s) (by decide) rfl
        have h2 := h1.put 325 (.slice (some ⟨bA, offA, none⟩) n c3) (by decide) rfl
        have h3 := h2.put 326 (.int .i64 (k98 : Int)) (by decide) rfl
        have h4 := h3.put 327 (.pointer (some ⟨bA, offA + k98 * 11, none⟩)) (by decide) rfl
        have h5 := h4.put 328 (.pointer (some ⟨bA, offA + k98 * 11 + 1, none⟩)) (by decide) rfl
        have h6 := h5.put 329 (.slice (some ⟨b109, off109, none⟩) nv dv) (by decide) rfl
        have h7 := h6.put 330 (.int .i64 (k106 : Int)) (by decide) rfl
        have h8 := h7.put 331 (.pointer (some ⟨b109, off109 + k106, none⟩)) (by decide) rfl
        have h9 := h8.put 332 (sv x109) (by decide) rfl
        have h10 := h9.put 333 (.int .i64 ((x109.length : Nat) : Int)) (by decide) rfl
        have h11 := h10.put 334 (.int .i64 (s + ((x109.length : Nat) : Int))) (by decide) rfl
        have h11d := h11.sub (Has.cons (h11.at 0 rfl) (Has.cons (h11.at 1 rfl) (Has.cons (h11.at 2 rfl) (Has.cons (h11.at 3 rfl) (Has.cons (h11.at 4 rfl) (Has.cons (h11.at 5 rfl) (Has.cons (h11.at 6 rfl) (Has.cons (h11.at 7 rfl) (Has.cons (h11.at 8 rfl) (Has.cons (h11.at 9 rfl) (Has.cons (h11.at 10 rfl) (Has.cons (h11.at 12 rfl) (Has.cons (h11.at 13 rfl) (Has.cons (h11.at 14 rfl) (Has.cons (h11.at 15 rfl) (Has.cons (h11.at 16 rfl) (Has.cons (h11.at 17 rfl) (Has.cons (h11.at 18 rfl) (Has.nil _)))))))))))))))))))
        have h12 := h11d.put 17 (.int .i64 (s + ((x109.length : Nat) : Int))) (by decide) rfl
        exact ⟨_, (.cons rfl (run_move' rfl (h0.at 0 rfl)) (.cons rfl (run_move' rfl (h1.at 5 rfl)) (.cons rfl (run_move' rfl (h2.at 4 rfl)) (.cons rfl (run_index26 rfl (h3.at 1 rfl) (h3.at 0 rfl) hk98) (.cons rfl (run_field31 rfl (by decide) (h4.at 0 rfl)) (.cons rfl (run_load23 rfl (h5.at 0 rfl) cv) (.cons rfl (run_move' rfl (h6.at 7 rfl)) (.cons rfl (run_index23 rfl (h7.at 1 rfl) (h7.at 0 rfl) hk106) (.cons rfl (run_load9 rfl (h8.at 0 rfl) cc109) (.cons rfl (run_lenT rfl (h9.at 0 rfl)) (.cons rfl (run_add rfl (h10.at 9 rfl) (h10.at 0 rfl) (by omega) (by omega)) (.cons rfl (run_assign' rfl (h11.at 0 rfl)) (.nil _))))))))))))), h12.sub (Has.cons (h12.at 0 rfl) (Has.cons (h12.at 12 rfl) (Has.cons (h12.at 13 rfl) (Has.cons (h12.at 14 rfl) (Has.cons (h12.at 15 rfl) (Has.cons (h12.at 16 rfl) (Has.cons (h12.at 17 rfl) (Has.cons (h12.at 18 rfl) (Has.nil _)))))))))⟩
      · intro s a h0
        have h1 := h0.put 335 (.int .i64 s) (by decide) rfl
        have h2 := h1.put 336 (.bool (decide ((1048576 : Int) < s))) (by decide) rfl
        exact ⟨_, (.cons rfl (run_move' rfl (h0.at 0 rfl)) (.cons rfl (run_gtr rfl (h1.at 0 rfl)) (.nil _))), (h2.at 0 rfl), h2.sub (Has.cons (h2.at 2 rfl) (Has.cons (h2.at 3 rfl) (Has.cons (h2.at 4 rfl) (Has.cons (h2.at 5 rfl) (Has.cons (h2.at 6 rfl) (Has.cons (h2.at 7 rfl) (Has.cons (h2.at 8 rfl) (Has.cons (h2.at 9 rfl) (Has.nil _)))))))))⟩
    refine Tr.fact (fun hPv => ?_)
    have HBv : BndL A.view := ⟨by rw [Lv.len]; exact hn101, fun q hq => hPv q (by rw [Lv.len] at hq; exact hq)⟩
    refine seg13 (L := [(25, .int .i64 (k98 : Int)), (1, .slice at_ nt ct), (3, .slice (some ⟨bA, offA, none⟩) n c3), (5, sv mark), (8, .pointer (some ⟨w.heap.size, 0, none⟩)), (10, .pointer (some ⟨(w.heap.size + 1), 0, none⟩))]) (n := nn) (lo := (lo + (nv : Int))) rfl rfl rfl rfl rfl rfl (by omega) ?_ ?_ ?_ (fun hn114 => ?_)
    · intro s a h0
      have h1 := h0.put 337 (.slice (some ⟨bA, offA, none⟩) n c3) (by decide) rfl
      have h2 := h1.put 338 (.int .i64 (k98 : Int)) (by decide) rfl
      have h3 := h2.put 339 (.pointer (some ⟨bA, offA + k98 * 11, none⟩)) (by decide) rfl
      have h4 := h3.put 340 (.pointer (some ⟨bA, offA + k98 * 11 + 2, none⟩)) (by decide) rfl
      have h5 := h4.put 341 (.slice an nn dn) (by decide) rfl
      have h6 := h5.put 342 (.int .i64 ((nn : Nat) : Int)) (by decide) rfl
      have h7 := h6.put 343 (.bool (decide ((1048576 : Int) < ((nn : Nat) : Int)))) (by decide) rfl
      exact ⟨_, (.cons rfl (run_move' rfl (h0.at 3 rfl)) (.cons rfl (run_move' rfl (h1.at 2 rfl)) (.cons rfl (run_index26 rfl (h2.at 1 rfl) (h2.at 0 rfl) hk98) (.cons rfl (run_field31 rfl (by decide) (h3.at 0 rfl)) (.cons rfl (run_load23 rfl (h4.at 0 rfl) cn) (.cons rfl (run_lenS rfl (by decide) (h5.at 0 rfl)) (.cons rfl (run_gtr rfl (h6.at 0 rfl)) (.nil _)))))))), (h7.at 0 rfl), h7.sub (Has.cons (h7.at 7 rfl) (Has.cons (h7.at 8 rfl) (Has.cons (h7.at 9 rfl) (Has.cons (h7.at 10 rfl) (Has.cons (h7.at 11 rfl) (Has.cons (h7.at 12 rfl) (Has.cons (h7.at 13 rfl) (Has.nil _))))))))⟩
    · intro s a hs0 hs1 hn0 h0
      have h1 := h0.put 344 (.int .i64 s) (by decide) rfl
      have h2 := h1.put 345 (.slice (some ⟨bA, offA, none⟩) n c3) (by decide) rfl
      have h3 := h2.put 346 (.int .i64 (k98 : Int)) (by decide) rfl
      have h4 := h3.put 347 (.pointer (some ⟨bA, offA + k98 * 11, none⟩)) (by decide) rfl
      have h5 := h4.put 348 (.pointer (some ⟨bA, offA + k98 * 11 + 2, none⟩)) (by decide) rfl
      have h6 := h5.put 349 (.slice an nn dn) (by decide) rfl
      have h7 := h6.put 350 (.int .i64 ((nn : Nat) : Int)) (by decide) rfl
      have h8 := h7.put 351 (.int .i64 (s + ((nn : Nat) : Int))) (by decide) rfl
      have h8d := h8.sub (Has.cons (h8.at 0 rfl) (Has.cons (h8.at 1 rfl) (Has.cons (h8.at 2 rfl) (Has.cons (h8.at 3 rfl) (Has.cons (h8.at 4 rfl) (Has.cons (h8.at 5 rfl) (Has.cons (h8.at 6 rfl) (Has.cons (h8.at 7 rfl) (Has.cons (h8.at 9 rfl) (Has.cons (h8.at 10 rfl) (Has.cons (h8.at 11 rfl) (Has.cons (h8.at 12 rfl) (Has.cons (h8.at 13 rfl) (Has.cons (h8.at 14 rfl) (Has.nil _)))))))))))))))
      have h9 := h8d.put 17 (.int .i64 (s + ((nn : Nat) : Int))) (by decide) rfl
      exact ⟨_, (.cons rfl (run_move' rfl (h0.at 0 rfl)) (.cons rfl (run_move' rfl (h1.at 4 rfl)) (.cons rfl (run_move' rfl (h2.at 3 rfl)) (.cons rfl (run_index26 rfl (h3.at 1 rfl) (h3.at 0 rfl) hk98) (.cons rfl (run_field31 rfl (by decide) (h4.at 0 rfl)) (.cons rfl (run_load23 rfl (h5.at 0 rfl) cn) (.cons rfl (run_lenS rfl (by decide) (h6.at 0 rfl)) (.cons rfl (run_add rfl (h7.at 6 rfl) (h7.at 0 rfl) (by omega) (by omega)) (.cons rfl (run_assign' rfl (h8.at 0 rfl)) (.nil _)))))))))), h9.sub (Has.cons (h9.at 0 rfl) (Has.cons (h9.at 9 rfl) (Has.cons (h9.at 10 rfl) (Has.cons (h9.at 11 rfl) (Has.cons (h9.at 12 rfl) (Has.cons (h9.at 13 rfl) (Has.cons (h9.at 14 rfl) (Has.nil _))))))))⟩
    · intro s a h0
      have h1 := h0.put 352 (.int .i64 s) (by decide) rfl
      have h2 := h1.put 353 (.bool (decide ((1048576 : Int) < s))) (by decide) rfl
      exact ⟨_, (.cons rfl (run_move' rfl (h0.at 0 rfl)) (.cons rfl (run_gtr rfl (h1.at 0 rfl)) (.nil _))), (h2.at 0 rfl), h2.sub (Has.cons (h2.at 2 rfl) (Has.cons (h2.at 3 rfl) (Has.cons (h2.at 4 rfl) (Has.cons (h2.at 5 rfl) (Has.cons (h2.at 6 rfl) (Has.cons (h2.at 7 rfl) (Has.cons (h2.at 8 rfl) (Has.nil _))))))))⟩
    refine Tr.seq (loopG (fun k => (A.next.getD k []).length ≤ 1048576) (L := [(25, .int .i64 (k98 : Int)), (1, .slice at_ nt ct), (3, .slice (some ⟨bA, offA, none⟩) n c3), (5, sv mark), (8, .pointer (some ⟨w.heap.size, 0, none⟩)), (10, .pointer (some ⟨(w.heap.size + 1), 0, none⟩))]) (n := nn) (idx := 27) (lo := (lo + (nv : Int) + (nn : Int))) hn114 ?_ ?_ ?_ (fun k119 hk119 => ?_)) ?_
    · intro s a h0
      have h1 := h0.put 27 (.int .i64 ((0 : Nat) : Int)) (by decide) rfl
      exact ⟨_, (.cons rfl (run_const rfl) (.nil _)), h1.sub (Has.cons (h1.at 1 rfl) (Has.cons (h1.at 0 rfl) (Has.cons (h1.at 2 rfl) (Has.cons (h1.at 3 rfl) (Has.cons (h1.at 4 rfl) (Has.cons (h1.at 5 rfl) (Has.cons (h1.at 6 rfl) (Has.cons (h1.at 7 rfl) (Has.nil _)))))))))⟩
    · intro s k a h0
      have h1 := h0.put 354 (.int .i64 (k : Int)) (by decide) rfl
      have h2 := h1.put 355 (.slice (some ⟨bA, offA, none⟩) n c3) (by decide) rfl
      have h3 := h2.put 356 (.int .i64 (k98 : Int)) (by decide) rfl
      have h4 := h3.put 357 (.pointer (some ⟨bA, offA + k98 * 11, none⟩)) (by decide) rfl
      have h5 := h4.put 358 (.pointer (some ⟨bA, offA + k98 * 11 + 2, none⟩)) (by decide) rfl
      have h6 := h5.put 359 (.slice an nn dn) (by decide) rfl
      have h7 := h6.put 360 (.int .i64 ((nn : Nat) : Int)) (by decide) rfl
      have h8 := h7.put 361 (.bool (decide ((k : Int) < ((nn : Nat) : Int)))) (by decide) rfl
      exact ⟨_, (.cons rfl (run_move' rfl (h0.at 1 rfl)) (.cons rfl (run_move' rfl (h1.at 5 rfl)) (.cons rfl (run_move' rfl (h2.at 4 rfl)) (.cons rfl (run_index26 rfl (h3.at 1 rfl) (h3.at 0 rfl) hk98) (.cons rfl (run_field31 rfl (by decide) (h4.at 0 rfl)) (.cons rfl (run_load23 rfl (h5.at 0 rfl) cn) (.cons rfl (run_lenS rfl (by decide) (h6.at 0 rfl)) (.cons rfl (run_lss rfl (h7.at 6 rfl) (h7.at 0 rfl)) (.nil _))))))))), (h8.at 0 rfl), h8.sub (Has.cons (h8.at 8 rfl) (Has.cons (h8.at 9 rfl) (Has.cons (h8.at 10 rfl) (Has.cons (h8.at 11 rfl) (Has.cons (h8.at 12 rfl) (Has.cons (h8.at 13 rfl) (Has.cons (h8.at 14 rfl) (Has.cons (h8.at 15 rfl) (Has.nil _)))))))))⟩
    · intro s k a hk h0
      have h1 := h0.put 362 (.int .i64 (k : Int)) (by decide) rfl
      have h2 := h1.put 363 (.int .i64 ((k + 1 : Nat) : Int)) (by decide) rfl
      have h2d := h2.sub (Has.cons (h2.at 0 rfl) (Has.cons (h2.at 1 rfl) (Has.cons (h2.at 2 rfl) (Has.cons (h2.at 4 rfl) (Has.cons (h2.at 5 rfl) (Has.cons (h2.at 6 rfl) (Has.cons (h2.at 7 rfl) (Has.cons (h2.at 8 rfl) (Has.cons (h2.at 9 rfl) (Has.nil _))))))))))
      have h3 := h2d.put 27 (.int .i64 ((k + 1 : Nat) : Int)) (by decide) rfl
      exact ⟨_, (.cons rfl (run_move' rfl (h0.at 1 rfl)) (.cons rfl (run_inc' rfl (h1.at 0 rfl) hk) (.cons rfl (run_assign' rfl (h2.at 0 rfl)) (.nil _)))), h3.sub (Has.cons (h3.at 3 rfl) (Has.cons (h3.at 0 rfl) (Has.cons (h3.at 4 rfl) (Has.cons (h3.at 5 rfl) (Has.cons (h3.at 6 rfl) (Has.cons (h3.at 7 rfl) (Has.cons (h3.at 8 rfl) (Has.cons (h3.at 9 rfl) (Has.nil _)))))))))⟩
    · skip
      obtain ⟨b122, off122, rfl, hc122⟩ := Ln.row (by omega)
      have cc122 := hc122 k119 hk119
      obtain ⟨x122, hx122⟩ : ∃ x, x = A.next.getD k119 [] := ⟨_, rfl⟩
      rw [← hx122] at cc122 ⊢
      refine seg13' (L := [(27, .int .i64 (k119 : Int)), (25, .int .i64 (k98 : Int)), (1, .slice at_ nt ct), (3, .slice (some ⟨bA, offA, none⟩) n c3), (5, sv mark), (8, .pointer (some ⟨w.heap.size, 0, none⟩)), (10, .pointer (some ⟨(w.heap.size + 1), 0, none⟩))]) (n := x122.length) (lo := (lo + (nv : Int) + (nn : Int))) rfl rfl rfl rfl rfl rfl (by omega) ?_ ?_ ?_
      · intro s a h0
        have h1 := h0.put 364 (.slice (some ⟨bA, offA, none⟩) n c3) (by decide) rfl
        have h2 := h1.put 365 (.int .i64 (k98 : Int)) (by decide) rfl
        have h3 := h2.put 366 (.pointer (some ⟨bA, offA + k98 * 11, none⟩)) (by decide) rfl
        have h4 := h3.put 367 (.pointer (some ⟨bA, offA + k98 * 11 + 2, none⟩)) (by decide) rfl
        have h5 := h4.put 368 (.slice (some ⟨b122, off122, none⟩) nn dn) (by decide) rfl
        have h6 := h5.put 369 (.int .i64 (k119 : Int)) (by decide) rfl
        have h7 := h6.put 370 (.pointer (some ⟨b122, off122 + k119, none⟩)) (by decide) rfl
        have h8 := h7.put 371 (sv x122) (by decide) rfl
        have h9 := h8.put 372 (.int .i64 ((x122.length : Nat) : Int)) (by decide) rfl
        have h10 := h9.put 373 (.bool (decide ((1048576 : Int) < ((x122.length : Nat) : Int)))) (by decide) rfl
        exact ⟨_, (.cons rfl (run_move' rfl (h0.at 4 rfl)) (.cons rfl (run_move' rfl (h1.at 3 rfl)) (.cons rfl (run_index26 rfl (h2.at 1 rfl) (h2.at 0 rfl) hk98) (.cons rfl (run_field31 rfl (by decide) (h3.at 0 rfl)) (.cons rfl (run_load23 rfl (h4.at 0 rfl) cn) (.cons rfl (run_move' rfl (h5.at 6 rfl)) (.cons rfl (run_index23 rfl (h6.at 1 rfl) (h6.at 0 rfl) hk119) (.cons rfl (run_load9 rfl (h7.at 0 rfl) cc122) (.cons rfl (run_lenT rfl (h8.at 0 rfl)) (.cons rfl (run_gtr rfl (h9.at 0 rfl)) (.nil _))))))))))), (h10.at 0 rfl), h10.sub (Has.cons (h10.at 10 rfl) (Has.cons (h10.at 11 rfl) (Has.cons (h10.at 12 rfl) (Has.cons (h10.at 13 rfl) (Has.cons (h10.at 14 rfl) (Has.cons (h10.at 15 rfl) (Has.cons (h10.at 16 rfl) (Has.cons (h10.at 17 rfl) (Has.nil _)))))))))⟩
      · intro s a hs0 hs1 hn0 h0
        have h1 := h0.put 374 (.int .i64 s) (by decide) rfl
        have h2 := h1.put 375 (.slice (some ⟨bA, offA, none⟩) n c3) (by decide) rfl
        have h3 := h2.put 376 (.int .i64 (k98 : Int)) (by decide) rfl
        have h4 := h3.put 377 (.pointer (some ⟨bA, offA + k98 * 11, none⟩)) (by decide) rfl
        have h5 := h4.put 378 (.pointer (some ⟨bA, offA + k98 * 11 + 2, none⟩)) (by decide) rfl
        have h6 := h5.put 379 (.slice (some ⟨b122, off122, none⟩) nn dn) (by decide) rfl
        have h7 := h6.put 380 (.int .i64 (k119 : Int)) (by decide) rfl
        have h8 := h7.put 381 (.pointer (some ⟨b122, off122 + k119, none⟩)) (by decide) rfl
        have h9 := h8.put 382 (sv x122) (by decide) rfl
        have h10 := h9.put 383 (.int .i64 ((x122.length : Nat) : Int)) (by decide) rfl
        have h11 := h10.put 384 (.int .i64 (s + ((x122.length : Nat) : Int))) (by decide) rfl
        have h11d := h11.sub (Has.cons (h11.at 0 rfl) (Has.cons (h11.at 1 rfl) (Has.cons (h11.at 2 rfl) (Has.cons (h11.at 3 rfl) (Has.cons (h11.at 4 rfl) (Has.cons (h11.at 5 rfl) (Has.cons (h11.at 6 rfl) (Has.cons (h11.at 7 rfl) (Has.cons (h11.at 8 rfl) (Has.cons (h11.at 9 rfl) (Has.cons (h11.at 10 rfl) (Has.cons (h11.at 12 rfl) (Has.cons (h11.at 13 rfl) (Has.cons (h11.at 14 rfl) (Has.cons (h11.at 15 rfl) (Has.cons (h11.at 16 rfl) (Has.cons (h11.at 17 rfl) (Has.cons (h11.at 18 rfl) (Has.nil _)))))))))))))))))))
        have h12 := h11d.put 17 (.int .i64 (s + ((x122.length : Nat) : Int))) (by decide) rfl
        exact ⟨_, (.cons rfl (run_move' rfl (h0.at 0 rfl)) (.cons rfl (run_move' rfl (h1.at 5 rfl)) (.cons rfl (run_move' rfl (h2.at 4 rfl)) (.cons rfl (run_index26 rfl (h3.at 1 rfl) (h3.at 0 rfl) hk98) (.cons rfl (run_field31 rfl (by decide) (h4.at 0 rfl)) (.cons rfl (run_load23 rfl (h5.at 0 rfl) cn) (.cons rfl (run_move' rfl (h6.at 7 rfl)) (.cons rfl (run_index23 rfl (h7.at 1 rfl) (h7.at 0 rfl) hk119) (.cons rfl (run_load9 rfl (h8.at 0 rfl) cc122) (.cons rfl (run_lenT rfl (h9.at 0 rfl)) (.cons rfl (run_add rfl (h10.at 9 rfl) (h10.at 0 rfl) (by omega) (by omega)) (.cons rfl (run_assign' rfl (h11.at 0 rfl)) (.nil _))))))))))))), h12.sub (Has.cons (h12.at 0 rfl) (Has.cons (h12.at 12 rfl) (Has.cons (h12.at 13 rfl) (Has.cons (h12.at 14 rfl) (Has.cons (h12.at 15 rfl) (Has.cons (h12.at 16 rfl) (Has.cons (h12.at 17 rfl) (Has.cons (h12.at 18 rfl) (Has.nil _)))))))))⟩
      · intro s a h0
        have h1 := h0.put 385 (.int .i64 s) (by decide) rfl
        have h2 := h1.put 386 (.bool (decide ((1048576 : Int) < s))) (by decide) rfl
        exact ⟨_, (.cons rfl (run_move' rfl (h0.at 0 rfl)) (.cons rfl (run_gtr rfl (h1.at 0 rfl)) (.nil _))), (h2.at 0 rfl), h2.sub (Has.cons (h2.at 2 rfl) (Has.cons (h2.at 3 rfl) (Has.cons (h2.at 4 rfl) (Has.cons (h2.at 5 rfl) (Has.cons (h2.at 6 rfl) (Has.cons (h2.at 7 rfl) (Has.cons (h2.at 8 rfl) (Has.cons (h2.at 9 rfl) (Has.nil _)))))))))⟩
    refine Tr.fact (fun hPn => ?_)
    have HBn : BndL A.next := ⟨by rw [Ln.len]; exact hn114, fun q hq => hPn q (by rw [Ln.len] at hq; exact hq)⟩
    refine seg13 (L := [(25, .int .i64 (k98 : Int)), (1, .slice at_ nt ct), (3, .slice (some ⟨bA, offA, none⟩) n c3), (5, sv mark), (8, .pointer (some ⟨w.heap.size, 0, none⟩)), (10, .pointer (some ⟨(w.heap.size + 1), 0, none⟩))]) (n := nb) (lo := (lo + (nv : Int) + (nn : Int))) rfl rfl rfl rfl rfl rfl (by omega) ?_ ?_ ?_ (fun hn127 => ?_)
    · intro s a h0
      have h1 := h0.put 387 (.slice (some ⟨bA, offA, none⟩) n c3) (by decide) rfl
      have h2 := h1.put 388 (.int .i64 (k98 : Int)) (by decide) rfl
      have h3 := h2.put 389 (.pointer (some ⟨bA, offA + k98 * 11, none⟩)) (by decide) rfl
      have h4 := h3.put 390 (.pointer (some ⟨bA, offA + k98 * 11 + 4, none⟩)) (by decide) rfl
      have h5 := h4.put 391 (.slice ab nb db) (by decide) rfl
      have h6 := h5.put 392 (.int .i64 ((nb : Nat) : Int)) (by decide) rfl
      have h7 := h6.put 393 (.bool (decide ((1048576 : Int) < ((nb : Nat) : Int)))) (by decide) rfl
      exact ⟨_, (.cons rfl (run_move' rfl (h0.at 3 rfl)) (.cons rfl (run_move' rfl (h1.at 2 rfl)) (.cons rfl (run_index26 rfl (h2.at 1 rfl) (h2.at 0 rfl) hk98) (.cons rfl (run_field31 rfl (by decide) (h3.at 0 rfl)) (.cons rfl (run_load29 rfl (h4.at 0 rfl) cb) (.cons rfl (run_lenS rfl (by decide) (h5.at 0 rfl)) (.cons rfl (run_gtr rfl (h6.at 0 rfl)) (.nil _)))))))), (h7.at 0 rfl), h7.sub (Has.cons (h7.at 7 rfl) (Has.cons (h7.at 8 rfl) (Has.cons (h7.at 9 rfl) (Has.cons (h7.at 10 rfl) (Has.cons (h7.at 11 rfl) (Has.cons (h7.at 12 rfl) (Has.cons (h7.at 13 rfl) (Has.nil _))))))))⟩
    · intro s a hs0 hs1 hn0 h0
      have h1 := h0.put 394 (.int .i64 s) (by decide) rfl
      have h2 := h1.put 395 (.slice (some ⟨bA, offA, none⟩) n c3) (by decide) rfl
      have h3 := h2.put 396 (.int .i64 (k98 : Int)) (by decide) rfl
      have h4 := h3.put 397 (.pointer (some ⟨bA, offA + k98 * 11, none⟩)) (by decide) rfl
      have h5 := h4.put 398 (.pointer (some ⟨bA, offA + k98 * 11 + 4, none⟩)) (by decide) rfl
      have h6 := h5.put 399 (.slice ab nb db) (by decide) rfl
      have h7 := h6.put 400 (.int .i64 ((nb : Nat) : Int)) (by decide) rfl
      have h8 := h7.put 401 (.int .i64 (s + ((nb : Nat) : Int))) (by decide) rfl
      have h8d := h8.sub (Has.cons (h8.at 0 rfl) (Has.cons (h8.at 1 rfl) (Has.cons (h8.at 2 rfl) (Has.cons (h8.at 3 rfl) (Has.cons (h8.at 4 rfl) (Has.cons (h8.at 5 rfl) (Has.cons (h8.at 6 rfl) (Has.cons (h8.at 7 rfl) (Has.cons (h8.at 9 rfl) (Has.cons (h8.at 10 rfl) (Has.cons (h8.at 11 rfl) (Has.cons (h8.at 12 rfl) (Has.cons (h8.at 13 rfl) (Has.cons (h8.at 14 rfl) (Has.nil _)))))))))))))))
      have h9 := h8d.put 17 (.int .i64 (s + ((nb : Nat) : Int))) (by decide) rfl
      exact ⟨_, (.cons rfl (run_move' rfl (h0.at 0 rfl)) (.cons rfl (run_move' rfl (h1.at 4 rfl)) (.cons rfl (run_move' rfl (h2.at 3 rfl)) (.cons rfl (run_index26 rfl (h3.at 1 rfl) (h3.at 0 rfl) hk98) (.cons rfl (run_field31 rfl (by decide) (h4.at 0 rfl)) (.cons rfl (run_load29 rfl (h5.at 0 rfl) cb) (.cons rfl (run_lenS rfl (by decide) (h6.at 0 rfl)) (.cons rfl (run_add rfl (h7.at 6 rfl) (h7.at 0 rfl) (by omega) (by omega)) (.cons rfl (run_assign' rfl (h8.at 0 rfl)) (.nil _)))))))))), h9.sub (Has.cons (h9.at 0 rfl) (Has.cons (h9.at 9 rfl) (Has.cons (h9.at 10 rfl) (Has.cons (h9.at 11 rfl) (Has.cons (h9.at 12 rfl) (Has.cons (h9.at 13 rfl) (Has.cons (h9.at 14 rfl) (Has.nil _))))))))⟩
    · intro s a h0
      have h1 := h0.put 402 (.int .i64 s) (by decide) rfl
      have h2 := h1.put 403 (.bool (decide ((1048576 : Int) < s))) (by decide) rfl
      exact ⟨_, (.cons rfl (run_move' rfl (h0.at 0 rfl)) (.cons rfl (run_gtr rfl (h1.at 0 rfl)) (.nil _))), (h2.at 0 rfl), h2.sub (Has.cons (h2.at 2 rfl) (Has.cons (h2.at 3 rfl) (Has.cons (h2.at 4 rfl) (Has.cons (h2.at 5 rfl) (Has.cons (h2.at 6 rfl) (Has.cons (h2.at 7 rfl) (Has.cons (h2.at 8 rfl) (Has.nil _))))))))⟩
    refine Tr.seq (loopG (fun k => BndL (A.before.getD k [])) (L := [(25, .int .i64 (k98 : Int)), (1, .slice at_ nt ct), (3, .slice (some ⟨bA, offA, none⟩) n c3), (5, sv mark), (8, .pointer (some ⟨w.heap.size, 0, none⟩)), (10, .pointer (some ⟨(w.heap.size + 1), 0, none⟩))]) (n := nb) (idx := 28) (lo := (lo + (nv : Int) + (nn : Int) + (nb : Int))) hn127 ?_ ?_ ?_ (fun k132 hk132 => ?_)) ?_
    · intro s a h0
      have h1 := h0.put 28 (.int .i64 ((0 : Nat) : Int)) (by decide) rfl
      exact ⟨_, (.cons rfl (run_const rfl) (.nil _)), h1.sub (Has.cons (h1.at 1 rfl) (Has.cons (h1.at 0 rfl) (Has.cons (h1.at 2 rfl) (Has.cons (h1.at 3 rfl) (Has.cons (h1.at 4 rfl) (Has.cons (h1.at 5 rfl) (Has.cons (h1.at 6 rfl) (Has.cons (h1.at 7 rfl) (Has.nil _)))))))))⟩
    · intro s k a h0
      have h1 := h0.put 404 (.int .i64 (k : Int)) (by decide) rfl
      have h2 := h1.put 405 (.slice (some ⟨bA, offA, none⟩) n c3) (by decide) rfl
      have h3 := h2.put 406 (.int .i64 (k98 : Int)) (by decide) rfl
      have h4 := h3.put 407 (.pointer (some ⟨bA, offA + k98 * 11, none⟩)) (by decide) rfl
      have h5 := h4.put 408 (.pointer (some ⟨bA, offA + k98 * 11 + 4, none⟩)) (by decide) rfl
      have h6 := h5.put 409 (.slice ab nb db) (by decide) rfl
      have h7 := h6.put 410 (.int .i64 ((nb : Nat) : Int)) (by decide) rfl
      have h8 := h7.put 411 (.bool (decide ((k : Int) < ((nb : Nat) : Int)))) (by decide) rfl
      exact ⟨_, (.cons rfl (run_move' rfl (h0.at 1 rfl)) (.cons rfl (run_move' rfl (h1.at 5 rfl)) (.cons rfl (run_move' rfl (h2.at 4 rfl)) (.cons rfl (run_index26 rfl (h3.at 1 rfl) (h3.at 0 rfl) hk98) (.cons rfl (run_field31 rfl (by decide) (h4.at 0 rfl)) (.cons rfl (run_load29 rfl (h5.at 0 rfl) cb) (.cons rfl (run_lenS rfl (by decide) (h6.at 0 rfl)) (.cons rfl (run_lss rfl (h7.at 6 rfl) (h7.at 0 rfl)) (.nil _))))))))), (h8.at 0 rfl), h8.sub (Has.cons (h8.at 8 rfl) (Has.cons (h8.at 9 rfl) (Has.cons (h8.at 10 rfl) (Has.cons (h8.at 11 rfl) (Has.cons (h8.at 12 rfl) (Has.cons (h8.at 13 rfl) (Has.cons (h8.at 14 rfl) (Has.cons (h8.at 15 rfl) (Has.nil _)))))))))⟩
    · intro s k a hk h0
      have h1 := h0.put 412 (.int .i64 (k : Int)) (by decide) rfl
      have h2 := h1.put 413 (.int .i64 ((k + 1 : Nat) : Int)) (by decide) rfl
      have h2d := h2.sub (Has.cons (h2.at 0 rfl) (Has.cons (h2.at 1 rfl) (Has.cons (h2.at 2 rfl) (Has.cons (h2.at 4 rfl) (Has.cons (h2.at 5 rfl) (Has.cons (h2.at 6 rfl) (Has.cons (h2.at 7 rfl) (Has.cons (h2.at 8 rfl) (Has.cons (h2.at 9 rfl) (Has.nil _))))))))))
      have h3 := h2d.put 28 (.int .i64 ((k + 1 : Nat) : Int)) (by decide) rfl
      exact ⟨_, (.cons rfl (run_move' rfl (h0.at 1 rfl)) (.cons rfl (run_inc' rfl (h1.at 0 rfl) hk) (.cons rfl (run_assign' rfl (h2.at 0 rfl)) (.nil _)))), h3.sub (Has.cons (h3.at 3 rfl) (Has.cons (h3.at 0 rfl) (Has.cons (h3.at 4 rfl) (Has.cons (h3.at 5 rfl) (Has.cons (h3.at 6 rfl) (Has.cons (h3.at 7 rfl) (Has.cons (h3.at 8 rfl) (Has.cons (h3.at 9 rfl) (Has.nil _)))))))))⟩
    · skip
      obtain ⟨b135, off135, rfl, hc135⟩ := Lb.row (by omega)
      obtain ⟨ai135, ni135, ci135, cc135, Li135⟩ := hc135 k132 hk132
      obtain ⟨ys135, hy135⟩ : ∃ ys, ys = A.before.getD k132 [] := ⟨_, rfl⟩
      rw [← hy135] at Li135 ⊢
      refine seg13 (L := [(28, .int .i64 (k132 : Int)), (25, .int .i64 (k98 : Int)), (1, .slice at_ nt ct), (3, .slice (some ⟨bA, offA, none⟩) n c3), (5, sv mark), (8, .pointer (some ⟨w.heap.size, 0, none⟩)), (10, .pointer (some ⟨(w.heap.size + 1), 0, none⟩))]) (n := ni135) (lo := (lo + (nv : Int) + (nn : Int) + (nb : Int))) rfl rfl rfl rfl rfl rfl (by omega) ?_ ?_ ?_ (fun hn135 => ?_)
      · intro s a h0
        have h1 := h0.put 414 (.slice (some ⟨bA, offA, none⟩) n c3) (by decide) rfl
        have h2 := h1.put 415 (.int .i64 (k98 : Int)) (by decide) rfl
        have h3 := h2.put 416 (.pointer (some ⟨bA, offA + k98 * 11, none⟩)) (by decide) rfl
        have h4 := h3.put 417 (.pointer (some ⟨bA, offA + k98 * 11 + 4, none⟩)) (by decide) rfl
        have h5 := h4.put 418 (.slice (some ⟨b135, off135, none⟩) nb db) (by decide) rfl
        have h6 := h5.put 419 (.int .i64 (k132 : Int)) (by decide) rfl
        have h7 := h6.put 420 (.pointer (some ⟨b135, off135 + k132, none⟩)) (by decide) rfl
        have h8 := h7.put 421 (.slice ai135 ni135 ci135) (by decide) rfl
        have h9 := h8.put 422 (.int .i64 ((ni135 : Nat) : Int)) (by decide) rfl
        have h10 := h9.put 423 (.bool (decide ((1048576 : Int) < ((ni135 : Nat) : Int)))) (by decide) rfl
        exact ⟨_, (.cons rfl (run_move' rfl (h0.at 4 rfl)) (.cons rfl (run_move' rfl (h1.at 3 rfl)) (.cons rfl (run_index26 rfl (h2.at 1 rfl) (h2.at 0 rfl) hk98) (.cons rfl (run_field31 rfl (by decide) (h3.at 0 rfl)) (.cons rfl (run_load29 rfl (h4.at 0 rfl) cb) (.cons rfl (run_move' rfl (h5.at 6 rfl)) (.cons rfl (run_index29 rfl (h6.at 1 rfl) (h6.at 0 rfl) hk132) (.cons rfl (run_load23 rfl (h7.at 0 rfl) cc135) (.cons rfl (run_lenS rfl (by decide) (h8.at 0 rfl)) (.cons rfl (run_gtr rfl (h9.at 0 rfl)) (.nil _))))))))))), (h10.at 0 rfl), h10.sub (Has.cons (h10.at 10 rfl) (Has.cons (h10.at 11 rfl) (Has.cons (h10.at 12 rfl) (Has.cons (h10.at 13 rfl) (Has.cons (h10.at 14 rfl) (Has.cons (h10.at 15 rfl) (Has.cons (h10.at 16 rfl) (Has.cons (h10.at 17 rfl) (Has.nil _)))))))))⟩
      · intro s a hs0 hs1 hn0 h0
        have h1 := h0.put 424 (.int .i64 s) (by decide) rfl
        have h2 := h1.put 425 (.slice (some ⟨bA, offA, none⟩) n c3) (by decide) rfl
        have h3 := h2.put 426 (.int .i64 (k98 : Int)) (by decide) rfl
        have h4 := h3.put 427 (.pointer (some ⟨bA, offA + k98 * 11, none⟩)) (by decide) rfl
        have h5 := h4.put 428 (.pointer (some ⟨bA, offA + k98 * 11 + 4, none⟩)) (by decide) rfl
        have h6 := h5.put 429 (.slice (some ⟨b135, off135, none⟩) nb db) (by decide) rfl
        have h7 := h6.put 430 (.int .i64 (k132 : Int)) (by decide) rfl
        have h8 := h7.put 431 (.pointer (some ⟨b135, off135 + k132, none⟩)) (by decide) rfl
        have h9 := h8.put 432 (.slice ai135 ni135 ci135) (by decide) rfl
        have h10 := h9.put 433 (.int .i64 ((ni135 : Nat) : Int)) (by decide) rfl
        have h11 := h10.put 434 (.int .i64 (s + ((ni135 : Nat) : Int))) (by decide) rfl
        have h11d := h11.sub (Has.cons (h11.at 0 rfl) (Has.cons (h11.at 1 rfl) (Has.cons (h11.at 2 rfl) (Has.cons (h11.at 3 rfl) (Has.cons (h11.at 4 rfl) (Has.cons (h11.at 5 rfl) (Has.cons (h11.at 6 rfl) (Has.cons (h11.at 7 rfl) (Has.cons (h11.at 8 rfl) (Has.cons (h11.at 9 rfl) (Has.cons (h11.at 10 rfl) (Has.cons (h11.at 12 rfl) (Has.cons (h11.at 13 rfl) (Has.cons (h11.at 14 rfl) (Has.cons (h11.at 15 rfl) (Has.cons (h11.at 16 rfl) (Has.cons (h11.at 17 rfl) (Has.cons (h11.at 18 rfl) (Has.nil _)))))))))))))))))))
        have h12 := h11d.put 17 (.int .i64 (s + ((ni135 : Nat) : Int))) (by decide) rfl
        exact ⟨_, (.cons rfl (run_move' rfl (h0.at 0 rfl)) (.cons rfl (run_move' rfl (h1.at 5 rfl)) (.cons rfl (run_move' rfl (h2.at 4 rfl)) (.cons rfl (run_index26 rfl (h3.at 1 rfl) (h3.at 0 rfl) hk98) (.cons rfl (run_field31 rfl (by decide) (h4.at 0 rfl)) (.cons rfl (run_load29 rfl (h5.at 0 rfl) cb) (.cons rfl (run_move' rfl (h6.at 7 rfl)) (.cons rfl (run_index29 rfl (h7.at 1 rfl) (h7.at 0 rfl) hk132) (.cons rfl (run_load23 rfl (h8.at 0 rfl) cc135) (.cons rfl (run_lenS rfl (by decide) (h9.at 0 rfl)) (.cons rfl (run_add rfl (h10.at 9 rfl) (h10.at 0 rfl) (by omega) (by omega)) (.cons rfl (run_assign' rfl (h11.at 0 rfl)) (.nil _))))))))))))), h12.sub (Has.cons (h12.at 0 rfl) (Has.cons (h12.at 12 rfl) (Has.cons (h12.at 13 rfl) (Has.cons (h12.at 14 rfl) (Has.cons (h12.at 15 rfl) (Has.cons (h12.at 16 rfl) (Has.cons (h12.at 17 rfl) (Has.cons (h12.at 18 rfl) (Has.nil _)))))))))⟩
      · intro s a h0
        have h1 := h0.put 435 (.int .i64 s) (by decide) rfl
        have h2 := h1.put 436 (.bool (decide ((1048576 : Int) < s))) (by decide) rfl
        exact ⟨_, (.cons rfl (run_move' rfl (h0.at 0 rfl)) (.cons rfl (run_gtr rfl (h1.at 0 rfl)) (.nil _))), (h2.at 0 rfl), h2.sub (Has.cons (h2.at 2 rfl) (Has.cons (h2.at 3 rfl) (Has.cons (h2.at 4 rfl) (Has.cons (h2.at 5 rfl) (Has.cons (h2.at 6 rfl) (Has.cons (h2.at 7 rfl) (Has.cons (h2.at 8 rfl) (Has.cons (h2.at 9 rfl) (Has.nil _)))))))))⟩
      refine Tr.mono (q := fun a => (∃ s : Int, ((lo + (nv : Int) + (nn : Int) + (nb : Int)) + (ni135 : Int)) ≤ s ∧ s ≤ 1048576 ∧ Fr 597 a ((17, .int .i64 s) :: [(28, .int .i64 (k132 : Int)), (25, .int .i64 (k98 : Int)), (1, .slice at_ nt ct), (3, .slice (some ⟨bA, offA, none⟩) n c3), (5, sv mark), (8, .pointer (some ⟨w.heap.size, 0, none⟩)), (10, .pointer (some ⟨(w.heap.size + 1), 0, none⟩))])) ∧ ∀ q, q < ni135 → (ys135.getD q []).length ≤ 1048576) ?_ (fun a h => ?_)
      rotate_left
      · obtain ⟨⟨s, h1, h2, h3⟩, hP⟩ := h
        exact ⟨⟨s, by omega, h2, h3⟩, by rw [Li135.len]; exact hn135, fun q hq => hP q (by rw [Li135.len] at hq; exact hq)⟩
      refine (loopG (fun k => (ys135.getD k []).length ≤ 1048576) (L := [(28, .int .i64 (k132 : Int)), (25, .int .i64 (k98 : Int)), (1, .slice at_ nt ct), (3, .slice (some ⟨bA, offA, none⟩) n c3), (5, sv mark), (8, .pointer (some ⟨w.heap.size, 0, none⟩)), (10, .pointer (some ⟨(w.heap.size + 1), 0, none⟩))]) (n := ni135) (idx := 29) (lo := ((lo + (nv : Int) + (nn : Int) + (nb : Int)) + (ni135 : Int))) hn135 ?_ ?_ ?_ (fun k140 hk140 => ?_))
      · intro s a h0
        have h1 := h0.put 29 (.int .i64 ((0 : Nat) : Int)) (by decide) rfl
        exact ⟨_, (.cons rfl (run_const rfl) (.nil _)), h1.sub (Has.cons (h1.at 1 rfl) (Has.cons (h1.at 0 rfl) (Has.cons (h1.at 2 rfl) (Has.cons (h1.at 3 rfl) (Has.cons (h1.at 4 rfl) (Has.cons (h1.at 5 rfl) (Has.cons (h1.at 6 rfl) (Has.cons (h1.at 7 rfl) (Has.cons (h1.at 8 rfl) (Has.nil _))))))))))⟩
      · intro s k a h0
        have h1 := h0.put 437 (.int .i64 (k : Int)) (by decide) rfl
        have h2 := h1.put 438 (.slice (some ⟨bA, offA, none⟩) n c3) (by decide) rfl
        have h3 := h2.put 439 (.int .i64 (k98 : Int)) (by decide) rfl
        have h4 := h3.put 440 (.pointer (some ⟨bA, offA + k98 * 11, none⟩)) (by decide) rfl
        have h5 := h4.put 441 (.pointer (some ⟨bA, offA + k98 * 11 + 4, none⟩)) (by decide) rfl
        have h6 := h5.put 442 (.slice (some ⟨b135, off135, none⟩) nb db) (by decide) rfl
        have h7 := h6.put 443 (.int .i64 (k132 : Int)) (by decide) rfl
        have h8 := h7.put 444 (.pointer (some ⟨b135, off135 + k132, none⟩)) (by decide) rfl
        have h9 := h8.put 445 (.slice ai135 ni135 ci135) (by decide) rfl
        have h10 := h9.put 446 (.int .i64 ((ni135 : Nat) : Int)) (by decide) rfl
        have h11 := h10.put 447 (.bool (decide ((k : Int) < ((ni135 : Nat) : Int)))) (by decide) rfl
        exact ⟨_, (.cons rfl (run_move' rfl (h0.at 1 rfl)) (.cons rfl (run_move' rfl (h1.at 6 rfl)) (.cons rfl (run_move' rfl (h2.at 5 rfl)) (.cons rfl (run_index26 rfl (h3.at 1 rfl) (h3.at 0 rfl) hk98) (.cons rfl (run_field31 rfl (by decide) (h4.at 0 rfl)) (.cons rfl (run_load29 rfl (h5.at 0 rfl) cb) (.cons rfl (run_move' rfl (h6.at 8 rfl)) (.cons rfl (run_index29 rfl (h7.at 1 rfl) (h7.at 0 rfl) hk132) (.cons rfl (run_load23 rfl (h8.at 0 rfl) cc135) (.cons rfl (run_lenS rfl (by decide) (h9.at 0 rfl)) (.cons rfl (run_lss rfl (h10.at 9 rfl) (h10.at 0 rfl)) (.nil _)))))))))))), (h11.at 0 rfl), h11.sub (Has.cons (h11.at 11 rfl) (Has.cons (h11.at 12 rfl) (Has.cons (h11.at 13 rfl) (Has.cons (h11.at 14 rfl) (Has.cons (h11.at 15 rfl) (Has.cons (h11.at 16 rfl) (Has.cons (h11.at 17 rfl) (Has.cons (h11.at 18 rfl) (Has.cons (h11.at 19 rfl) (Has.nil _))))))))))⟩
      · intro s k a hk h0
        have h1 := h0.put 448 (.int .i64 (k : Int)) (by decide) rfl
        have h2 := h1.put 449 (.int .i64 ((k + 1 : Nat) : Int)) (by decide) rfl
        have h2d := h2.sub (Has.cons (h2.at 0 rfl) (Has.cons (h2.at 1 rfl) (Has.cons (h2.at 2 rfl) (Has.cons (h2.at 4 rfl) (Has.cons (h2.at 5 rfl) (Has.cons (h2.at 6 rfl) (Has.cons (h2.at 7 rfl) (Has.cons (h2.at 8 rfl) (Has.cons (h2.at 9 rfl) (Has.cons (h2.at 10 rfl) (Has.nil _)))))))))))
        have h3 := h2d.put 29 (.int .i64 ((k + 1 : Nat) : Int)) (by decide) rfl
        exact ⟨_, (.cons rfl (run_move' rfl (h0.at 1 rfl)) (.cons rfl (run_inc' rfl (h1.at 0 rfl) hk) (.cons rfl (run_assign' rfl (h2.at 0 rfl)) (.nil _)))), h3.sub (Has.cons (h3.at 3 rfl) (Has.cons (h3.at 0 rfl) (Has.cons (h3.at 4 rfl) (Has.cons (h3.at 5 rfl) (Has.cons (h3.at 6 rfl) (Has.cons (h3.at 7 rfl) (Has.cons (h3.at 8 rfl) (Has.cons (h3.at 9 rfl) (Has.cons (h3.at 10 rfl) (Has.nil _))))))))))⟩
      · skip
        obtain ⟨b143, off143, rfl, hc143⟩ := Li135.row (by omega)
        have cc143 := hc143 k140 hk140
        obtain ⟨x143, hx143⟩ : ∃ x, x = ys135.getD k140 [] := ⟨_, rfl⟩
        rw [← hx143] at cc143 ⊢
        refine seg13' (L := [(29, .int .i64 (k140 : Int)), (28, .int .i64 (k132 : Int)), (25, .int .i64 (k98 : Int)), (1, .slice at_ nt ct), (3, .slice (some ⟨bA, offA, none⟩) n c3), (5, sv mark), (8, .pointer (some ⟨w.heap.size, 0, none⟩)), (10, .pointer (some ⟨(w.heap.size + 1), 0, none⟩))]) (n := x143.length) (lo := ((lo + (nv : Int) + (nn : Int) + (nb : Int)) + (ni135 : Int))) rfl rfl rfl rfl rfl rfl (by omega) ?_ ?_ ?_
        · intro s a h0
          have h1 := h0.put 450 (.slice (some ⟨bA, offA, none⟩) n c3) (by decide) rfl
          have h2 := h1.put 451 (.int .i64 (k98 : Int)) (by decide) rfl
          have h3 := h2.put 452 (.pointer (some ⟨bA, offA + k98 * 11, none⟩)) (by decide) rfl
          have h4 := h3.put 453 (.pointer (some ⟨bA, offA + k98 * 11 + 4, none⟩)) (by decide) rfl
          have h5 := h4.put 454 (.slice (some ⟨b135, off135, none⟩) nb db) (by decide) rfl
          have h6 := h5.put 455 (.int .i64 (k132 : Int)) (by decide) rfl
          have h7 := h6.put 456 (.pointer (some ⟨b135, off135 + k132, none⟩)) (by decide) rfl
          have h8 := h7.put 457 (.slice (some ⟨b143, off143, none⟩) ni135 ci135) (by decide) rfl
          have h9 := h8.put 458 (.int .i64 (k140 : Int)) (by decide) rfl
          have h10 := h9.put 459 (.pointer (some ⟨b143, off143 + k140, none⟩)) (by decide) rfl
          have h11 := h10.put 460 (sv x143) (by decide) rfl
          have h12 := h11.put 461 (.int .i64 ((x143.length : Nat) : Int)) (by decide) rfl
          have h13 := h12.put 462 (.bool (decide ((1048576 : Int) < ((x143.length : Nat) : Int)))) (by decide) rfl
          exact ⟨_, (.cons rfl (run_move' rfl (h0.at 5 rfl)) (.cons rfl (run_move' rfl (h1.at 4 rfl)) (.cons rfl (run_index26 rfl (h2.at 1 rfl) (h2.at 0 rfl) hk98) (.cons rfl (run_field31 rfl (by decide) (h3.at 0 rfl)) (.cons rfl (run_load29 rfl (h4.at 0 rfl) cb) (.cons rfl (run_move' rfl (h5.at 7 rfl)) (.cons rfl (run_index29 rfl (h6.at 1 rfl) (h6.at 0 rfl) hk132) (.cons rfl (run_load23 rfl (h7.at 0 rfl) cc135) (.cons rfl (run_move' rfl (h8.at 9 rfl)) (.cons rfl (run_index23 rfl (h9.at 1 rfl) (h9.at 0 rfl) hk140) (.cons rfl (run_load9 rfl (h10.at 0 rfl) cc143) (.cons rfl (run_lenT rfl (h11.at 0 rfl)) (.cons rfl (run_gtr rfl (h12.at 0 rfl)) (.nil _)))))))))))))), (h13.at 0 rfl), h13.sub (Has.cons (h13.at 13 rfl) (Has.cons (h13.at 14 rfl) (Has.cons (h13.at 15 rfl) (Has.cons (h13.at 16 rfl) (Has.cons (h13.at 17 rfl) (Has.cons (h13.at 18 rfl) (Has.cons (h13.at 19 rfl) (Has.cons (h13.at 20 rfl) (Has.cons (h13.at 21 rfl) (Has.nil _))))))))))⟩
        · intro s a hs0 hs1 hn0 h0
          have h1 := h0.put 463 (.int .i64 s) (by decide) rfl
          have h2 := h1.put 464 (.slice (some ⟨bA, offA, none⟩) n c3) (by decide) rfl
          have h3 := h2.put 465 (.int .i64 (k98 : Int)) (by decide) rfl
          have h4 := h3.put 466 (.pointer (some ⟨bA, offA + k98 * 11, none⟩)) (by decide) rfl
          have h5 := h4.put 467 (.pointer (some ⟨bA, offA + k98 * 11 + 4, none⟩)) (by decide) rfl
          have h6 := h5.put 468 (.slice (some ⟨b135, off135, none⟩) nb db) (by decide) rfl
          have h7 := h6.put 469 (.int .i64 (k132 : Int)) (by decide) rfl
          have h8 := h7.put 470 (.pointer (some ⟨b135, off135 + k132, none⟩)) (by decide) rfl
          have h9 := h8.put 471 (.slice (some ⟨b143, off143, none⟩) ni135 ci135) (by decide) rfl
          have h10 := h9.put 472 (.int .i64 (k140 : Int)) (by decide) rfl
          have h11 := h10.put 473 (.pointer (some ⟨b143, off143 + k140, none⟩)) (by decide) rfl
          have h12 := h11.put 474 (sv x143) (by decide) rfl
          have h13 := h12.put 475 (.int .i64 ((x143.length : Nat) : Int)) (by decide) rfl
          have h14 := h13.put 476 (.int .i64 (s + ((x143.length : Nat) : Int))) (by decide) rfl
          have h14d := h14.sub (Has.cons (h14.at 0 rfl) (Has.cons (h14.at 1 rfl) (Has.cons (h14.at 2 rfl) (Has.cons (h14.at 3 rfl) (Has.cons (h14.at 4 rfl) (Has.cons (h14.at 5 rfl) (Has.cons (h14.at 6 rfl) (Has.cons (h14.at 7 rfl) (Has.cons (h14.at 8 rfl) (Has.cons (h14.at 9 rfl) (Has.cons (h14.at 10 rfl) (Has.cons (h14.at 11 rfl) (Has.cons (h14.at 12 rfl) (Has.cons (h14.at 13 rfl) (Has.cons (h14.at 15 rfl) (Has.cons (h14.at 16 rfl) (Has.cons (h14.at 17 rfl) (Has.cons (h14.at 18 rfl) (Has.cons (h14.at 19 rfl) (Has.cons (h14.at 20 rfl) (Has.cons (h14.at 21 rfl) (Has.cons (h14.at 22 rfl) (Has.nil _)))))))))))))))))))))))
          have h15 := h14d.put 17 (.int .i64 (s + ((x143.length : Nat) : Int))) (by decide) rfl
          exact ⟨_, (.cons rfl (run_move' rfl (h0.at 0 rfl)) (.cons rfl (run_move' rfl (h1.at 6 rfl)) (.cons rfl (run_move' rfl (h2.at 5 rfl)) (.cons rfl (run_index26 rfl (h3.at 1 rfl) (h3.at 0 rfl) hk98) (.cons rfl (run_field31 rfl (by decide) (h4.at 0 rfl)) (.cons rfl (run_load29 rfl (h5.at 0 rfl) cb) (.cons rfl (run_move' rfl (h6.at 8 rfl)) (.cons rfl (run_index29 rfl (h7.at 1 rfl) (h7.at 0 rfl) hk132) (.cons rfl (run_load23 rfl (h8.at 0 rfl) cc135) (.cons rfl (run_move' rfl (h9.at 10 rfl)) (.cons rfl (run_index23 rfl (h10.at 1 rfl) (h10.at 0 rfl) hk140) (.cons rfl (run_load9 rfl (h11.at 0 rfl) cc143) (.cons rfl (run_lenT rfl (h12.at 0 rfl)) (.cons rfl (run_add rfl (h13.at 12 rfl) (h13.at 0 rfl) (by omega) (by omega)) (.cons rfl (run_assign' rfl (h14.at 0 rfl)) (.nil _)))))))))))))))), h15.sub (Has.cons (h15.at 0 rfl) (Has.cons (h15.at 15 rfl) (Has.cons (h15.at 16 rfl) (Has.cons (h15.at 17 rfl) (Has.cons (h15.at 18 rfl) (Has.cons (h15.at 19 rfl) (Has.cons (h15.at 20 rfl) (Has.cons (h15.at 21 rfl) (Has.cons (h15.at 22 rfl) (Has.nil _))))))))))⟩
        · intro s a h0
          have h1 := h0.put 477 (.int .i64 s) (by decide) rfl
          have h2 := h1.put 478 (.bool (decide ((1048576 : Int) < s))) (by decide) rfl
          exact ⟨_, (.cons rfl (run_move' rfl (h0.at 0 rfl)) (.cons rfl (run_gtr rfl (h1.at 0 rfl)) (.nil _))), (h2.at 0 rfl), h2.sub (Has.cons (h2.at 2 rfl) (Has.cons (h2.at 3 rfl) (Has.cons (h2.at 4 rfl) (Has.cons (h2.at 5 rfl) (Has.cons (h2.at 6 rfl) (Has.cons (h2.at 7 rfl) (Has.cons (h2.at 8 rfl) (Has.cons (h2.at 9 rfl) (Has.cons (h2.at 10 rfl) (Has.nil _))))))))))⟩
    refine Tr.fact (fun hPb => ?_)
    refine seg13 (L := [(25, .int .i64 (k98 : Int)), (1, .slice at_ nt ct), (3, .slice (some ⟨bA, offA, none⟩) n c3), (5, sv mark), (8, .pointer (some ⟨w.heap.size, 0, none⟩)), (10, .pointer (some ⟨(w.heap.size + 1), 0, none⟩))]) (n := A.mark.length) (lo := (lo + (nv : Int) + (nn : Int) + (nb : Int))) rfl rfl rfl rfl rfl rfl (by omega) ?_ ?_ ?_ (fun hn148 => ?_)
    · intro s a h0
      have h1 := h0.put 479 (.slice (some ⟨bA, offA, none⟩) n c3) (by decide) rfl
      have h2 := h1.put 480 (.int .i64 (k98 : Int)) (by decide) rfl
      have h3 := h2.put 481 (.pointer (some ⟨bA, offA + k98 * 11, none⟩)) (by decide) rfl
      have h4 := h3.put 482 (.pointer (some ⟨bA, offA + k98 * 11 + 6, none⟩)) (by decide) rfl
      have h5 := h4.put 483 (sv A.mark) (by decide) rfl
      have h6 := h5.put 484 (.int .i64 ((A.mark.length : Nat) : Int)) (by decide) rfl
      have h7 := h6.put 485 (.bool (decide ((1048576 : Int) < ((A.mark.length : Nat) : Int)))) (by decide) rfl
      exact ⟨_, (.cons rfl (run_move' rfl (h0.at 3 rfl)) (.cons rfl (run_move' rfl (h1.at 2 rfl)) (.cons rfl (run_index26 rfl (h2.at 1 rfl) (h2.at 0 rfl) hk98) (.cons rfl (run_field31 rfl (by decide) (h3.at 0 rfl)) (.cons rfl (run_load9 rfl (h4.at 0 rfl) cm) (.cons rfl (run_lenT rfl (h5.at 0 rfl)) (.cons rfl (run_gtr rfl (h6.at 0 rfl)) (.nil _)))))))), (h7.at 0 rfl), h7.sub (Has.cons (h7.at 7 rfl) (Has.cons (h7.at 8 rfl) (Has.cons (h7.at 9 rfl) (Has.cons (h7.at 10 rfl) (Has.cons (h7.at 11 rfl) (Has.cons (h7.at 12 rfl) (Has.cons (h7.at 13 rfl) (Has.nil _))))))))⟩
    · intro s a hs0 hs1 hn0 h0
      have h1 := h0.put 486 (.int .i64 s) (by decide) rfl
      have h2 := h1.put 487 (.slice (some ⟨bA, offA, none⟩) n c3) (by decide) rfl
      have h3 := h2.put 488 (.int .i64 (k98 : Int)) (by decide) rfl
      have h4 := h3.put 489 (.pointer (some ⟨bA, offA + k98 * 11, none⟩)) (by decide) rfl
      have h5 := h4.put 490 (.pointer (some ⟨bA, offA + k98 * 11 + 6, none⟩)) (by decide) rfl
      have h6 := h5.put 491 (sv A.mark) (by decide) rfl
      have h7 := h6.put 492 (.int .i64 ((A.mark.length : Nat) : Int)) (by decide) rfl
      have h8 := h7.put 493 (.int .i64 (s + ((A.mark.length : Nat) : Int))) (by decide) rfl
      have h8d := h8.sub (Has.cons (h8.at 0 rfl) (Has.cons (h8.at 1 rfl) (Has.cons (h8.at 2 rfl) (Has.cons (h8.at 3 rfl) (Has.cons (h8.at 4 rfl) (Has.cons (h8.at 5 rfl) (Has.cons (h8.at 6 rfl) (Has.cons (h8.at 7 rfl) (Has.cons (h8.at 9 rfl) (Has.cons (h8.at 10 rfl) (Has.cons (h8.at 11 rfl) (Has.cons (h8.at 12 rfl) (Has.cons (h8.at 13 rfl) (Has.cons (h8.at 14 rfl) (Has.nil _)))))))))))))))
      have h9 := h8d.put 17 (.int .i64 (s + ((A.mark.length : Nat) : Int))) (by decide) rfl
      exact ⟨_, (.cons rfl (run_move' rfl (h0.at 0 rfl)) (.cons rfl (run_move' rfl (h1.at 4 rfl)) (.cons rfl (run_move' rfl (h2.at 3 rfl)) (.cons rfl (run_index26 rfl (h3.at 1 rfl) (h3.at 0 rfl) hk98) (.cons rfl (run_field31 rfl (by decide) (h4.at 0 rfl)) (.cons rfl (run_load9 rfl (h5.at 0 rfl) cm) (.cons rfl (run_lenT rfl (h6.at 0 rfl)) (.cons rfl (run_add rfl (h7.at 6 rfl) (h7.at 0 rfl) (by omega) (by omega)) (.cons rfl (run_assign' rfl (h8.at 0 rfl)) (.nil _)))))))))), h9.sub (Has.cons (h9.at 0 rfl) (Has.cons (h9.at 9 rfl) (Has.cons (h9.at 10 rfl) (Has.cons (h9.at 11 rfl) (Has.cons (h9.at 12 rfl) (Has.cons (h9.at 13 rfl) (Has.cons (h9.at 14 rfl) (Has.nil _))))))))⟩
    · intro s a h0
      have h1 := h0.put 494 (.int .i64 s) (by decide) rfl
      have h2 := h1.put 495 (.bool (decide ((1048576 : Int) < s))) (by decide) rfl
      exact ⟨_, (.cons rfl (run_move' rfl (h0.at 0 rfl)) (.cons rfl (run_gtr rfl (h1.at 0 rfl)) (.nil _))), (h2.at 0 rfl), h2.sub (Has.cons (h2.at 2 rfl) (Has.cons (h2.at 3 rfl) (Has.cons (h2.at 4 rfl) (Has.cons (h2.at 5 rfl) (Has.cons (h2.at 6 rfl) (Has.cons (h2.at 7 rfl) (Has.cons (h2.at 8 rfl) (Has.nil _))))))))⟩
    refine seg13 (L := [(25, .int .i64 (k98 : Int)), (1, .slice at_ nt ct), (3, .slice (some ⟨bA, offA, none⟩) n c3), (5, sv mark), (8, .pointer (some ⟨w.heap.size, 0, none⟩)), (10, .pointer (some ⟨(w.heap.size + 1), 0, none⟩))]) (n := nu) (lo := (lo + (nv : Int) + (nn : Int) + (nb : Int) + (A.mark.length : Int))) rfl rfl rfl rfl rfl rfl (by omega) ?_ ?_ ?_ (fun hn153 => ?_)
    · intro s a h0
      have h1 := h0.put 496 (.slice (some ⟨bA, offA, none⟩) n c3) (by decide) rfl
      have h2 := h1.put 497 (.int .i64 (k98 : Int)) (by decide) rfl
      have h3 := h2.put 498 (.pointer (some ⟨bA, offA + k98 * 11, none⟩)) (by decide) rfl
      have h4 := h3.put 499 (.pointer (some ⟨bA, offA + k98 * 11 + 7, none⟩)) (by decide) rfl
      have h5 := h4.put 500 (.slice au nu du) (by decide) rfl
      have h6 := h5.put 501 (.int .i64 ((nu : Nat) : Int)) (by decide) rfl
      have h7 := h6.put 502 (.bool (decide ((1048576 : Int) < ((nu : Nat) : Int)))) (by decide) rfl
      exact ⟨_, (.cons rfl (run_move' rfl (h0.at 3 rfl)) (.cons rfl (run_move' rfl (h1.at 2 rfl)) (.cons rfl (run_index26 rfl (h2.at 1 rfl) (h2.at 0 rfl) hk98) (.cons rfl (run_field31 rfl (by decide) (h3.at 0 rfl)) (.cons rfl (run_load29 rfl (h4.at 0 rfl) cu) (.cons rfl (run_lenS rfl (by decide) (h5.at 0 rfl)) (.cons rfl (run_gtr rfl (h6.at 0 rfl)) (.nil _)))))))), (h7.at 0 rfl), h7.sub (Has.cons (h7.at 7 rfl) (Has.cons (h7.at 8 rfl) (Has.cons (h7.at 9 rfl) (Has.cons (h7.at 10 rfl) (Has.cons (h7.at 11 rfl) (Has.cons (h7.at 12 rfl) (Has.cons (h7.at 13 rfl) (Has.nil _))))))))⟩
    · intro s a hs0 hs1 hn0 h0
      have h1 := h0.put 503 (.int .i64 s) (by decide) rfl
      have h2 := h1.put 504 (.slice (some ⟨bA, offA, none⟩) n c3) (by decide) rfl
      have h3 := h2.put 505 (.int .i64 (k98 : Int)) (by decide) rfl
      have h4 := h3.put 506 (.pointer (some ⟨bA, offA + k98 * 11, none⟩)) (by decide) rfl
      have h5 := h4.put 507 (.pointer (some ⟨bA, offA + k98 * 11 + 7, none⟩)) (by decide) rfl
      have h6 := h5.put 508 (.slice au nu du) (by decide) rfl
      have h7 := h6.put 509 (.int .i64 ((nu : Nat) : Int)) (by decide) rfl
      have h8 := h7.put 510 (.int .i64 (s + ((nu : Nat) : Int))) (by decide) rfl
      have h8d := h8.sub (Has.cons (h8.at 0 rfl) (Has.cons (h8.at 1 rfl) (Has.cons (h8.at 2 rfl) (Has.cons (h8.at 3 rfl) (Has.cons (h8.at 4 rfl) (Has.cons (h8.at 5 rfl) (Has.cons (h8.at 6 rfl) (Has.cons (h8.at 7 rfl) (Has.cons (h8.at 9 rfl) (Has.cons (h8.at 10 rfl) (Has.cons (h8.at 11 rfl) (Has.cons (h8.at 12 rfl) (Has.cons (h8.at 13 rfl) (Has.cons (h8.at 14 rfl) (Has.nil _)))))))))))))))
      have h9 := h8d.put 17 (.int .i64 (s + ((nu : Nat) : Int))) (by decide) rfl
      exact ⟨_, (.cons rfl (run_move' rfl (h0.at 0 rfl)) (.cons rfl (run_move' rfl (h1.at 4 rfl)) (.cons rfl (run_move' rfl (h2.at 3 rfl)) (.cons rfl (run_index26 rfl (h3.at 1 rfl) (h3.at 0 rfl) hk98) (.cons rfl (run_field31 rfl (by decide) (h4.at 0 rfl)) (.cons rfl (run_load29 rfl (h5.at 0 rfl) cu) (.cons rfl (run_lenS rfl (by decide) (h6.at 0 rfl)) (.cons rfl (run_add rfl (h7.at 6 rfl) (h7.at 0 rfl) (by omega) (by omega)) (.cons rfl (run_assign' rfl (h8.at 0 rfl)) (.nil _)))))))))), h9.sub (Has.cons (h9.at 0 rfl) (Has.cons (h9.at 9 rfl) (Has.cons (h9.at 10 rfl) (Has.cons (h9.at 11 rfl) (Has.cons (h9.at 12 rfl) (Has.cons (h9.at 13 rfl) (Has.cons (h9.at 14 rfl) (Has.nil _))))))))⟩
    · intro s a h0
      have h1 := h0.put 511 (.int .i64 s) (by decide) rfl
      have h2 := h1.put 512 (.bool (decide ((1048576 : Int) < s))) (by decide) rfl
      exact ⟨_, (.cons rfl (run_move' rfl (h0.at 0 rfl)) (.cons rfl (run_gtr rfl (h1.at 0 rfl)) (.nil _))), (h2.at 0 rfl), h2.sub (Has.cons (h2.at 2 rfl) (Has.cons (h2.at 3 rfl) (Has.cons (h2.at 4 rfl) (Has.cons (h2.at 5 rfl) (Has.cons (h2.at 6 rfl) (Has.cons (h2.at 7 rfl) (Has.cons (h2.at 8 rfl) (Has.nil _))))))))⟩
    refine Tr.mono (q := fun a => (∃ s : Int, (lo + (nv : Int) + (nn : Int) + (nb : Int) + (A.mark.length : Int) + (nu : Int)) ≤ s ∧ s ≤ 1048576 ∧ Fr 597 a ((17, .int .i64 s) :: [(25, .int .i64 (k98 : Int)), (1, .slice at_ nt ct), (3, .slice (some ⟨bA, offA, none⟩) n c3), (5, sv mark), (8, .pointer (some ⟨w.heap.size, 0, none⟩)), (10, .pointer (some ⟨(w.heap.size + 1), 0, none⟩))])) ∧ ∀ q, q < nu → BndL (A.unsure.getD q [])) ?_ (fun a h => ?_)
    rotate_left
    · obtain ⟨⟨s, h1, h2, h3⟩, hP⟩ := h
      exact ⟨⟨s, by omega, h2, h3⟩, HBv, HBn, by rw [Lb.len]; exact hn127, fun q hq => hPb q (by rw [Lb.len] at hq; exact hq), hn148, by rw [Lu.len]; exact hn153, fun q hq => hP q (by rw [Lu.len] at hq; exact hq)⟩
    refine (loopG (fun k => BndL (A.unsure.getD k [])) (L := [(25, .int .i64 (k98 : Int)), (1, .slice at_ nt ct), (3, .slice (some ⟨bA, offA, none⟩) n c3), (5, sv mark), (8, .pointer (some ⟨w.heap.size, 0, none⟩)), (10, .pointer (some ⟨(w.heap.size + 1), 0, none⟩))]) (n := nu) (idx := 30) (lo := (lo + (nv : Int) + (nn : Int) + (nb : Int) + (A.mark.length : Int) + (nu : Int))) hn153 ?_ ?_ ?_ (fun k158 hk158 => ?_))
    · intro s a h0
      have h1 := h0.put 30 (.int .i64 ((0 : Nat) : Int)) (by decide) rfl
      exact ⟨_, (.cons rfl (run_const rfl) (.nil _)), h1.sub (Has.cons (h1.at 1 rfl) (Has.cons (h1.at 0 rfl) (Has.cons (h1.at 2 rfl) (Has.cons (h1.at 3 rfl) (Has.cons (h1.at 4 rfl) (Has.cons (h1.at 5 rfl) (Has.cons (h1.at 6 rfl) (Has.cons (h1.at 7 rfl) (Has.nil _)))))))))⟩
    · intro s k a h0
      have h1 := h0.put 513 (.int .i64 (k : Int)) (by decide) rfl
      have h2 := h1.put 514 (.slice (some ⟨bA, offA, none⟩) n c3) (by decide) rfl
      have h3 := h2.put 515 (.int .i64 (k98 : Int)) (by decide) rfl
      have h4 := h3.put 516 (.pointer (some ⟨bA, offA + k98 * 11, none⟩)) (by decide) rfl
      have h5 := h4.put 517 (.pointer (some ⟨bA, offA + k98 * 11 + 7, none⟩)) (by decide) rfl
      have h6 := h5.put 518 (.slice au nu du) (by decide) rfl
      have h7 := h6.put 519 (.int .i64 ((nu : Nat) : Int)) (by decide) rfl
      have h8 := h7.put 520 (.bool (decide ((k : Int) < ((nu : Nat) : Int)))) (by decide) rfl
      exact ⟨_, (.cons rfl (run_move' rfl (h0.at 1 rfl)) (.cons rfl (run_move' rfl (h1.at 5 rfl)) (.cons rfl (run_move' rfl (h2.at 4 rfl)) (.cons rfl (run_index26 rfl (h3.at 1 rfl) (h3.at 0 rfl) hk98) (.cons rfl (run_field31 rfl (by decide) (h4.at 0 rfl)) (.cons rfl (run_load29 rfl (h5.at 0 rfl) cu) (.cons rfl (run_lenS rfl (by decide) (h6.at 0 rfl)) (.cons rfl (run_lss rfl (h7.at 6 rfl) (h7.at 0 rfl)) (.nil _))))))))), (h8.at 0 rfl), h8.sub (Has.cons (h8.at 8 rfl) (Has.cons (h8.at 9 rfl) (Has.cons (h8.at 10 rfl) (Has.cons (h8.at 11 rfl) (Has.cons (h8.at 12 rfl) (Has.cons (h8.at 13 rfl) (Has.cons (h8.at 14 rfl) (Has.cons (h8.at 15 rfl) (Has.nil _)))))))))⟩
    · intro s k a hk h0
      have h1 := h0.put 521 (.int .i64 (k : Int)) (by decide) rfl
      have h2 := h1.put 522 (.int .i64 ((k + 1 : Nat) : Int)) (by decide) rfl
      have h2d := h2.sub (Has.cons (h2.at 0 rfl) (Has.cons (h2.at 1 rfl) (Has.cons (h2.at 2 rfl) (Has.cons (h2.at 4 rfl) (Has.cons (h2.at 5 rfl) (Has.cons (h2.at 6 rfl) (Has.cons (h2.at 7 rfl) (Has.cons (h2.at 8 rfl) (Has.cons (h2.at 9 rfl) (Has.nil _))))))))))
      have h3 := h2d.put 30 (.int .i64 ((k + 1 : Nat) : Int)) (by decide) rfl
      exact ⟨_, (.cons rfl (run_move' rfl (h0.at 1 rfl)) (.cons rfl (run_inc' rfl (h1.at 0 rfl) hk) (.cons rfl (run_assign' rfl (h2.at 0 rfl)) (.nil _)))), h3.sub (Has.cons (h3.at 3 rfl) (Has.cons (h3.at 0 rfl) (Has.cons (h3.at 4 rfl) (Has.cons (h3.at 5 rfl) (Has.cons (h3.at 6 rfl) (Has.cons (h3.at 7 rfl) (Has.cons (h3.at 8 rfl) (Has.cons (h3.at 9 rfl) (Has.nil _)))))))))⟩
    · skip
      obtain ⟨b161, off161, rfl, hc161⟩ := Lu.row (by omega)
      obtain ⟨ai161, ni161, ci161, cc161, Li161⟩ := hc161 k158 hk158
      obtain ⟨ys161, hy161⟩ : ∃ ys, ys = A.unsure.getD k158 [] := ⟨_, rfl⟩
      rw [← hy161] at Li161 ⊢
      refine seg13 (L := [(30, .int .i64 (k158 : Int)), (25, .int .i64 (k98 : Int)), (1, .slice at_ nt ct), (3, .slice (some ⟨bA, offA, none⟩) n c3), (5, sv mark), (8, .pointer (some ⟨w.heap.size, 0, none⟩)), (10, .pointer (some ⟨(w.heap.size + 1), 0, none⟩))]) (n := ni161) (lo := (lo + (nv : Int) + (nn : Int) + (nb : Int) + (A.mark.length : Int) + (nu : Int))) rfl rfl rfl rfl rfl rfl (by omega) ?_ ?_ ?_ (fun hn161 => ?_)
      · intro s a h0
        have h1 := h0.put 523 (.slice (some ⟨bA, offA, none⟩) n c3) (by decide) rfl
        have h2 := h1.put 524 (.int .i64 (k98 : Int)) (by decide) rfl
        have h3 := h2.put 525 (.pointer (some ⟨bA, offA + k98 * 11, none⟩)) (by decide) rfl
        have h4 := h3.put 526 (.pointer (some ⟨bA, offA + k98 * 11 + 7, none⟩)) (by decide) rfl
        have h5 := h4.put 527 (.slice (some ⟨b161, off161, none⟩) nu du) (by decide) rfl
        have h6 := h5.put 528 (.int .i64 (k158 : Int)) (by decide) rfl
        have h7 := h6.put 529 (.pointer (some ⟨b161, off161 + k158, none⟩)) (by decide) rfl
        have h8 := h7.put 530 (.slice ai161 ni161 ci161) (by decide) rfl
        have h9 := h8.put 531 (.int .i64 ((ni161 : Nat) : Int)) (by decide) rfl
        have h10 := h9.put 532 (.bool (decide ((1048576 : Int) < ((ni161 : Nat) : Int)))) (by decide) rfl
        exact ⟨_, (.cons rfl (run_move' rfl (h0.at 4 rfl)) (.cons rfl (run_move' rfl (h1.at 3 rfl)) (.cons rfl (run_index26 rfl (h2.at 1 rfl) (h2.at 0 rfl) hk98) (.cons rfl (run_field31 rfl (by decide) (h3.at 0 rfl)) (.cons rfl (run_load29 rfl (h4.at 0 rfl) cu) (.cons rfl (run_move' rfl (h5.at 6 rfl)) (.cons rfl (run_index29 rfl (h6.at 1 rfl) (h6.at 0 rfl) hk158) (.cons rfl (run_load23 rfl (h7.at 0 rfl) cc161) (.cons rfl (run_lenS rfl (by decide) (h8.at 0 rfl)) (.cons rfl (run_gtr rfl (h9.at 0 rfl)) (.nil _))))))))))), (h10.at 0 rfl), h10.sub (Has.cons (h10.at 10 rfl) (Has.cons (h10.at 11 rfl) (Has.cons (h10.at 12 rfl) (Has.cons (h10.at 13 rfl) (Has.cons (h10.at 14 rfl) (Has.cons (h10.at 15 rfl) (Has.cons (h10.at 16 rfl) (Has.cons (h10.at 17 rfl) (Has.nil _)))))))))⟩
      · intro s a hs0 hs1 hn0 h0
        have h1 := h0.put 533 (.int .i64 s) (by decide) rfl
        have h2 := h1.put 534 (.slice (some ⟨bA, offA, none⟩) n c3) (by decide) rfl
        have h3 := h2.put 535 (.int .i64 (k98 : Int)) (by decide) rfl
        have h4 := h3.put 536 (.pointer (some ⟨bA, offA + k98 * 11, none⟩)) (by decide) rfl
        have h5 := h4.put 537 (.pointer (some ⟨bA, offA + k98 * 11 + 7, none⟩)) (by decide) rfl
        have h6 := h5.put 538 (.slice (some ⟨b161, off161, none⟩) nu du) (by decide) rfl
        have h7 := h6.put 539 (.int .i64 (k158 : Int)) (by decide) rfl
        have h8 := h7.put 540 (.pointer (some ⟨b161, off161 + k158, none⟩)) (by decide) rfl
        have h9 := h8.put 541 (.slice ai161 ni161 ci161) (by decide) rfl
        have h10 := h9.put 542 (.int .i64 ((ni161 : Nat) : Int)) (by decide) rfl
        have h11 := h10.put 543 (.int .i64 (s + ((ni161 : Nat) : Int))) (by decide) rfl
        have h11d := h11.sub (Has.cons (h11.at 0 rfl) (Has.cons (h11.at 1 rfl) (Has.cons (h11.at 2 rfl) (Has.cons (h11.at 3 rfl) (Has.cons (h11.at 4 rfl) (Has.cons (h11.at 5 rfl) (Has.cons (h11.at 6 rfl) (Has.cons (h11.at 7 rfl) (Has.cons (h11.at 8 rfl) (Has.cons (h11.at 9 rfl) (Has.cons (h11.at 10 rfl) (Has.cons (h11.at 12 rfl) (Has.cons (h11.at 13 rfl) (Has.cons (h11.at 14 rfl) (Has.cons (h11.at 15 rfl) (Has.cons (h11.at 16 rfl) (Has.cons (h11.at 17 rfl) (Has.cons (h11.at 18 rfl) (Has.nil _)))))))))))))))))))
        have h12 := h11d.put 17 (.int .i64 (s + ((ni161 : Nat) : Int))) (by decide) rfl
        exact ⟨_, (.cons rfl (run_move' rfl (h0.at 0 rfl)) (.cons rfl (run_move' rfl (h1.at 5 rfl)) (.cons rfl (run_move' rfl (h2.at 4 rfl)) (.cons rfl (run_index26 rfl (h3.at 1 rfl) (h3.at 0 rfl) hk98) (.cons rfl (run_field31 rfl (by decide) (h4.at 0 rfl)) (.cons rfl (run_load29 rfl (h5.at 0 rfl) cu) (.cons rfl (run_move' rfl (h6.at 7 rfl)) (.cons rfl (run_index29 rfl (h7.at 1 rfl) (h7.at 0 rfl) hk158) (.cons rfl (run_load23 rfl (h8.at 0 rfl) cc161) (.cons rfl (run_lenS rfl (by decide) (h9.at 0 rfl)) (.cons rfl (run_add rfl (h10.at 9 rfl) (h10.at 0 rfl) (by omega) (by omega)) (.cons rfl (run_assign' rfl (h11.at 0 rfl)) (.nil _))))))))))))), h12.sub (Has.cons (h12.at 0 rfl) (Has.cons (h12.at 12 rfl) (Has.cons (h12.at 13 rfl) (Has.cons (h12.at 14 rfl) (Has.cons (h12.at 15 rfl) (Has.cons (h12.at 16 rfl) (Has.cons (h12.at 17 rfl) (Has.cons (h12.at 18 rfl) (Has.nil _)))))))))⟩
      · intro s a h0
        have h1 := h0.put 544 (.int .i64 s) (by decide) rfl
        have h2 := h1.put 545 (.bool (decide ((1048576 : Int) < s))) (by decide) rfl
        exact ⟨_, (.cons rfl (run_move' rfl (h0.at 0 rfl)) (.cons rfl (run_gtr rfl (h1.at 0 rfl)) (.nil _))), (h2.at 0 rfl), h2.sub (Has.cons (h2.at 2 rfl) (Has.cons (h2.at 3 rfl) (Has.cons (h2.at 4 rfl) (Has.cons (h2.at 5 rfl) (Has.cons (h2.at 6 rfl) (Has.cons (h2.at 7 rfl) (Has.cons (h2.at 8 rfl) (Has.cons (h2.at 9 rfl) (Has.nil _)))))))))⟩
      refine Tr.mono (q := fun a => (∃ s : Int, ((lo + (nv : Int) + (nn : Int) + (nb : Int) + (A.mark.length : Int) + (nu : Int)) + (ni161 : Int)) ≤ s ∧ s ≤ 1048576 ∧ Fr 597 a ((17, .int .i64 s) :: [(30, .int .i64 (k158 : Int)), (25, .int .i64 (k98 : Int)), (1, .slice at_ nt ct), (3, .slice (some ⟨bA, offA, none⟩) n c3), (5, sv mark), (8, .pointer (some ⟨w.heap.size, 0, none⟩)), (10, .pointer (some ⟨(w.heap.size + 1), 0, none⟩))])) ∧ ∀ q, q < ni161 → (ys161.getD q []).length ≤ 1048576) ?_ (fun a h => ?_)
      rotate_left
      · obtain ⟨⟨s, h1, h2, h3⟩, hP⟩ := h
        exact ⟨⟨s, by omega, h2, h3⟩, by rw [Li161.len]; exact hn161, fun q hq => hP q (by rw [Li161.len] at hq; exact hq)⟩
      refine (loopG (fun k => (ys161.getD k []).length ≤ 1048576) (L := [(30, .int .i64 (k158 : Int)), (25, .int .i64 (k98 : Int)), (1, .slice at_ nt ct), (3, .slice (some ⟨bA, offA, none⟩) n c3), (5, sv mark), (8, .pointer (some ⟨w.heap.size, 0, none⟩)), (10, .pointer (some ⟨(w.heap.size + 1), 0, none⟩))]) (n := ni161) (idx := 31) (lo := ((lo + (nv : Int) + (nn : Int) + (nb : Int) + (A.mark.length : Int) + (nu : Int)) + (ni161 : Int))) hn161 ?_ ?_ ?_ (fun k166 hk166 => ?_))
      · intro s a h0
        have h1 := h0.put 31 (.int .i64 ((0 : Nat) : Int)) (by decide) rfl
        exact ⟨_, (.cons rfl (run_const rfl) (.nil _)), h1.sub (Has.cons (h1.at 1 rfl) (Has.cons (h1.at 0 rfl) (Has.cons (h1.at 2 rfl) (Has.cons (h1.at 3 rfl) (Has.cons (h1.at 4 rfl) (Has.cons (h1.at 5 rfl) (Has.cons (h1.at 6 rfl) (Has.cons (h1.at 7 rfl) (Has.cons (h1.at 8 rfl) (Has.nil _))))))))))⟩
      · intro s k a h0
        have h1 := h0.put 546 (.int .i64 (k : Int)) (by decide) rfl
        have h2 := h1.put 547 (.slice (some ⟨bA, offA, none⟩) n c3) (by decide) rfl
        have h3 := h2.put 548 (.int .i64 (k98 : Int)) (by decide) rfl
        have h4 := h3.put 549 (.pointer (some ⟨bA, offA + k98 * 11, none⟩)) (by decide) rfl
        have h5 := h4.put 550 (.pointer (some ⟨bA, offA + k98 * 11 + 7, none⟩)) (by decide) rfl
        have h6 := h5.put 551 (.slice (some ⟨b161, off161, none⟩) nu du) (by decide) rfl
        have h7 := h6.put 552 (.int .i64 (k158 : Int)) (by decide) rfl
        have h8 := h7.put 553 (.pointer (some ⟨b161, off161 + k158, none⟩)) (by decide) rfl
        have h9 := h8.put 554 (.slice ai161 ni161 ci161) (by decide) rfl
        have h10 := h9.put 555 (.int .i64 ((ni161 : Nat) : Int)) (by decide) rfl
        have h11 := h10.put 556 (.bool (decide ((k : Int) < ((ni161 : Nat) : Int)))) (by decide) rfl
        exact ⟨_, (.cons rfl (run_move' rfl (h0.at 1 rfl)) (.cons rfl (run_move' rfl (h1.at 6 rfl)) (.cons rfl (run_move' rfl (h2.at 5 rfl)) (.cons rfl (run_index26 rfl (h3.at 1 rfl) (h3.at 0 rfl) hk98) (.cons rfl (run_field31 rfl (by decide) (h4.at 0 rfl)) (.cons rfl (run_load29 rfl (h5.at 0 rfl) cu) (.cons rfl (run_move' rfl (h6.at 8 rfl)) (.cons rfl (run_index29 rfl (h7.at 1 rfl) (h7.at 0 rfl) hk158) (.cons rfl (run_load23 rfl (h8.at 0 rfl) cc161) (.cons rfl (run_lenS rfl (by decide) (h9.at 0 rfl)) (.cons rfl (run_lss rfl (h10.at 9 rfl) (h10.at 0 rfl)) (.nil _)))))))))))), (h11.at 0 rfl), h11.sub (Has.cons (h11.at 11 rfl) (Has.cons (h11.at 12 rfl) (Has.cons (h11.at 13 rfl) (Has.cons (h11.at 14 rfl) (Has.cons (h11.at 15 rfl) (Has.cons (h11.at 16 rfl) (Has.cons (h11.at 17 rfl) (Has.cons (h11.at 18 rfl) (Has.cons (h11.at 19 rfl) (Has.nil _))))))))))⟩
      · intro s k a hk h0
        have h1 := h0.put 557 (.int .i64 (k : Int)) (by decide) rfl
        have h2 := h1.put 558 (.int .i64 ((k + 1 : Nat) : Int)) (by decide) rfl
        have h2d := h2.sub (Has.cons (h2.at 0 rfl) (Has.cons (h2.at 1 rfl) (Has.cons (h2.at 2 rfl) (Has.cons (h2.at 4 rfl) (Has.cons (h2.at 5 rfl) (Has.cons (h2.at 6 rfl) (Has.cons (h2.at 7 rfl) (Has.cons (h2.at 8 rfl) (Has.cons (h2.at 9 rfl) (Has.cons (h2.at 10 rfl) (Has.nil _)))))))))))
        have h3 := h2d.put 31 (.int .i64 ((k + 1 : Nat) : Int)) (by decide) rfl
        exact ⟨_, (.cons rfl (run_move' rfl (h0.at 1 rfl)) (.cons rfl (run_inc' rfl (h1.at 0 rfl) hk) (.cons rfl (run_assign' rfl (h2.at 0 rfl)) (.nil _)))), h3.sub (Has.cons (h3.at 3 rfl) (Has.cons (h3.at 0 rfl) (Has.cons (h3.at 4 rfl) (Has.cons (h3.at 5 rfl) (Has.cons (h3.at 6 rfl) (Has.cons (h3.at 7 rfl) (Has.cons (h3.at 8 rfl) (Has.cons (h3.at 9 rfl) (Has.cons (h3.at 10 rfl) (Has.nil _))))))))))⟩
      · skip
        obtain ⟨b169, off169, rfl, hc169⟩ := Li161.row (by omega)
        have cc169 := hc169 k166 hk166
        obtain ⟨x169, hx169⟩ : ∃ x, x = ys161.getD k166 [] := ⟨_, rfl⟩
        rw [← hx169] at cc169 ⊢
        refine seg13' (L := [(31, .int .i64 (k166 : Int)), (30, .int .i64 (k158 : Int)), (25, .int .i64 (k98 : Int)), (1, .slice at_ nt ct), (3, .slice (some ⟨bA, offA, none⟩) n c3), (5, sv mark), (8, .pointer (some ⟨w.heap.size, 0, none⟩)), (10, .pointer (some ⟨(w.heap.size + 1), 0, none⟩))]) (n := x169.length) (lo := ((lo + (nv : Int) + (nn : Int) + (nb : Int) + (A.mark.length : Int) + (nu : Int)) + (ni161 : Int))) rfl rfl rfl rfl rfl rfl (by omega) ?_ ?_ ?_
        · intro s a h0
          have h1 := h0.put 559 (.slice (some ⟨bA, offA, none⟩) n c3) (by decide) rfl
          have h2 := h1.put 560 (.int .i64 (k98 : Int)) (by decide) rfl
          have h3 := h2.put 561 (.pointer (some ⟨bA, offA + k98 * 11, none⟩)) (by decide) rfl
          have h4 := h3.put 562 (.pointer (some ⟨bA, offA + k98 * 11 + 7, none⟩)) (by decide) rfl
          have h5 := h4.put 563 (.slice (some ⟨b161, off161, none⟩) nu du) (by decide) rfl
          have h6 := h5.put 564 (.int .i64 (k158 : Int)) (by decide) rfl
          have h7 := h6.put 565 (.pointer (some ⟨b161, off161 + k158, none⟩)) (by decide) rfl
          have h8 := h7.put 566 (.slice (some ⟨b169, off169, none⟩) ni161 ci161) (by decide) rfl
          have h9 := h8.put 567 (.int .i64 (k166 : Int)) (by decide) rfl
          have h10 := h9.put 568 (.pointer (some ⟨b169, off169 + k166, none⟩)) (by decide) rfl
          have h11 := h10.put 569 (sv x169) (by decide) rfl
          have h12 := h11.put 570 (.int .i64 ((x169.length : Nat) : Int)) (by decide) rfl
          have h13 := h12.put 571 (.bool (decide ((1048576 : Int) < ((x169.length : Nat) : Int)))) (by decide) rfl
          exact ⟨_, (.cons rfl (run_move' rfl (h0.at 5 rfl)) (.cons rfl (run_move' rfl (h1.at 4 rfl)) (.cons rfl (run_index26 rfl (h2.at 1 rfl) (h2.at 0 rfl) hk98) (.cons rfl (run_field31 rfl (by decide) (h3.at 0 rfl)) (.cons rfl (run_load29 rfl (h4.at 0 rfl) cu) (.cons rfl (run_move' rfl (h5.at 7 rfl)) (.cons rfl (run_index29 rfl (h6.at 1 rfl) (h6.at 0 rfl) hk158) (.cons rfl (run_load23 rfl (h7.at 0 rfl) cc161) (.cons rfl (run_move' rfl (h8.at 9 rfl)) (.cons rfl (run_index23 rfl (h9.at 1 rfl) (h9.at 0 rfl) hk166) (.cons rfl (run_load9 rfl (h10.at 0 rfl) cc169) (.cons rfl (run_lenT rfl (h11.at 0 rfl)) (.cons rfl (run_gtr rfl (h12.at 0 rfl)) (.nil _)))))))))))))), (h13.at 0 rfl), h13.sub (Has.cons (h13.at 13 rfl) (Has.cons (h13.at 14 rfl) (Has.cons (h13.at 15 rfl) (Has.cons (h13.at 16 rfl) (Has.cons (h13.at 17 rfl) (Has.cons (h13.at 18 rfl) (Has.cons (h13.at 19 rfl) (Has.cons (h13.at 20 rfl) (Has.cons (h13.at 21 rfl) (Has.nil _))))))))))⟩
        · intro s a hs0 hs1 hn0 h0
          have h1 := h0.put 572 (.int .i64 s) (by decide) rfl
          have h2 := h1.put 573 (.slice (some ⟨bA, offA, none⟩) n c3) (by decide) rfl
          have h3 := h2.put 574 (.int .i64 (k98 : Int)) (by decide) rfl
          have h4 := h3.put 575 (.pointer (some ⟨bA, offA + k98 * 11, none⟩)) (by decide) rfl
          have h5 := h4.put 576 (.pointer (some ⟨bA, offA + k98 * 11 + 7, none⟩)) (by decide) rfl
          have h6 := h5.put 577 (.slice (some ⟨b161, off161, none⟩) nu du) (by decide) rfl
          have h7 := h6.put 578 (.int .i64 (k158 : Int)) (by decide) rfl
          have h8 := h7.put 579 (.pointer (some ⟨b161, off161 + k158, none⟩)) (by decide) rfl
          have h9 := h8.put 580 (.slice (some ⟨b169, off169, none⟩) ni161 ci161) (by decide) rfl
          have h10 := h9.put 581 (.int .i64 (k166 : Int)) (by decide) rfl
          have h11 := h10.put 582 (.pointer (some ⟨b169, off169 + k166, none⟩)) (by decide) rfl
          have h12 := h11.put 583 (sv x169) (by decide) rfl
          have h13 := h12.put 584 (.int .i64 ((x169.length : Nat) : Int)) (by decide) rfl
          have h14 := h13.put 585 (.int .i64 (s + ((x169.length : Nat) : Int))) (by decide) rfl
          have h14d := h14.sub (Has.cons (h14.at 0 rfl) (Has.cons (h14.at 1 rfl) (Has.cons (h14.at 2 rfl) (Has.cons (h14.at 3 rfl) (Has.cons (h14.at 4 rfl) (Has.cons (h14.at 5 rfl) (Has.cons (h14.at 6 rfl) (Has.cons (h14.at 7 rfl) (Has.cons (h14.at 8 rfl) (Has.cons (h14.at 9 rfl) (Has.cons (h14.at 10 rfl) (Has.cons (h14.at 11 rfl) (Has.cons (h14.at 12 rfl) (Has.cons (h14.at 13 rfl) (Has.cons (h14.at 15 rfl) (Has.cons (h14.at 16 rfl) (Has.cons (h14.at 17 rfl) (Has.cons (h14.at 18 rfl) (Has.cons (h14.at 19 rfl) (Has.cons (h14.at 20 rfl) (Has.cons (h14.at 21 rfl) (Has.cons (h14.at 22 rfl) (Has.nil _)))))))))))))))))))))))
          have h15 := h14d.put 17 (.int .i64 (s + ((x169.length : Nat) : Int))) (by decide) rfl
          exact ⟨_, (.cons rfl (run_move' rfl (h0.at 0 rfl)) (.cons rfl (run_move' rfl (h1.at 6 rfl)) (.cons rfl (run_move' rfl (h2.at 5 rfl)) (.cons rfl (run_index26 rfl (h3.at 1 rfl) (h3.at 0 rfl) hk98) (.cons rfl (run_field31 rfl (by decide) (h4.at 0 rfl)) (.cons rfl (run_load29 rfl (h5.at 0 rfl) cu) (.cons rfl (run_move' rfl (h6.at 8 rfl)) (.cons rfl (run_index29 rfl (h7.at 1 rfl) (h7.at 0 rfl) hk158) (.cons rfl (run_load23 rfl (h8.at 0 rfl) cc161) (.cons rfl (run_move' rfl (h9.at 10 rfl)) (.cons rfl (run_index23 rfl (h10.at 1 rfl) (h10.at 0 rfl) hk166) (.cons rfl (run_load9 rfl (h11.at 0 rfl) cc169) (.cons rfl (run_lenT rfl (h12.at 0 rfl)) (.cons rfl (run_add rfl (h13.at 12 rfl) (h13.at 0 rfl) (by omega) (by omega)) (.cons rfl (run_assign' rfl (h14.at 0 rfl)) (.nil _)))))))))))))))), h15.sub (Has.cons (h15.at 0 rfl) (Has.cons (h15.at 15 rfl) (Has.cons (h15.at 16 rfl) (Has.cons (h15.at 17 rfl) (Has.cons (h15.at 18 rfl) (Has.cons (h15.at 19 rfl) (Has.cons (h15.at 20 rfl) (Has.cons (h15.at 21 rfl) (Has.cons (h15.at 22 rfl) (Has.nil _))))))))))⟩
        · intro s a h0
          have h1 := h0.put 586 (.int .i64 s) (by decide) rfl
          have h2 := h1.put 587 (.bool (decide ((1048576 : Int) < s))) (by decide) rfl
          exact ⟨_, (.cons rfl (run_move' rfl (h0.at 0 rfl)) (.cons rfl (run_gtr rfl (h1.at 0 rfl)) (.nil _))), (h2.at 0 rfl), h2.sub (Has.cons (h2.at 2 rfl) (Has.cons (h2.at 3 rfl) (Has.cons (h2.at 4 rfl) (Has.cons (h2.at 5 rfl) (Has.cons (h2.at 6 rfl) (Has.cons (h2.at 7 rfl) (Has.cons (h2.at 8 rfl) (Has.cons (h2.at 9 rfl) (Has.cons (h2.at 10 rfl) (Has.nil _))))))))))⟩
  refine Tr.fact (fun hPA => ?_)
  refine seg13 (L := [(1, .slice at_ nt ct), (3, .slice a3 n c3), (5, sv mark), (8, .pointer (some ⟨w.heap.size, 0, none⟩)), (10, .pointer (some ⟨(w.heap.size + 1), 0, none⟩))]) (n := mark.length) (lo := lo) rfl rfl rfl rfl rfl rfl (by omega) ?_ ?_ ?_ (fun hn174 => ?_)
  · intro s a h0
    have h1 := h0.put 588 (sv mark) (by decide) rfl
    have h2 := h1.put 589 (.int .i64 ((mark.length : Nat) : Int)) (by decide) rfl
    have h3 := h2.put 590 (.bool (decide ((1048576 : Int) < ((mark.length : Nat) : Int)))) (by decide) rfl
    exact ⟨_, (.cons rfl (run_move' rfl (h0.at 3 rfl)) (.cons rfl (run_lenT rfl (h1.at 0 rfl)) (.cons rfl (run_gtr rfl (h2.at 0 rfl)) (.nil _)))), (h3.at 0 rfl), h3.sub (Has.cons (h3.at 3 rfl) (Has.cons (h3.at 4 rfl) (Has.cons (h3.at 5 rfl) (Has.cons (h3.at 6 rfl) (Has.cons (h3.at 7 rfl) (Has.cons (h3.at 8 rfl) (Has.nil _)))))))⟩
  · intro s a hs0 hs1 hn0 h0
    have h1 := h0.put 591 (.int .i64 s) (by decide) rfl
    have h2 := h1.put 592 (sv mark) (by decide) rfl
    have h3 := h2.put 593 (.int .i64 ((mark.length : Nat) : Int)) (by decide) rfl
    have h4 := h3.put 594 (.int .i64 (s + ((mark.length : Nat) : Int))) (by decide) rfl
    have h4d := h4.sub (Has.cons (h4.at 0 rfl) (Has.cons (h4.at 1 rfl) (Has.cons (h4.at 2 rfl) (Has.cons (h4.at 3 rfl) (Has.cons (h4.at 5 rfl) (Has.cons (h4.at 6 rfl) (Has.cons (h4.at 7 rfl) (Has.cons (h4.at 8 rfl) (Has.cons (h4.at 9 rfl) (Has.nil _))))))))))
    have h5 := h4d.put 17 (.int .i64 (s + ((mark.length : Nat) : Int))) (by decide) rfl
    exact ⟨_, (.cons rfl (run_move' rfl (h0.at 0 rfl)) (.cons rfl (run_move' rfl (h1.at 4 rfl)) (.cons rfl (run_lenT rfl (h2.at 0 rfl)) (.cons rfl (run_add rfl (h3.at 2 rfl) (h3.at 0 rfl) (by omega) (by omega)) (.cons rfl (run_assign' rfl (h4.at 0 rfl)) (.nil _)))))), h5.sub (Has.cons (h5.at 0 rfl) (Has.cons (h5.at 5 rfl) (Has.cons (h5.at 6 rfl) (Has.cons (h5.at 7 rfl) (Has.cons (h5.at 8 rfl) (Has.cons (h5.at 9 rfl) (Has.nil _)))))))⟩
  · intro s a h0
    have h1 := h0.put 595 (.int .i64 s) (by decide) rfl
    have h2 := h1.put 596 (.bool (decide ((1048576 : Int) < s))) (by decide) rfl
    exact ⟨_, (.cons rfl (run_move' rfl (h0.at 0 rfl)) (.cons rfl (run_gtr rfl (h1.at 0 rfl)) (.nil _))), (h2.at 0 rfl), h2.sub (Has.cons (h2.at 2 rfl) (Has.cons (h2.at 3 rfl) (Has.cons (h2.at 4 rfl) (Has.cons (h2.at 5 rfl) (Has.cons (h2.at 6 rfl) (Has.cons (h2.at 7 rfl) (Has.nil _)))))))⟩
  refine Tr.final rfl rfl rfl ⟨HB2, HB15, HB28, HB41, HB54, HB67, HB80, ?_, ?_, hn174, ?_⟩ (fun a ha => ?_)
  · rw [h3.len]; exact hn93
  · exact fun q hq => hPA q (by rw [h3.len] at hq; exact hq)
  · rw [f4.len, f5.len, f6.len]; exact HSum
  · obtain ⟨s, -, -, h⟩ := ha
    exact h.sub (Has.nil _)

end Go.Proofs.Qxb6616331aGreatDoor
