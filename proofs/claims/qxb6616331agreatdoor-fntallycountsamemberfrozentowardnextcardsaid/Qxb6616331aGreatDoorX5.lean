/-
  THE WALKS of seat b6616331aZD, X5: the law's code, statement by statement; more operations.
-/
import Derived.Test.Qxb6616331aGreatDoorX4
namespace Go.Proofs.Qxb6616331aGreatDoor
open Go.RowKit
set_option linter.unusedVariables false
set_option linter.unusedSimpArgs false
set_option linter.unnecessarySimpa false
set_option maxRecDepth 40000

/-- The code behind k statements. -/
def tailN : Nat → Code → Code
  | 0, c => c
  | k + 1, .seq _ b => tailN k b
  | _, c => c
noncomputable def restC (k : Nat) : Code := tailN k (Tryz.f3.body.getD .skip)

section
variable {W : World} {a : Act} {o : Oper}
theorem run_pick {c : Nat} {b : Bool} {x y : Operand} {v v' : Value} (ho : o.op = .pick (.tmp c) x y) (h : rd a c = .bool b) (hx : a.eval x = v) (hy : a.eval y = v') : (execOp a.eval o).run Tryz.prog W = .ok (.value (if b then v else v')) W := by
  obtain ⟨dst, op, ty, pos, after, guard⟩ := o
  cases ho
  have h' : a.eval (.tmp c) = _ := h
  generalize a.eval = ρ at h' hx hy ⊢
  cases b <;> simp [execOp, go_sem, h', hx, hy]
theorem run_gtrC {s : Nat} {x k : Int} (ho : o.op = .binOp .gtr 3 (.tmp s) (.const (.int .i64 k)) 3) (h : rd a s = .int .i64 x) : (execOp a.eval o).run Tryz.prog W = .ok (.value (.bool (decide (k < x)))) W := run_gtr ho h
theorem run_lssC {s : Nat} {x k : Int} (ho : o.op = .binOp .lss 3 (.tmp s) (.const (.int .i64 k)) 3) (h : rd a s = .int .i64 x) : (execOp a.eval o).run Tryz.prog W = .ok (.value (.bool (decide (x < k)))) W := by
  obtain ⟨dst, op, ty, pos, after, guard⟩ := o
  cases ho
  have h' : a.eval (.tmp s) = _ := h
  have hk : a.eval (.const (.int .i64 k)) = .int .i64 k := rfl
  generalize a.eval = ρ at h' hk ⊢
  simp [execOp, go_sem, h', hk]
theorem run_geq {s t : Nat} {x y : Int} (ho : o.op = .binOp .geq 3 (.tmp s) (.tmp t) 3) (h : rd a s = .int .i64 x) (h2 : rd a t = .int .i64 y) : (execOp a.eval o).run Tryz.prog W = .ok (.value (.bool (decide (y ≤ x)))) W := by
  obtain ⟨dst, op, ty, pos, after, guard⟩ := o
  cases ho
  have h' : a.eval (.tmp s) = _ := h
  have h2' : a.eval (.tmp t) = _ := h2
  generalize a.eval = ρ at h' h2' ⊢
  simp [execOp, go_sem, h', h2']
theorem run_neqC {s : Nat} {x k : Int} (ho : o.op = .binOp .neq 3 (.tmp s) (.const (.int .i64 k)) 3) (h : rd a s = .int .i64 x) : (execOp a.eval o).run Tryz.prog W = .ok (.value (.bool (x != k))) W := by
  obtain ⟨dst, op, ty, pos, after, guard⟩ := o
  cases ho
  have h' : a.eval (.tmp s) = _ := h
  have hk : a.eval (.const (.int .i64 k)) = .int .i64 k := rfl
  generalize a.eval = ρ at h' hk ⊢
  simp [execOp, go_sem, h', hk]
theorem run_neqI {s t : Nat} {x y : Int} (ho : o.op = .binOp .neq 3 (.tmp s) (.tmp t) 3) (h : rd a s = .int .i64 x) (h2 : rd a t = .int .i64 y) : (execOp a.eval o).run Tryz.prog W = .ok (.value (.bool (x != y))) W := by
  obtain ⟨dst, op, ty, pos, after, guard⟩ := o
  cases ho
  have h' : a.eval (.tmp s) = _ := h
  have h2' : a.eval (.tmp t) = _ := h2
  generalize a.eval = ρ at h' h2' ⊢
  simp [execOp, go_sem, h', h2']
theorem run_neqS {s t : Nat} {x y : Str} (ho : o.op = .binOp .neq 9 (.tmp s) (.tmp t) 9) (h : rd a s = sv x) (h2 : rd a t = sv y) : (execOp a.eval o).run Tryz.prog W = .ok (.value (.bool (x != y))) W := by
  obtain ⟨dst, op, ty, pos, after, guard⟩ := o
  cases ho
  have h' : a.eval (.tmp s) = _ := h
  have h2' : a.eval (.tmp t) = _ := h2
  generalize a.eval = ρ at h' h2' ⊢
  simp [execOp, go_sem, h', h2']
  simp [bne]
theorem run_eqlS {s t : Nat} {x y : Str} (ho : o.op = .binOp .eql 9 (.tmp s) (.tmp t) 9) (h : rd a s = sv x) (h2 : rd a t = sv y) : (execOp a.eval o).run Tryz.prog W = .ok (.value (.bool (x == y))) W := by
  obtain ⟨dst, op, ty, pos, after, guard⟩ := o
  cases ho
  have h' : a.eval (.tmp s) = _ := h
  have h2' : a.eval (.tmp t) = _ := h2
  generalize a.eval = ρ at h' h2' ⊢
  simp [execOp, go_sem, h', h2']
theorem run_neqB {s t : Nat} {x y : Bool} (ho : o.op = .binOp .neq 4 (.tmp s) (.tmp t) 4) (h : rd a s = .bool x) (h2 : rd a t = .bool y) : (execOp a.eval o).run Tryz.prog W = .ok (.value (.bool (x != y))) W := by
  obtain ⟨dst, op, ty, pos, after, guard⟩ := o
  cases ho
  have h' : a.eval (.tmp s) = _ := h
  have h2' : a.eval (.tmp t) = _ := h2
  generalize a.eval = ρ at h' h2' ⊢
  simp [execOp, go_sem, h', h2']
  cases x <;> cases y <;> rfl
theorem run_eqlB {s t : Nat} {x y : Bool} (ho : o.op = .binOp .eql 4 (.tmp s) (.tmp t) 4) (h : rd a s = .bool x) (h2 : rd a t = .bool y) : (execOp a.eval o).run Tryz.prog W = .ok (.value (.bool (x == y))) W := by
  obtain ⟨dst, op, ty, pos, after, guard⟩ := o
  cases ho
  have h' : a.eval (.tmp s) = _ := h
  have h2' : a.eval (.tmp t) = _ := h2
  generalize a.eval = ρ at h' h2' ⊢
  simp [execOp, go_sem, h', h2']
theorem run_eqlM {s : Nat} {m : Option Nat} (ho : o.op = .binOp .eql 39 (.tmp s) (.const (.map none)) 39) (h : rd a s = .map m) : (execOp a.eval o).run Tryz.prog W = .ok (.value (.bool m.isNone)) W := by
  obtain ⟨dst, op, ty, pos, after, guard⟩ := o
  cases ho
  have h' : a.eval (.tmp s) = _ := h
  have hk : a.eval (.const (.map none)) = .map none := rfl
  have q39 := run_eql_map_nil (P := Tryz.prog) W 39 9 9 m Tryz.underlying39
  generalize a.eval = ρ at h' hk ⊢
  simp [execOp, go_sem, h', hk, q39]
theorem run_len39 {s b : Nat} {ps : List (Str × Str)} (ho : o.op = .call { callee := .builtin .len, args := #[.tmp s], argTypes := #[39] }) (h : rd a s = .map (some b)) (hm : IsMp W b ps) : (execOp a.eval o).run Tryz.prog W = .ok (.value (.int .i64 ((setP (ps.map (·.1))).length : Nat))) W := by
  obtain ⟨dst, op, ty, pos, after, guard⟩ := o
  cases ho
  have h' : a.eval (.tmp s) = _ := h
  have hl := hm.len ty
  generalize a.eval = ρ at h' ⊢
  rw [BigFrame.execOp_builtin, BigFrame.builtin_len]
  simp only [List.map_toArray, List.map_cons, List.map_nil, h', Sem.run_bind, hl, Result.andThen_ok, Sem.run_pure]
theorem run_len40 {s : Nat} {p : Option Addr} {n c : Nat} (ho : o.op = .call { callee := .builtin .len, args := #[.tmp s], argTypes := #[40] }) (h : rd a s = .slice p n c) : (execOp a.eval o).run Tryz.prog W = .ok (.value (.int .i64 n)) W := by
  obtain ⟨dst, op, ty, pos, after, guard⟩ := o
  cases ho
  have h' : a.eval (.tmp s) = _ := h
  generalize a.eval = ρ at h' ⊢
  simp [go_sem, h']
theorem run_look {s t b : Nat} {ps : List (Str × Str)} {k : Str} (ho : o.op = .lookup 39 (.tmp s) (.tmp t) true) (h : rd a s = .map (some b)) (h2 : rd a t = sv k) (hm : IsMp W b ps) (hk : k.length ≤ 1073741824) : (execOp a.eval o).run Tryz.prog W = .ok (.value (.tuple #[sv (getM ps k), .bool (hasM ps k)])) W := by
  obtain ⟨dst, op, ty, pos, after, guard⟩ := o
  cases ho
  have h' : a.eval (.tmp s) = _ := h
  have h2' : a.eval (.tmp t) = _ := h2
  have hl := hm.look k hk
  generalize a.eval = ρ at h' h2' ⊢
  simp only [execOp, h', h2', Sem.run_bind, hl, Result.andThen_ok, Sem.run_pure]
theorem run_index23C {s b off n c : Nat} (ho : o.op = .indexAddr 23 (.tmp s) (.const (.int .i64 0))) (h : rd a s = .slice (some ⟨b, off, none⟩) n c) (hk : 0 < n) : (execOp a.eval o).run Tryz.prog W = .ok (.value (.pointer (some ⟨b, off, none⟩))) W := by
  obtain ⟨dst, op, ty, pos, after, guard⟩ := o
  cases ho
  have h' : a.eval (.tmp s) = _ := h
  have hc : a.eval (.const (.int .i64 0)) = .int .i64 0 := rfl
  have h3 : (0 : Int) < (n : Int) := by omega
  generalize a.eval = ρ at h' hc ⊢
  simp [execOp, go_sem, h', hc, h3]
  intro e
  omega
theorem run_field31z {s b off : Nat} (ho : o.op = .fieldAddr 31 (.tmp s) 0) (h : rd a s = .pointer (some ⟨b, off, none⟩)) : (execOp a.eval o).run Tryz.prog W = .ok (.value (.pointer (some ⟨b, off, none⟩))) W := by
  obtain ⟨dst, op, ty, pos, after, guard⟩ := o
  cases ho
  have h' : a.eval (.tmp s) = _ := h
  generalize a.eval = ρ at h' ⊢
  simp [execOp, go_sem, h']
theorem run_load3 {s : Nat} {p : Addr} {v : Value} (ho : o.op = .load 3 (.tmp s)) (h : rd a s = .pointer (some p)) (hc : W.cell? p = some v) : (execOp a.eval o).run Tryz.prog W = .ok (.value v) W := by
  obtain ⟨dst, op, ty, pos, after, guard⟩ := o
  cases ho
  have h' : a.eval (.tmp s) = _ := h
  generalize a.eval = ρ at h' ⊢
  simp [execOp, go_sem, h', hc]
theorem run_build31 {s0 s2 s3 s5 s6 : Nat} {j : Int} {a2 : Option Addr} {n2 c2 : Nat} {fz kn : Bool} {mk : Str} (ho : o.op = .build 31 #[(0, .tmp s0), (2, .tmp s2), (3, .tmp s3), (5, .tmp s5), (6, .tmp s6)]) (h0 : rd a s0 = .int .i64 j) (h2 : rd a s2 = .slice a2 n2 c2) (h3 : rd a s3 = .bool fz) (h5 : rd a s5 = .bool kn) (h6 : rd a s6 = sv mk) :
    (execOp a.eval o).run Tryz.prog W = .ok (.value (.agg #[.int .i64 j, .slice none 0 0, .slice a2 n2 c2, .bool fz, .slice none 0 0, .bool kn, sv mk, .slice none 0 0, .bool false, .bool false, .bool false])) W := by
  obtain ⟨dst, op, ty, pos, after, guard⟩ := o
  cases ho
  have h0' : a.eval (.tmp s0) = _ := h0
  have h2' : a.eval (.tmp s2) = _ := h2
  have h3' : a.eval (.tmp s3) = _ := h3
  have h5' : a.eval (.tmp s5) = _ := h5
  have h6' : a.eval (.tmp s6) = _ := h6
  generalize a.eval = ρ at h0' h2' h3' h5' h6' ⊢
  simp [execOp, go_sem, h0', h2', h3', h5', h6']
theorem run_enter5 {s t u x f : Nat} {ts : Array TypeId} {v v' v2 v3 v4 : Value} (hE : ∀ args, (callFunc f args).run Tryz.prog W = .ok (.enter f args) W) (ho : o.op = .call { callee := .value (.func f), args := #[.tmp s, .tmp t, .tmp u, .tmp x, .const v4], argTypes := ts }) (h : rd a s = v) (h2 : rd a t = v') (h3 : rd a u = v2) (h4 : rd a x = v3) : (execOp a.eval o).run Tryz.prog W = .ok (.enter f #[v, v', v2, v3, v4]) W := by
  obtain ⟨dst, op, ty, pos, after, guard⟩ := o
  cases ho
  have h' : a.eval (.tmp s) = _ := h
  have h2' : a.eval (.tmp t) = _ := h2
  have h3' : a.eval (.tmp u) = _ := h3
  have h4' : a.eval (.tmp x) = _ := h4
  have h5' : a.eval (.const v4) = v4 := rfl
  have hf : a.eval (.func f) = .func (.func f) #[] #[] := rfl
  generalize a.eval = ρ at h' h2' h3' h4' h5' hf ⊢
  simp [execOp, go_sem, h', h2', h3', h4', h5', hf, hE]
theorem run_enter8 {s0 s1 s2 s3 s4 s5 s6 s7 f : Nat} {ts : Array TypeId} {v0 v1 v2 v3 v4 v5 v6 v7 : Value} (hE : ∀ args, (callFunc f args).run Tryz.prog W = .ok (.enter f args) W) (ho : o.op = .call { callee := .value (.func f), args := #[.tmp s0, .tmp s1, .tmp s2, .tmp s3, .tmp s4, .tmp s5, .tmp s6, .tmp s7], argTypes := ts }) (h0 : rd a s0 = v0) (h1 : rd a s1 = v1) (h2 : rd a s2 = v2) (h3 : rd a s3 = v3) (h4 : rd a s4 = v4) (h5 : rd a s5 = v5) (h6 : rd a s6 = v6) (h7 : rd a s7 = v7) : (execOp a.eval o).run Tryz.prog W = .ok (.enter f #[v0, v1, v2, v3, v4, v5, v6, v7]) W := by
  obtain ⟨dst, op, ty, pos, after, guard⟩ := o
  cases ho
  have h0' : a.eval (.tmp s0) = _ := h0
  have h1' : a.eval (.tmp s1) = _ := h1
  have h2' : a.eval (.tmp s2) = _ := h2
  have h3' : a.eval (.tmp s3) = _ := h3
  have h4' : a.eval (.tmp s4) = _ := h4
  have h5' : a.eval (.tmp s5) = _ := h5
  have h6' : a.eval (.tmp s6) = _ := h6
  have h7' : a.eval (.tmp s7) = _ := h7
  have hf : a.eval (.func f) = .func (.func f) #[] #[] := rfl
  generalize a.eval = ρ at h0' h1' h2' h3' h4' h5' h6' h7' hf ⊢
  simp [execOp, go_sem, h0', h1', h2', h3', h4', h5', h6', h7', hf, hE]
/-- 11 cells are laid. -/
def put11 (w : World) (b : Nat) (x0 x1 x2 x3 x4 x5 x6 x7 x8 x9 x10 : Value) : World := (((put9 w b x0 x1 x2 x3 x4 x5 x6 x7 x8).setCell ⟨b, 9, none⟩ x9).setCell ⟨b, 10, none⟩ x10)
theorem run_store31 {s t b : Nat} {j : Int} {a1 a2 a4 a7 : Option Addr} {n1 c1 n2 c2 n4 c4 n7 c7 : Nat} {fz kn p8 p9 p10 : Bool} {mk : Str} {z0 z1 z2 z3 z4 z5 z6 z7 z8 z9 z10 : Value} (ho : o.op = .store 31 (.tmp s) (.tmp t)) (h : rd a s = .pointer (some ⟨b, 0, none⟩))
    (h2 : rd a t = .agg #[.int .i64 j, .slice a1 n1 c1, .slice a2 n2 c2, .bool fz, .slice a4 n4 c4, .bool kn, sv mk, .slice a7 n7 c7, .bool p8, .bool p9, .bool p10])
    (hb : W.heap[b]? = some (.cells #[z0, z1, z2, z3, z4, z5, z6, z7, z8, z9, z10] 31 (0, 0))) : (execOp a.eval o).run Tryz.prog W = .ok .skip (put11 W b (.int .i64 j) (.slice a1 n1 c1) (.slice a2 n2 c2) (.bool fz) (.slice a4 n4 c4) (.bool kn) (sv mk) (.slice a7 n7 c7) (.bool p8) (.bool p9) (.bool p10)) := by
  obtain ⟨dst, op, ty, pos, after, guard⟩ := o
  cases ho
  have h' : a.eval (.tmp s) = _ := h
  have h2' : a.eval (.tmp t) = _ := h2
  have k0 : W.cell? ⟨b, 0, none⟩ = some z0 := by simp [World.cell?, hb]
  have k1 : W.cell? ⟨b, 1, none⟩ = some z1 := by simp [World.cell?, hb]
  have k2 : W.cell? ⟨b, 2, none⟩ = some z2 := by simp [World.cell?, hb]
  have k3 : W.cell? ⟨b, 3, none⟩ = some z3 := by simp [World.cell?, hb]
  have k4 : W.cell? ⟨b, 4, none⟩ = some z4 := by simp [World.cell?, hb]
  have k5 : W.cell? ⟨b, 5, none⟩ = some z5 := by simp [World.cell?, hb]
  have k6 : W.cell? ⟨b, 6, none⟩ = some z6 := by simp [World.cell?, hb]
  have k7 : W.cell? ⟨b, 7, none⟩ = some z7 := by simp [World.cell?, hb]
  have k8 : W.cell? ⟨b, 8, none⟩ = some z8 := by simp [World.cell?, hb]
  have k9 : W.cell? ⟨b, 9, none⟩ = some z9 := by simp [World.cell?, hb]
  have k10 : W.cell? ⟨b, 10, none⟩ = some z10 := by simp [World.cell?, hb]
  have g : ∀ o, W.frozen? ⟨b, o, none⟩ = false := fun o => by simp [World.frozen?, hb]
  generalize a.eval = ρ at h' h2' ⊢
  unfold put11 put9
  simp [execOp, go_sem, h', h2', k0, k1, k2, k3, k4, k5, k6, k7, k8, k9, k10, g]
end
theorem put11_blk {w : World} {b : Nat} {t : TypeId} {c0 c1 c2 c3 c4 c5 c6 c7 c8 c9 c10 : Value} (e : w.heap[b]? = some (.cells #[c0, c1, c2, c3, c4, c5, c6, c7, c8, c9, c10] t (0, 0))) (x0 x1 x2 x3 x4 x5 x6 x7 x8 x9 x10 : Value) : (put11 w b x0 x1 x2 x3 x4 x5 x6 x7 x8 x9 x10).heap[b]? = some (.cells #[x0, x1, x2, x3, x4, x5, x6, x7, x8, x9, x10] t (0, 0)) := by
  have e0 := set1_blk e 0 x0 #[x0, c1, c2, c3, c4, c5, c6, c7, c8, c9, c10] rfl
  have e1 := set1_blk e0 1 x1 #[x0, x1, c2, c3, c4, c5, c6, c7, c8, c9, c10] rfl
  have e2 := set1_blk e1 2 x2 #[x0, x1, x2, c3, c4, c5, c6, c7, c8, c9, c10] rfl
  have e3 := set1_blk e2 3 x3 #[x0, x1, x2, x3, c4, c5, c6, c7, c8, c9, c10] rfl
  have e4 := set1_blk e3 4 x4 #[x0, x1, x2, x3, x4, c5, c6, c7, c8, c9, c10] rfl
  have e5 := set1_blk e4 5 x5 #[x0, x1, x2, x3, x4, x5, c6, c7, c8, c9, c10] rfl
  have e6 := set1_blk e5 6 x6 #[x0, x1, x2, x3, x4, x5, x6, c7, c8, c9, c10] rfl
  have e7 := set1_blk e6 7 x7 #[x0, x1, x2, x3, x4, x5, x6, x7, c8, c9, c10] rfl
  have e8 := set1_blk e7 8 x8 #[x0, x1, x2, x3, x4, x5, x6, x7, x8, c9, c10] rfl
  have e9 := set1_blk e8 9 x9 #[x0, x1, x2, x3, x4, x5, x6, x7, x8, x9, c10] rfl
  have e10 := set1_blk e9 10 x10 #[x0, x1, x2, x3, x4, x5, x6, x7, x8, x9, x10] rfl
  exact e10
theorem Kept.put11 {w X : World} (q : Kept w X) (b : Nat) (hb : w.heap.size ≤ b) (x0 x1 x2 x3 x4 x5 x6 x7 x8 x9 x10 : Value) : Kept w (_root_.Go.Proofs.Qxb6616331aGreatDoor.put11 X b x0 x1 x2 x3 x4 x5 x6 x7 x8 x9 x10) := by
  have q := q.put9 b hb x0 x1 x2 x3 x4 x5 x6 x7 x8
  have q := q.setNew ⟨b, 9, none⟩ hb x9
  have q := q.setNew ⟨b, 10, none⟩ hb x10
  exact q

/-- How a view's value lies. -/
structure VL where
  N : Int
  ab : Option Addr
  nb : Nat
  cb : Nat
  al : Option Addr
  nl : Nat
  cl : Nat
  ac : Option Addr
  nc : Nat
  cc : Nat
abbrev VL.arr (l : VL) : Array Value := #[.int .u64 l.N, .slice l.ab l.nb l.cb, .slice l.al l.nl l.cl, .slice l.ac l.nc l.cc]
abbrev VL.val (l : VL) : Value := .agg l.arr
theorem IsV.vl {w : World} {v : Value} {V : View} (h : IsV w v V) : ∃ l : VL, v = l.val ∧ IsL w l.ab l.nb V.base ∧ IsL w l.al l.nl V.last ∧ IsL w l.ac l.nc V.changes ∧ l.N = V.count := by
  obtain ⟨ab, nb, cb, al, nl, cl, ac, nc, cc, e, h1, h2, h3⟩ := h.ex
  exact ⟨⟨V.count, ab, nb, cb, al, nl, cl, ac, nc, cc⟩, e, h1, h2, h3, rfl⟩

section
variable {P : Program} {Q : Exit → Act → World → Prop} {a : Act} {w : World} {n : Nat} {L : List (Nat × Value)}
theorem frame_abs {c : Code} (h : Fr n a L) (k : ∀ a, Fr n a L → c.wp P Q a w) : c.wp P Q a w := k a h
theorem wl_end {ops : Array Oper} (h : Q .normal a w) : wpList P ops Q [] a w := h
/-- A test behind which the function returns a constant. -/
theorem cond_ret {t id : Nat} {o : Oper} {R : Code} {b val : Bool} (hr : rd a t = .bool b) (hf : Fr 373 a L) (ho : o.op = .assign (.const (.bool val))) (hd : o.dst = some 16) (hg : o.guard = none)
    (h1 : b = true → ∀ a', Fr 373 a' [(16, .bool val)] → Q .ret a' w) (h2 : b = false → R.wp Tryz.prog Q a w) :
    (Code.cond (.tmp t) (.seq (.region id #[o] false) .ret) .skip).wp Tryz.prog (Exit.then (R.wp Tryz.prog Q) Q) a w := by
  cases b
  · exact wp_cond_false hr (wp_skip (h2 rfl))
  · refine wp_cond_true hr (wp_seq (wp_region_list (wl_val (wanted_none hg) (run_const ho) ?_)))
    show Code.wp _ _ _ (a.put o.dst _) w
    rw [hd]
    exact wp_ret (h1 rfl _ ((hf.sub (Has.nil _)).put 16 _ (by decide) rfl))
end

end Go.Proofs.Qxb6616331aGreatDoor
