/-
  THE WALKS of seat b6616331aZD, X4: operations that turn the world, over a frame that is a letter; zzBytes.
-/
import Derived.Test.Qxb6616331aGreatDoorX3
namespace Go.Proofs.Qxb6616331aGreatDoor
open Go.RowKit
set_option linter.unusedVariables false
set_option linter.unusedSimpArgs false
set_option linter.unnecessarySimpa false
set_option maxRecDepth 40000

section
variable {ops : Array Oper} {Q : Exit → Act → World → Prop} {a : Act} {w w' : World} {rest : List Oper} {o : Oper} {v : Value}
theorem wanted_none {ys : Nat → Option Bool} (hg : o.guard = none) : Region.wanted o ys = true := by unfold Region.wanted; rw [hg]
theorem wanted_some {j d : Nat} {b b' : Bool} {n : Nat} (hg : o.guard = some (j, b)) (hj : (ops[j]?).bind (·.dst) = some d) (hs : a.tmps.size = n) (hd : d < n) (hr : rd a d = .bool b') : Region.wanted o (yielded ops a.tmps) = (b' == b) := by
  unfold Region.wanted yielded
  simp only [hg, hj]
  have h : a.tmps[d]? = some (.bool b') := by
    have hd' : d < a.tmps.size := by omega
    have : a.tmps[d]? = some a.tmps[d] := Array.getElem?_eq_getElem hd'
    rw [this]
    have h2 : rd a d = a.tmps[d] := by simp [rd, Array.getD_eq_getD_getElem?, hd']
    rw [← h2, hr]
  simp only [Option.bind_some, h]
  cases b' <;> cases b <;> rfl
theorem wl_val (hw : Region.wanted o (yielded ops a.tmps) = true) (hr : (execOp a.eval o).run Tryz.prog w = .ok (.value v) w') (h : wpList Tryz.prog ops Q rest (a.put o.dst v) w') : wpList Tryz.prog ops Q (o :: rest) a w := by
  refine wpList_step (fun K hK => ?_)
  rw [if_pos hw]
  unfold Oper.wp
  rw [hr]
  exact hK _ _ h
theorem wl_skip (hw : Region.wanted o (yielded ops a.tmps) = true) (hd : o.dst = none) (hr : (execOp a.eval o).run Tryz.prog w = .ok .skip w') (h : wpList Tryz.prog ops Q rest a w') : wpList Tryz.prog ops Q (o :: rest) a w := by
  refine wpList_step (fun K hK => ?_)
  rw [if_pos hw]
  unfold Oper.wp
  rw [hr]
  show K (a.put o.dst undef) w'
  rw [hd]
  exact hK _ _ h
theorem wl_not (hw : Region.wanted o (yielded ops a.tmps) = false) (h : wpList Tryz.prog ops Q rest (a.put o.dst undef) w) : wpList Tryz.prog ops Q (o :: rest) a w := by
  refine wpList_step (fun K hK => ?_)
  rw [if_neg (by rw [hw]; decide)]
  exact hK _ _ h
theorem wl_call {f : FuncId} {args : Array Value} {post : Ending → World → Prop} (hw : Region.wanted o (yielded ops a.tmps) = true) (hr : (execOp a.eval o).run Tryz.prog w = .ok (.enter f args) w) (hc : Calls Tryz.prog f args w post)
    (h : ∀ e w', post e w' → ∃ v, e = .returned v ∧ wpList Tryz.prog ops Q rest (a.put o.dst v) w') : wpList Tryz.prog ops Q (o :: rest) a w := by
  refine wpList_step (fun K hK => ?_)
  rw [if_pos hw]
  unfold Oper.wp
  rw [hr]
  refine hc.mono ?_
  intro e w' hp
  obtain ⟨v, rfl, hk⟩ := h e w' hp
  exact hK _ _ hk
end

section
variable {W : World} {a : Act} {o : Oper}
theorem run_box25 {s : Nat} {x0 x1 x2 x3 : Value} (ho : o.op = .box 25 (.tmp s)) (h : rd a s = .agg #[x0, x1, x2, x3]) : (execOp a.eval o).run Tryz.prog W = .ok (.value (.pointer (some ⟨W.heap.size, 0, none⟩))) (W.alloc (.cells #[x0, x1, x2, x3] 25)) := by
  obtain ⟨dst, op, ty, pos, after, guard⟩ := o
  cases ho
  have h' : a.eval (.tmp s) = _ := h
  generalize a.eval = ρ at h' ⊢
  simp [execOp, go_sem, h']
theorem run_load25 {s b : Nat} {x0 x1 x2 x3 : Value} (ho : o.op = .load 25 (.tmp s)) (h : rd a s = .pointer (some ⟨b, 0, none⟩)) (hb : W.heap[b]? = some (.cells #[x0, x1, x2, x3] 25 (0, 0))) : (execOp a.eval o).run Tryz.prog W = .ok (.value (.agg #[x0, x1, x2, x3])) W := by
  obtain ⟨dst, op, ty, pos, after, guard⟩ := o
  cases ho
  have h' : a.eval (.tmp s) = _ := h
  have c0 : W.cell? ⟨b, 0, none⟩ = some x0 := by simp [World.cell?, hb]
  have c1 : W.cell? ⟨b, 1, none⟩ = some x1 := by simp [World.cell?, hb]
  have c2 : W.cell? ⟨b, 2, none⟩ = some x2 := by simp [World.cell?, hb]
  have c3 : W.cell? ⟨b, 3, none⟩ = some x3 := by simp [World.cell?, hb]
  generalize a.eval = ρ at h' ⊢
  simp [execOp, go_sem, h', c0, c1, c2, c3]
theorem run_load42 {s b : Nat} {x0 x1 x2 x3 : Value} (ho : o.op = .load 42 (.tmp s)) (h : rd a s = .pointer (some ⟨b, 0, none⟩)) (hb : W.heap[b]? = some (.cells #[x0, x1, x2, x3] 42 (0, 0))) : (execOp a.eval o).run Tryz.prog W = .ok (.value (.agg #[x0, x1, x2, x3])) W := by
  obtain ⟨dst, op, ty, pos, after, guard⟩ := o
  cases ho
  have h' : a.eval (.tmp s) = _ := h
  have c0 : W.cell? ⟨b, 0, none⟩ = some x0 := by simp [World.cell?, hb]
  have c1 : W.cell? ⟨b, 1, none⟩ = some x1 := by simp [World.cell?, hb]
  have c2 : W.cell? ⟨b, 2, none⟩ = some x2 := by simp [World.cell?, hb]
  have c3 : W.cell? ⟨b, 3, none⟩ = some x3 := by simp [World.cell?, hb]
  generalize a.eval = ρ at h' ⊢
  simp [execOp, go_sem, h', c0, c1, c2, c3]
theorem run_load44 {s b : Nat} {x0 x1 x2 x3 x4 x5 x6 x7 x8 : Value} (ho : o.op = .load 44 (.tmp s)) (h : rd a s = .pointer (some ⟨b, 0, none⟩)) (hb : W.heap[b]? = some (.cells #[x0, x1, x2, x3, x4, x5, x6, x7, x8] 44 (0, 0))) : (execOp a.eval o).run Tryz.prog W = .ok (.value (.agg #[x0, x1, x2, x3, x4, x5, x6, x7, x8])) W := by
  obtain ⟨dst, op, ty, pos, after, guard⟩ := o
  cases ho
  have h' : a.eval (.tmp s) = _ := h
  have c0 : W.cell? ⟨b, 0, none⟩ = some x0 := by simp [World.cell?, hb]
  have c1 : W.cell? ⟨b, 1, none⟩ = some x1 := by simp [World.cell?, hb]
  have c2 : W.cell? ⟨b, 2, none⟩ = some x2 := by simp [World.cell?, hb]
  have c3 : W.cell? ⟨b, 3, none⟩ = some x3 := by simp [World.cell?, hb]
  have c4 : W.cell? ⟨b, 4, none⟩ = some x4 := by simp [World.cell?, hb]
  have c5 : W.cell? ⟨b, 5, none⟩ = some x5 := by simp [World.cell?, hb]
  have c6 : W.cell? ⟨b, 6, none⟩ = some x6 := by simp [World.cell?, hb]
  have c7 : W.cell? ⟨b, 7, none⟩ = some x7 := by simp [World.cell?, hb]
  have c8 : W.cell? ⟨b, 8, none⟩ = some x8 := by simp [World.cell?, hb]
  generalize a.eval = ρ at h' ⊢
  simp [execOp, go_sem, h', c0, c1, c2, c3, c4, c5, c6, c7, c8]
theorem run_load31 {s b : Nat} {x0 x1 x2 x3 x4 x5 x6 x7 x8 x9 x10 : Value} (ho : o.op = .load 31 (.tmp s)) (h : rd a s = .pointer (some ⟨b, 0, none⟩)) (hb : W.heap[b]? = some (.cells #[x0, x1, x2, x3, x4, x5, x6, x7, x8, x9, x10] 31 (0, 0))) : (execOp a.eval o).run Tryz.prog W = .ok (.value (.agg #[x0, x1, x2, x3, x4, x5, x6, x7, x8, x9, x10])) W := by
  obtain ⟨dst, op, ty, pos, after, guard⟩ := o
  cases ho
  have h' : a.eval (.tmp s) = _ := h
  have c0 : W.cell? ⟨b, 0, none⟩ = some x0 := by simp [World.cell?, hb]
  have c1 : W.cell? ⟨b, 1, none⟩ = some x1 := by simp [World.cell?, hb]
  have c2 : W.cell? ⟨b, 2, none⟩ = some x2 := by simp [World.cell?, hb]
  have c3 : W.cell? ⟨b, 3, none⟩ = some x3 := by simp [World.cell?, hb]
  have c4 : W.cell? ⟨b, 4, none⟩ = some x4 := by simp [World.cell?, hb]
  have c5 : W.cell? ⟨b, 5, none⟩ = some x5 := by simp [World.cell?, hb]
  have c6 : W.cell? ⟨b, 6, none⟩ = some x6 := by simp [World.cell?, hb]
  have c7 : W.cell? ⟨b, 7, none⟩ = some x7 := by simp [World.cell?, hb]
  have c8 : W.cell? ⟨b, 8, none⟩ = some x8 := by simp [World.cell?, hb]
  have c9 : W.cell? ⟨b, 9, none⟩ = some x9 := by simp [World.cell?, hb]
  have c10 : W.cell? ⟨b, 10, none⟩ = some x10 := by simp [World.cell?, hb]
  generalize a.eval = ρ at h' ⊢
  simp [execOp, go_sem, h', c0, c1, c2, c3, c4, c5, c6, c7, c8, c9, c10]
theorem run_alloc42 (ho : o.op = .alloc 42) : (execOp a.eval o).run Tryz.prog W = .ok (.value (.pointer (some ⟨W.heap.size, 0, none⟩))) (W.alloc (.cells #[.int .u64 0, .slice none 0 0, .slice none 0 0, .slice none 0 0] 42)) := by
  obtain ⟨dst, op, ty, pos, after, guard⟩ := o
  cases ho
  generalize a.eval = ρ
  simp [execOp, go_sem]
theorem run_alloc44 (ho : o.op = .alloc 44) : (execOp a.eval o).run Tryz.prog W = .ok (.value (.pointer (some ⟨W.heap.size, 0, none⟩))) (W.alloc (.cells #[.slice none 0 0, .map none, .slice none 0 0, .bool false, .slice none 0 0, .int .u64 0, .slice none 0 0, .slice none 0 0, .slice none 0 0] 44)) := by
  obtain ⟨dst, op, ty, pos, after, guard⟩ := o
  cases ho
  generalize a.eval = ρ
  simp [execOp, go_sem]
theorem run_alloc31 (ho : o.op = .alloc 31) : (execOp a.eval o).run Tryz.prog W = .ok (.value (.pointer (some ⟨W.heap.size, 0, none⟩))) (W.alloc (.cells #[.int .i64 0, .slice none 0 0, .slice none 0 0, .bool false, .slice none 0 0, .bool false, sv [], .slice none 0 0, .bool false, .bool false, .bool false] 31)) := by
  obtain ⟨dst, op, ty, pos, after, guard⟩ := o
  cases ho
  generalize a.eval = ρ
  simp [execOp, go_sem]
  try rfl
theorem run_not {s : Nat} {b : Bool} {T : TypeId} (ho : o.op = .unOp .not T (.tmp s)) (h : rd a s = .bool b) : (execOp a.eval o).run Tryz.prog W = .ok (.value (.bool !b)) W := by
  obtain ⟨dst, op, ty, pos, after, guard⟩ := o
  cases ho
  have h' : a.eval (.tmp s) = _ := h
  generalize a.eval = ρ at h' ⊢
  simp [execOp, go_sem, h']
theorem run_extract {s i : Nat} {xs : Array Value} {v : Value} (ho : o.op = .extract (.tmp s) i) (h : rd a s = .tuple xs) (hv : xs[i]? = some v) : (execOp a.eval o).run Tryz.prog W = .ok (.value v) W := by
  obtain ⟨dst, op, ty, pos, after, guard⟩ := o
  cases ho
  have h' : a.eval (.tmp s) = _ := h
  generalize a.eval = ρ at h' ⊢
  simp [execOp, go_sem, h', hv]
theorem callFunc_enter {f : FuncId} {fn : Func} (hf : Tryz.prog.funcs[f]? = some fn) (hn : (fn.name == "runtime.NumGoroutine") = false) (hb : fn.body.isNone = false) (args : Array Value) (W : World) : (callFunc f args).run Tryz.prog W = .ok (.enter f args) W := by
  have hn' : ¬ fn.name = "runtime.NumGoroutine" := by simpa using hn
  have hb' : ¬ fn.body = none := fun e => by rw [e] at hb; cases hb
  unfold callFunc
  simp [go_sem, hf, hn', hb']
theorem run_enter1 {s f : Nat} {T : TypeId} {v : Value} (hE : ∀ args, (callFunc f args).run Tryz.prog W = .ok (.enter f args) W) (ho : o.op = .call { callee := .value (.func f), args := #[.tmp s], argTypes := #[T] }) (h : rd a s = v) : (execOp a.eval o).run Tryz.prog W = .ok (.enter f #[v]) W := by
  obtain ⟨dst, op, ty, pos, after, guard⟩ := o
  cases ho
  have h' : a.eval (.tmp s) = _ := h
  have hf : a.eval (.func f) = .func (.func f) #[] #[] := rfl
  generalize a.eval = ρ at h' hf ⊢
  simp [execOp, go_sem, h', hf, hE]
theorem run_enter2 {s t f : Nat} {T T' : TypeId} {v v' : Value} (hE : ∀ args, (callFunc f args).run Tryz.prog W = .ok (.enter f args) W) (ho : o.op = .call { callee := .value (.func f), args := #[.tmp s, .tmp t], argTypes := #[T, T'] }) (h : rd a s = v) (h2 : rd a t = v') : (execOp a.eval o).run Tryz.prog W = .ok (.enter f #[v, v']) W := by
  obtain ⟨dst, op, ty, pos, after, guard⟩ := o
  cases ho
  have h' : a.eval (.tmp s) = _ := h
  have h2' : a.eval (.tmp t) = _ := h2
  have hf : a.eval (.func f) = .func (.func f) #[] #[] := rfl
  generalize a.eval = ρ at h' h2' hf ⊢
  simp [execOp, go_sem, h', h2', hf, hE]
theorem run_enter4 {s t u x f : Nat} {T T' T2 T3 : TypeId} {v v' v2 v3 : Value} (hE : ∀ args, (callFunc f args).run Tryz.prog W = .ok (.enter f args) W) (ho : o.op = .call { callee := .value (.func f), args := #[.tmp s, .tmp t, .tmp u, .tmp x], argTypes := #[T, T', T2, T3] }) (h : rd a s = v) (h2 : rd a t = v') (h3 : rd a u = v2) (h4 : rd a x = v3) : (execOp a.eval o).run Tryz.prog W = .ok (.enter f #[v, v', v2, v3]) W := by
  obtain ⟨dst, op, ty, pos, after, guard⟩ := o
  cases ho
  have h' : a.eval (.tmp s) = _ := h
  have h2' : a.eval (.tmp t) = _ := h2
  have h3' : a.eval (.tmp u) = _ := h3
  have h4' : a.eval (.tmp x) = _ := h4
  have hf : a.eval (.func f) = .func (.func f) #[] #[] := rfl
  generalize a.eval = ρ at h' h2' h3' h4' hf ⊢
  simp [execOp, go_sem, h', h2', h3', h4', hf, hE]
theorem run_store42 {s t b : Nat} {N : Int} {a1 a2 a3 : Option Addr} {n1 c1 n2 c2 n3 c3 : Nat} {z0 z1 z2 z3 : Value} (ho : o.op = .store 42 (.tmp s) (.tmp t)) (h : rd a s = .pointer (some ⟨b, 0, none⟩)) (h2 : rd a t = .agg #[.int .u64 N, .slice a1 n1 c1, .slice a2 n2 c2, .slice a3 n3 c3])
    (hb : W.heap[b]? = some (.cells #[z0, z1, z2, z3] 42 (0, 0))) : (execOp a.eval o).run Tryz.prog W = .ok .skip (put4 W b (.int .u64 N) (.slice a1 n1 c1) (.slice a2 n2 c2) (.slice a3 n3 c3)) := by
  obtain ⟨dst, op, ty, pos, after, guard⟩ := o
  cases ho
  have h' : a.eval (.tmp s) = _ := h
  have h2' : a.eval (.tmp t) = _ := h2
  have k0 : W.cell? ⟨b, 0, none⟩ = some z0 := by simp [World.cell?, hb]
  have k1 : W.cell? ⟨b, 1, none⟩ = some z1 := by simp [World.cell?, hb]
  have k2 : W.cell? ⟨b, 2, none⟩ = some z2 := by simp [World.cell?, hb]
  have k3 : W.cell? ⟨b, 3, none⟩ = some z3 := by simp [World.cell?, hb]
  have g : ∀ o, W.frozen? ⟨b, o, none⟩ = false := fun o => by simp [World.frozen?, hb]
  generalize a.eval = ρ at h' h2' ⊢
  unfold put4
  simp [execOp, go_sem, h', h2', k0, k1, k2, k3, g]
theorem run_store25 {s t b : Nat} {N : Int} {a1 a2 a3 : Option Addr} {n1 c1 n2 c2 n3 c3 : Nat} {z0 z1 z2 z3 : Value} (ho : o.op = .store 25 (.tmp s) (.tmp t)) (h : rd a s = .pointer (some ⟨b, 0, none⟩)) (h2 : rd a t = .agg #[.int .u64 N, .slice a1 n1 c1, .slice a2 n2 c2, .slice a3 n3 c3])
    (hb : W.heap[b]? = some (.cells #[z0, z1, z2, z3] 25 (0, 0))) : (execOp a.eval o).run Tryz.prog W = .ok .skip (put4 W b (.int .u64 N) (.slice a1 n1 c1) (.slice a2 n2 c2) (.slice a3 n3 c3)) := by
  obtain ⟨dst, op, ty, pos, after, guard⟩ := o
  cases ho
  have h' : a.eval (.tmp s) = _ := h
  have h2' : a.eval (.tmp t) = _ := h2
  have k0 : W.cell? ⟨b, 0, none⟩ = some z0 := by simp [World.cell?, hb]
  have k1 : W.cell? ⟨b, 1, none⟩ = some z1 := by simp [World.cell?, hb]
  have k2 : W.cell? ⟨b, 2, none⟩ = some z2 := by simp [World.cell?, hb]
  have k3 : W.cell? ⟨b, 3, none⟩ = some z3 := by simp [World.cell?, hb]
  have g : ∀ o, W.frozen? ⟨b, o, none⟩ = false := fun o => by simp [World.frozen?, hb]
  generalize a.eval = ρ at h' h2' ⊢
  unfold put4
  simp [execOp, go_sem, h', h2', k0, k1, k2, k3, g]
theorem run_store44 {s t b : Nat} {a0 a2 a4 a6 a7 a8 : Option Addr} {n0 c0 n2 c2 n4 c4 n6 c6 n7 c7 n8 c8 : Nat} {m : Option Nat} {fb : Bool} {N : Int} {z0 z1 z2 z3 z4 z5 z6 z7 z8 : Value} (ho : o.op = .store 44 (.tmp s) (.tmp t)) (h : rd a s = .pointer (some ⟨b, 0, none⟩))
    (h2 : rd a t = .agg #[.slice a0 n0 c0, .map m, .slice a2 n2 c2, .bool fb, .slice a4 n4 c4, .int .u64 N, .slice a6 n6 c6, .slice a7 n7 c7, .slice a8 n8 c8])
    (hb : W.heap[b]? = some (.cells #[z0, z1, z2, z3, z4, z5, z6, z7, z8] 44 (0, 0))) : (execOp a.eval o).run Tryz.prog W = .ok .skip (put9 W b (.slice a0 n0 c0) (.map m) (.slice a2 n2 c2) (.bool fb) (.slice a4 n4 c4) (.int .u64 N) (.slice a6 n6 c6) (.slice a7 n7 c7) (.slice a8 n8 c8)) := by
  obtain ⟨dst, op, ty, pos, after, guard⟩ := o
  cases ho
  have h' : a.eval (.tmp s) = _ := h
  have h2' : a.eval (.tmp t) = _ := h2
  have k0 : W.cell? ⟨b, 0, none⟩ = some z0 := by simp [World.cell?, hb]
  have k1 : W.cell? ⟨b, 1, none⟩ = some z1 := by simp [World.cell?, hb]
  have k2 : W.cell? ⟨b, 2, none⟩ = some z2 := by simp [World.cell?, hb]
  have k3 : W.cell? ⟨b, 3, none⟩ = some z3 := by simp [World.cell?, hb]
  have k4 : W.cell? ⟨b, 4, none⟩ = some z4 := by simp [World.cell?, hb]
  have k5 : W.cell? ⟨b, 5, none⟩ = some z5 := by simp [World.cell?, hb]
  have k6 : W.cell? ⟨b, 6, none⟩ = some z6 := by simp [World.cell?, hb]
  have k7 : W.cell? ⟨b, 7, none⟩ = some z7 := by simp [World.cell?, hb]
  have k8 : W.cell? ⟨b, 8, none⟩ = some z8 := by simp [World.cell?, hb]
  have g : ∀ o, W.frozen? ⟨b, o, none⟩ = false := fun o => by simp [World.frozen?, hb]
  generalize a.eval = ρ at h' h2' ⊢
  unfold put9
  simp [execOp, go_sem, h', h2', k0, k1, k2, k3, k4, k5, k6, k7, k8, g]
end

theorem init_size (args : Array Value) (m n : Nat) (h : args.size + m = n) : (args ++ Array.replicate m undef).size = n := by simp [h]
theorem init_rd (args : Array Value) (m k : Nat) (v : Value) (h : args[k]? = some v) : rd { tmps := args ++ Array.replicate m undef, defers := [] } k = v := by
  have hk : k < args.size := (Array.getElem?_eq_some_iff.1 h).1
  simp only [rd, Array.getD_eq_getD_getElem?]
  rw [Array.getElem?_append_left hk, h]
  rfl

theorem ret16 {fn : Func} {a : Act} {v : Value} {W : World} (hr : fn.results = #[.tmp 16]) (h : rd a 16 = v) : (results fn a.tmps).run Tryz.prog W = .ok v W := by
  have h' : a.tmps.getD 16 undef = v := h
  unfold results
  rw [hr]
  simp only [Array.getD_eq_getD_getElem?] at h'
  simp [go_sem, h']
theorem bytes5_wp (N1 N2 : Int) (F X : View) (at_ a3 : Option Addr) (nt ct n c3 : Nat) (tos : List Str) (As : List Ans) (mark : Str) (w : World)
    (a1 : Option Addr) (n1 d1 : Nat) (a2 : Option Addr) (n2 d2 : Nat) (a3' : Option Addr) (n3 d3 : Nat) (a4 : Option Addr) (n4 d4 : Nat) (a5 : Option Addr) (n5 d5 : Nat) (a6 : Option Addr) (n6 d6 : Nat)
    (f1 : IsL w a1 n1 F.base) (f2 : IsL w a2 n2 F.last) (f3 : IsL w a3' n3 F.changes) (h1 : IsL w at_ nt tos) (f4 : IsL w a4 n4 X.base) (f5 : IsL w a5 n5 X.last) (f6 : IsL w a6 n6 X.changes) (h3 : IsA w a3 n As) (a : Act)
    (hF : Fr 597 a [(0, .agg #[.int .u64 N1, .slice a1 n1 d1, .slice a2 n2 d2, .slice a3' n3 d3]), (1, .slice at_ nt ct), (2, .agg #[.int .u64 N2, .slice a4 n4 d4, .slice a5 n5 d5, .slice a6 n6 d6]), (3, .slice a3 n c3), (5, sv mark)])
    (i0 i1 : Nat) (p0 p1 p2 : Oper) (q0 : Oper) (c : Code) (hc : Tryz.f5.body = some (.seq (.region i0 #[p0, p1, p2] false) (.seq (.region i1 #[q0] false) c)))
    (e0 : p0.op = .box 25 (.tmp 0) ∧ p0.dst = some 8 ∧ p0.guard = none) (e1 : p1.op = .box 25 (.tmp 2) ∧ p1.dst = some 10 ∧ p1.guard = none) (e2 : p2.op = .assign (.const (.bool false)) ∧ p2.dst = some 16 ∧ p2.guard = none) (e3 : q0.op = .assign (.const (.int .i64 0)) ∧ q0.dst = some 17 ∧ q0.guard = none) :
    Code.wp Tryz.prog (.seq (.region i0 #[p0, p1, p2] false) (.seq (.region i1 #[q0] false) c)) (bodyPost Tryz.prog Tryz.f5 fun e w' => RetB e (fun b => b = true → Bnd F X tos As mark) ∧ Kept w w') a w := by
  refine wp_seq (wp_region_list (wl_val (wanted_none e0.2.2) (run_box25 e0.1 (hF.at 0 rfl)) ?_))
  rw [e0.2.1]
  have hF1 := hF.put 8 (.pointer (some ⟨w.heap.size, 0, none⟩)) (by decide) rfl
  refine wl_val (wanted_none e1.2.2) (run_box25 e1.1 (hF1.at 3 rfl)) ?_
  rw [e1.2.1]
  have hF2 := hF1.put 10 (.pointer (some ⟨(w.alloc (.cells #[.int .u64 N1, .slice a1 n1 d1, .slice a2 n2 d2, .slice a3' n3 d3] 25)).heap.size, 0, none⟩)) (by decide) rfl
  have hS : (w.alloc (.cells #[.int .u64 N1, .slice a1 n1 d1, .slice a2 n2 d2, .slice a3' n3 d3] 25)).heap.size = w.heap.size + 1 := by simp
  have hb1 := new1 w (.cells #[.int .u64 N1, .slice a1 n1 d1, .slice a2 n2 d2, .slice a3' n3 d3] 25) (.cells #[.int .u64 N2, .slice a4 n4 d4, .slice a5 n5 d5, .slice a6 n6 d6] 25)
  have hb2 := new2 w (.cells #[.int .u64 N1, .slice a1 n1 d1, .slice a2 n2 d2, .slice a3' n3 d3] 25) (.cells #[.int .u64 N2, .slice a4 n4 d4, .slice a5 n5 d5, .slice a6 n6 d6] 25)
  have KW : Kept w ((w.alloc (.cells #[.int .u64 N1, .slice a1 n1 d1, .slice a2 n2 d2, .slice a3' n3 d3] 25)).alloc (.cells #[.int .u64 N2, .slice a4 n4 d4, .slice a5 n5 d5, .slice a6 n6 d6] 25)) := (Kept.alloc _ _).more _
  rw [hS] at hF2 ⊢
  generalize (w.alloc (.cells #[.int .u64 N1, .slice a1 n1 d1, .slice a2 n2 d2, .slice a3' n3 d3] 25)).alloc (.cells #[.int .u64 N2, .slice a4 n4 d4, .slice a5 n5 d5, .slice a6 n6 d6] 25) = W at hb1 hb2 KW ⊢
  refine wl_val (wanted_none e2.2.2) (run_const e2.1) ?_
  rw [e2.2.1]
  have hF3 := hF2.put 16 (.bool false) (by decide) rfl
  show Code.wp _ _ _ _ W
  refine wp_seq (wp_region_list (wl_val (wanted_none e3.2.2) (run_const e3.1) ?_))
  rw [e3.2.1]
  have hF4 := hF3.put 17 (.int .i64 0) (by decide) rfl
  show Code.wp _ _ _ _ W
  obtain ⟨-, y1, y2, y3⟩ := (Kept.refl W).box4 hb1
  obtain ⟨-, y4, y5, y6⟩ := (Kept.refl W).box4 hb2
  refine bytes5_body N1 N2 F X at_ a3 nt ct n c3 tos As mark w W a1 n1 d1 a2 n2 d2 a3' n3 d3 a4 n4 d4 a5 n5 d5 a6 n6 d6 y1 y2 y3 y4 y5 y6 (f1.kept KW) (f2.kept KW) (f3.kept KW) (h1.kept KW) (f4.kept KW) (f5.kept KW) (f6.kept KW) (h3.kept KW) c _ _ hc _ ?_ ?_ _ ⟨0, by omega, by omega, hF4.sub (Has.cons (hF4.at 0 rfl) (Has.cons (hF4.at 5 rfl) (Has.cons (hF4.at 7 rfl) (Has.cons (hF4.at 8 rfl) (Has.cons (hF4.at 3 rfl) (Has.cons (hF4.at 2 rfl) (Has.nil _)))))))⟩
  · intro a b ha hb
    refine bodyPost_ret (v := .bool b) ?_ ha.defers ⟨⟨b, rfl, hb⟩, KW⟩
    exact ret16 Tryz.results5 (ha.at 0 rfl)
  · intro a h
    exact h.elim

theorem bytes5 (v0 v2 : Value) (F X : View) (at_ a3 : Option Addr) (nt ct n c3 : Nat) (tos : List Str) (As : List Ans) (j : Int) (mark : Str) (fz kn : Bool) (w : World) (h0 : IsV w v0 F) (h2 : IsV w v2 X) (h1 : IsL w at_ nt tos) (h3 : IsA w a3 n As) :
    Calls Tryz.prog 5 #[v0, .slice at_ nt ct, v2, .slice a3 n c3, .int .i64 j, sv mark, .bool fz, .bool kn] w fun e w' => RetB e (fun b => b = true → Bnd F X tos As mark) ∧ Kept w w' := by
  obtain ⟨a1, n1, d1, a2, n2, d2, a3', n3, d3, rfl, f1, f2, f3⟩ := h0.ex
  obtain ⟨a4, n4, d4, a5, n5, d5, a6, n6, d6, rfl, f4, f5, f6⟩ := h2.ex
  refine calls_of_wp Tryz.func5 (c := _) rfl (bytes5_wp F.count X.count F X at_ a3 nt ct n c3 tos As mark w a1 n1 d1 a2 n2 d2 a3' n3 d3 a4 n4 d4 a5 n5 d5 a6 n6 d6 f1 f2 f3 h1 f4 f5 f6 h3 _ ?_ _ _ _ _ _ _ _ rfl ⟨rfl, rfl, rfl⟩ ⟨rfl, rfl, rfl⟩ ⟨rfl, rfl, rfl⟩ ⟨rfl, rfl, rfl⟩)
  exact ⟨init_size _ _ _ rfl, rfl, Has.cons (init_rd _ _ _ _ rfl) (Has.cons (init_rd _ _ _ _ rfl) (Has.cons (init_rd _ _ _ _ rfl) (Has.cons (init_rd _ _ _ _ rfl) (Has.cons (init_rd _ _ _ _ rfl) (Has.nil _)))))⟩

end Go.Proofs.Qxb6616331aGreatDoor
