/-
  THE WALKS of seat b6616331aZD, X1: straight code over a frame that is a letter.
-/
import Derived.Test.Qxb6616331aGreatDoorX0
namespace Go.Proofs.Qxb6616331aGreatDoor
open Go.RowKit
set_option linter.unusedVariables false
set_option linter.unusedSimpArgs false
set_option linter.unnecessarySimpa false
set_option maxRecDepth 40000

/-- The slots hold what the list says. -/
def Has (a : Act) (L : List (Nat × Value)) : Prop := ∀ (i : Nat) (k : Nat) (v : Value), L[i]? = some (k, v) → rd a k = v
theorem Has.at {a : Act} {L : List (Nat × Value)} (h : Has a L) (i : Nat) {k : Nat} {v : Value} (e : L[i]? = some (k, v)) : rd a k = v := h i k v e
theorem Has.nil (a : Act) : Has a [] := fun i k v e => by simp at e
theorem Has.cons {a : Act} {L : List (Nat × Value)} {k : Nat} {v : Value} (h : rd a k = v) (hL : Has a L) : Has a ((k, v) :: L) := fun i k' v' e => by
  cases i with
  | zero => simp at e; obtain ⟨rfl, rfl⟩ := e; exact h
  | succ i => exact hL i k' v' (by simpa using e)
/-- The frame: of n slots, nothing deferred, and the slots hold what the list says. -/
structure Fr (n : Nat) (a : Act) (L : List (Nat × Value)) : Prop where
  size : a.tmps.size = n
  defers : a.defers = []
  has : Has a L
theorem Fr.at {n : Nat} {a : Act} {L : List (Nat × Value)} (h : Fr n a L) (i : Nat) {k : Nat} {v : Value} (e : L[i]? = some (k, v)) : rd a k = v := h.has i k v e
theorem Fr.put {n : Nat} {a : Act} {L : List (Nat × Value)} (h : Fr n a L) (d : Nat) (v : Value) (hd : d < n) (hn : (L.map Prod.fst).contains d = false) : Fr n (a.put (some d) v) ((d, v) :: L) :=
  ⟨(size_put a d v).trans h.size, h.defers, Has.cons (rd_put_self a d v (by rw [h.size]; exact hd)) (fun i k v' e => by
    have hk : k ∈ L.map Prod.fst := List.mem_map.2 ⟨(k, v'), List.mem_of_getElem? e, rfl⟩
    have hne : d ≠ k := fun e => by
      subst e
      simp at hn
      obtain ⟨x, hx⟩ := List.mem_map.1 hk
      obtain ⟨x1, x2⟩ := x
      simp at hx
      obtain ⟨hx, rfl⟩ := hx
      exact hn x2 hx
    exact (rd_put_ne a d k v hne).trans (h.has i k v' e))⟩
theorem Fr.sub {n : Nat} {a : Act} {L L' : List (Nat × Value)} (h : Fr n a L) (h' : Has a L') : Fr n a L' := ⟨h.size, h.defers, h'⟩

/-- The operations run one behind the other, and the world stands. -/
inductive Runs (W : World) : List Oper → Act → Act → Prop
  | nil (a : Act) : Runs W [] a a
  | cons {o : Oper} {os : List Oper} {a a' : Act} {v : Value} (hg : o.guard = none) (hr : (execOp a.eval o).run Tryz.prog W = .ok (.value v) W) (h : Runs W os (a.put o.dst v) a') : Runs W (o :: os) a a'
theorem Runs.wp {W : World} {ops : Array Oper} {Q : Exit → Act → World → Prop} : ∀ {l : List Oper} {a a' : Act}, Runs W l a a' → Q .normal a' W → wpList Tryz.prog ops Q l a W := by
  intro l a a' h
  induction h with
  | nil a => intro hq; exact hq
  | cons hg hr _ ih =>
    intro hq
    refine wpList_step (fun K hK => ?_)
    rw [if_pos (by unfold Region.wanted; rw [hg])]
    unfold Oper.wp
    rw [hr]
    exact hK _ _ (ih hq)
theorem wp_runs {W : World} {id : Nat} {ops : Array Oper} {Q : Exit → Act → World → Prop} {a a' : Act} (h : Runs W ops.toList a a') (hq : Q .normal a' W) : (Code.region id ops false).wp Tryz.prog Q a W := wp_region_list (h.wp hq)

section
variable {W : World} {a : Act} {o : Oper}
theorem run_move' {s : Nat} {v : Value} (ho : o.op = .move (.tmp s)) (h : rd a s = v) : (execOp a.eval o).run Tryz.prog W = .ok (.value v) W := by
  unfold execOp; rw [ho, ← h]; rfl
theorem run_assign' {s : Nat} {v : Value} (ho : o.op = .assign (.tmp s)) (h : rd a s = v) : (execOp a.eval o).run Tryz.prog W = .ok (.value v) W := by
  unfold execOp; rw [ho, ← h]; rfl
theorem run_const {v : Value} (ho : o.op = .assign (.const v)) : (execOp a.eval o).run Tryz.prog W = .ok (.value v) W := by
  unfold execOp; rw [ho]; rfl
theorem run_lenS {s : Nat} {p : Option Addr} {n c : Nat} {T : TypeId} (ho : o.op = .call { callee := .builtin .len, args := #[.tmp s], argTypes := #[T] }) (hT : T = 23 ∨ T = 26 ∨ T = 29) (h : rd a s = .slice p n c) : (execOp a.eval o).run Tryz.prog W = .ok (.value (.int .i64 n)) W := by
  obtain ⟨dst, op, ty, pos, after, guard⟩ := o
  cases ho
  have h' : a.eval (.tmp s) = _ := h
  generalize a.eval = ρ at h' ⊢
  rcases hT with rfl | rfl | rfl <;> simp [go_sem, h']
theorem run_lenT {s : Nat} {x : Str} (ho : o.op = .call { callee := .builtin .len, args := #[.tmp s], argTypes := #[9] }) (h : rd a s = sv x) : (execOp a.eval o).run Tryz.prog W = .ok (.value (.int .i64 x.length)) W := by
  obtain ⟨dst, op, ty, pos, after, guard⟩ := o
  cases ho
  have h' : a.eval (.tmp s) = _ := h
  generalize a.eval = ρ at h' ⊢
  simp [go_sem, h']
theorem run_gtr {s : Nat} {x k : Int} (ho : o.op = .binOp .gtr 3 (.tmp s) (.const (.int .i64 k)) 3) (h : rd a s = .int .i64 x) : (execOp a.eval o).run Tryz.prog W = .ok (.value (.bool (decide (k < x)))) W := by
  obtain ⟨dst, op, ty, pos, after, guard⟩ := o
  cases ho
  have h' : a.eval (.tmp s) = _ := h
  have hk : a.eval (.const (.int .i64 k)) = .int .i64 k := rfl
  generalize a.eval = ρ at h' hk ⊢
  simp [execOp, go_sem, h', hk]
theorem run_lss {s t : Nat} {x y : Int} (ho : o.op = .binOp .lss 3 (.tmp s) (.tmp t) 3) (h : rd a s = .int .i64 x) (h2 : rd a t = .int .i64 y) : (execOp a.eval o).run Tryz.prog W = .ok (.value (.bool (decide (x < y)))) W := by
  obtain ⟨dst, op, ty, pos, after, guard⟩ := o
  cases ho
  have h' : a.eval (.tmp s) = _ := h
  have h2' : a.eval (.tmp t) = _ := h2
  generalize a.eval = ρ at h' h2' ⊢
  simp [execOp, go_sem, h', h2']
theorem run_add {s t : Nat} {x y : Int} (ho : o.op = .binOp .add 3 (.tmp s) (.tmp t) 3) (h : rd a s = .int .i64 x) (h2 : rd a t = .int .i64 y) (h0 : 0 ≤ x + y) (h1 : x + y ≤ 4611686018427387904) : (execOp a.eval o).run Tryz.prog W = .ok (.value (.int .i64 (x + y))) W := by
  obtain ⟨dst, op, ty, pos, after, guard⟩ := o
  cases ho
  have h' : a.eval (.tmp s) = _ := h
  have h2' : a.eval (.tmp t) = _ := h2
  have hw : IntKind.i64.wrap (x + y) = x + y := IntWalk.i64_in _ ⟨by omega, by omega⟩
  generalize a.eval = ρ at h' h2' ⊢
  simp [execOp, go_sem, h', h2', hw]
theorem run_inc {s : Nat} {x : Int} (ho : o.op = .binOp .add 3 (.tmp s) (.const (.int .i64 1)) 3) (h : rd a s = .int .i64 x) (h0 : 0 ≤ x) (h1 : x ≤ 4611686018427387904) : (execOp a.eval o).run Tryz.prog W = .ok (.value (.int .i64 (x + 1))) W := by
  obtain ⟨dst, op, ty, pos, after, guard⟩ := o
  cases ho
  have h' : a.eval (.tmp s) = _ := h
  have hw : IntKind.i64.wrap (x + 1) = x + 1 := IntWalk.i64_in _ ⟨by omega, by omega⟩
  have hk : a.eval (.const (.int .i64 1)) = .int .i64 1 := rfl
  generalize a.eval = ρ at h' hk ⊢
  simp [execOp, go_sem, h', hk, hw]
theorem run_field25 {s f b : Nat} (ho : o.op = .fieldAddr 25 (.tmp s) f) (hf : f = 1 ∨ f = 2 ∨ f = 3) (h : rd a s = .pointer (some ⟨b, 0, none⟩)) : (execOp a.eval o).run Tryz.prog W = .ok (.value (.pointer (some ⟨b, f, none⟩))) W := by
  obtain ⟨dst, op, ty, pos, after, guard⟩ := o
  cases ho
  have h' : a.eval (.tmp s) = _ := h
  generalize a.eval = ρ at h' ⊢
  rcases hf with rfl | rfl | rfl <;> simp [execOp, go_sem, h']
theorem run_load23 {s : Nat} {p : Addr} {v : Value} (ho : o.op = .load 23 (.tmp s)) (h : rd a s = .pointer (some p)) (hc : W.cell? p = some v) : (execOp a.eval o).run Tryz.prog W = .ok (.value v) W := by
  obtain ⟨dst, op, ty, pos, after, guard⟩ := o
  cases ho
  have h' : a.eval (.tmp s) = _ := h
  generalize a.eval = ρ at h' ⊢
  simp [execOp, go_sem, h', hc]
theorem run_load29 {s : Nat} {p : Addr} {v : Value} (ho : o.op = .load 29 (.tmp s)) (h : rd a s = .pointer (some p)) (hc : W.cell? p = some v) : (execOp a.eval o).run Tryz.prog W = .ok (.value v) W := by
  obtain ⟨dst, op, ty, pos, after, guard⟩ := o
  cases ho
  have h' : a.eval (.tmp s) = _ := h
  generalize a.eval = ρ at h' ⊢
  simp [execOp, go_sem, h', hc]
theorem run_load9 {s : Nat} {p : Addr} {v : Value} (ho : o.op = .load 9 (.tmp s)) (h : rd a s = .pointer (some p)) (hc : W.cell? p = some v) : (execOp a.eval o).run Tryz.prog W = .ok (.value v) W := by
  obtain ⟨dst, op, ty, pos, after, guard⟩ := o
  cases ho
  have h' : a.eval (.tmp s) = _ := h
  generalize a.eval = ρ at h' ⊢
  simp [execOp, go_sem, h', hc]
theorem run_index23 {s t b off n c k : Nat} (ho : o.op = .indexAddr 23 (.tmp s) (.tmp t)) (h : rd a s = .slice (some ⟨b, off, none⟩) n c) (h2 : rd a t = .int .i64 (k : Nat)) (hk : k < n) : (execOp a.eval o).run Tryz.prog W = .ok (.value (.pointer (some ⟨b, off + k, none⟩))) W := by
  obtain ⟨dst, op, ty, pos, after, guard⟩ := o
  cases ho
  have h' : a.eval (.tmp s) = _ := h
  have h2' : a.eval (.tmp t) = _ := h2
  have h3 : (k : Int) < (n : Int) := by omega
  generalize a.eval = ρ at h' h2' ⊢
  simp [execOp, go_sem, h', h2', h3]
theorem run_index29 {s t b off n c k : Nat} (ho : o.op = .indexAddr 29 (.tmp s) (.tmp t)) (h : rd a s = .slice (some ⟨b, off, none⟩) n c) (h2 : rd a t = .int .i64 (k : Nat)) (hk : k < n) : (execOp a.eval o).run Tryz.prog W = .ok (.value (.pointer (some ⟨b, off + k, none⟩))) W := by
  obtain ⟨dst, op, ty, pos, after, guard⟩ := o
  cases ho
  have h' : a.eval (.tmp s) = _ := h
  have h2' : a.eval (.tmp t) = _ := h2
  have h3 : (k : Int) < (n : Int) := by omega
  generalize a.eval = ρ at h' h2' ⊢
  simp [execOp, go_sem, h', h2', h3]
theorem run_index26 {s t b off n c k : Nat} (ho : o.op = .indexAddr 26 (.tmp s) (.tmp t)) (h : rd a s = .slice (some ⟨b, off, none⟩) n c) (h2 : rd a t = .int .i64 (k : Nat)) (hk : k < n) : (execOp a.eval o).run Tryz.prog W = .ok (.value (.pointer (some ⟨b, off + k * 11, none⟩))) W := by
  obtain ⟨dst, op, ty, pos, after, guard⟩ := o
  cases ho
  have h' : a.eval (.tmp s) = _ := h
  have h2' : a.eval (.tmp t) = _ := h2
  have h3 : (k : Int) < (n : Int) := by omega
  generalize a.eval = ρ at h' h2' ⊢
  simp [execOp, go_sem, h', h2', h3]
theorem run_field31 {s f b off : Nat} (ho : o.op = .fieldAddr 31 (.tmp s) f) (hf : f = 1 ∨ f = 2 ∨ f = 4 ∨ f = 6 ∨ f = 7) (h : rd a s = .pointer (some ⟨b, off, none⟩)) : (execOp a.eval o).run Tryz.prog W = .ok (.value (.pointer (some ⟨b, off + f, none⟩))) W := by
  obtain ⟨dst, op, ty, pos, after, guard⟩ := o
  cases ho
  have h' : a.eval (.tmp s) = _ := h
  generalize a.eval = ρ at h' ⊢
  rcases hf with rfl | rfl | rfl | rfl | rfl <;> simp [execOp, go_sem, h']
end

end Go.Proofs.Qxb6616331aGreatDoor
