/-
  THE WALKS of seat b6616331aZD, X2: what zzBytes' code is made of: checks that return false, sums, loops over lists.
-/
import Derived.Test.Qxb6616331aGreatDoorX1
namespace Go.Proofs.Qxb6616331aGreatDoor
open Go.RowKit
set_option linter.unusedVariables false
set_option linter.unusedSimpArgs false
set_option linter.unnecessarySimpa false
set_option maxRecDepth 40000

/-- The code leads from p to q, or the function returns: true where T holds alone; the world stands. -/
def Tr (T : Prop) (W : World) (p : Act → Prop) (c : Code) (q : Act → Prop) : Prop :=
  ∀ Q : Exit → Act → World → Prop, (∀ a b, Fr 597 a [(16, .bool b)] → (b = true → T) → Q .ret a W) → (∀ a, q a → Q .normal a W) → ∀ a, p a → c.wp Tryz.prog Q a W
section
variable {T : Prop} {W : World} {p q r : Act → Prop}
theorem Tr.seq {c d : Code} (h : Tr T W p c q) (h' : Tr T W q d r) : Tr T W p (c.seq d) r := fun Q hr hq a ha =>
  wp_seq (h (Exit.then (d.wp Tryz.prog Q) Q) (fun a b ha hb => hr a b ha hb) (fun a ha => h' Q hr hq a ha) a ha)
theorem Tr.mono {c : Code} {q' : Act → Prop} (h : Tr T W p c q) (hq : ∀ a, q a → q' a) : Tr T W p c q' := fun Q hr hn a ha => h Q hr (fun a ha => hn a (hq a ha)) a ha
theorem Tr.pre {c : Code} {p' : Act → Prop} (h : Tr T W p c q) (hp : ∀ a, p' a → p a) : Tr T W p' c q := fun Q hr hn a ha => h Q hr hn a (hp a ha)
theorem Tr.reg {id : Nat} {ops : Array Oper} (h : ∀ a, p a → ∃ a', Runs W ops.toList a a' ∧ q a') : Tr T W p (.region id ops false) q := fun Q hr hn a ha => by
  obtain ⟨a', h1, h2⟩ := h a ha
  exact wp_runs h1 (hn a' h2)
theorem Tr.block {id : Nat} {c : Code} (h : Tr T W p c q) : Tr T W p (.block id c) q := fun Q hr hn a ha => wp_block (h (Exit.inBlock id Q) (fun a b ha hb => hr a b ha hb) (fun a ha => hn a ha) a ha)
/-- A test at which false is returned. -/
theorem Tr.chk {id id' t : Nat} {ops : Array Oper} {o : Oper} (ho : o.op = .assign (.const (.bool false))) (hd : o.dst = some 16) (hg : o.guard = none)
    (h : ∀ a, p a → ∃ a' b, Runs W ops.toList a a' ∧ rd a' t = .bool b ∧ Fr 597 a' [] ∧ (b = false → q a')) :
    Tr T W p (.seq (.region id ops false) (.cond (.tmp t) (.seq (.region id' #[o] false) .ret) .skip)) q := fun Q hr hn a ha => by
  obtain ⟨a', b, h1, h2, h3, h4⟩ := h a ha
  refine wp_seq (wp_runs h1 ?_)
  show Code.wp _ _ _ a' W
  cases b
  · exact wp_cond_false h2 (wp_skip (hn a' (h4 rfl)))
  · refine wp_cond_true h2 (wp_seq (wp_runs (.cons hg (run_const ho) (.nil _)) ?_))
    show Code.wp _ _ _ (a'.put o.dst _) W
    rw [hd]
    exact wp_ret (hr _ false (h3.put 16 _ (by decide) rfl) (fun h => by cases h))
theorem Tr.fact {c : Code} {P : Prop} (h : P → Tr T W p c q) : Tr T W (fun a => p a ∧ P) c q := fun Q hr hn a ha => h ha.2 Q hr hn a ha.1
theorem Tr.final {id : Nat} {o : Oper} (ho : o.op = .assign (.const (.bool true))) (hd : o.dst = some 16) (hg : o.guard = none) (hT : T) (hp : ∀ a, p a → Fr 597 a []) : Tr T W p (.seq (.region id #[o] false) .ret) q := fun Q hr hn a ha => by
  refine wp_seq (wp_runs (.cons hg (run_const ho) (.nil _)) ?_)
  show Code.wp _ _ _ (a.put o.dst _) W
  rw [hd]
  exact wp_ret (hr _ true ((hp a ha).put 16 _ (by decide) rfl) (fun _ => hT))
theorem run_inc' {a : Act} {o : Oper} {s k : Nat} (ho : o.op = .binOp .add 3 (.tmp s) (.const (.int .i64 1)) 3) (h : rd a s = .int .i64 (k : Int)) (h1 : k < 1048576) : (execOp a.eval o).run Tryz.prog W = .ok (.value (.int .i64 ((k + 1 : Nat) : Int))) W := by
  rw [run_inc ho h (by omega) (by omega)]
  congr 3
/-- The check of a length, its sum, the check of the sum; what follows. -/
theorem seg13 {L : List (Nat × Value)} {n : Nat} {lo : Int} {i1 i1' t1 i2 i3 i3' t3 : Nat} {o1 o2 o3 : Array Oper} {r1 r3 : Oper} {R : Code}
    (hr1 : r1.op = .assign (.const (.bool false))) (hd1 : r1.dst = some 16) (hg1 : r1.guard = none) (hr3 : r3.op = .assign (.const (.bool false))) (hd3 : r3.dst = some 16) (hg3 : r3.guard = none) (hlo : 0 ≤ lo)
    (c1 : ∀ (s : Int) a, Fr 597 a ((17, .int .i64 s) :: L) → ∃ a', Runs W o1.toList a a' ∧ rd a' t1 = .bool (decide ((1048576 : Int) < n)) ∧ Fr 597 a' ((17, .int .i64 s) :: L))
    (c2 : ∀ (s : Int) a, 0 ≤ s → s ≤ 1048576 → n ≤ 1048576 → Fr 597 a ((17, .int .i64 s) :: L) → ∃ a', Runs W o2.toList a a' ∧ Fr 597 a' ((17, .int .i64 (s + n)) :: L))
    (c3 : ∀ (s : Int) a, Fr 597 a ((17, .int .i64 s) :: L) → ∃ a', Runs W o3.toList a a' ∧ rd a' t3 = .bool (decide ((1048576 : Int) < s)) ∧ Fr 597 a' ((17, .int .i64 s) :: L))
    (rest : n ≤ 1048576 → Tr T W (fun a => ∃ s : Int, lo + n ≤ s ∧ s ≤ 1048576 ∧ Fr 597 a ((17, .int .i64 s) :: L)) R q) :
    Tr T W (fun a => ∃ s : Int, lo ≤ s ∧ s ≤ 1048576 ∧ Fr 597 a ((17, .int .i64 s) :: L))
      (.seq (.seq (.region i1 o1 false) (.cond (.tmp t1) (.seq (.region i1' #[r1] false) .ret) .skip)) (.seq (.region i2 o2 false) (.seq (.seq (.region i3 o3 false) (.cond (.tmp t3) (.seq (.region i3' #[r3] false) .ret) .skip)) R))) q := by
  by_cases hn : n ≤ 1048576
  · refine Tr.seq (q := fun a => ∃ s : Int, lo ≤ s ∧ s ≤ 1048576 ∧ Fr 597 a ((17, .int .i64 s) :: L)) (Tr.chk hr1 hd1 hg1 (fun a ha => ?_)) ?_
    · obtain ⟨s, h1, h2, h3⟩ := ha
      obtain ⟨a', g1, g2, g3⟩ := c1 s a h3
      exact ⟨a', _, g1, g2, g3.sub (Has.nil _), fun _ => ⟨s, h1, h2, g3⟩⟩
    refine Tr.seq (q := fun a => ∃ s : Int, lo + n ≤ s ∧ Fr 597 a ((17, .int .i64 s) :: L)) (Tr.reg (fun a ha => ?_)) ?_
    · obtain ⟨s, h1, h2, h3⟩ := ha
      obtain ⟨a', g1, g2⟩ := c2 s a (by omega) h2 hn h3
      exact ⟨a', g1, s + n, by omega, g2⟩
    refine Tr.seq (q := fun a => ∃ s : Int, lo + n ≤ s ∧ s ≤ 1048576 ∧ Fr 597 a ((17, .int .i64 s) :: L)) (Tr.chk hr3 hd3 hg3 (fun a ha => ?_)) (rest hn)
    obtain ⟨s, h1, h3⟩ := ha
    obtain ⟨a', g1, g2, g3⟩ := c3 s a h3
    exact ⟨a', _, g1, g2, g3.sub (Has.nil _), fun hb => ⟨s, h1, by simpa using hb, g3⟩⟩
  · refine Tr.seq (q := fun _ => False) (Tr.chk hr1 hd1 hg1 (fun a ha => ?_)) (fun Q _ _ a ha => ha.elim)
    obtain ⟨s, h1, h2, h3⟩ := ha
    obtain ⟨a', g1, g2, g3⟩ := c1 s a h3
    refine ⟨a', _, g1, g2, g3.sub (Has.nil _), fun hb => ?_⟩
    simp at hb
    omega
/-- .. with nothing behind. -/
theorem seg13' {L : List (Nat × Value)} {n : Nat} {lo : Int} {i1 i1' t1 i2 i3 i3' t3 : Nat} {o1 o2 o3 : Array Oper} {r1 r3 : Oper}
    (hr1 : r1.op = .assign (.const (.bool false))) (hd1 : r1.dst = some 16) (hg1 : r1.guard = none) (hr3 : r3.op = .assign (.const (.bool false))) (hd3 : r3.dst = some 16) (hg3 : r3.guard = none) (hlo : 0 ≤ lo)
    (c1 : ∀ (s : Int) a, Fr 597 a ((17, .int .i64 s) :: L) → ∃ a', Runs W o1.toList a a' ∧ rd a' t1 = .bool (decide ((1048576 : Int) < n)) ∧ Fr 597 a' ((17, .int .i64 s) :: L))
    (c2 : ∀ (s : Int) a, 0 ≤ s → s ≤ 1048576 → n ≤ 1048576 → Fr 597 a ((17, .int .i64 s) :: L) → ∃ a', Runs W o2.toList a a' ∧ Fr 597 a' ((17, .int .i64 (s + n)) :: L))
    (c3 : ∀ (s : Int) a, Fr 597 a ((17, .int .i64 s) :: L) → ∃ a', Runs W o3.toList a a' ∧ rd a' t3 = .bool (decide ((1048576 : Int) < s)) ∧ Fr 597 a' ((17, .int .i64 s) :: L)) :
    Tr T W (fun a => ∃ s : Int, lo ≤ s ∧ s ≤ 1048576 ∧ Fr 597 a ((17, .int .i64 s) :: L))
      (.seq (.seq (.region i1 o1 false) (.cond (.tmp t1) (.seq (.region i1' #[r1] false) .ret) .skip)) (.seq (.region i2 o2 false) (.seq (.region i3 o3 false) (.cond (.tmp t3) (.seq (.region i3' #[r3] false) .ret) .skip)))) (fun a => (∃ s : Int, lo ≤ s ∧ s ≤ 1048576 ∧ Fr 597 a ((17, .int .i64 s) :: L)) ∧ n ≤ 1048576) := by
  by_cases hn : n ≤ 1048576
  · refine Tr.seq (q := fun a => ∃ s : Int, lo ≤ s ∧ s ≤ 1048576 ∧ Fr 597 a ((17, .int .i64 s) :: L)) (Tr.chk hr1 hd1 hg1 (fun a ha => ?_)) ?_
    · obtain ⟨s, h1, h2, h3⟩ := ha
      obtain ⟨a', g1, g2, g3⟩ := c1 s a h3
      exact ⟨a', _, g1, g2, g3.sub (Has.nil _), fun _ => ⟨s, h1, h2, g3⟩⟩
    refine Tr.seq (q := fun a => ∃ s : Int, lo ≤ s ∧ Fr 597 a ((17, .int .i64 s) :: L)) (Tr.reg (fun a ha => ?_)) (Tr.chk hr3 hd3 hg3 (fun a ha => ?_))
    · obtain ⟨s, h1, h2, h3⟩ := ha
      obtain ⟨a', g1, g2⟩ := c2 s a (by omega) h2 hn h3
      exact ⟨a', g1, s + n, by omega, g2⟩
    obtain ⟨s, h1, h3⟩ := ha
    obtain ⟨a', g1, g2, g3⟩ := c3 s a h3
    exact ⟨a', _, g1, g2, g3.sub (Has.nil _), fun hb => ⟨⟨s, h1, by simpa using hb, g3⟩, hn⟩⟩
  · refine Tr.seq (q := fun _ => False) (Tr.chk hr1 hd1 hg1 (fun a ha => ?_)) (fun Q _ _ a ha => ha.elim)
    obtain ⟨s, h1, h2, h3⟩ := ha
    obtain ⟨a', g1, g2, g3⟩ := c1 s a h3
    refine ⟨a', _, g1, g2, g3.sub (Has.nil _), fun hb => ?_⟩
    simp at hb
    omega
/-- A loop over n elements; P k: what each round finds of element k. -/
theorem loopG (P : Nat → Prop) {L : List (Nat × Value)} {n idx : Nat} (hn : n ≤ 1048576) {lo : Int} {i4 B i5 t5 B' i9 : Nat} {o4 o5 o9 : Array Oper} {BODY : Code}
    (c4 : ∀ (s : Int) a, Fr 597 a ((17, .int .i64 s) :: L) → ∃ a', Runs W o4.toList a a' ∧ Fr 597 a' ((17, .int .i64 s) :: (idx, .int .i64 ((0 : Nat) : Int)) :: L))
    (c5 : ∀ (s : Int) (k : Nat) a, Fr 597 a ((17, .int .i64 s) :: (idx, .int .i64 (k : Int)) :: L) → ∃ a', Runs W o5.toList a a' ∧ rd a' t5 = .bool (decide ((k : Int) < (n : Int))) ∧ Fr 597 a' ((17, .int .i64 s) :: (idx, .int .i64 (k : Int)) :: L))
    (c9 : ∀ (s : Int) (k : Nat) a, k < 1048576 → Fr 597 a ((17, .int .i64 s) :: (idx, .int .i64 (k : Int)) :: L) → ∃ a', Runs W o9.toList a a' ∧ Fr 597 a' ((17, .int .i64 s) :: (idx, .int .i64 ((k + 1 : Nat) : Int)) :: L))
    (body : ∀ k, k < n → Tr T W (fun a => ∃ s : Int, lo ≤ s ∧ s ≤ 1048576 ∧ Fr 597 a ((17, .int .i64 s) :: (idx, .int .i64 (k : Int)) :: L)) BODY (fun a => (∃ s : Int, lo ≤ s ∧ s ≤ 1048576 ∧ Fr 597 a ((17, .int .i64 s) :: (idx, .int .i64 (k : Int)) :: L)) ∧ P k)) :
    Tr T W (fun a => ∃ s : Int, lo ≤ s ∧ s ≤ 1048576 ∧ Fr 597 a ((17, .int .i64 s) :: L))
      (.seq (.region i4 o4 false) (.block B (.loop (.seq (.seq (.region i5 o5 false) (.cond (.tmp t5) .skip (.exit B))) (.seq (.block B' BODY) (.region i9 o9 false))))))
      (fun a => (∃ s : Int, lo ≤ s ∧ s ≤ 1048576 ∧ Fr 597 a ((17, .int .i64 s) :: L)) ∧ ∀ k, k < n → P k) := by
  refine Tr.seq (q := fun a => ∃ s : Int, lo ≤ s ∧ s ≤ 1048576 ∧ Fr 597 a ((17, .int .i64 s) :: (idx, .int .i64 ((0 : Nat) : Int)) :: L)) (Tr.reg (fun a ha => ?_)) ?_
  · obtain ⟨s, h1, h2, h3⟩ := ha
    obtain ⟨a', g1, g2⟩ := c4 s a h3
    exact ⟨a', g1, s, h1, h2, g2⟩
  intro Q hr hq a ha
  refine wp_block (wp_loop (fun a w => w = W ∧ ∃ k : Nat, k ≤ n ∧ (∃ s : Int, lo ≤ s ∧ s ≤ 1048576 ∧ Fr 597 a ((17, .int .i64 s) :: (idx, .int .i64 (k : Int)) :: L)) ∧ ∀ j, j < k → P j) (fun a _ => n - (intOf (rd a idx)).toNat) ⟨rfl, 0, Nat.zero_le _, ha, fun j hj => absurd hj (Nat.not_lt_zero _)⟩ ?_)
  rintro a w ⟨rfl, k, hk, ⟨s, h1, h2, h3⟩, hP⟩
  obtain ⟨a', g1, g2, g3⟩ := c5 s k a h3
  refine wp_seq (wp_seq (wp_runs g1 ?_))
  show Code.wp _ _ _ a' w
  by_cases hlt : k < n
  · rw [show decide ((k : Int) < (n : Int)) = true from decide_eq_true (by omega)] at g2
    refine wp_cond_true g2 (wp_skip ?_)
    show Code.wp _ _ _ a' w
    refine wp_seq (wp_block ?_)
    refine body k hlt _ ?_ (fun a ha => ?_) a' ⟨s, h1, h2, g3⟩
    · exact fun a b ha hb => hr a b ha hb
    obtain ⟨⟨s', j1, j2, j3⟩, hPk⟩ := ha
    show Code.wp _ _ _ a w
    obtain ⟨a2, e1, e2⟩ := c9 s' k a (by omega) j3
    refine wp_runs e1 ⟨⟨rfl, k + 1, by omega, ⟨s', j1, j2, e2⟩, fun j hj => ?_⟩, ?_⟩
    · by_cases e : j < k
      · exact hP j e
      · obtain rfl : j = k := by omega
        exact hPk
    · rw [e2.at 1 rfl, h3.at 1 rfl]
      simp [intOf]
      omega
  · rw [show decide ((k : Int) < (n : Int)) = false from decide_eq_false (by omega)] at g2
    refine wp_cond_false g2 (wp_exit ?_)
    show if B = B then _ else _
    rw [if_pos rfl]
    exact hq a' ⟨⟨s, h1, h2, g3.sub (Has.cons (g3.at 0 rfl) (fun i k' v' e => g3.at (i + 2) e))⟩, fun j hj => hP j (by omega)⟩
end

end Go.Proofs.Qxb6616331aGreatDoor
