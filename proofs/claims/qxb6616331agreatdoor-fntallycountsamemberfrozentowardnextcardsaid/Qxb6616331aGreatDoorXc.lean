/-
  THE WALKS of seat b6616331aZD, Xc: the law's three calls of ZZtally.
-/
import Derived.Test.Qxb6616331aGreatDoorXb
namespace Go.Proofs.Qxb6616331aGreatDoor
open Go.RowKit
set_option linter.unusedVariables false
set_option linter.unusedSimpArgs false
set_option linter.unnecessarySimpa false
set_option maxRecDepth 40000

theorem Bnd.mF {F X : View} {tos : List Str} {As : List Ans} {mark : Str} (B : Bnd F X tos As mark) : Mid F := ⟨Nat.le_trans B.fb.n (by decide), Nat.le_trans B.fl.n (by decide), Nat.le_trans B.fc.n (by decide)⟩
theorem Bnd.mX {F X : View} {tos : List Str} {As : List Ans} {mark : Str} (B : Bnd F X tos As mark) : Mid X := ⟨Nat.le_trans B.xb.n (by decide), Nat.le_trans B.xl.n (by decide), Nat.le_trans B.xc.n (by decide)⟩
theorem BndA.ok {nt : Nat} {A : Ans} (h : BndA A) (h0 : 0 ≤ A.sender) (h1 : A.sender < nt) : OkA nt A :=
  ⟨h0, h1, Nat.le_trans h.vw.n (by decide), Nat.le_trans h.nx.n (by decide), fun j hj => Nat.le_trans (h.vw.s j hj) (by decide), fun j hj => Nat.le_trans (h.nx.s j hj) (by decide), Nat.le_trans h.mr (by decide), h.bn, h.un, fun i hi => ⟨Nat.le_trans (h.bs i hi).n (by decide), fun j hj => Nat.le_trans ((h.bs i hi).s j hj) (by decide)⟩, fun i hi => ⟨Nat.le_trans (h.us i hi).n (by decide), fun j hj => Nat.le_trans ((h.us i hi).s j hj) (by decide)⟩⟩
/-- What is known of the further answer's list. -/
structure XL (xl : List Str) : Prop where
  n : xl.length ≤ 1048577
  s : ∀ j, j < xl.length → (xl.getD j []).length ≤ 1048577
theorem okE {nt jn : Nat} {xl : List Str} {mark : Str} {fz kn : Bool} (hx : XL xl) (hj : jn < nt) (hm : mark.length ≤ 1048576) : OkA nt (extraA (jn : Int) xl fz kn mark) :=
  ⟨Int.natCast_nonneg _, Int.ofNat_lt.2 hj, Nat.zero_le _, Nat.le_trans hx.n (by decide), fun j hj => absurd hj (Nat.not_lt_zero _), hx.s, Nat.le_trans hm (by decide), Nat.zero_le _, Nat.zero_le _, fun i hi => absurd hi (Nat.not_lt_zero _), fun i hi => absurd hi (Nat.not_lt_zero _)⟩
theorem smallE {jn : Nat} {xl : List Str} {mark : Str} {fz kn : Bool} (hx : XL xl) : SmallW (extraA (jn : Int) xl fz kn mark) :=
  ⟨Nat.zero_le _, Nat.le_trans hx.n (by decide), Nat.zero_le _, Nat.zero_le _, (fun l hl => by cases hl), (fun l hl => by cases hl)⟩
theorem smallW {A : Ans} (h : SmallA A) : SmallW A := ⟨h.view, Nat.le_trans h.next (by decide), h.before, h.unsure, h.befores, h.unsures⟩
theorem nilL (w : World) : IsL w none 0 [] := ⟨rfl, fun h => absurd h (Nat.lt_irrefl _)⟩
theorem nilLL (w : World) : IsLL w none 0 [] := ⟨rfl, fun h => absurd h (Nat.lt_irrefl _)⟩

def T27 : List (List Nat) := [[], [0], [], [2, 1], [], [4, 3], [], [6], [7, 5], [1, 3, 5, 8, 8], [9], [10], [10], [], [], [13, 11, 9, 0, 1, 2, 3, 4, 5, 6, 7, 8, 9, 10, 11, 13, 14], [14, 12, 15, 0, 1, 2, 3, 4, 5, 6, 7, 8, 9, 10, 11, 12, 13, 14, 15]]
theorem t27_1 : (List.range T27.length).all (fun i => (T27.getD i []).all (fun j => decide (j < i))) = true := by decide
theorem t27_2 : [161, 151, 162, 163, 21, 22].Nodup := by decide
theorem t27_3 : 9 ∈ T27.getD (9 + 1) [] := by decide
theorem t27_4 : 9 + 1 ∈ T27.getD (9 + 2) [] := by decide
theorem t27_5 : 9 + 1 ∈ T27.getD (9 + 3) [] := by decide
theorem t27_6 : ∀ j, j < 9 + 6 → j ≠ 9 + 3 → j ∈ T27.getD (9 + 6) [] := by decide
theorem t27_7 : 9 + 3 ∈ T27.getD (9 + 7) [] ∧ 9 + 6 ∈ T27.getD (9 + 7) [] := by decide
theorem t27_8 : ∀ j ∈ T27.getD 9 [], j < 9 := by decide
theorem t27_9 : ∀ i, i < 9 → ∀ j ∈ T27.getD i [], j < 9 := by decide
def T38 : List (List Nat) := [[], [0], [], [2, 1], [], [4, 3], [], [6, 5], [1, 3, 5, 7, 7], [8], [9], [9], [], [], [12, 10, 8, 0, 1, 2, 3, 4, 5, 6, 7, 8, 9, 10, 12, 13], [13, 11, 14, 0, 1, 2, 3, 4, 5, 6, 7, 8, 9, 10, 11, 12, 13, 14]]
theorem t38_1 : (List.range T38.length).all (fun i => (T38.getD i []).all (fun j => decide (j < i))) = true := by decide
theorem t38_2 : [236, 227, 237, 238, 31, 32].Nodup := by decide
theorem t38_3 : 8 ∈ T38.getD (8 + 1) [] := by decide
theorem t38_4 : 8 + 1 ∈ T38.getD (8 + 2) [] := by decide
theorem t38_5 : 8 + 1 ∈ T38.getD (8 + 3) [] := by decide
theorem t38_6 : ∀ j, j < 8 + 6 → j ≠ 8 + 3 → j ∈ T38.getD (8 + 6) [] := by decide
theorem t38_7 : 8 + 3 ∈ T38.getD (8 + 7) [] ∧ 8 + 6 ∈ T38.getD (8 + 7) [] := by decide
theorem t38_8 : ∀ j ∈ T38.getD 8 [], j < 8 := by decide
theorem t38_9 : ∀ i, i < 8 → ∀ j ∈ T38.getD i [], j < 8 := by decide
def T39 : List (List Nat) := [[], [0], [], [2, 1], [], [4, 3], [], [6, 5], [], [8, 7], [9], [7, 10, 9], [1, 3, 5, 11, 11], [12], [13], [13], [], [], [16, 14, 12, 0, 1, 2, 3, 4, 5, 6, 7, 8, 9, 10, 11, 12, 13, 14, 16, 17], [17, 15, 18, 0, 1, 2, 3, 4, 5, 6, 7, 8, 9, 10, 11, 12, 13, 14, 15, 16, 17, 18]]
theorem t39_1 : (List.range T39.length).all (fun i => (T39.getD i []).all (fun j => decide (j < i))) = true := by decide
theorem t39_2 : [252, 239, 253, 254, 33, 34].Nodup := by decide
theorem t39_3 : 12 ∈ T39.getD (12 + 1) [] := by decide
theorem t39_4 : 12 + 1 ∈ T39.getD (12 + 2) [] := by decide
theorem t39_5 : 12 + 1 ∈ T39.getD (12 + 3) [] := by decide
theorem t39_6 : ∀ j, j < 12 + 6 → j ≠ 12 + 3 → j ∈ T39.getD (12 + 6) [] := by decide
theorem t39_7 : 12 + 3 ∈ T39.getD (12 + 7) [] ∧ 12 + 6 ∈ T39.getD (12 + 7) [] := by decide
theorem t39_8 : ∀ j ∈ T39.getD 12 [], j < 12 := by decide
theorem t39_9 : ∀ i, i < 12 → ∀ j ∈ T39.getD i [], j < 12 := by decide
/-- What the operations before ZZtally leave. -/
def Fact27 (lF lX : VL) (F X : View) (at_ : Option Addr) (nt ct : Nat) (tos : List Str) (a3 : Option Addr) (n c3 : Nat) (As : List Ans) (jn : Nat) (mark : Str) (fz kn : Bool) (ax : Option Addr) (nx cx : Nat) (xl : List Str) : Nat → Value → World → Prop
  | 0, v, w => v = lF.val
  | 1, v, w => IsV w v F
  | 2, v, w => v = .slice at_ nt ct
  | 3, v, w => ∃ a' c', v = .slice a' nt c' ∧ IsL w a' nt tos
  | 4, v, w => v = lX.val
  | 5, v, w => IsV w v X
  | 6, v, w => v = .agg (cells11 (jn : Int) none 0 0 ax nx cx fz none 0 0 kn mark none 0 0 false false false)
  | 7, v, w => ∃ p c, v = .slice p 1 c ∧ IsA w p 1 [extraA (jn : Int) xl fz kn mark]
  | 8, v, w => ∃ p c, v = .slice p 1 c ∧ IsA w p 1 [extraA (jn : Int) xl fz kn mark]
  | _, _, _ => True
theorem fact27_mono (lF lX : VL) (F X : View) (at_ : Option Addr) (nt ct : Nat) (tos : List Str) (a3 : Option Addr) (n c3 : Nat) (As : List Ans) (jn : Nat) (mark : Str) (fz kn : Bool) (ax : Option Addr) (nx cx : Nat) (xl : List Str) (j : Nat) (v : Value) (w w' : World) (hj : j < 9) (q : Kept w w') (h : Fact27 lF lX F X at_ nt ct tos a3 n c3 As jn mark fz kn ax nx cx xl j v w) : Fact27 lF lX F X at_ nt ct tos a3 n c3 As jn mark fz kn ax nx cx xl j v w' := by
  obtain rfl | rfl | rfl | rfl | rfl | rfl | rfl | rfl | rfl : j = 0 ∨ j = 1 ∨ j = 2 ∨ j = 3 ∨ j = 4 ∨ j = 5 ∨ j = 6 ∨ j = 7 ∨ j = 8 := by omega
  · exact h
  · exact IsV.kept h q
  · exact h
  · obtain ⟨a', c', e, hL⟩ := h
    exact ⟨a', c', e, hL.kept q⟩
  · exact h
  · exact IsV.kept h q
  · exact h
  · obtain ⟨p, c, e, hL⟩ := h
    exact ⟨p, c, e, hL.kept q⟩
  · obtain ⟨p, c, e, hL⟩ := h
    exact ⟨p, c, e, hL.kept q⟩

/-- What the operations before ZZtally leave. -/
def Fact38 (lF lX : VL) (F X : View) (at_ : Option Addr) (nt ct : Nat) (tos : List Str) (a3 : Option Addr) (n c3 : Nat) (As : List Ans) (jn : Nat) (mark : Str) (fz kn : Bool) (ax : Option Addr) (nx cx : Nat) (xl : List Str) : Nat → Value → World → Prop
  | 0, v, w => v = lF.val
  | 1, v, w => IsV w v F
  | 2, v, w => v = .slice at_ nt ct
  | 3, v, w => ∃ a' c', v = .slice a' nt c' ∧ IsL w a' nt tos
  | 4, v, w => v = lX.val
  | 5, v, w => IsV w v X
  | 6, v, w => v = .slice a3 n c3
  | 7, v, w => ∃ p, v = .slice p n n ∧ IsA w p n As ∧ (p = none → n = 0)
  | _, _, _ => True
theorem fact38_mono (lF lX : VL) (F X : View) (at_ : Option Addr) (nt ct : Nat) (tos : List Str) (a3 : Option Addr) (n c3 : Nat) (As : List Ans) (jn : Nat) (mark : Str) (fz kn : Bool) (ax : Option Addr) (nx cx : Nat) (xl : List Str) (j : Nat) (v : Value) (w w' : World) (hj : j < 8) (q : Kept w w') (h : Fact38 lF lX F X at_ nt ct tos a3 n c3 As jn mark fz kn ax nx cx xl j v w) : Fact38 lF lX F X at_ nt ct tos a3 n c3 As jn mark fz kn ax nx cx xl j v w' := by
  obtain rfl | rfl | rfl | rfl | rfl | rfl | rfl | rfl : j = 0 ∨ j = 1 ∨ j = 2 ∨ j = 3 ∨ j = 4 ∨ j = 5 ∨ j = 6 ∨ j = 7 := by omega
  · exact h
  · exact IsV.kept h q
  · exact h
  · obtain ⟨a', c', e, hL⟩ := h
    exact ⟨a', c', e, hL.kept q⟩
  · exact h
  · exact IsV.kept h q
  · exact h
  · obtain ⟨p, e, hL, h0⟩ := h
    exact ⟨p, e, hL.kept q, h0⟩

/-- What the operations before ZZtally leave. -/
def Fact39 (lF lX : VL) (F X : View) (at_ : Option Addr) (nt ct : Nat) (tos : List Str) (a3 : Option Addr) (n c3 : Nat) (As : List Ans) (jn : Nat) (mark : Str) (fz kn : Bool) (ax : Option Addr) (nx cx : Nat) (xl : List Str) : Nat → Value → World → Prop
  | 0, v, w => v = lF.val
  | 1, v, w => IsV w v F
  | 2, v, w => v = .slice at_ nt ct
  | 3, v, w => ∃ a' c', v = .slice a' nt c' ∧ IsL w a' nt tos
  | 4, v, w => v = lX.val
  | 5, v, w => IsV w v X
  | 6, v, w => v = .slice a3 n c3
  | 7, v, w => ∃ p, v = .slice p n n ∧ IsA w p n As ∧ (p = none → n = 0)
  | 8, v, w => v = .agg (cells11 (jn : Int) none 0 0 ax nx cx fz none 0 0 kn mark none 0 0 false false false)
  | 9, v, w => ∃ x1 d1 x2 d2 x4 d4 x7 d7, v = .agg (cells11 (jn : Int) x1 0 d1 x2 nx d2 fz x4 0 d4 kn mark x7 0 d7 false false false) ∧ IsL w x1 0 [] ∧ IsL w x2 nx xl ∧ IsLL w x4 0 [] ∧ IsLL w x7 0 []
  | 10, v, w => ∃ p c, v = .slice p 1 c ∧ IsA w p 1 [extraA (jn : Int) xl fz kn mark]
  | 11, v, w => ∃ p c, v = .slice p (n + 1) c ∧ IsA w p (n + 1) (As ++ [extraA (jn : Int) xl fz kn mark])
  | _, _, _ => True
theorem fact39_mono (lF lX : VL) (F X : View) (at_ : Option Addr) (nt ct : Nat) (tos : List Str) (a3 : Option Addr) (n c3 : Nat) (As : List Ans) (jn : Nat) (mark : Str) (fz kn : Bool) (ax : Option Addr) (nx cx : Nat) (xl : List Str) (j : Nat) (v : Value) (w w' : World) (hj : j < 12) (q : Kept w w') (h : Fact39 lF lX F X at_ nt ct tos a3 n c3 As jn mark fz kn ax nx cx xl j v w) : Fact39 lF lX F X at_ nt ct tos a3 n c3 As jn mark fz kn ax nx cx xl j v w' := by
  obtain rfl | rfl | rfl | rfl | rfl | rfl | rfl | rfl | rfl | rfl | rfl | rfl : j = 0 ∨ j = 1 ∨ j = 2 ∨ j = 3 ∨ j = 4 ∨ j = 5 ∨ j = 6 ∨ j = 7 ∨ j = 8 ∨ j = 9 ∨ j = 10 ∨ j = 11 := by omega
  · exact h
  · exact IsV.kept h q
  · exact h
  · obtain ⟨a', c', e, hL⟩ := h
    exact ⟨a', c', e, hL.kept q⟩
  · exact h
  · exact IsV.kept h q
  · exact h
  · obtain ⟨p, e, hL, h0⟩ := h
    exact ⟨p, e, hL.kept q, h0⟩
  · exact h
  · obtain ⟨x1, d1, x2, d2, x4, d4, x7, d7, e, g1, g2, g4, g7⟩ := h
    exact ⟨x1, d1, x2, d2, x4, d4, x7, d7, e, g1.kept q, g2.kept q, g4.kept q, g7.kept q⟩
  · obtain ⟨p, c, e, hL⟩ := h
    exact ⟨p, c, e, hL.kept q⟩
  · obtain ⟨p, c, e, hL⟩ := h
    exact ⟨p, c, e, hL.kept q⟩

section
variable {w : World} {lF lX : VL} {F X : View} {at_ : Option Addr} {nt ct : Nat} {tos : List Str} {a3 : Option Addr} {n c3 : Nat} {As : List Ans} {jn : Nat} {mark member : Str} {fz kn : Bool} {b20 : Nat} {ax : Option Addr} {nx cx : Nat} {xl : List Str} {Q : Exit → Act → World → Prop}
set_option maxHeartbeats 3200000 in
theorem st14 (B : Bnd F X tos As mark) (hs : ∀ i, i < n → 0 ≤ (As.getD i noAns).sender ∧ (As.getD i noAns).sender < nt) (hE : Errs w) (hj : jn < nt) (hx : XL xl) {a : Act} {W : World} (H : SB w F X tos As nt n jn mark member fz kn lF lX at_ ct a3 c3 b20 ax nx cx xl W) (hF : Fr 373 a [(1, .slice at_ nt ct), (3, .slice a3 n c3), (4, .int .i64 (jn : Int)), (5, sv mark), (6, .bool fz), (7, .bool kn), (8, .pointer (some ⟨w.heap.size, 0, none⟩)), (10, .pointer (some ⟨(w.heap.size + 1), 0, none⟩)), (19, sv member), (20, .pointer (some ⟨b20, 0, none⟩))])
    (next : ∀ a w2 B E b4 f b2 l2, Fr 373 a ((21, .pointer (some ⟨b4, 0, none⟩)) :: (22, .pointer (some ⟨b2, 0, none⟩)) :: [(1, .slice at_ nt ct), (3, .slice a3 n c3), (4, .int .i64 (jn : Int)), (5, sv mark), (6, .bool fz), (7, .bool kn), (8, .pointer (some ⟨w.heap.size, 0, none⟩)), (10, .pointer (some ⟨(w.heap.size + 1), 0, none⟩)), (19, sv member), (20, .pointer (some ⟨b20, 0, none⟩))]) → Kept W w2 → w2.heap[b4]? = some (.cells (FL.arr f) 44 (0, 0)) → w2.heap[b2]? = some (.cells (VL.arr l2) 42 (0, 0)) → RF B E w2 f.val (tGo F X tos [extraA (jn : Int) xl fz kn mark] (tZero X)) → RW w2 l2.val (tGo F X tos [extraA (jn : Int) xl fz kn mark] (tZero X)) → (restC 15).wp Tryz.prog Q a w2) : (restC 14).wp Tryz.prog Q a W := by
  have hn1 : nt ≤ 1048576 := by rw [← H.t.len]; exact B.t.n
  have hn2 : n ≤ 1048576 := by rw [← H.a.len]; exact B.an
  have hE' : Errs W := hE.kept H.k
  have sA : ∀ i, i < n → SmallW (As.getD i noAns) := fun i hi => smallW (B.a i (by rw [H.a.len]; exact hi)).small
  have oA : ∀ i, i < n → OkA nt (As.getD i noAns) := fun i hi => (B.a i (by rw [H.a.len]; exact hi)).ok (hs i hi).1 (hs i hi).2
  have oE : OkA nt (extraA (jn : Int) xl fz kn mark) := okE hx hj B.m
  refine wp_seq (drawn (D := ⟨W, [(1, .slice at_ nt ct), (3, .slice a3 n c3), (4, .int .i64 (jn : Int)), (5, sv mark), (6, .bool fz), (7, .bool kn), (8, .pointer (some ⟨w.heap.size, 0, none⟩)), (10, .pointer (some ⟨(w.heap.size + 1), 0, none⟩)), (19, sv member), (20, .pointer (some ⟨b20, 0, none⟩))], 9, fun j => 152 + j, Fact27 lF lX F X at_ nt ct tos a3 n c3 As jn mark fz kn ax nx cx xl, T27, tGo F X tos [extraA (jn : Int) xl fz kn mark] (tZero X), 161, 151, 162, 163, 21, 22⟩) ?_ (by kernel_rfl) hF (fun a w2 B E b4 f b2 l2 h1 h2 h3 h4 h5 h6 h7 h8 => ?_))
  rotate_left
  · exact next a w2 B E b4 f b2 l2 ⟨h1.size, h1.defers, Has.cons h2 (Has.cons h3 h1.has)⟩ h4 h5 h6 h7 h8
  have hkeys : (([(1, .slice at_ nt ct), (3, .slice a3 n c3), (4, .int .i64 (jn : Int)), (5, sv mark), (6, .bool fz), (7, .bool kn), (8, .pointer (some ⟨w.heap.size, 0, none⟩)), (10, .pointer (some ⟨(w.heap.size + 1), 0, none⟩)), (19, sv member), (20, .pointer (some ⟨b20, 0, none⟩))] : List (Nat × Value)).map Prod.fst) = [1, 3, 4, 5, 6, 7, 8, 10, 19, 20] := rfl
  refine ⟨rfl, by kernel_rfl, t27_1, fun j v w w' hj q h => fact27_mono lF lX F X at_ nt ct tos a3 n c3 As jn mark fz kn ax nx cx xl j v w w' hj q h, ?lt, ?inj, ?lt6, t27_2, ?pre, ?call, ⟨_, rfl, rfl, rfl, rfl⟩, ⟨_, rfl, rfl, rfl, rfl⟩, ⟨_, rfl, rfl, rfl, rfl⟩, ⟨_, rfl, rfl, rfl, rfl⟩, ⟨_, rfl, rfl, rfl, rfl⟩, ⟨_, rfl, rfl, rfl, rfl⟩, ⟨_, rfl, rfl, rfl, rfl⟩, t27_3, t27_4, t27_5, t27_6, t27_7, t27_8, t27_9⟩
  case lt =>
    show ∀ i, i < 9 → 152 + i < 373 ∧ (([(1, .slice at_ nt ct), (3, .slice a3 n c3), (4, .int .i64 (jn : Int)), (5, sv mark), (6, .bool fz), (7, .bool kn), (8, .pointer (some ⟨w.heap.size, 0, none⟩)), (10, .pointer (some ⟨(w.heap.size + 1), 0, none⟩)), (19, sv member), (20, .pointer (some ⟨b20, 0, none⟩))] : List (Nat × Value)).map Prod.fst).contains (152 + i) = false ∧ 152 + i ≠ 161 ∧ 152 + i ≠ 151 ∧ 152 + i ≠ 162 ∧ 152 + i ≠ 163 ∧ 152 + i ≠ 21 ∧ 152 + i ≠ 22
    rw [hkeys]
    decide
  case inj =>
    show ∀ i, i < 9 → ∀ j, j < 9 → i ≠ j → 152 + i ≠ 152 + j
    intro i hi j hj h
    omega
  case lt6 =>
    show ∀ d ∈ [161, 151, 162, 163, 21, 22], d < 373 ∧ (([(1, .slice at_ nt ct), (3, .slice a3 n c3), (4, .int .i64 (jn : Int)), (5, sv mark), (6, .bool fz), (7, .bool kn), (8, .pointer (some ⟨w.heap.size, 0, none⟩)), (10, .pointer (some ⟨(w.heap.size + 1), 0, none⟩)), (19, sv member), (20, .pointer (some ⟨b20, 0, none⟩))] : List (Nat × Value)).map Prod.fst).contains d = false
    rw [hkeys]
    decide
  case pre =>
    intro K a w1 i hi hF q hd hc
    obtain rfl | rfl | rfl | rfl | rfl | rfl | rfl | rfl | rfl : i = 0 ∨ i = 1 ∨ i = 2 ∨ i = 3 ∨ i = 4 ∨ i = 5 ∨ i = 6 ∨ i = 7 ∨ i = 8 := by have : i < 9 := hi; omega
    · exact wpOp_value rfl rfl (run_load25 rfl (hF.at 6 rfl) (q.blk H.b8)) (hc _ _ (Kept.refl _) rfl)
    · have e0 : rd a 152 = lF.val := (hd 0 (show (0 : Nat) ∈ T27.getD 1 [] from by decide) (show 0 < 9 from by decide))
      refine wpOp_call rfl rfl (run_enter1 (en14 _) rfl e0) (view14 lF.val F w1 (H.f.kept q) B.sF) (fun e w' hp => ?_)
      obtain ⟨⟨v, e1, hv⟩, q2⟩ := hp
      exact ⟨v, e1, hc v w' q2 hv⟩
    · exact wpOp_value rfl rfl (run_move' rfl (hF.at 0 rfl)) (hc _ _ (Kept.refl _) rfl)
    · have e0 : rd a 154 = .slice at_ nt ct := (hd 2 (show (2 : Nat) ∈ T27.getD 3 [] from by decide) (show 2 < 9 from by decide))
      refine wpOp_call rfl rfl (run_enter1 (en10 _) rfl e0) (copyStrs10 at_ nt ct tos w1 (by omega) (H.t.kept q)) (fun e w' hp => ?_)
      obtain ⟨⟨a', c', e1, hv, -, -⟩, q2⟩ := hp
      exact ⟨_, e1, hc _ w' q2 ⟨a', c', rfl, hv⟩⟩
    · exact wpOp_value rfl rfl (run_load25 rfl (hF.at 7 rfl) (q.blk H.b10)) (hc _ _ (Kept.refl _) rfl)
    · have e0 : rd a 156 = lX.val := (hd 4 (show (4 : Nat) ∈ T27.getD 5 [] from by decide) (show 4 < 9 from by decide))
      refine wpOp_call rfl rfl (run_enter1 (en14 _) rfl e0) (view14 lX.val X w1 (H.x.kept q) B.sX) (fun e w' hp => ?_)
      obtain ⟨⟨v, e1, hv⟩, q2⟩ := hp
      exact ⟨v, e1, hc v w' q2 hv⟩
    · exact wpOp_value rfl rfl (run_load31 rfl (hF.at 9 rfl) (q.blk H.b20)) (hc _ _ (Kept.refl _) rfl)
    · have e0 : rd a 158 = .agg (cells11 (jn : Int) none 0 0 ax nx cx fz none 0 0 kn mark none 0 0 false false false) := (hd 6 (show (6 : Nat) ∈ T27.getD 7 [] from by decide) (show 6 < 9 from by decide))
      refine wpOp_value rfl rfl (run_bs26 rfl e0) (hc _ _ (Kept.alloc _ _) ⟨_, 1, rfl, ?_⟩)
      exact isA_one (A := extraA (jn : Int) xl fz kn mark) (heap_alloc_new w1 _) (nilL _) ((H.l.kept q).kept (Kept.alloc _ _)) (nilLL _) (nilLL _)
    · obtain ⟨p, c, e0, hA⟩ : ∃ p c, rd a 159 = .slice p 1 c ∧ IsA w1 p 1 [extraA (jn : Int) xl fz kn mark] := (hd 7 (show (7 : Nat) ∈ T27.getD 8 [] from by decide) (show 7 < 9 from by decide))
      refine wpOp_call rfl rfl (run_enter1 (en15 _) rfl e0) (answers15c p 1 c [extraA (jn : Int) xl fz kn mark] w1 (by decide) hA (fun i hi => by obtain rfl : i = 0 := (by omega); exact smallE hx)) (fun e w' hp => ?_)
      obtain ⟨⟨p', c', e1, hv, -, -⟩, q2⟩ := hp
      exact ⟨_, e1, hc _ w' q2 ⟨p', c', rfl, hv⟩⟩
  case call =>
    intro K a w1 hF q hd hc
    have v1 : IsV w1 (rd a 153) F := (hd 1 (show (1 : Nat) ∈ T27.getD 9 [] from by decide) (show 1 < 9 from by decide))
    obtain ⟨at2, ct2, e3, hT⟩ : ∃ a' c', rd a 155 = .slice a' nt c' ∧ IsL w1 a' nt tos := (hd 3 (show (3 : Nat) ∈ T27.getD 9 [] from by decide) (show 3 < 9 from by decide))
    have v5 : IsV w1 (rd a 157) X := (hd 5 (show (5 : Nat) ∈ T27.getD 9 [] from by decide) (show 5 < 9 from by decide))
    obtain ⟨p, c, e8, hA⟩ : ∃ p c, rd a 160 = .slice p 1 c ∧ IsA w1 p 1 [extraA (jn : Int) xl fz kn mark] := (hd 8 (show (8 : Nat) ∈ T27.getD 9 [] from by decide) (show 8 < 9 from by decide))
    refine wpOp_call rfl rfl (run_enter4 (en13 _) rfl rfl e3 rfl e8) (ztally13 (rd a 153) (rd a 157) F X w1 at2 nt ct2 tos p 1 c [extraA (jn : Int) xl fz kn mark] v1 v5 B.mF B.mX (Nat.le_trans B.xc.n (by decide)) hT hn1 (fun i hi => Nat.le_trans (B.t.s i (by rw [H.t.len]; exact hi)) (by decide)) hA (by decide) (fun i hi => by obtain rfl : i = 0 := (by omega); exact oE) (hE'.kept q)) (fun e w' hp => ?_)
    obtain ⟨v, v', e1, hR, q2⟩ := hp
    exact ⟨_, e1, hc v v' w' q2 hR⟩

set_option maxHeartbeats 3200000 in
theorem st20 (B : Bnd F X tos As mark) (hs : ∀ i, i < n → 0 ≤ (As.getD i noAns).sender ∧ (As.getD i noAns).sender < nt) (hE : Errs w) (hj : jn < nt) (hx : XL xl) {a : Act} {W : World} (H : SB w F X tos As nt n jn mark member fz kn lF lX at_ ct a3 c3 b20 ax nx cx xl W) (hF : Fr 373 a [(1, .slice at_ nt ct), (3, .slice a3 n c3), (4, .int .i64 (jn : Int)), (5, sv mark), (6, .bool fz), (7, .bool kn), (8, .pointer (some ⟨w.heap.size, 0, none⟩)), (10, .pointer (some ⟨(w.heap.size + 1), 0, none⟩)), (19, sv member), (20, .pointer (some ⟨b20, 0, none⟩))])
    (next : ∀ a w2 B E b4 f b2 l2, Fr 373 a ((31, .pointer (some ⟨b4, 0, none⟩)) :: (32, .pointer (some ⟨b2, 0, none⟩)) :: [(1, .slice at_ nt ct), (3, .slice a3 n c3), (4, .int .i64 (jn : Int)), (5, sv mark), (6, .bool fz), (7, .bool kn), (8, .pointer (some ⟨w.heap.size, 0, none⟩)), (10, .pointer (some ⟨(w.heap.size + 1), 0, none⟩)), (19, sv member), (20, .pointer (some ⟨b20, 0, none⟩))]) → Kept W w2 → w2.heap[b4]? = some (.cells (FL.arr f) 44 (0, 0)) → w2.heap[b2]? = some (.cells (VL.arr l2) 42 (0, 0)) → RF B E w2 f.val (tGo F X tos As (tZero X)) → RW w2 l2.val (tGo F X tos As (tZero X)) → (restC 21).wp Tryz.prog Q a w2) : (restC 20).wp Tryz.prog Q a W := by
  have hn1 : nt ≤ 1048576 := by rw [← H.t.len]; exact B.t.n
  have hn2 : n ≤ 1048576 := by rw [← H.a.len]; exact B.an
  have hE' : Errs W := hE.kept H.k
  have sA : ∀ i, i < n → SmallW (As.getD i noAns) := fun i hi => smallW (B.a i (by rw [H.a.len]; exact hi)).small
  have oA : ∀ i, i < n → OkA nt (As.getD i noAns) := fun i hi => (B.a i (by rw [H.a.len]; exact hi)).ok (hs i hi).1 (hs i hi).2
  have oE : OkA nt (extraA (jn : Int) xl fz kn mark) := okE hx hj B.m
  refine wp_seq (drawn (D := ⟨W, [(1, .slice at_ nt ct), (3, .slice a3 n c3), (4, .int .i64 (jn : Int)), (5, sv mark), (6, .bool fz), (7, .bool kn), (8, .pointer (some ⟨w.heap.size, 0, none⟩)), (10, .pointer (some ⟨(w.heap.size + 1), 0, none⟩)), (19, sv member), (20, .pointer (some ⟨b20, 0, none⟩))], 8, fun j => 228 + j, Fact38 lF lX F X at_ nt ct tos a3 n c3 As jn mark fz kn ax nx cx xl, T38, tGo F X tos As (tZero X), 236, 227, 237, 238, 31, 32⟩) ?_ (by kernel_rfl) hF (fun a w2 B E b4 f b2 l2 h1 h2 h3 h4 h5 h6 h7 h8 => ?_))
  rotate_left
  · exact next a w2 B E b4 f b2 l2 ⟨h1.size, h1.defers, Has.cons h2 (Has.cons h3 h1.has)⟩ h4 h5 h6 h7 h8
  have hkeys : (([(1, .slice at_ nt ct), (3, .slice a3 n c3), (4, .int .i64 (jn : Int)), (5, sv mark), (6, .bool fz), (7, .bool kn), (8, .pointer (some ⟨w.heap.size, 0, none⟩)), (10, .pointer (some ⟨(w.heap.size + 1), 0, none⟩)), (19, sv member), (20, .pointer (some ⟨b20, 0, none⟩))] : List (Nat × Value)).map Prod.fst) = [1, 3, 4, 5, 6, 7, 8, 10, 19, 20] := rfl
  refine ⟨rfl, by kernel_rfl, t38_1, fun j v w w' hj q h => fact38_mono lF lX F X at_ nt ct tos a3 n c3 As jn mark fz kn ax nx cx xl j v w w' hj q h, ?lt, ?inj, ?lt6, t38_2, ?pre, ?call, ⟨_, rfl, rfl, rfl, rfl⟩, ⟨_, rfl, rfl, rfl, rfl⟩, ⟨_, rfl, rfl, rfl, rfl⟩, ⟨_, rfl, rfl, rfl, rfl⟩, ⟨_, rfl, rfl, rfl, rfl⟩, ⟨_, rfl, rfl, rfl, rfl⟩, ⟨_, rfl, rfl, rfl, rfl⟩, t38_3, t38_4, t38_5, t38_6, t38_7, t38_8, t38_9⟩
  case lt =>
    show ∀ i, i < 8 → 228 + i < 373 ∧ (([(1, .slice at_ nt ct), (3, .slice a3 n c3), (4, .int .i64 (jn : Int)), (5, sv mark), (6, .bool fz), (7, .bool kn), (8, .pointer (some ⟨w.heap.size, 0, none⟩)), (10, .pointer (some ⟨(w.heap.size + 1), 0, none⟩)), (19, sv member), (20, .pointer (some ⟨b20, 0, none⟩))] : List (Nat × Value)).map Prod.fst).contains (228 + i) = false ∧ 228 + i ≠ 236 ∧ 228 + i ≠ 227 ∧ 228 + i ≠ 237 ∧ 228 + i ≠ 238 ∧ 228 + i ≠ 31 ∧ 228 + i ≠ 32
    rw [hkeys]
    decide
  case inj =>
    show ∀ i, i < 8 → ∀ j, j < 8 → i ≠ j → 228 + i ≠ 228 + j
    intro i hi j hj h
    omega
  case lt6 =>
    show ∀ d ∈ [236, 227, 237, 238, 31, 32], d < 373 ∧ (([(1, .slice at_ nt ct), (3, .slice a3 n c3), (4, .int .i64 (jn : Int)), (5, sv mark), (6, .bool fz), (7, .bool kn), (8, .pointer (some ⟨w.heap.size, 0, none⟩)), (10, .pointer (some ⟨(w.heap.size + 1), 0, none⟩)), (19, sv member), (20, .pointer (some ⟨b20, 0, none⟩))] : List (Nat × Value)).map Prod.fst).contains d = false
    rw [hkeys]
    decide
  case pre =>
    intro K a w1 i hi hF q hd hc
    obtain rfl | rfl | rfl | rfl | rfl | rfl | rfl | rfl : i = 0 ∨ i = 1 ∨ i = 2 ∨ i = 3 ∨ i = 4 ∨ i = 5 ∨ i = 6 ∨ i = 7 := by have : i < 8 := hi; omega
    · exact wpOp_value rfl rfl (run_load25 rfl (hF.at 6 rfl) (q.blk H.b8)) (hc _ _ (Kept.refl _) rfl)
    · have e0 : rd a 228 = lF.val := (hd 0 (show (0 : Nat) ∈ T38.getD 1 [] from by decide) (show 0 < 8 from by decide))
      refine wpOp_call rfl rfl (run_enter1 (en14 _) rfl e0) (view14 lF.val F w1 (H.f.kept q) B.sF) (fun e w' hp => ?_)
      obtain ⟨⟨v, e1, hv⟩, q2⟩ := hp
      exact ⟨v, e1, hc v w' q2 hv⟩
    · exact wpOp_value rfl rfl (run_move' rfl (hF.at 0 rfl)) (hc _ _ (Kept.refl _) rfl)
    · have e0 : rd a 230 = .slice at_ nt ct := (hd 2 (show (2 : Nat) ∈ T38.getD 3 [] from by decide) (show 2 < 8 from by decide))
      refine wpOp_call rfl rfl (run_enter1 (en10 _) rfl e0) (copyStrs10 at_ nt ct tos w1 (by omega) (H.t.kept q)) (fun e w' hp => ?_)
      obtain ⟨⟨a', c', e1, hv, -, -⟩, q2⟩ := hp
      exact ⟨_, e1, hc _ w' q2 ⟨a', c', rfl, hv⟩⟩
    · exact wpOp_value rfl rfl (run_load25 rfl (hF.at 7 rfl) (q.blk H.b10)) (hc _ _ (Kept.refl _) rfl)
    · have e0 : rd a 232 = lX.val := (hd 4 (show (4 : Nat) ∈ T38.getD 5 [] from by decide) (show 4 < 8 from by decide))
      refine wpOp_call rfl rfl (run_enter1 (en14 _) rfl e0) (view14 lX.val X w1 (H.x.kept q) B.sX) (fun e w' hp => ?_)
      obtain ⟨⟨v, e1, hv⟩, q2⟩ := hp
      exact ⟨v, e1, hc v w' q2 hv⟩
    · exact wpOp_value rfl rfl (run_move' rfl (hF.at 1 rfl)) (hc _ _ (Kept.refl _) rfl)
    · have e0 : rd a 234 = .slice a3 n c3 := (hd 6 (show (6 : Nat) ∈ T38.getD 7 [] from by decide) (show 6 < 8 from by decide))
      refine wpOp_call rfl rfl (run_enter1 (en15 _) rfl e0) (answers15c a3 n c3 As w1 hn2 (H.a.kept q) sA) (fun e w' hp => ?_)
      obtain ⟨⟨p', c', e1, hv, rfl, h0⟩, q2⟩ := hp
      exact ⟨_, e1, hc _ w' q2 ⟨p', rfl, hv, h0⟩⟩
  case call =>
    intro K a w1 hF q hd hc
    have v1 : IsV w1 (rd a 229) F := (hd 1 (show (1 : Nat) ∈ T38.getD 8 [] from by decide) (show 1 < 8 from by decide))
    obtain ⟨at2, ct2, e3, hT⟩ : ∃ a' c', rd a 231 = .slice a' nt c' ∧ IsL w1 a' nt tos := (hd 3 (show (3 : Nat) ∈ T38.getD 8 [] from by decide) (show 3 < 8 from by decide))
    have v5 : IsV w1 (rd a 233) X := (hd 5 (show (5 : Nat) ∈ T38.getD 8 [] from by decide) (show 5 < 8 from by decide))
    obtain ⟨p, e8, hA, -⟩ : ∃ p, rd a 235 = .slice p n n ∧ IsA w1 p n As ∧ (p = none → n = 0) := (hd 7 (show (7 : Nat) ∈ T38.getD 8 [] from by decide) (show 7 < 8 from by decide))
    refine wpOp_call rfl rfl (run_enter4 (en13 _) rfl rfl e3 rfl e8) (ztally13 (rd a 229) (rd a 233) F X w1 at2 nt ct2 tos p n n As v1 v5 B.mF B.mX (Nat.le_trans B.xc.n (by decide)) hT hn1 (fun i hi => Nat.le_trans (B.t.s i (by rw [H.t.len]; exact hi)) (by decide)) hA (by omega) oA (hE'.kept q)) (fun e w' hp => ?_)
    obtain ⟨v, v', e1, hR, q2⟩ := hp
    exact ⟨_, e1, hc v v' w' q2 hR⟩

set_option maxHeartbeats 3200000 in
theorem st21 {b31 b32 : Nat} (B : Bnd F X tos As mark) (hs : ∀ i, i < n → 0 ≤ (As.getD i noAns).sender ∧ (As.getD i noAns).sender < nt) (hE : Errs w) (hj : jn < nt) (hx : XL xl) {a : Act} {W : World} (H : SB w F X tos As nt n jn mark member fz kn lF lX at_ ct a3 c3 b20 ax nx cx xl W) (hF : Fr 373 a [(1, .slice at_ nt ct), (3, .slice a3 n c3), (4, .int .i64 (jn : Int)), (5, sv mark), (6, .bool fz), (7, .bool kn), (8, .pointer (some ⟨w.heap.size, 0, none⟩)), (10, .pointer (some ⟨(w.heap.size + 1), 0, none⟩)), (19, sv member), (20, .pointer (some ⟨b20, 0, none⟩)), (31, .pointer (some ⟨b31, 0, none⟩)), (32, .pointer (some ⟨b32, 0, none⟩))])
    (next : ∀ a w2 B E b4 f b2 l2, Fr 373 a ((33, .pointer (some ⟨b4, 0, none⟩)) :: (34, .pointer (some ⟨b2, 0, none⟩)) :: [(1, .slice at_ nt ct), (3, .slice a3 n c3), (4, .int .i64 (jn : Int)), (5, sv mark), (6, .bool fz), (7, .bool kn), (8, .pointer (some ⟨w.heap.size, 0, none⟩)), (10, .pointer (some ⟨(w.heap.size + 1), 0, none⟩)), (19, sv member), (20, .pointer (some ⟨b20, 0, none⟩)), (31, .pointer (some ⟨b31, 0, none⟩)), (32, .pointer (some ⟨b32, 0, none⟩))]) → Kept W w2 → w2.heap[b4]? = some (.cells (FL.arr f) 44 (0, 0)) → w2.heap[b2]? = some (.cells (VL.arr l2) 42 (0, 0)) → RF B E w2 f.val (tGo F X tos (As ++ [extraA (jn : Int) xl fz kn mark]) (tZero X)) → RW w2 l2.val (tGo F X tos (As ++ [extraA (jn : Int) xl fz kn mark]) (tZero X)) → (restC 22).wp Tryz.prog Q a w2) : (restC 21).wp Tryz.prog Q a W := by
  have hn1 : nt ≤ 1048576 := by rw [← H.t.len]; exact B.t.n
  have hn2 : n ≤ 1048576 := by rw [← H.a.len]; exact B.an
  have hE' : Errs W := hE.kept H.k
  have sA : ∀ i, i < n → SmallW (As.getD i noAns) := fun i hi => smallW (B.a i (by rw [H.a.len]; exact hi)).small
  have oA : ∀ i, i < n → OkA nt (As.getD i noAns) := fun i hi => (B.a i (by rw [H.a.len]; exact hi)).ok (hs i hi).1 (hs i hi).2
  have oE : OkA nt (extraA (jn : Int) xl fz kn mark) := okE hx hj B.m
  refine wp_seq (drawn (D := ⟨W, [(1, .slice at_ nt ct), (3, .slice a3 n c3), (4, .int .i64 (jn : Int)), (5, sv mark), (6, .bool fz), (7, .bool kn), (8, .pointer (some ⟨w.heap.size, 0, none⟩)), (10, .pointer (some ⟨(w.heap.size + 1), 0, none⟩)), (19, sv member), (20, .pointer (some ⟨b20, 0, none⟩)), (31, .pointer (some ⟨b31, 0, none⟩)), (32, .pointer (some ⟨b32, 0, none⟩))], 12, fun j => 240 + j, Fact39 lF lX F X at_ nt ct tos a3 n c3 As jn mark fz kn ax nx cx xl, T39, tGo F X tos (As ++ [extraA (jn : Int) xl fz kn mark]) (tZero X), 252, 239, 253, 254, 33, 34⟩) ?_ (by kernel_rfl) hF (fun a w2 B E b4 f b2 l2 h1 h2 h3 h4 h5 h6 h7 h8 => ?_))
  rotate_left
  · exact next a w2 B E b4 f b2 l2 ⟨h1.size, h1.defers, Has.cons h2 (Has.cons h3 h1.has)⟩ h4 h5 h6 h7 h8
  have hkeys : (([(1, .slice at_ nt ct), (3, .slice a3 n c3), (4, .int .i64 (jn : Int)), (5, sv mark), (6, .bool fz), (7, .bool kn), (8, .pointer (some ⟨w.heap.size, 0, none⟩)), (10, .pointer (some ⟨(w.heap.size + 1), 0, none⟩)), (19, sv member), (20, .pointer (some ⟨b20, 0, none⟩)), (31, .pointer (some ⟨b31, 0, none⟩)), (32, .pointer (some ⟨b32, 0, none⟩))] : List (Nat × Value)).map Prod.fst) = [1, 3, 4, 5, 6, 7, 8, 10, 19, 20, 31, 32] := rfl
  refine ⟨rfl, by kernel_rfl, t39_1, fun j v w w' hj q h => fact39_mono lF lX F X at_ nt ct tos a3 n c3 As jn mark fz kn ax nx cx xl j v w w' hj q h, ?lt, ?inj, ?lt6, t39_2, ?pre, ?call, ⟨_, rfl, rfl, rfl, rfl⟩, ⟨_, rfl, rfl, rfl, rfl⟩, ⟨_, rfl, rfl, rfl, rfl⟩, ⟨_, rfl, rfl, rfl, rfl⟩, ⟨_, rfl, rfl, rfl, rfl⟩, ⟨_, rfl, rfl, rfl, rfl⟩, ⟨_, rfl, rfl, rfl, rfl⟩, t39_3, t39_4, t39_5, t39_6, t39_7, t39_8, t39_9⟩
  case lt =>
    show ∀ i, i < 12 → 240 + i < 373 ∧ (([(1, .slice at_ nt ct), (3, .slice a3 n c3), (4, .int .i64 (jn : Int)), (5, sv mark), (6, .bool fz), (7, .bool kn), (8, .pointer (some ⟨w.heap.size, 0, none⟩)), (10, .pointer (some ⟨(w.heap.size + 1), 0, none⟩)), (19, sv member), (20, .pointer (some ⟨b20, 0, none⟩)), (31, .pointer (some ⟨b31, 0, none⟩)), (32, .pointer (some ⟨b32, 0, none⟩))] : List (Nat × Value)).map Prod.fst).contains (240 + i) = false ∧ 240 + i ≠ 252 ∧ 240 + i ≠ 239 ∧ 240 + i ≠ 253 ∧ 240 + i ≠ 254 ∧ 240 + i ≠ 33 ∧ 240 + i ≠ 34
    rw [hkeys]
    decide
  case inj =>
    show ∀ i, i < 12 → ∀ j, j < 12 → i ≠ j → 240 + i ≠ 240 + j
    intro i hi j hj h
    omega
  case lt6 =>
    show ∀ d ∈ [252, 239, 253, 254, 33, 34], d < 373 ∧ (([(1, .slice at_ nt ct), (3, .slice a3 n c3), (4, .int .i64 (jn : Int)), (5, sv mark), (6, .bool fz), (7, .bool kn), (8, .pointer (some ⟨w.heap.size, 0, none⟩)), (10, .pointer (some ⟨(w.heap.size + 1), 0, none⟩)), (19, sv member), (20, .pointer (some ⟨b20, 0, none⟩)), (31, .pointer (some ⟨b31, 0, none⟩)), (32, .pointer (some ⟨b32, 0, none⟩))] : List (Nat × Value)).map Prod.fst).contains d = false
    rw [hkeys]
    decide
  case pre =>
    intro K a w1 i hi hF q hd hc
    obtain rfl | rfl | rfl | rfl | rfl | rfl | rfl | rfl | rfl | rfl | rfl | rfl : i = 0 ∨ i = 1 ∨ i = 2 ∨ i = 3 ∨ i = 4 ∨ i = 5 ∨ i = 6 ∨ i = 7 ∨ i = 8 ∨ i = 9 ∨ i = 10 ∨ i = 11 := by have : i < 12 := hi; omega
    · exact wpOp_value rfl rfl (run_load25 rfl (hF.at 6 rfl) (q.blk H.b8)) (hc _ _ (Kept.refl _) rfl)
    · have e0 : rd a 240 = lF.val := (hd 0 (show (0 : Nat) ∈ T39.getD 1 [] from by decide) (show 0 < 12 from by decide))
      refine wpOp_call rfl rfl (run_enter1 (en14 _) rfl e0) (view14 lF.val F w1 (H.f.kept q) B.sF) (fun e w' hp => ?_)
      obtain ⟨⟨v, e1, hv⟩, q2⟩ := hp
      exact ⟨v, e1, hc v w' q2 hv⟩
    · exact wpOp_value rfl rfl (run_move' rfl (hF.at 0 rfl)) (hc _ _ (Kept.refl _) rfl)
    · have e0 : rd a 242 = .slice at_ nt ct := (hd 2 (show (2 : Nat) ∈ T39.getD 3 [] from by decide) (show 2 < 12 from by decide))
      refine wpOp_call rfl rfl (run_enter1 (en10 _) rfl e0) (copyStrs10 at_ nt ct tos w1 (by omega) (H.t.kept q)) (fun e w' hp => ?_)
      obtain ⟨⟨a', c', e1, hv, -, -⟩, q2⟩ := hp
      exact ⟨_, e1, hc _ w' q2 ⟨a', c', rfl, hv⟩⟩
    · exact wpOp_value rfl rfl (run_load25 rfl (hF.at 7 rfl) (q.blk H.b10)) (hc _ _ (Kept.refl _) rfl)
    · have e0 : rd a 244 = lX.val := (hd 4 (show (4 : Nat) ∈ T39.getD 5 [] from by decide) (show 4 < 12 from by decide))
      refine wpOp_call rfl rfl (run_enter1 (en14 _) rfl e0) (view14 lX.val X w1 (H.x.kept q) B.sX) (fun e w' hp => ?_)
      obtain ⟨⟨v, e1, hv⟩, q2⟩ := hp
      exact ⟨v, e1, hc v w' q2 hv⟩
    · exact wpOp_value rfl rfl (run_move' rfl (hF.at 1 rfl)) (hc _ _ (Kept.refl _) rfl)
    · have e0 : rd a 246 = .slice a3 n c3 := (hd 6 (show (6 : Nat) ∈ T39.getD 7 [] from by decide) (show 6 < 12 from by decide))
      refine wpOp_call rfl rfl (run_enter1 (en15 _) rfl e0) (answers15c a3 n c3 As w1 hn2 (H.a.kept q) sA) (fun e w' hp => ?_)
      obtain ⟨⟨p', c', e1, hv, rfl, h0⟩, q2⟩ := hp
      exact ⟨_, e1, hc _ w' q2 ⟨p', rfl, hv, h0⟩⟩
    · exact wpOp_value rfl rfl (run_load31 rfl (hF.at 9 rfl) (q.blk H.b20)) (hc _ _ (Kept.refl _) rfl)
    · have e0 : rd a 248 = .agg (cells11 (jn : Int) none 0 0 ax nx cx fz none 0 0 kn mark none 0 0 false false false) := (hd 8 (show (8 : Nat) ∈ T39.getD 9 [] from by decide) (show 8 < 12 from by decide))
      refine wpOp_call rfl rfl (run_enter1 (en19 _) rfl e0) (answer19_in (jn : Int) fz kn false false false mark none ax none none 0 0 nx cx 0 0 0 0 [] xl [] [] w1 (nilL _) (H.l.kept q) (nilLL _) (nilLL _) (by decide) (by rw [← H.l.len]; exact Nat.le_trans hx.n (by decide)) (by decide) (by decide) (fun l hl => by cases hl) (fun l hl => by cases hl)) (fun e w' hp => ?_)
      obtain ⟨⟨x1, d1, x2, d2, x4, d4, x7, d7, e1, ⟨g1, -⟩, ⟨g2, -⟩, g4, g7⟩, q2⟩ := hp
      exact ⟨_, e1, hc _ w' q2 ⟨x1, d1, x2, d2, x4, d4, x7, d7, rfl, g1, g2, g4.isLL, g7.isLL⟩⟩
    · obtain ⟨x1, d1, x2, d2, x4, d4, x7, d7, e0, g1, g2, g4, g7⟩ : ∃ x1 d1 x2 d2 x4 d4 x7 d7, rd a 249 = .agg (cells11 (jn : Int) x1 0 d1 x2 nx d2 fz x4 0 d4 kn mark x7 0 d7 false false false) ∧ IsL w1 x1 0 [] ∧ IsL w1 x2 nx xl ∧ IsLL w1 x4 0 [] ∧ IsLL w1 x7 0 [] := (hd 9 (show (9 : Nat) ∈ T39.getD 10 [] from by decide) (show 9 < 12 from by decide))
      refine wpOp_value rfl rfl (run_bs48 rfl e0) (hc _ _ (Kept.alloc _ _) ⟨_, 1, rfl, ?_⟩)
      exact isA_one (A := extraA (jn : Int) xl fz kn mark) (heap_alloc_new w1 _) (g1.kept (Kept.alloc _ _)) (g2.kept (Kept.alloc _ _)) (g4.kept (Kept.alloc _ _)) (g7.kept (Kept.alloc _ _))
    · obtain ⟨p, e0, hA, h0⟩ : ∃ p, rd a 247 = .slice p n n ∧ IsA w1 p n As ∧ (p = none → n = 0) := (hd 7 (show (7 : Nat) ∈ T39.getD 11 [] from by decide) (show 7 < 12 from by decide))
      obtain ⟨p2, c2, e2, hA2⟩ : ∃ p c, rd a 250 = .slice p 1 c ∧ IsA w1 p 1 [extraA (jn : Int) xl fz kn mark] := (hd 10 (show (10 : Nat) ∈ T39.getD 11 [] from by decide) (show 10 < 12 from by decide))
      obtain ⟨p', c', w', hr, hI, q2⟩ := append48 hA h0 hn2 (c := c2) hA2
      exact wpOp_value rfl rfl (run_append48 rfl rfl e0 e2 hr) (hc _ _ q2 ⟨p', c', rfl, hI⟩)
  case call =>
    intro K a w1 hF q hd hc
    have v1 : IsV w1 (rd a 241) F := (hd 1 (show (1 : Nat) ∈ T39.getD 12 [] from by decide) (show 1 < 12 from by decide))
    obtain ⟨at2, ct2, e3, hT⟩ : ∃ a' c', rd a 243 = .slice a' nt c' ∧ IsL w1 a' nt tos := (hd 3 (show (3 : Nat) ∈ T39.getD 12 [] from by decide) (show 3 < 12 from by decide))
    have v5 : IsV w1 (rd a 245) X := (hd 5 (show (5 : Nat) ∈ T39.getD 12 [] from by decide) (show 5 < 12 from by decide))
    obtain ⟨p, c, e8, hA⟩ : ∃ p c, rd a 251 = .slice p (n + 1) c ∧ IsA w1 p (n + 1) (As ++ [extraA (jn : Int) xl fz kn mark]) := (hd 11 (show (11 : Nat) ∈ T39.getD 12 [] from by decide) (show 11 < 12 from by decide))
    have oAE : ∀ i, i < n + 1 → OkA nt ((As ++ [extraA (jn : Int) xl fz kn mark]).getD i noAns) := fun i hi => by
      by_cases h : i < n
      · rw [List.getD_eq_getElem?_getD, List.getElem?_append_left (by rw [H.a.len]; exact h), ← List.getD_eq_getElem?_getD]; exact oA i h
      · obtain rfl : i = n := by omega
        rw [List.getD_eq_getElem?_getD, List.getElem?_append_right (by rw [H.a.len]; exact Nat.le_refl _), H.a.len, Nat.sub_self]; exact oE
    refine wpOp_call rfl rfl (run_enter4 (en13 _) rfl rfl e3 rfl e8) (ztally13 (rd a 241) (rd a 245) F X w1 at2 nt ct2 tos p (n + 1) c (As ++ [extraA (jn : Int) xl fz kn mark]) v1 v5 B.mF B.mX (Nat.le_trans B.xc.n (by decide)) hT hn1 (fun i hi => Nat.le_trans (B.t.s i (by rw [H.t.len]; exact hi)) (by decide)) hA (by omega) oAE (hE'.kept q)) (fun e w' hp => ?_)
    obtain ⟨v, v', e1, hR, q2⟩ := hp
    exact ⟨_, e1, hc v v' w' q2 hR⟩

end

end Go.Proofs.Qxb6616331aGreatDoor
