/-
  THE WALKS of seat b6616331aZD, 2: answers in memory; zzTallyBytes, zzAscending, zzPlainChange.
-/
import Derived.Test.Qxb6616331aGreatDoorZ1
namespace Go.Proofs.Qxb6616331aGreatDoor
open Go.RowKit
set_option linter.unusedVariables false
set_option linter.unusedSimpArgs false

/-- An answer, field for field. -/
structure Ans where
  sender : Int
  view : List Str
  next : List Str
  frozen : Bool
  before : List (List Str)
  known : Bool
  mark : Str
  unsure : List (List Str)
  prepare : Bool
  announce : Bool
  commit : Bool

/-- Eleven cells from ⟨b, o⟩ on that read as an answer. -/
structure IsAns (w : World) (b o : Nat) (A : Ans) : Prop where
  c0 : w.cell? ⟨b, o, none⟩ = some (.int .i64 A.sender)
  c1 : ∃ a n c, w.cell? ⟨b, o + 1, none⟩ = some (.slice a n c) ∧ IsL w a n A.view
  c2 : ∃ a n c, w.cell? ⟨b, o + 2, none⟩ = some (.slice a n c) ∧ IsL w a n A.next
  c3 : w.cell? ⟨b, o + 3, none⟩ = some (.bool A.frozen)
  c4 : ∃ a n c, w.cell? ⟨b, o + 4, none⟩ = some (.slice a n c) ∧ IsLL w a n A.before
  c5 : w.cell? ⟨b, o + 5, none⟩ = some (.bool A.known)
  c6 : w.cell? ⟨b, o + 6, none⟩ = some (sv A.mark)
  c7 : ∃ a n c, w.cell? ⟨b, o + 7, none⟩ = some (.slice a n c) ∧ IsLL w a n A.unsure
  c8 : w.cell? ⟨b, o + 8, none⟩ = some (.bool A.prepare)
  c9 : w.cell? ⟨b, o + 9, none⟩ = some (.bool A.announce)
  c10 : w.cell? ⟨b, o + 10, none⟩ = some (.bool A.commit)
theorem IsAns.kept {w w' : World} {b o : Nat} {A : Ans} (h : IsAns w b o A) (q : Kept w w') : IsAns w' b o A := by
  obtain ⟨a1, n1, k1, h1, g1⟩ := h.c1
  obtain ⟨a2, n2, k2, h2, g2⟩ := h.c2
  obtain ⟨a4, n4, k4, h4, g4⟩ := h.c4
  obtain ⟨a7, n7, k7, h7, g7⟩ := h.c7
  exact ⟨q.cell h.c0, ⟨a1, n1, k1, q.cell h1, g1.kept q⟩, ⟨a2, n2, k2, q.cell h2, g2.kept q⟩, q.cell h.c3, ⟨a4, n4, k4, q.cell h4, g4.kept q⟩, q.cell h.c5, q.cell h.c6, ⟨a7, n7, k7, q.cell h7, g7.kept q⟩, q.cell h.c8, q.cell h.c9, q.cell h.c10⟩

def noAns : Ans := ⟨0, [], [], false, [], false, [], [], false, false, false⟩
/-- The slice of n answers at a reads as As. -/
structure IsA (w : World) (a : Option Addr) (n : Nat) (As : List Ans) : Prop where
  len : As.length = n
  row : 0 < n → ∃ b off, a = some ⟨b, off, none⟩ ∧ ∀ i, i < n → IsAns w b (off + i * 11) (As.getD i noAns)
theorem IsA.kept {w w' : World} {a : Option Addr} {n : Nat} {As : List Ans} (h : IsA w a n As) (q : Kept w w') : IsA w' a n As :=
  ⟨h.len, fun h0 => by
    obtain ⟨b, off, ha, hc⟩ := h.row h0
    exact ⟨b, off, ha, fun i hi => (hc i hi).kept q⟩⟩

/-- Each list of an answer is of at most 2^20 elements. -/
structure SmallA (A : Ans) : Prop where
  view : A.view.length ≤ 1048576
  next : A.next.length ≤ 1048576
  before : A.before.length ≤ 1048576
  unsure : A.unsure.length ≤ 1048576
  befores : ∀ l ∈ A.before, l.length ≤ 1048576
  unsures : ∀ l ∈ A.unsure, l.length ≤ 1048576

theorem getD_small {xss : List (List Str)} (h : ∀ l ∈ xss, l.length ≤ 1048576) (i : Nat) : (xss.getD i []).length ≤ 1048576 := by
  rw [List.getD_eq_getElem?_getD]
  cases e : xss[i]? with
  | none => simp
  | some l => exact h l (List.mem_of_getElem? e)

theorem Kept.box4 {w w1 : World} (q : Kept w w1) {b : Nat} {y0 y1 y2 y3 : Value} {t : TypeId} (hb : w.heap[b]? = some (.cells #[y0, y1, y2, y3] t (0, 0))) :
    w1.cell? ⟨b, 0, none⟩ = some y0 ∧ w1.cell? ⟨b, 1, none⟩ = some y1 ∧ w1.cell? ⟨b, 2, none⟩ = some y2 ∧ w1.cell? ⟨b, 3, none⟩ = some y3 := by
  have := q.blk hb
  refine ⟨?_, ?_, ?_, ?_⟩ <;> simp [World.cell?, this]
theorem new1 (w : World) (o o' : Obj) : ((w.alloc o).alloc o').heap[w.heap.size]? = some o := (Below.heap_alloc _ _ _ (by simp)).trans (heap_alloc_new w _)
theorem new2 (w : World) (o o' : Obj) : ((w.alloc o).alloc o').heap[w.heap.size + 1]? = some o' := by
  have := heap_alloc_new (w.alloc o) o'
  rwa [World.size_alloc] at this

set_option maxRecDepth 40000 in
set_option maxHeartbeats 1600000 in
theorem tallyBytes6 (lim : Int) (v0 v2 : Value) (V0 V2 : View) (a1 a3 : Option Addr) (n1 c1 n3 c3 : Nat) (xs : List Str) (As : List Ans) (w : World) (h0 : IsV w v0 V0) (s0 : Small V0) (h2 : IsV w v2 V2) (s2 : Small V2)
    (h1 : IsL w a1 n1 xs) (k1 : n1 ≤ 1048576) (h3 : IsA w a3 n3 As) (k3 : n3 ≤ 1048576) (s3 : ∀ i, i < n3 → SmallA (As.getD i noAns)) :
    Calls Tryz.prog 6 #[v0, .slice a1 n1 c1, v2, .slice a3 n3 c3, .int .i64 lim] w fun e w' => (∃ r, e = .returned (.int .i64 r)) ∧ Kept w w' := by
  have H0 : Hid (∀ w' t, Kept w w' → Calls Tryz.prog 27 #[.int .i64 t, v0, .int .i64 lim] w' fun e w' => (∃ r, e = .returned (.int .i64 r)) ∧ Kept _ w') := fun w' t q => viewBytes27 t lim v0 V0 w' (h0.kept q) s0
  have H2 : Hid (∀ w' t, Kept w w' → Calls Tryz.prog 27 #[.int .i64 t, v2, .int .i64 lim] w' fun e w' => (∃ r, e = .returned (.int .i64 r)) ∧ Kept _ w') := fun w' t q => viewBytes27 t lim v2 V2 w' (h2.kept q) s2
  obtain ⟨ab, nb, cb, al, nl, cl, ac, nc, cc, rfl, -, -, -⟩ := h0.ex
  obtain ⟨ab', nb', cb', al', nl', cl', ac', nc', cc', rfl, -, -, -⟩ := h2.ex
  clear h0 h2 s0 s2
  go_enter Tryz.func6, Tryz.ntmps6
  go_wp2_with fail
  refine (H0.out _ _ ((Kept.alloc _ _).more _)).mono ?_
  rintro e w1 ⟨⟨r1, rfl⟩, q1⟩
  obtain ⟨y0, y1, y2, y3⟩ := q1.box4 (new2 w _ _)
  have Q1 : Hid (Kept w w1) := ((Kept.alloc _ _).more _).trans q1
  clear q1
  go_wp2_with fail
  refine (H2.out _ _ Q1.out).mono ?_
  rintro e w2 ⟨⟨r2, rfl⟩, q2⟩
  clear y0 y1 y2 y3
  have Q2 : Hid (Kept w w2) := Q1.out.trans q2
  clear q2
  go_wp2_with fail
  refine (strsBytes28 _ _ a1 n1 c1 _ _ k1 (h1.kept Q2.out)).mono ?_
  rintro e w2 ⟨⟨r3, rfl⟩, rfl⟩
  by_cases hr3 : lim < r3
  · go_wp2
    go_ret
    exact ⟨⟨_, rfl⟩, Q2.out⟩
  go_wp2
  go_loopw [11, 12] (fun v i wr => ∃ (k : Nat) (r : Int), k ≤ n3 ∧ i = .int .i64 k ∧ v = .int .i64 r ∧ wr = w2) (fun _ i _ => n3 - (intOf i).toNat)
  case atStart => exact ⟨0, _, Nat.zero_le _, rfl, rfl, rfl⟩
  case round =>
    obtain ⟨k, r, hk, rfl, rfl, rfl⟩ := hrel
    by_cases hlt : k < n3
    · by_cases hr : r ≤ lim
      · obtain ⟨b, off, rfl, hc⟩ := h3.row (by omega)
        have hA := (hc k hlt).kept Q2.out
        have sA := s3 k hlt
        obtain ⟨x1, m1, g1, d1, e1⟩ := hA.c1
        obtain ⟨x2, m2, g2, d2, e2⟩ := hA.c2
        obtain ⟨x4, m4, g4, d4, e4⟩ := hA.c4
        obtain ⟨x7, m7, g7, d7, e7⟩ := hA.c7
        have d6 := hA.c6
        have b1 := sA.view
        have b2 := sA.next
        have b4 := sA.before
        have b7 := sA.unsure
        have f4 := sA.befores
        have f7 := sA.unsures
        rw [e1.len] at b1
        rw [e2.len] at b2
        rw [e4.len] at b4
        rw [e7.len] at b7
        have hl : (k : Int) < (n3 : Int) := by omega
        clear hc h3 s3 hA sA
        go_wp2_with fail
        refine (strsBytes28 _ _ x1 m1 g1 _ _ b1 e1).mono ?_
        rintro e w4 ⟨⟨r4, rfl⟩, rfl⟩
        go_wp2_with fail
        refine (strsBytes28 _ _ x2 m2 g2 _ _ b2 e2).mono ?_
        rintro e w4 ⟨⟨r5, rfl⟩, rfl⟩
        go_wp2_with fail
        refine (listsBytes29 _ _ x4 m4 g4 _ _ b4 e4 (fun i _ => getD_small f4 i)).mono ?_
        rintro e w4 ⟨⟨r6, rfl⟩, rfl⟩
        go_wp2_with fail
        refine (listsBytes29 _ _ x7 m7 g7 _ _ b7 e7 (fun i _ => getD_small f7 i)).mono ?_
        rintro e w4 ⟨⟨r7, rfl⟩, rfl⟩
        by_cases hr7 : r7 ≤ lim
        · go_wp2
          go_roundw
          case rel => exact ⟨k + 1, _, by omega, by go_num, rfl, by trivial⟩
          case measure => simp [intOf]; omega
        · go_wp2
          go_roundw
          case rel => exact ⟨k + 1, _, by omega, by go_num, rfl, by trivial⟩
          case measure => simp [intOf]; omega
      · have hl : (k : Int) < (n3 : Int) := by omega
        go_wp2
        go_ret
        exact ⟨⟨_, rfl⟩, Q2.out⟩
    · obtain rfl : n3 = k := by omega
      go_wp2
      go_ret
      exact ⟨⟨_, rfl⟩, Q2.out⟩

end Go.Proofs.Qxb6616331aGreatDoor
