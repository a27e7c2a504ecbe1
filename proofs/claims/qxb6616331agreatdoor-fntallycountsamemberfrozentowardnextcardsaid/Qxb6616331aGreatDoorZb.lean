/-
  THE WALKS of seat b6616331aZD, 11: zzCopyAnswer, zzAnswer.
-/
import Derived.Test.Qxb6616331aGreatDoorZa
namespace Go.Proofs.Qxb6616331aGreatDoor
open Go.RowKit
set_option linter.unusedVariables false
set_option linter.unusedSimpArgs false

theorem NewLL.mono {w : World} {h h' : Nat} {a : Option Addr} {n : Nat} {xss : List (List Str)} (H : NewLL w h a n xss) (hh : h' ≤ h) : NewLL w h' a n xss :=
  ⟨H.len, H.fresh.mono hh, fun h0 => by
    obtain ⟨b, off, ha, hc⟩ := H.row h0
    refine ⟨b, off, ha, fun i hi => ?_⟩
    obtain ⟨ai, ni, ci, h1, h2, h3⟩ := hc i hi
    exact ⟨ai, ni, ci, h1, h2, h3.mono hh⟩⟩

set_option maxRecDepth 40000 in
set_option maxHeartbeats 8000000 in
theorem copyAnswer30_in (fr : Int) (fz kn b8 b9 b10 : Bool) (mk : Str) (a1 a2 a4 a7 : Option Addr) (n1 c1 n2 c2 n4 c4 n7 c7 : Nat) (l1 l2 : List Str) (l4 l7 : List (List Str)) (w : World)
    (h1 : IsL w a1 n1 l1) (h2 : IsL w a2 n2 l2) (h4 : IsLL w a4 n4 l4) (h7 : IsLL w a7 n7 l7) (m1 : n1 ≤ 2097152) (m2 : n2 ≤ 2097152) (m4 : n4 ≤ 1048576) (m7 : n7 ≤ 1048576) (s4 : ∀ l ∈ l4, l.length ≤ 1048576) (s7 : ∀ l ∈ l7, l.length ≤ 1048576) :
    Calls Tryz.prog 30 #[.agg #[.int .i64 fr, .slice a1 n1 c1, .slice a2 n2 c2, .bool fz, .slice a4 n4 c4, .bool kn, sv mk, .slice a7 n7 c7, .bool b8, .bool b9, .bool b10]] w fun e w' => (∃ x1 d1 x2 d2 x4 d4 x7 d7, e = .returned (.agg #[.int .i64 fr, .slice x1 n1 d1, .slice x2 n2 d2, .bool fz, .slice x4 n4 d4, .bool kn, sv mk, .slice x7 n7 d7, .bool b8, .bool b9, .bool b10]) ∧ (IsL w' x1 n1 l1 ∧ Fresh w.heap.size x1) ∧ (IsL w' x2 n2 l2 ∧ Fresh w.heap.size x2) ∧ NewLL w' w.heap.size x4 n4 l4 ∧ NewLL w' w.heap.size x7 n7 l7) ∧ Kept w w' := by
  go_enter Tryz.func30, Tryz.ntmps30
  go_wp2_with fail
  obtain ⟨W, hW⟩ : ∃ W, W = ((w.alloc (.cells #[.int .i64 fr, .slice a1 n1 c1, .slice a2 n2 c2, .bool fz, .slice a4 n4 c4, .bool kn, sv mk, .slice a7 n7 c7, .bool b8, .bool b9, .bool b10] 31)).alloc (.cells #[.int .i64 0, .slice none 0 0, .slice none 0 0, .bool false, .slice none 0 0, .bool false, sv [], .slice none 0 0, .bool false, .bool false, .bool false] 31)) := ⟨_, rfl⟩
  have KW : Hid (Kept w W) := by rw [hW]; exact (Kept.alloc _ _).more _
  have TW : Hid (∀ w', Kept W w' → Two11 w.heap.size (.int .i64 fr) (.slice a1 n1 c1) (.slice a2 n2 c2) (.bool fz) (.slice a4 n4 c4) (.bool kn) (sv mk) (.slice a7 n7 c7) (.bool b8) (.bool b9) (.bool b10) (.int .i64 0) (.slice none 0 0) (.slice none 0 0) (.bool false) (.slice none 0 0) (.bool false) (sv []) (.slice none 0 0) (.bool false) (.bool false) (.bool false) w') := fun w' q => two11 w w' _ _ _ _ _ _ _ _ _ _ _ _ _ _ _ _ _ _ _ _ _ _ 31 31 (by rw [hW] at q; exact q)
  have sW0 : W.heap.size = w.heap.size + 2 := by rw [hW]; simp
  have SW : Hid (W.heap.size = w.heap.size + 2) := sW0
  clear sW0
  rw [← hW]
  clear hW
  have H1 : Hid (∀ w', Kept W w' → IsL w' a1 n1 l1) := fun w' q => (h1.kept KW.out).kept q
  have H2 : Hid (∀ w', Kept W w' → IsL w' a2 n2 l2) := fun w' q => (h2.kept KW.out).kept q
  have H4 : Hid (∀ w', Kept W w' → IsLL w' a4 n4 l4) := fun w' q => (h4.kept KW.out).kept q
  have H7 : Hid (∀ w', Kept W w' → IsLL w' a7 n7 l7) := fun w' q => (h7.kept KW.out).kept q
  have q0 := Kept.drew W
  have T0 := (TW.out _ q0)
  clear h1 h2 h4 h7
  go_region_held3 (fun w' => w'.cell? ⟨w.heap.size, 0, none⟩ = some (.int .i64 fr) ∧ w'.cell? ⟨w.heap.size, 1, none⟩ = some (.slice a1 n1 c1) ∧ w'.cell? ⟨w.heap.size, 2, none⟩ = some (.slice a2 n2 c2) ∧ w'.cell? ⟨w.heap.size, 3, none⟩ = some (.bool fz) ∧ w'.cell? ⟨w.heap.size, 4, none⟩ = some (.slice a4 n4 c4) ∧ w'.cell? ⟨w.heap.size, 5, none⟩ = some (.bool kn) ∧ w'.cell? ⟨w.heap.size, 6, none⟩ = some (sv mk) ∧ w'.cell? ⟨w.heap.size, 7, none⟩ = some (.slice a7 n7 c7) ∧ w'.cell? ⟨w.heap.size, 8, none⟩ = some (.bool b8) ∧ w'.cell? ⟨w.heap.size, 9, none⟩ = some (.bool b9) ∧ w'.cell? ⟨w.heap.size, 10, none⟩ = some (.bool b10))
    (first | with_reducible exact (TW.out _ q7).a | with_reducible exact keep11 (TW.out _ q7).a _ _ _ _ _ _ _ _ _ _ _ | with_reducible exact (TW.out _ q4).a | with_reducible exact (TW.out _ q2).a | with_reducible exact (TW.out _ q1).a | with_reducible exact T0.a)
    (first
      | (go_at_call_of 10 (Value.slice a1 n1 c1); refine (copyStrs10 a1 n1 c1 l1 _ m1 (H1.out _ q0)).mono ?_; rintro e w1 ⟨⟨x1, d1, rfl, L1, F1, -⟩, k1⟩; have q1 := q0.trans k1)
      | (go_at_call_of 10 (Value.slice a2 n2 c2); refine (copyStrs10 a2 n2 c2 l2 _ m2 (H2.out _ q1)).mono ?_; rintro e w2 ⟨⟨x2, d2, rfl, L2, F2, -⟩, k2⟩; have q2 := q1.trans k2)
      | (go_at_call_of 35 (Value.slice a4 n4 c4); refine (copyLists35 a4 n4 c4 l4 _ m4 (H4.out _ q2) s4).mono ?_; rintro e w4 ⟨⟨x4, d4, rfl, L4, -⟩, k4⟩; have q4 := q2.trans k4)
      | (go_at_call_of 35 (Value.slice a7 n7 c7); refine (copyLists35 a7 n7 c7 l7 _ m7 (H7.out _ q4) s7).mono ?_; rintro e w7 ⟨⟨x7, d7, rfl, L7, -⟩, k7⟩; have q7 := q4.trans k7; have T7 := (TW.out _ q7); have ⟨f0, f1, f2, f3, f4, f5, f6, f7, f8, f9, f10⟩ := T7.f; have ⟨g0, g1, g2, g3, g4, g5, g6, g7, g8, g9, g10⟩ := T7.b))
  all_goals go_wp2
  have s0 := q0.size
  have s1 := q1.size
  have s2 := q2.size
  have s4' := q4.size
  have sW : W.heap.size = w.heap.size + 2 := SW.out
  have M1 := ((L1.kept k2).kept k4).kept k7
  have M2 := (L2.kept k4).kept k7
  have M4 := L4.kept k7
  obtain ⟨r0, r1, r2, r3, r4, r5, r6, r7, r8, r9, r10⟩ := set11 (w := w7) (h := w.heap.size + 1) T7.b (.int .i64 fr) (.slice x1 n1 d1) (.slice x2 n2 d2) (.bool fz) (.slice x4 n4 d4) (.bool kn) (sv mk) (.slice x7 n7 d7) (.bool b8) (.bool b9) (.bool b10)
  refine bodyPost_ret (v := .agg #[.int .i64 fr, .slice x1 n1 d1, .slice x2 n2 d2, .bool fz, .slice x4 n4 d4, .bool kn, sv mk, .slice x7 n7 d7, .bool b8, .bool b9, .bool b10]) (by simp [results, Tryz.results30, go_sem, r0, r1, r2, r3, r4, r5, r6, r7, r8, r9, r10]) rfl ⟨⟨x1, d1, x2, d2, x4, d4, x7, d7, rfl, ⟨?_, F1.mono (by omega)⟩, ⟨?_, F2.mono (by omega)⟩, ?_, ?_⟩, ?_⟩
  · exact (((((((((((M1.set _ _ _ (F1.mono (by omega))).set _ _ _ (F1.mono (by omega))).set _ _ _ (F1.mono (by omega))).set _ _ _ (F1.mono (by omega))).set _ _ _ (F1.mono (by omega))).set _ _ _ (F1.mono (by omega))).set _ _ _ (F1.mono (by omega))).set _ _ _ (F1.mono (by omega))).set _ _ _ (F1.mono (by omega))).set _ _ _ (F1.mono (by omega))).set _ _ _ (F1.mono (by omega)))
  · exact (((((((((((M2.set _ _ _ (F2.mono (by omega))).set _ _ _ (F2.mono (by omega))).set _ _ _ (F2.mono (by omega))).set _ _ _ (F2.mono (by omega))).set _ _ _ (F2.mono (by omega))).set _ _ _ (F2.mono (by omega))).set _ _ _ (F2.mono (by omega))).set _ _ _ (F2.mono (by omega))).set _ _ _ (F2.mono (by omega))).set _ _ _ (F2.mono (by omega))).set _ _ _ (F2.mono (by omega)))
  · exact NewLL.mono (((((((((((M4.set _ _ _ (by omega)).set _ _ _ (by omega)).set _ _ _ (by omega)).set _ _ _ (by omega)).set _ _ _ (by omega)).set _ _ _ (by omega)).set _ _ _ (by omega)).set _ _ _ (by omega)).set _ _ _ (by omega)).set _ _ _ (by omega)).set _ _ _ (by omega)) (by omega)
  · exact NewLL.mono (((((((((((L7.set _ _ _ (by omega)).set _ _ _ (by omega)).set _ _ _ (by omega)).set _ _ _ (by omega)).set _ _ _ (by omega)).set _ _ _ (by omega)).set _ _ _ (by omega)).set _ _ _ (by omega)).set _ _ _ (by omega)).set _ _ _ (by omega)).set _ _ _ (by omega)) (by omega)
  · exact ((((((((((((((((((((((KW.out.trans q7).setNew _ (by simp) _)).setNew _ (by simp) _)).setNew _ (by simp) _)).setNew _ (by simp) _)).setNew _ (by simp) _)).setNew _ (by simp) _)).setNew _ (by simp) _)).setNew _ (by simp) _)).setNew _ (by simp) _)).setNew _ (by simp) _)).setNew _ (by simp) _)

set_option maxRecDepth 40000 in
set_option maxHeartbeats 8000000 in
theorem answer19_in (fr : Int) (fz kn b8 b9 b10 : Bool) (mk : Str) (a1 a2 a4 a7 : Option Addr) (n1 c1 n2 c2 n4 c4 n7 c7 : Nat) (l1 l2 : List Str) (l4 l7 : List (List Str)) (w : World)
    (h1 : IsL w a1 n1 l1) (h2 : IsL w a2 n2 l2) (h4 : IsLL w a4 n4 l4) (h7 : IsLL w a7 n7 l7) (m1 : n1 ≤ 2097152) (m2 : n2 ≤ 2097152) (m4 : n4 ≤ 1048576) (m7 : n7 ≤ 1048576) (s4 : ∀ l ∈ l4, l.length ≤ 1048576) (s7 : ∀ l ∈ l7, l.length ≤ 1048576) :
    Calls Tryz.prog 19 #[.agg #[.int .i64 fr, .slice a1 n1 c1, .slice a2 n2 c2, .bool fz, .slice a4 n4 c4, .bool kn, sv mk, .slice a7 n7 c7, .bool b8, .bool b9, .bool b10]] w fun e w' => (∃ x1 d1 x2 d2 x4 d4 x7 d7, e = .returned (.agg #[.int .i64 fr, .slice x1 n1 d1, .slice x2 n2 d2, .bool fz, .slice x4 n4 d4, .bool kn, sv mk, .slice x7 n7 d7, .bool b8, .bool b9, .bool b10]) ∧ (IsL w' x1 n1 l1 ∧ Fresh w.heap.size x1) ∧ (IsL w' x2 n2 l2 ∧ Fresh w.heap.size x2) ∧ NewLL w' w.heap.size x4 n4 l4 ∧ NewLL w' w.heap.size x7 n7 l7) ∧ Kept w w' := by
  go_enter Tryz.func19, Tryz.ntmps19
  go_wp2_with fail
  obtain ⟨W, hW⟩ : ∃ W, W = ((w.alloc (.cells #[.int .i64 fr, .slice a1 n1 c1, .slice a2 n2 c2, .bool fz, .slice a4 n4 c4, .bool kn, sv mk, .slice a7 n7 c7, .bool b8, .bool b9, .bool b10] 31)).alloc (.cells #[.int .i64 0, .slice none 0 0, .slice none 0 0, .bool false, .slice none 0 0, .bool false, sv [], .slice none 0 0, .bool false, .bool false, .bool false] 58)) := ⟨_, rfl⟩
  have KW : Hid (Kept w W) := by rw [hW]; exact (Kept.alloc _ _).more _
  have TW : Hid (∀ w', Kept W w' → Two11 w.heap.size (.int .i64 fr) (.slice a1 n1 c1) (.slice a2 n2 c2) (.bool fz) (.slice a4 n4 c4) (.bool kn) (sv mk) (.slice a7 n7 c7) (.bool b8) (.bool b9) (.bool b10) (.int .i64 0) (.slice none 0 0) (.slice none 0 0) (.bool false) (.slice none 0 0) (.bool false) (sv []) (.slice none 0 0) (.bool false) (.bool false) (.bool false) w') := fun w' q => two11 w w' _ _ _ _ _ _ _ _ _ _ _ _ _ _ _ _ _ _ _ _ _ _ 31 58 (by rw [hW] at q; exact q)
  have sW0 : W.heap.size = w.heap.size + 2 := by rw [hW]; simp
  have SW : Hid (W.heap.size = w.heap.size + 2) := sW0
  clear sW0
  rw [← hW]
  clear hW
  have H1 : Hid (∀ w', Kept W w' → IsL w' a1 n1 l1) := fun w' q => (h1.kept KW.out).kept q
  have H2 : Hid (∀ w', Kept W w' → IsL w' a2 n2 l2) := fun w' q => (h2.kept KW.out).kept q
  have H4 : Hid (∀ w', Kept W w' → IsLL w' a4 n4 l4) := fun w' q => (h4.kept KW.out).kept q
  have H7 : Hid (∀ w', Kept W w' → IsLL w' a7 n7 l7) := fun w' q => (h7.kept KW.out).kept q
  have q0 := Kept.drew W
  have T0 := (TW.out _ q0)
  clear h1 h2 h4 h7
  go_region_held3 (fun w' => w'.cell? ⟨w.heap.size, 0, none⟩ = some (.int .i64 fr) ∧ w'.cell? ⟨w.heap.size, 1, none⟩ = some (.slice a1 n1 c1) ∧ w'.cell? ⟨w.heap.size, 2, none⟩ = some (.slice a2 n2 c2) ∧ w'.cell? ⟨w.heap.size, 3, none⟩ = some (.bool fz) ∧ w'.cell? ⟨w.heap.size, 4, none⟩ = some (.slice a4 n4 c4) ∧ w'.cell? ⟨w.heap.size, 5, none⟩ = some (.bool kn) ∧ w'.cell? ⟨w.heap.size, 6, none⟩ = some (sv mk) ∧ w'.cell? ⟨w.heap.size, 7, none⟩ = some (.slice a7 n7 c7) ∧ w'.cell? ⟨w.heap.size, 8, none⟩ = some (.bool b8) ∧ w'.cell? ⟨w.heap.size, 9, none⟩ = some (.bool b9) ∧ w'.cell? ⟨w.heap.size, 10, none⟩ = some (.bool b10))
    (first | with_reducible exact (TW.out _ q7).a | with_reducible exact keep11 (TW.out _ q7).a _ _ _ _ _ _ _ _ _ _ _ | with_reducible exact (TW.out _ q4).a | with_reducible exact (TW.out _ q2).a | with_reducible exact (TW.out _ q1).a | with_reducible exact T0.a)
    (first
      | (go_at_call_of 10 (Value.slice a1 n1 c1); refine (copyStrs10 a1 n1 c1 l1 _ m1 (H1.out _ q0)).mono ?_; rintro e w1 ⟨⟨x1, d1, rfl, L1, F1, -⟩, k1⟩; have q1 := q0.trans k1)
      | (go_at_call_of 10 (Value.slice a2 n2 c2); refine (copyStrs10 a2 n2 c2 l2 _ m2 (H2.out _ q1)).mono ?_; rintro e w2 ⟨⟨x2, d2, rfl, L2, F2, -⟩, k2⟩; have q2 := q1.trans k2)
      | (go_at_call_of 35 (Value.slice a4 n4 c4); refine (copyLists35 a4 n4 c4 l4 _ m4 (H4.out _ q2) s4).mono ?_; rintro e w4 ⟨⟨x4, d4, rfl, L4, -⟩, k4⟩; have q4 := q2.trans k4)
      | (go_at_call_of 35 (Value.slice a7 n7 c7); refine (copyLists35 a7 n7 c7 l7 _ m7 (H7.out _ q4) s7).mono ?_; rintro e w7 ⟨⟨x7, d7, rfl, L7, -⟩, k7⟩; have q7 := q4.trans k7; have T7 := (TW.out _ q7); have ⟨f0, f1, f2, f3, f4, f5, f6, f7, f8, f9, f10⟩ := T7.f; have ⟨g0, g1, g2, g3, g4, g5, g6, g7, g8, g9, g10⟩ := T7.b))
  all_goals go_wp2
  have s0 := q0.size
  have s1 := q1.size
  have s2 := q2.size
  have s4' := q4.size
  have sW : W.heap.size = w.heap.size + 2 := SW.out
  have M1 := ((L1.kept k2).kept k4).kept k7
  have M2 := (L2.kept k4).kept k7
  have M4 := L4.kept k7
  obtain ⟨r0, r1, r2, r3, r4, r5, r6, r7, r8, r9, r10⟩ := set11 (w := w7) (h := w.heap.size + 1) T7.b (.int .i64 fr) (.slice x1 n1 d1) (.slice x2 n2 d2) (.bool fz) (.slice x4 n4 d4) (.bool kn) (sv mk) (.slice x7 n7 d7) (.bool b8) (.bool b9) (.bool b10)
  refine bodyPost_ret (v := .agg #[.int .i64 fr, .slice x1 n1 d1, .slice x2 n2 d2, .bool fz, .slice x4 n4 d4, .bool kn, sv mk, .slice x7 n7 d7, .bool b8, .bool b9, .bool b10]) (by simp [results, Tryz.results19, go_sem, r0, r1, r2, r3, r4, r5, r6, r7, r8, r9, r10]) rfl ⟨⟨x1, d1, x2, d2, x4, d4, x7, d7, rfl, ⟨?_, F1.mono (by omega)⟩, ⟨?_, F2.mono (by omega)⟩, ?_, ?_⟩, ?_⟩
  · exact (((((((((((M1.set _ _ _ (F1.mono (by omega))).set _ _ _ (F1.mono (by omega))).set _ _ _ (F1.mono (by omega))).set _ _ _ (F1.mono (by omega))).set _ _ _ (F1.mono (by omega))).set _ _ _ (F1.mono (by omega))).set _ _ _ (F1.mono (by omega))).set _ _ _ (F1.mono (by omega))).set _ _ _ (F1.mono (by omega))).set _ _ _ (F1.mono (by omega))).set _ _ _ (F1.mono (by omega)))
  · exact (((((((((((M2.set _ _ _ (F2.mono (by omega))).set _ _ _ (F2.mono (by omega))).set _ _ _ (F2.mono (by omega))).set _ _ _ (F2.mono (by omega))).set _ _ _ (F2.mono (by omega))).set _ _ _ (F2.mono (by omega))).set _ _ _ (F2.mono (by omega))).set _ _ _ (F2.mono (by omega))).set _ _ _ (F2.mono (by omega))).set _ _ _ (F2.mono (by omega))).set _ _ _ (F2.mono (by omega)))
  · exact NewLL.mono (((((((((((M4.set _ _ _ (by omega)).set _ _ _ (by omega)).set _ _ _ (by omega)).set _ _ _ (by omega)).set _ _ _ (by omega)).set _ _ _ (by omega)).set _ _ _ (by omega)).set _ _ _ (by omega)).set _ _ _ (by omega)).set _ _ _ (by omega)).set _ _ _ (by omega)) (by omega)
  · exact NewLL.mono (((((((((((L7.set _ _ _ (by omega)).set _ _ _ (by omega)).set _ _ _ (by omega)).set _ _ _ (by omega)).set _ _ _ (by omega)).set _ _ _ (by omega)).set _ _ _ (by omega)).set _ _ _ (by omega)).set _ _ _ (by omega)).set _ _ _ (by omega)).set _ _ _ (by omega)) (by omega)
  · exact ((((((((((((((((((((((KW.out.trans q7).setNew _ (by simp) _)).setNew _ (by simp) _)).setNew _ (by simp) _)).setNew _ (by simp) _)).setNew _ (by simp) _)).setNew _ (by simp) _)).setNew _ (by simp) _)).setNew _ (by simp) _)).setNew _ (by simp) _)).setNew _ (by simp) _)).setNew _ (by simp) _)

end Go.Proofs.Qxb6616331aGreatDoor
