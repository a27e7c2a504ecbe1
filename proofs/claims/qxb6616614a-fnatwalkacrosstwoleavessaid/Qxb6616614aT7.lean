/-
  THE WALKS of seat b6616614a, 7: ZZparent2.
-/
import Derived.Test.Qxb6616614aT5
namespace Go.Proofs.Qxb6616614a
open Go.RowKit
set_option linter.unusedVariables false
set_option linter.unusedSimpArgs false

/-- Block nb is a node over two branches; the first begins at d, the second ends at d'. -/
structure IsTop (w : World) (nb : Nat) (d d' : Int) : Prop where
  ex : ∃ bb, w.cell? ⟨nb, 2, none⟩ = some (.slice (some ⟨bb, 0, none⟩) 2 2) ∧
    w.cell? ⟨bb, 1, none⟩ = some (.int .u64 (d % 1000000000)) ∧ w.cell? ⟨bb, 2, none⟩ = some (.int .i64 (d / 1000000000)) ∧ w.cell? ⟨bb, 3, none⟩ = some (.pointer none) ∧
    w.cell? ⟨bb, 14, none⟩ = some (.int .u64 (d' % 1000000000)) ∧ w.cell? ⟨bb, 15, none⟩ = some (.int .i64 (d' / 1000000000)) ∧ w.cell? ⟨bb, 16, none⟩ = some (.pointer none)
theorem IsTop.kept {w w' : World} {nb : Nat} {d d' : Int} (h : IsTop w nb d d') (q : Kept w w') : IsTop w' nb d d' := by
  obtain ⟨bb, h0, h1, h2, h3, h4, h5, h6⟩ := h.ex
  exact ⟨bb, q.cell h0, q.cell h1, q.cell h2, q.cell h3, q.cell h4, q.cell h5, q.cell h6⟩

set_option maxRecDepth 40000 in
set_option maxHeartbeats 1600000 in
theorem parent13_in (l r : Nat) (d1 d2 d3 d4 c1 c2 N1 S1 N2 S2 N3 S3 N4 S4 : Int) (w : World)
    (H1 : Hid (∀ w, Calls Try.prog 17 #[.int .i64 d1] w fun e w' => e = .returned (.agg #[.int .u64 N1, .int .i64 S1, .pointer none]) ∧ Kept w w'))
    (H2 : Hid (∀ w, Calls Try.prog 17 #[.int .i64 d2] w fun e w' => e = .returned (.agg #[.int .u64 N2, .int .i64 S2, .pointer none]) ∧ Kept w w'))
    (H3 : Hid (∀ w, Calls Try.prog 17 #[.int .i64 d3] w fun e w' => e = .returned (.agg #[.int .u64 N3, .int .i64 S3, .pointer none]) ∧ Kept w w'))
    (H4 : Hid (∀ w, Calls Try.prog 17 #[.int .i64 d4] w fun e w' => e = .returned (.agg #[.int .u64 N4, .int .i64 S4, .pointer none]) ∧ Kept w w')) :
    Calls Try.prog 13 #[.pointer (some ⟨l, 0, none⟩), .int .i64 d1, .int .i64 d2, .int .i64 c1, .pointer (some ⟨r, 0, none⟩), .int .i64 d3, .int .i64 d4, .int .i64 c2] w fun e w' => ∃ nb bb, e = .returned (.pointer (some ⟨nb, 0, none⟩)) ∧
      w'.cell? ⟨nb, 2, none⟩ = some (.slice (some ⟨bb, 0, none⟩) 2 2) ∧
      w'.cell? ⟨bb, 1, none⟩ = some (.int .u64 N1) ∧ w'.cell? ⟨bb, 2, none⟩ = some (.int .i64 S1) ∧ w'.cell? ⟨bb, 3, none⟩ = some (.pointer none) ∧
      w'.cell? ⟨bb, 14, none⟩ = some (.int .u64 N4) ∧ w'.cell? ⟨bb, 15, none⟩ = some (.int .i64 S4) ∧ w'.cell? ⟨bb, 16, none⟩ = some (.pointer none) ∧ Kept w w' := by
  go_enter Try.func13, Try.ntmps13
  go_wp2_with fail
  refine (H1.out _).mono ?_
  rintro e w1 ⟨rfl, q1⟩
  go_wp2_with fail
  refine (H2.out _).mono ?_
  rintro e w2 ⟨rfl, q2⟩
  go_wp2_with fail
  refine (H3.out _).mono ?_
  rintro e w3 ⟨rfl, q3⟩
  go_wp2_with fail
  refine (H4.out _).mono ?_
  rintro e w4 ⟨rfl, q4⟩
  go_wp2
  go_ret
  refine ⟨w4.heap.size + 1, w4.heap.size, rfl, ?_, ?_, ?_, ?_, ?_, ?_, ?_, ((((q1.trans q2).trans q3).trans q4).more _).more _⟩
  all_goals simp

theorem parent13 (l r : Nat) (d1 d2 d3 d4 c1 c2 : Int) (w : World) (h1 : -9223372036854775808 ≤ d1 ∧ d1 ≤ 9223372036854775807) (h2 : -9223372036854775808 ≤ d2 ∧ d2 ≤ 9223372036854775807) (h3 : -9223372036854775808 ≤ d3 ∧ d3 ≤ 9223372036854775807) (h4 : -9223372036854775808 ≤ d4 ∧ d4 ≤ 9223372036854775807) :
    Calls Try.prog 13 #[.pointer (some ⟨l, 0, none⟩), .int .i64 d1, .int .i64 d2, .int .i64 c1, .pointer (some ⟨r, 0, none⟩), .int .i64 d3, .int .i64 d4, .int .i64 c2] w fun e w' => ∃ nb, e = .returned (.pointer (some ⟨nb, 0, none⟩)) ∧ IsTop w' nb d1 d4 ∧ Kept w w' := by
  refine (parent13_in l r d1 d2 d3 d4 c1 c2 _ _ _ _ _ _ _ _ w (fun w => time17 d1 w h1.1 h1.2) (fun w => time17 d2 w h2.1 h2.2) (fun w => time17 d3 w h3.1 h3.2) (fun w => time17 d4 w h4.1 h4.2)).mono ?_
  rintro e w' ⟨nb, bb, he, h0, h1, h2, h3, h4, h5, h6, hk⟩
  exact ⟨nb, he, ⟨⟨bb, h0, h1, h2, h3, h4, h5, h6⟩⟩, hk⟩

theorem zspan11_top (nb : Nat) (d d' : Int) (w : World) (h : IsTop w nb d d') (h0 : -9223372036854775808 ≤ d) (h1 : d ≤ 9223372036854775807) (h0' : -9223372036854775808 ≤ d') (h1' : d' ≤ 9223372036854775807) :
    Calls Try.prog 11 #[.pointer (some ⟨nb, 0, none⟩)] w fun e w' => e = .returned (.tuple #[.int .i64 d, .int .i64 d']) ∧ Kept w w' := by
  obtain ⟨bb, e0, e1, e2, e3, e4, e5, e6⟩ := h.ex
  exact zspan11_in nb d d' _ _ _ _ w h0 h1 h0' h1' rfl rfl rfl rfl (span18_top nb bb _ _ _ _ w e0 e1 e2 e3 e4 e5 e6)

end Go.Proofs.Qxb6616614a
