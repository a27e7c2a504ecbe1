/-
  THE WALKS of seat b6616331aZD, 7: zzViewIs, zzViewIsZero, zzViewsEq where the two are alike.
-/
import Derived.Test.Qxb6616331aGreatDoorZ6
namespace Go.Proofs.Qxb6616331aGreatDoor
open Go.RowKit
set_option linter.unusedVariables false
set_option linter.unusedSimpArgs false
set_option maxRecDepth 40000

theorem same22 (a a' : Option Addr) (n c n' c' : Nat) (xs : List Str) (w : World) (hn : n ≤ 4194304) (hL : IsL w a n xs) (hL' : IsL w a' n' xs) :
    Calls Tryz.prog 22 #[.slice a n c, .slice a' n' c'] w fun e w' => e = .returned (.bool true) ∧ Kept w w' := by
  refine (sameStrs22 a a' n c n' c' xs xs w hn hL hL').mono ?_
  rintro e w' ⟨⟨b, rfl, hb⟩, k⟩
  rw [hb.2 rfl]
  exact ⟨rfl, k⟩

set_option maxHeartbeats 1600000 in
theorem viewIs17 (v v' : Value) (V : View) (w : World) (hV : IsV w v V) (hV' : IsV w v' V) (hM : Mid V) :
    Calls Tryz.prog 17 #[v, v'] w fun e w' => e = .returned (.bool true) ∧ Kept w w' := by
  obtain ⟨ab, nb, cb, al, nl, cl, ac, nc, cc, rfl, h1, h2, h3⟩ := hV.ex
  obtain ⟨ab', nb', cb', al', nl', cl', ac', nc', cc', rfl, h1', h2', h3'⟩ := hV'.ex
  have n1 := hM.base
  have n2 := hM.last
  have n3 := hM.changes
  rw [h1.len] at n1
  rw [h2.len] at n2
  rw [h3.len] at n3
  have H1 : Hid (∀ w', Kept w w' → Calls Tryz.prog 22 #[.slice ab nb cb, .slice ab' nb' cb'] w' fun e w2 => e = .returned (.bool true) ∧ Kept w' w2) := fun w' q => same22 _ _ _ _ _ _ _ _ n1 (h1.kept q) (h1'.kept q)
  have H2 : Hid (∀ w', Kept w w' → Calls Tryz.prog 22 #[.slice al nl cl, .slice al' nl' cl'] w' fun e w2 => e = .returned (.bool true) ∧ Kept w' w2) := fun w' q => same22 _ _ _ _ _ _ _ _ n2 (h2.kept q) (h2'.kept q)
  have H3 : Hid (∀ w', Kept w w' → Calls Tryz.prog 22 #[.slice ac nc cc, .slice ac' nc' cc'] w' fun e w2 => e = .returned (.bool true) ∧ Kept w' w2) := fun w' q => same22 _ _ _ _ _ _ _ _ n3 (h3.kept q) (h3'.kept q)
  clear hV hV' hM h1 h2 h3 h1' h2' h3' n1 n2 n3
  obtain ⟨N, hN⟩ : ∃ N, N = V.count := ⟨_, rfl⟩
  rw [← hN]
  clear hN
  go_enter Tryz.func17, Tryz.ntmps17
  go_wp2_with fail
  refine (fields34 N ab al ac nb cb nl cl nc cc _).mono ?_
  rintro e w1 ⟨rfl, q1⟩
  obtain ⟨y0, y1, y2, y3⟩ := q1.box4 (new2 w _ _)
  have Q1 : Hid (Kept w w1) := ((Kept.alloc _ _).more _).trans q1
  clear q1
  go_wp2_with fail
  refine (H1.out _ Q1.out).mono ?_
  rintro e w2 ⟨rfl, q2⟩
  have z2 := q2.cell y2
  have z3 := q2.cell y3
  have Q2 : Hid (Kept w w2) := Q1.out.trans q2
  clear q2 y0 y1 y2 y3
  go_wp2_with fail
  refine (H2.out _ Q2.out).mono ?_
  rintro e w3 ⟨rfl, q3⟩
  have x3 := q3.cell z3
  have Q3 : Hid (Kept w w3) := Q2.out.trans q3
  clear q3 z2 z3
  go_wp2_with fail
  refine (H3.out _ Q3.out).mono ?_
  rintro e w4 ⟨rfl, q4⟩
  go_wp2
  go_ret
  exact ⟨rfl, Q3.out.trans q4⟩

set_option maxHeartbeats 1600000 in
theorem viewsEq21 (v v' : Value) (V : View) (w : World) (hV : IsV w v V) (hV' : IsV w v' V) (hM : Mid V) :
    Calls Tryz.prog 21 #[v, v'] w fun e w' => e = .returned (.bool true) ∧ Kept w w' := by
  obtain ⟨ab, nb, cb, al, nl, cl, ac, nc, cc, rfl, h1, h2, h3⟩ := hV.ex
  obtain ⟨ab', nb', cb', al', nl', cl', ac', nc', cc', rfl, h1', h2', h3'⟩ := hV'.ex
  have n1 := hM.base
  have n2 := hM.last
  have n3 := hM.changes
  rw [h1.len] at n1
  rw [h2.len] at n2
  rw [h3.len] at n3
  have H1 : Hid (∀ w', Kept w w' → Calls Tryz.prog 22 #[.slice ab nb cb, .slice ab' nb' cb'] w' fun e w2 => e = .returned (.bool true) ∧ Kept w' w2) := fun w' q => same22 _ _ _ _ _ _ _ _ n1 (h1.kept q) (h1'.kept q)
  have H2 : Hid (∀ w', Kept w w' → Calls Tryz.prog 22 #[.slice al nl cl, .slice al' nl' cl'] w' fun e w2 => e = .returned (.bool true) ∧ Kept w' w2) := fun w' q => same22 _ _ _ _ _ _ _ _ n2 (h2.kept q) (h2'.kept q)
  have H3 : Hid (∀ w', Kept w w' → Calls Tryz.prog 22 #[.slice ac nc cc, .slice ac' nc' cc'] w' fun e w2 => e = .returned (.bool true) ∧ Kept w' w2) := fun w' q => same22 _ _ _ _ _ _ _ _ n3 (h3.kept q) (h3'.kept q)
  clear hV hV' hM h1 h2 h3 h1' h2' h3' n1 n2 n3
  obtain ⟨N, hN⟩ : ∃ N, N = V.count := ⟨_, rfl⟩
  rw [← hN]
  clear hN
  go_enter Tryz.func21, Tryz.ntmps21
  go_wp2_with fail
  refine (fields34 N ab al ac nb cb nl cl nc cc _).mono ?_
  rintro e w1 ⟨rfl, q1⟩
  obtain ⟨y0, y1, y2, y3⟩ := q1.box4 (new2 w _ _)
  have Q1 : Hid (Kept w w1) := ((Kept.alloc _ _).more _).trans q1
  clear q1
  go_wp2_with fail
  refine (fields34 N ab' al' ac' nb' cb' nl' cl' nc' cc' _).mono ?_
  rintro e w5 ⟨rfl, q5⟩
  have Q5 : Hid (Kept w w5) := Q1.out.trans q5
  clear q5 y0 y1 y2 y3
  go_wp2_with fail
  refine (H1.out _ Q5.out).mono ?_
  rintro e w2 ⟨rfl, q2⟩
  have Q2 : Hid (Kept w w2) := Q5.out.trans q2
  clear q2
  go_wp2_with fail
  refine (H2.out _ Q2.out).mono ?_
  rintro e w3 ⟨rfl, q3⟩
  have Q3 : Hid (Kept w w3) := Q2.out.trans q3
  clear q3
  go_wp2_with fail
  refine (H3.out _ Q3.out).mono ?_
  rintro e w4 ⟨rfl, q4⟩
  go_wp2
  go_ret
  exact ⟨rfl, Q3.out.trans q4⟩

/-- The zero view. -/
def zeroV : View := ⟨0, [], [], []⟩
theorem isZero (w : World) : IsV w (.agg #[.int .u64 0, .slice none 0 0, .slice none 0 0, .slice none 0 0]) zeroV :=
  ⟨⟨none, 0, 0, none, 0, 0, none, 0, 0, rfl, ⟨rfl, fun h => absurd h (Nat.lt_irrefl _)⟩, ⟨rfl, fun h => absurd h (Nat.lt_irrefl _)⟩, ⟨rfl, fun h => absurd h (Nat.lt_irrefl _)⟩⟩, by decide, by decide⟩

set_option maxHeartbeats 1600000 in
theorem viewIsZero18 (v : Value) (w : World) (hV : IsV w v zeroV) :
    Calls Tryz.prog 18 #[v] w fun e w' => e = .returned (.bool true) ∧ Kept w w' := by
  have H : Hid (∀ w', Kept w w' → Calls Tryz.prog 17 #[v, .agg #[.int .u64 0, .slice none 0 0, .slice none 0 0, .slice none 0 0]] w' fun e w2 => e = .returned (.bool true) ∧ Kept w' w2) := fun w' q => viewIs17 _ _ zeroV w' (hV.kept q) (isZero w') ⟨by decide, by decide, by decide⟩
  obtain ⟨ab, nb, cb, al, nl, cl, ac, nc, cc, rfl, h1, h2, h3⟩ := hV.ex
  clear hV h1 h2 h3
  obtain ⟨N, hN⟩ : ∃ N, N = zeroV.count := ⟨_, rfl⟩
  rw [← hN] at H ⊢
  clear hN
  go_enter Tryz.func18, Tryz.ntmps18
  go_wp2_with fail
  refine (H.out _ (Kept.alloc _ _)).mono ?_
  rintro e w1 ⟨rfl, q1⟩
  go_wp2
  go_ret
  exact ⟨rfl, (Kept.alloc _ _).trans q1⟩

end Go.Proofs.Qxb6616331aGreatDoor
