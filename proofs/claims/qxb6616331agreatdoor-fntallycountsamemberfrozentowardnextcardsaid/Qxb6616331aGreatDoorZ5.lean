/-
  THE WALKS of seat b6616331aZD, 5: zzCopyView, zzView.
-/
import Derived.Test.Qxb6616331aGreatDoorZ4
import Derived.Deep.RegionHeld3
namespace Go.Proofs.Qxb6616331aGreatDoor
open Go.RowKit
set_option linter.unusedVariables false
set_option linter.unusedSimpArgs false

/-- The view whose lists are these. -/
theorem IsV.mk3 {w : World} {V : View} {ab al ac : Option Addr} {nb cb nl cl nc cc : Nat} (h1 : IsL w ab nb V.base) (h2 : IsL w al nl V.last) (h3 : IsL w ac nc V.changes) (lo : 0 ≤ V.count) (hi : V.count < 18446744073709551616) :
    IsV w (.agg #[.int .u64 V.count, .slice ab nb cb, .slice al nl cl, .slice ac nc cc]) V := ⟨⟨_, _, _, _, _, _, _, _, _, rfl, h1, h2, h3⟩, lo, hi⟩

/-- What is known of the two blocks that such a function makes at its start, in whatever later world. -/
structure Two4 (h : Nat) (y0 y1 y2 y3 z0 z1 z2 z3 : Value) (w' : World) : Prop where
  a : w'.cell? ⟨h, 0, none⟩ = some y0 ∧ w'.cell? ⟨h, 1, none⟩ = some y1 ∧ w'.cell? ⟨h, 2, none⟩ = some y2 ∧ w'.cell? ⟨h, 3, none⟩ = some y3
  b : w'.cell? ⟨h + 1, 0, none⟩ = some z0 ∧ w'.cell? ⟨h + 1, 1, none⟩ = some z1 ∧ w'.cell? ⟨h + 1, 2, none⟩ = some z2 ∧ w'.cell? ⟨h + 1, 3, none⟩ = some z3
  f : w'.frozen? ⟨h + 1, 0, none⟩ = false ∧ w'.frozen? ⟨h + 1, 1, none⟩ = false ∧ w'.frozen? ⟨h + 1, 2, none⟩ = false ∧ w'.frozen? ⟨h + 1, 3, none⟩ = false

theorem two4 (w w' : World) (y0 y1 y2 y3 z0 z1 z2 z3 : Value) (t t' : TypeId) (q : Kept ((w.alloc (.cells #[y0, y1, y2, y3] t)).alloc (.cells #[z0, z1, z2, z3] t')) w') : Two4 w.heap.size y0 y1 y2 y3 z0 z1 z2 z3 w' := by
  have h1 := q.blk (new1 w (.cells #[y0, y1, y2, y3] t) (.cells #[z0, z1, z2, z3] t'))
  have h2 := q.blk (new2 w (.cells #[y0, y1, y2, y3] t) (.cells #[z0, z1, z2, z3] t'))
  refine ⟨⟨?_, ?_, ?_, ?_⟩, ⟨?_, ?_, ?_, ?_⟩, ⟨?_, ?_, ?_, ?_⟩⟩ <;> simp [World.cell?, World.frozen?, h1, h2]

theorem far (w : World) (h k o : Nat) (v u : Value) (j : Nat) (hne : h ≠ k) (hc : w.cell? ⟨h, j, none⟩ = some u) : (w.setCell ⟨k, o, none⟩ v).cell? ⟨h, j, none⟩ = some u := by
  rw [World.cell?_setCell_other w _ _ _ (fun e => hne (by cases e; rfl))]; exact hc
theorem keep4 {w : World} {h : Nat} {y0 y1 y2 y3 : Value} (T : w.cell? ⟨h, 0, none⟩ = some y0 ∧ w.cell? ⟨h, 1, none⟩ = some y1 ∧ w.cell? ⟨h, 2, none⟩ = some y2 ∧ w.cell? ⟨h, 3, none⟩ = some y3) (v0 v1 v2 v3 : Value) :
    ((((w.setCell ⟨h + 1, 0, none⟩ v0).setCell ⟨h + 1, 1, none⟩ v1).setCell ⟨h + 1, 2, none⟩ v2).setCell ⟨h + 1, 3, none⟩ v3).cell? ⟨h, 0, none⟩ = some y0 ∧ ((((w.setCell ⟨h + 1, 0, none⟩ v0).setCell ⟨h + 1, 1, none⟩ v1).setCell ⟨h + 1, 2, none⟩ v2).setCell ⟨h + 1, 3, none⟩ v3).cell? ⟨h, 1, none⟩ = some y1 ∧ ((((w.setCell ⟨h + 1, 0, none⟩ v0).setCell ⟨h + 1, 1, none⟩ v1).setCell ⟨h + 1, 2, none⟩ v2).setCell ⟨h + 1, 3, none⟩ v3).cell? ⟨h, 2, none⟩ = some y2 ∧ ((((w.setCell ⟨h + 1, 0, none⟩ v0).setCell ⟨h + 1, 1, none⟩ v1).setCell ⟨h + 1, 2, none⟩ v2).setCell ⟨h + 1, 3, none⟩ v3).cell? ⟨h, 3, none⟩ = some y3 := by
  obtain ⟨t0, t1, t2, t3⟩ := T
  refine ⟨?_, ?_, ?_, ?_⟩
  · exact far _ _ _ _ _ _ _ (by omega) (far _ _ _ _ _ _ _ (by omega) (far _ _ _ _ _ _ _ (by omega) (far _ _ _ _ _ _ _ (by omega) t0)))
  · exact far _ _ _ _ _ _ _ (by omega) (far _ _ _ _ _ _ _ (by omega) (far _ _ _ _ _ _ _ (by omega) (far _ _ _ _ _ _ _ (by omega) t1)))
  · exact far _ _ _ _ _ _ _ (by omega) (far _ _ _ _ _ _ _ (by omega) (far _ _ _ _ _ _ _ (by omega) (far _ _ _ _ _ _ _ (by omega) t2)))
  · exact far _ _ _ _ _ _ _ (by omega) (far _ _ _ _ _ _ _ (by omega) (far _ _ _ _ _ _ _ (by omega) (far _ _ _ _ _ _ _ (by omega) t3)))

theorem set4 {w : World} {h : Nat} {z0 z1 z2 z3 : Value} (g0 : w.cell? ⟨h, 0, none⟩ = some z0) (g1 : w.cell? ⟨h, 1, none⟩ = some z1) (g2 : w.cell? ⟨h, 2, none⟩ = some z2) (g3 : w.cell? ⟨h, 3, none⟩ = some z3) (v0 v1 v2 v3 : Value) :
    ((((w.setCell ⟨h, 0, none⟩ v0).setCell ⟨h, 1, none⟩ v1).setCell ⟨h, 2, none⟩ v2).setCell ⟨h, 3, none⟩ v3).cell? ⟨h, 0, none⟩ = some v0 ∧
    ((((w.setCell ⟨h, 0, none⟩ v0).setCell ⟨h, 1, none⟩ v1).setCell ⟨h, 2, none⟩ v2).setCell ⟨h, 3, none⟩ v3).cell? ⟨h, 1, none⟩ = some v1 ∧
    ((((w.setCell ⟨h, 0, none⟩ v0).setCell ⟨h, 1, none⟩ v1).setCell ⟨h, 2, none⟩ v2).setCell ⟨h, 3, none⟩ v3).cell? ⟨h, 2, none⟩ = some v2 ∧
    ((((w.setCell ⟨h, 0, none⟩ v0).setCell ⟨h, 1, none⟩ v1).setCell ⟨h, 2, none⟩ v2).setCell ⟨h, 3, none⟩ v3).cell? ⟨h, 3, none⟩ = some v3 := by
  have oth : ∀ (w : World) (i j : Nat) (v u : Value), i ≠ j → w.cell? ⟨h, j, none⟩ = some u → (w.setCell ⟨h, i, none⟩ v).cell? ⟨h, j, none⟩ = some u := fun w i j v u hne hc => by
    rw [World.cell?_setCell_other w _ _ _ (fun e => hne (by cases e; rfl))]; exact hc
  refine ⟨?_, ?_, ?_, ?_⟩
  · exact oth _ _ _ _ _ (by omega) (oth _ _ _ _ _ (by omega) (oth _ _ _ _ _ (by omega) (World.cell?_setCell_same w _ _ g0)))
  · exact oth _ _ _ _ _ (by omega) (oth _ _ _ _ _ (by omega) (World.cell?_setCell_same _ _ _ (oth _ _ _ _ _ (by omega) g1)))
  · exact oth _ _ _ _ _ (by omega) (World.cell?_setCell_same _ _ _ (oth _ _ _ _ _ (by omega) (oth _ _ _ _ _ (by omega) g2)))
  · exact World.cell?_setCell_same _ _ _ (oth _ _ _ _ _ (by omega) (oth _ _ _ _ _ (by omega) (oth _ _ _ _ _ (by omega) g3)))

set_option maxRecDepth 40000 in
set_option maxHeartbeats 8000000 in
theorem copyView9_in (N : Int) (ab al ac : Option Addr) (nb cb nl cl nc cc : Nat) (xb xl xc : List Str) (w : World) (h1 : IsL w ab nb xb) (h2 : IsL w al nl xl) (h3 : IsL w ac nc xc) (n1 : nb ≤ 2097152) (n2 : nl ≤ 2097152) (n3 : nc ≤ 2097152) :
    Calls Tryz.prog 9 #[.agg #[.int .u64 N, .slice ab nb cb, .slice al nl cl, .slice ac nc cc]] w fun e w' => (∃ ab' cb' al' cl' ac' cc', e = .returned (.agg #[.int .u64 N, .slice ab' nb cb', .slice al' nl cl', .slice ac' nc cc']) ∧ IsL w' ab' nb xb ∧ IsL w' al' nl xl ∧ IsL w' ac' nc xc) ∧ Kept w w' := by
  go_enter Tryz.func9, Tryz.ntmps9
  go_wp2_with fail
  obtain ⟨W, hW⟩ : ∃ W, W = ((w.alloc (.cells #[.int .u64 N, .slice ab nb cb, .slice al nl cl, .slice ac nc cc] 25)).alloc (.cells #[.int .u64 0, .slice none 0 0, .slice none 0 0, .slice none 0 0] 25)) := ⟨_, rfl⟩
  have KW : Hid (Kept w W) := by rw [hW]; exact (Kept.alloc _ _).more _
  have TW : Hid (∀ w', Kept W w' → Two4 w.heap.size (.int .u64 N) (.slice ab nb cb) (.slice al nl cl) (.slice ac nc cc) (.int .u64 0) (.slice none 0 0) (.slice none 0 0) (.slice none 0 0) w') := fun w' q => two4 w w' _ _ _ _ _ _ _ _ 25 25 (by rw [hW] at q; exact q)
  have sW0 : W.heap.size = w.heap.size + 2 := by rw [hW]; simp
  have SW : Hid (W.heap.size = w.heap.size + 2) := sW0
  clear sW0
  rw [← hW]
  clear hW
  have H1 : Hid (∀ w', Kept W w' → IsL w' ab nb xb) := fun w' q => (h1.kept KW.out).kept q
  have H2 : Hid (∀ w', Kept W w' → IsL w' al nl xl) := fun w' q => (h2.kept KW.out).kept q
  have H3 : Hid (∀ w', Kept W w' → IsL w' ac nc xc) := fun w' q => (h3.kept KW.out).kept q
  have q0 := Kept.drew W
  have T0 := (TW.out _ q0)
  clear h1 h2 h3
  go_region_held3 (fun w' => (w'.cell? ⟨w.heap.size, 0, none⟩ = some (.int .u64 N) ∧ w'.cell? ⟨w.heap.size, 1, none⟩ = some (.slice ab nb cb) ∧ w'.cell? ⟨w.heap.size, 2, none⟩ = some (.slice al nl cl) ∧ w'.cell? ⟨w.heap.size, 3, none⟩ = some (.slice ac nc cc)))
    (first | with_reducible exact (TW.out _ q3).a | with_reducible exact keep4 (TW.out _ q3).a _ _ _ _ | with_reducible exact (TW.out _ q2).a | with_reducible exact (TW.out _ q1).a | with_reducible exact T0.a)
    (first
      | (go_at_call_of 10 (Value.slice ab nb cb); refine (copyStrs10 ab nb cb xb _ n1 (H1.out _ q0)).mono ?_; rintro e w1 ⟨⟨a1, c1, rfl, L1, F1, -⟩, k1⟩; have q1 := q0.trans k1)
      | (go_at_call_of 10 (Value.slice al nl cl); refine (copyStrs10 al nl cl xl _ n2 (H2.out _ q1)).mono ?_; rintro e w2 ⟨⟨a2, c2, rfl, L2, F2, -⟩, k2⟩; have q2 := q1.trans k2)
      | (go_at_call_of 10 (Value.slice ac nc cc); refine (copyStrs10 ac nc cc xc _ n3 (H3.out _ q2)).mono ?_; rintro e w3 ⟨⟨a3, c3, rfl, L3, F3, -⟩, k3⟩; have q3 := q2.trans k3; have T3 := (TW.out _ q3); have ⟨f0, f1, f2, f3⟩ := T3.f; have ⟨g0, g1, g2, g3⟩ := T3.b))
  all_goals go_wp2
  have s0 := q0.size
  have s1 := k1.size
  have s2 := k2.size
  have sW : W.heap.size = w.heap.size + 2 := SW.out
  have M1 := (L1.kept k2).kept k3
  have M2 := L2.kept k3
  obtain ⟨r0, r1, r2, r3⟩ := set4 (w := w3) (h := w.heap.size + 1) g0 g1 g2 g3 (.int .u64 N) (.slice a1 nb c1) (.slice a2 nl c2) (.slice a3 nc c3)
  refine bodyPost_ret (v := .agg #[.int .u64 N, .slice a1 nb c1, .slice a2 nl c2, .slice a3 nc c3]) (by simp [results, Tryz.results9, go_sem, r0, r1, r2, r3]) rfl ⟨⟨a1, c1, a2, c2, a3, c3, rfl, ?_, ?_, ?_⟩, ?_⟩
  · exact (((M1.set _ _ _ (F1.mono (by omega))).set _ _ _ (F1.mono (by omega))).set _ _ _ (F1.mono (by omega))).set _ _ _ (F1.mono (by omega))
  · exact (((M2.set _ _ _ (F2.mono (by omega))).set _ _ _ (F2.mono (by omega))).set _ _ _ (F2.mono (by omega))).set _ _ _ (F2.mono (by omega))
  · exact (((L3.set _ _ _ (F3.mono (by omega))).set _ _ _ (F3.mono (by omega))).set _ _ _ (F3.mono (by omega))).set _ _ _ (F3.mono (by omega))
  · exact ((((KW.out.trans q3).setNew _ (by simp) _).setNew _ (by simp) _).setNew _ (by simp) _).setNew _ (by simp) _

end Go.Proofs.Qxb6616331aGreatDoor
