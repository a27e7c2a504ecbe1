/-
  THE WALKS of seat b6616331aZD, 8: zzView; zzCopyView and zzView in the views' own words.
-/
import Derived.Test.Qxb6616331aGreatDoorZ5
import Derived.Test.Qxb6616331aGreatDoorZ6
namespace Go.Proofs.Qxb6616331aGreatDoor
open Go.RowKit
set_option linter.unusedVariables false
set_option linter.unusedSimpArgs false

set_option maxRecDepth 40000 in
set_option maxHeartbeats 8000000 in
theorem view14_in (N : Int) (ab al ac : Option Addr) (nb cb nl cl nc cc : Nat) (xb xl xc : List Str) (w : World) (h1 : IsL w ab nb xb) (h2 : IsL w al nl xl) (h3 : IsL w ac nc xc) (n1 : nb ≤ 2097152) (n2 : nl ≤ 2097152) (n3 : nc ≤ 2097152) :
    Calls Tryz.prog 14 #[.agg #[.int .u64 N, .slice ab nb cb, .slice al nl cl, .slice ac nc cc]] w fun e w' => (∃ ab' cb' al' cl' ac' cc', e = .returned (.agg #[.int .u64 N, .slice ab' nb cb', .slice al' nl cl', .slice ac' nc cc']) ∧ IsL w' ab' nb xb ∧ IsL w' al' nl xl ∧ IsL w' ac' nc xc) ∧ Kept w w' := by
  go_enter Tryz.func14, Tryz.ntmps14
  go_wp2_with fail
  obtain ⟨W, hW⟩ : ∃ W, W = ((w.alloc (.cells #[.int .u64 N, .slice ab nb cb, .slice al nl cl, .slice ac nc cc] 25)).alloc (.cells #[.int .u64 0, .slice none 0 0, .slice none 0 0, .slice none 0 0] 42)) := ⟨_, rfl⟩
  have KW : Hid (Kept w W) := by rw [hW]; exact (Kept.alloc _ _).more _
  have TW : Hid (∀ w', Kept W w' → Two4 w.heap.size (.int .u64 N) (.slice ab nb cb) (.slice al nl cl) (.slice ac nc cc) (.int .u64 0) (.slice none 0 0) (.slice none 0 0) (.slice none 0 0) w') := fun w' q => two4 w w' _ _ _ _ _ _ _ _ 25 42 (by rw [hW] at q; exact q)
  have sW0 : W.heap.size = w.heap.size + 2 := by rw [hW]; simp
  have SW : Hid (W.heap.size = w.heap.size + 2) := sW0
  clear sW0
  rw [← hW]
  clear hW
  have H1 : Hid (∀ w', Kept W w' → IsL w' ab nb xb) := fun w' q => (h1.kept KW.out).kept q
  have H2 : Hid (∀ w', Kept W w' → IsL w' al nl xl) := fun w' q => (h2.kept KW.out).kept q
  have H3 : Hid (∀ w', Kept W w' → IsL w' ac nc xc) := fun w' q => (h3.kept KW.out).kept q
  have q0 := Kept.drew W
  have T0 := (TW.out _ q0)
  clear h1 h2 h3
  go_region_held3 (fun w' => (w'.cell? ⟨w.heap.size, 0, none⟩ = some (.int .u64 N) ∧ w'.cell? ⟨w.heap.size, 1, none⟩ = some (.slice ab nb cb) ∧ w'.cell? ⟨w.heap.size, 2, none⟩ = some (.slice al nl cl) ∧ w'.cell? ⟨w.heap.size, 3, none⟩ = some (.slice ac nc cc)))
    (first | with_reducible exact (TW.out _ q4).a | with_reducible exact keep4 (TW.out _ q4).a _ _ _ _ | with_reducible exact (TW.out _ q3).a | with_reducible exact (TW.out _ q2).a | with_reducible exact (TW.out _ q1).a | with_reducible exact T0.a)
    (first
      | (go_at_call_of 10 (Value.slice ab nb cb); refine (copyStrs10 ab nb cb xb _ n1 (H1.out _ q0)).mono ?_; rintro e w1 ⟨⟨a1, c1, rfl, L1, F1, -⟩, k1⟩; have q1 := q0.trans k1)
      | (go_at_call_of 10 (Value.slice al nl cl); refine (copyStrs10 al nl cl xl _ n2 (H2.out _ q1)).mono ?_; rintro e w2 ⟨⟨a2, c2, rfl, L2, F2, -⟩, k2⟩; have q2 := q1.trans k2)
      | (go_at_call_of 10 (Value.slice ac nc cc); refine (copyStrs10 ac nc cc xc _ n3 (H3.out _ q2)).mono ?_; rintro e w3 ⟨⟨a3, c3, rfl, L3, F3, -⟩, k3⟩; have q3 := q2.trans k3)
      | (go_at_call 33; refine (view33 N a1 a2 a3 nb c1 nl c2 nc c3 _).mono ?_; rintro e w4 ⟨rfl, k4⟩; have q4 := q3.trans k4; have T4 := (TW.out _ q4); have ⟨f0, f1, f2, f3⟩ := T4.f; have ⟨g0, g1, g2, g3⟩ := T4.b))
  all_goals go_wp2
  have s0 := q0.size
  have s1 := k1.size
  have s2 := k2.size
  have sW : W.heap.size = w.heap.size + 2 := SW.out
  have s3 := k3.size
  have M1 := ((L1.kept k2).kept k3).kept k4
  have M2 := (L2.kept k3).kept k4
  have M3 := L3.kept k4
  obtain ⟨r0, r1, r2, r3⟩ := set4 (w := w4) (h := w.heap.size + 1) g0 g1 g2 g3 (.int .u64 N) (.slice a1 nb c1) (.slice a2 nl c2) (.slice a3 nc c3)
  refine bodyPost_ret (v := .agg #[.int .u64 N, .slice a1 nb c1, .slice a2 nl c2, .slice a3 nc c3]) (by simp [results, Tryz.results14, go_sem, r0, r1, r2, r3]) rfl ⟨⟨a1, c1, a2, c2, a3, c3, rfl, ?_, ?_, ?_⟩, ?_⟩
  · exact (((M1.set _ _ _ (F1.mono (by omega))).set _ _ _ (F1.mono (by omega))).set _ _ _ (F1.mono (by omega))).set _ _ _ (F1.mono (by omega))
  · exact (((M2.set _ _ _ (F2.mono (by omega))).set _ _ _ (F2.mono (by omega))).set _ _ _ (F2.mono (by omega))).set _ _ _ (F2.mono (by omega))
  · exact (((M3.set _ _ _ (F3.mono (by omega))).set _ _ _ (F3.mono (by omega))).set _ _ _ (F3.mono (by omega))).set _ _ _ (F3.mono (by omega))
  · exact ((((KW.out.trans q4).setNew _ (by simp) _).setNew _ (by simp) _).setNew _ (by simp) _).setNew _ (by simp) _

theorem copyView9 (v : Value) (V : View) (w : World) (hV : IsV w v V) (hs : Small V) :
    Calls Tryz.prog 9 #[v] w fun e w' => (∃ v', e = .returned v' ∧ IsV w' v' V) ∧ Kept w w' := by
  obtain ⟨ab, nb, cb, al, nl, cl, ac, nc, cc, rfl, h1, h2, h3⟩ := hV.ex
  have n1 := hs.base
  have n2 := hs.last
  have n3 := hs.changes
  rw [h1.len] at n1
  rw [h2.len] at n2
  rw [h3.len] at n3
  refine (copyView9_in V.count ab al ac nb cb nl cl nc cc _ _ _ w h1 h2 h3 (by omega) (by omega) (by omega)).mono ?_
  rintro e w' ⟨⟨ab', cb', al', cl', ac', cc', rfl, g1, g2, g3⟩, k⟩
  exact ⟨⟨_, rfl, IsV.mk3 g1 g2 g3 hV.lo hV.hi⟩, k⟩
theorem view14 (v : Value) (V : View) (w : World) (hV : IsV w v V) (hs : Small V) :
    Calls Tryz.prog 14 #[v] w fun e w' => (∃ v', e = .returned v' ∧ IsV w' v' V) ∧ Kept w w' := by
  obtain ⟨ab, nb, cb, al, nl, cl, ac, nc, cc, rfl, h1, h2, h3⟩ := hV.ex
  have n1 := hs.base
  have n2 := hs.last
  have n3 := hs.changes
  rw [h1.len] at n1
  rw [h2.len] at n2
  rw [h3.len] at n3
  refine (view14_in V.count ab al ac nb cb nl cl nc cc _ _ _ w h1 h2 h3 (by omega) (by omega) (by omega)).mono ?_
  rintro e w' ⟨⟨ab', cb', al', cl', ac', cc', rfl, g1, g2, g3⟩, k⟩
  exact ⟨⟨_, rfl, IsV.mk3 g1 g2 g3 hV.lo hV.hi⟩, k⟩

end Go.Proofs.Qxb6616331aGreatDoor
