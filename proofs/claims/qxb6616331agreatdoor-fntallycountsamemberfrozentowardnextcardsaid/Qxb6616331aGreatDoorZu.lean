/-
  THE WALKS of seat b6616331aZD, u: view.union.
-/
import Derived.Test.Qxb6616331aGreatDoorZq
namespace Go.Proofs.Qxb6616331aGreatDoor
open Go.RowKit
set_option linter.unusedVariables false
set_option linter.unusedSimpArgs false
set_option linter.unnecessarySimpa false
set_option maxRecDepth 40000

set_option maxHeartbeats 800000 in
theorem before46L (v : Value) (V : View) (w : World) (hV : IsV w v V) (hn : V.last.length ≤ 4194304) :
    Calls Tryz.prog 46 #[v] w fun e w' => e = .returned (.int .u64 V.before) ∧ Kept w w' := by
  obtain ⟨ab, nb, cb, al, nl, cl, ac, nc, cc, rfl, h1, h2, h3⟩ := hV.ex
  have lo := hV.lo
  have hi := hV.hi
  unfold View.before
  rw [h2.len] at hn ⊢
  go_enter Tryz.func46, Tryz.ntmps46
  go_wp2
  go_ret
  exact ⟨rfl, Kept.alloc _ _⟩

theorem keep8 {w : World} {h : Nat} {y0 y1 y2 y3 x0 x1 x2 x3 : Value}
    (T : w.cell? ⟨h, 0, none⟩ = some y0 ∧ w.cell? ⟨h, 1, none⟩ = some y1 ∧ w.cell? ⟨h, 2, none⟩ = some y2 ∧ w.cell? ⟨h, 3, none⟩ = some y3 ∧ w.cell? ⟨h + 1, 0, none⟩ = some x0 ∧ w.cell? ⟨h + 1, 1, none⟩ = some x1 ∧ w.cell? ⟨h + 1, 2, none⟩ = some x2 ∧ w.cell? ⟨h + 1, 3, none⟩ = some x3) (v0 v1 v2 v3 : Value) (W : World)
    (hW : W = (((w.setCell ⟨h + 1 + 1, 0, none⟩ v0).setCell ⟨h + 1 + 1, 1, none⟩ v1).setCell ⟨h + 1 + 1, 2, none⟩ v2).setCell ⟨h + 1 + 1, 3, none⟩ v3) :
    W.cell? ⟨h, 0, none⟩ = some y0 ∧ W.cell? ⟨h, 1, none⟩ = some y1 ∧ W.cell? ⟨h, 2, none⟩ = some y2 ∧ W.cell? ⟨h, 3, none⟩ = some y3 ∧ W.cell? ⟨h + 1, 0, none⟩ = some x0 ∧ W.cell? ⟨h + 1, 1, none⟩ = some x1 ∧ W.cell? ⟨h + 1, 2, none⟩ = some x2 ∧ W.cell? ⟨h + 1, 3, none⟩ = some x3 := by
  subst hW
  have go : ∀ b i v, b ≠ h + 1 + 1 → w.cell? ⟨b, i, none⟩ = some v → ((((w.setCell ⟨h + 1 + 1, 0, none⟩ v0).setCell ⟨h + 1 + 1, 1, none⟩ v1).setCell ⟨h + 1 + 1, 2, none⟩ v2).setCell ⟨h + 1 + 1, 3, none⟩ v3).cell? ⟨b, i, none⟩ = some v := fun b i v hb hc =>
    far _ _ _ _ _ _ _ hb (far _ _ _ _ _ _ _ hb (far _ _ _ _ _ _ _ hb (far _ _ _ _ _ _ _ hb hc)))
  obtain ⟨t0, t1, t2, t3, t4, t5, t6, t7⟩ := T
  exact ⟨go _ _ _ (by omega) t0, go _ _ _ (by omega) t1, go _ _ _ (by omega) t2, go _ _ _ (by omega) t3, go _ _ _ (by omega) t4, go _ _ _ (by omega) t5, go _ _ _ (by omega) t6, go _ _ _ (by omega) t7⟩

/-- The view made of the changes of A and of B, on the base of A. -/
def joinP (A B : View) : View := if decide (B.count < A.before) then A else withP A (pickP B.changes A.last false)
def unionP (V O : View) : View := if decide (V.count < O.count) then joinP O V else joinP V O

set_option maxHeartbeats 8000000 in
theorem union40_in (N : Int) (ab al ac : Option Addr) (nb cb nl cl nc cc : Nat) (N' : Int) (ab' al' ac' : Option Addr) (nb' cb' nl' cl' nc' cc' : Nat) (V O : View) (w : World) (G : Nat → Prop) (hG : ∀ k, G k → k < w.heap.size)
    (hV : RV w G (.agg #[.int .u64 N, .slice ab nb cb, .slice al nl cl, .slice ac nc cc]) V) (hO : RV w G (.agg #[.int .u64 N', .slice ab' nb' cb', .slice al' nl' cl', .slice ac' nc' cc']) O)
    (eN : V.count = N) (eN' : O.count = N') (n1 : nl ≤ 4194304) (n2 : nc + nc' ≤ 4398046511104) (n3 : nl' ≤ 4194304) (h1 : IsL w al nl V.last) (h2 : IsL w ac nc V.changes) (h3 : IsL w al' nl' O.last) (h4 : IsL w ac' nc' O.changes) :
    Calls Tryz.prog 40 #[.agg #[.int .u64 N, .slice ab nb cb, .slice al nl cl, .slice ac nc cc], .agg #[.int .u64 N', .slice ab' nb' cb', .slice al' nl' cl', .slice ac' nc' cc']] w fun e w' => RetV G w' e (unionP V O) ∧ Kept w w' := by
  have CB := fun w' q => before46L _ V w' (hV.isV.kept (w' := w') q) (by rw [h1.len]; omega)
  have OB := fun w' q => before46L _ O w' (hO.isV.kept (w' := w') q) (by rw [h3.len]; omega)
  have PV := fun w' q => pick49 ac' nc' cc' O.changes al nl cl V.last false w' (by omega) (h4.kept (w' := w') q) (by omega) (h1.kept (w' := w') q)
  have PO := fun w' q => pick49 ac nc cc V.changes al' nl' cl' O.last false w' (by omega) (h2.kept (w' := w') q) (by omega) (h3.kept (w' := w') q)
  have WV := fun w' (q : Kept w w') a n c ys hn hL => with52 N ab al ac nb cb nl cl nc cc V.changes a n c ys w' (h2.kept q) hn hL
  have WO := fun w' (q : Kept w w') a n c ys hn hL => with52 N' ab' al' ac' nb' cb' nl' cl' nc' cc' O.changes a n c ys w' (h4.kept q) hn hL
  have RVV : ∀ w', Kept w w' → RL w' G ab nb V.base ∧ RL w' G al nl V.last ∧ RL w' G ac nc V.changes := fun w' q => by
    obtain ⟨xb, yb, zb, xl, yl, zl, xc, yc, zc, e, r1, r2, r3⟩ := hV.ex
    cases e
    exact ⟨r1.kept q, r2.kept q, r3.kept q⟩
  have RVO : ∀ w', Kept w w' → RL w' G ab' nb' O.base ∧ RL w' G al' nl' O.last ∧ RL w' G ac' nc' O.changes := fun w' q => by
    obtain ⟨xb, yb, zb, xl, yl, zl, xc, yc, zc, e, r1, r2, r3⟩ := hO.ex
    cases e
    exact ⟨r1.kept q, r2.kept q, r3.kept q⟩
  have ZV : Hid (0 ≤ V.count ∧ V.count < 18446744073709551616 ∧ V.count = N) := ⟨hV.lo0, hV.hi0, eN⟩
  have ZO : Hid (0 ≤ O.count ∧ O.count < 18446744073709551616 ∧ O.count = N') := ⟨hO.lo0, hO.hi0, eN'⟩
  obtain ⟨vb, evb⟩ : ∃ vb, vb = V.before := ⟨_, rfl⟩
  obtain ⟨ob, eob⟩ : ∃ ob, ob = O.before := ⟨_, rfl⟩
  have LV : Hid (nc + (pickP O.changes V.last false).length ≤ 4398046511104) := hid_of (by have h := pickP_le O.changes V.last false; rw [h4.len] at h; omega)
  have LO : Hid (nc' + (pickP V.changes O.last false).length ≤ 4398046511104) := hid_of (by have h := pickP_le V.changes O.last false; rw [h2.len] at h; omega)
  unfold unionP joinP
  rw [eN, eN', ← evb, ← eob]
  rw [← evb] at CB
  rw [← eob] at OB
  clear hV hO evb eob eN eN' h1 h2 h3 h4
  have HCB := hid_of CB
  have HOB := hid_of OB
  have HPV := hid_of PV
  have HPO := hid_of PO
  have HWV := hid_of WV
  have HWO := hid_of WO
  have HRV := hid_of RVV
  have HRO := hid_of RVO
  clear CB OB PV PO WV WO RVV RVO
  cases hsw : decide (N < N')
  · go_enter Tryz.func40, Tryz.ntmps40
    go_wp2_with fail
    obtain ⟨W, hW⟩ : ∃ W, W = ((w.alloc (.cells #[.int .u64 N, .slice ab nb cb, .slice al nl cl, .slice ac nc cc] 42)).alloc (.cells #[.int .u64 N', .slice ab' nb' cb', .slice al' nl' cl', .slice ac' nc' cc'] 42)).alloc (.cells #[.int .u64 0, .slice none 0 0, .slice none 0 0, .slice none 0 0] 42) := ⟨_, rfl⟩
    have KW : Hid (Kept w W) := by rw [hW]; exact ((Kept.alloc _ _).more _).more _
    have B0 : W.heap[w.heap.size]? = some (.cells #[.int .u64 N, .slice ab nb cb, .slice al nl cl, .slice ac nc cc] 42) := by rw [hW, Below.heap_alloc _ _ _ (by simp; omega)]; exact new1 w _ _
    have B1 : W.heap[w.heap.size + 1]? = some (.cells #[.int .u64 N', .slice ab' nb' cb', .slice al' nl' cl', .slice ac' nc' cc'] 42) := by rw [hW, Below.heap_alloc _ _ _ (by simp)]; exact new2 w _ _
    have B2 : W.heap[w.heap.size + 1 + 1]? = some (.cells #[.int .u64 0, .slice none 0 0, .slice none 0 0, .slice none 0 0] 42) := by
      have := heap_alloc_new ((w.alloc (.cells #[.int .u64 N, .slice ab nb cb, .slice al nl cl, .slice ac nc cc] 42)).alloc (.cells #[.int .u64 N', .slice ab' nb' cb', .slice al' nl' cl', .slice ac' nc' cc'] 42)) (.cells #[.int .u64 0, .slice none 0 0, .slice none 0 0, .slice none 0 0] 42)
      rw [hW]
      simpa using this
    have TW : Hid (∀ w', Kept W w' → (w'.cell? ⟨w.heap.size, 0, none⟩ = some (.int .u64 N) ∧ w'.cell? ⟨w.heap.size, 1, none⟩ = some (.slice ab nb cb) ∧ w'.cell? ⟨w.heap.size, 2, none⟩ = some (.slice al nl cl) ∧ w'.cell? ⟨w.heap.size, 3, none⟩ = some (.slice ac nc cc) ∧ w'.cell? ⟨w.heap.size + 1, 0, none⟩ = some (.int .u64 N') ∧ w'.cell? ⟨w.heap.size + 1, 1, none⟩ = some (.slice ab' nb' cb') ∧ w'.cell? ⟨w.heap.size + 1, 2, none⟩ = some (.slice al' nl' cl') ∧ w'.cell? ⟨w.heap.size + 1, 3, none⟩ = some (.slice ac' nc' cc'))) := fun w' q => by
        have h0 := q.blk B0
        have h1 := q.blk B1
        refine ⟨?_, ?_, ?_, ?_, ?_, ?_, ?_, ?_⟩ <;> simp [World.cell?, h0, h1]
    have TWz : Hid (∀ w', Kept W w' → (w'.cell? ⟨w.heap.size + 1 + 1, 0, none⟩ = some (.int .u64 0) ∧ w'.cell? ⟨w.heap.size + 1 + 1, 1, none⟩ = some (.slice none 0 0) ∧ w'.cell? ⟨w.heap.size + 1 + 1, 2, none⟩ = some (.slice none 0 0) ∧ w'.cell? ⟨w.heap.size + 1 + 1, 3, none⟩ = some (.slice none 0 0)) ∧ (w'.frozen? ⟨w.heap.size + 1 + 1, 0, none⟩ = false ∧ w'.frozen? ⟨w.heap.size + 1 + 1, 1, none⟩ = false ∧ w'.frozen? ⟨w.heap.size + 1 + 1, 2, none⟩ = false ∧ w'.frozen? ⟨w.heap.size + 1 + 1, 3, none⟩ = false)) := fun w' q => by
        have h2 := q.blk B2
        refine ⟨⟨?_, ?_, ?_, ?_⟩, ⟨?_, ?_, ?_, ?_⟩⟩ <;> simp [World.cell?, World.frozen?, h2]

    have SW : Hid (W.heap.size = w.heap.size + 3) := by rw [hW]; exact hid_of (by simp)
    clear B0 B1 B2
    rw [← hW]
    clear hW
    have KB := KW
    have q0 := Kept.drew W
    cases hb1 : decide (N' < vb)
    · go_region_held3 (fun w' => (w'.cell? ⟨w.heap.size, 0, none⟩ = some (.int .u64 N) ∧ w'.cell? ⟨w.heap.size, 1, none⟩ = some (.slice ab nb cb) ∧ w'.cell? ⟨w.heap.size, 2, none⟩ = some (.slice al nl cl) ∧ w'.cell? ⟨w.heap.size, 3, none⟩ = some (.slice ac nc cc) ∧ w'.cell? ⟨w.heap.size + 1, 0, none⟩ = some (.int .u64 N') ∧ w'.cell? ⟨w.heap.size + 1, 1, none⟩ = some (.slice ab' nb' cb') ∧ w'.cell? ⟨w.heap.size + 1, 2, none⟩ = some (.slice al' nl' cl') ∧ w'.cell? ⟨w.heap.size + 1, 3, none⟩ = some (.slice ac' nc' cc')))
        (first | with_reducible exact (TW.out _ q3) | with_reducible exact (TW.out _ q0))
        (first
          | (go_at_call 46; refine (HCB.out _ (KB.out.trans q0)).mono ?_; rintro e w3 ⟨rfl, k3⟩; have q3 := q0.trans k3; obtain ⟨⟨z0, z1, z2, z3⟩, ⟨f0, f1, f2, f3⟩⟩ := TWz.out _ q3; obtain ⟨t0, t1, t2, t3, g0, g1, g2, g3⟩ := TW.out _ q3))
      all_goals go_wp2_with fail
      clear t0 t1 t2 t3 g0 g1 g2 g3 z0 z1 z2 z3 f0 f1 f2 f3
      have q4 := q3.trans (Kept.drew _)
      go_region_held3 (fun w' => (w'.cell? ⟨w.heap.size, 0, none⟩ = some (.int .u64 N) ∧ w'.cell? ⟨w.heap.size, 1, none⟩ = some (.slice ab nb cb) ∧ w'.cell? ⟨w.heap.size, 2, none⟩ = some (.slice al nl cl) ∧ w'.cell? ⟨w.heap.size, 3, none⟩ = some (.slice ac nc cc) ∧ w'.cell? ⟨w.heap.size + 1, 0, none⟩ = some (.int .u64 N') ∧ w'.cell? ⟨w.heap.size + 1, 1, none⟩ = some (.slice ab' nb' cb') ∧ w'.cell? ⟨w.heap.size + 1, 2, none⟩ = some (.slice al' nl' cl') ∧ w'.cell? ⟨w.heap.size + 1, 3, none⟩ = some (.slice ac' nc' cc')))
        (first | exact keep8 (TW.out _ q6) _ _ _ _ _ rfl | with_reducible exact (TW.out _ q6) | with_reducible exact (TW.out _ q5) | with_reducible exact (TW.out _ q4))
        (first
          | (go_at_call 49; refine (HPV.out _ (KB.out.trans q4)).mono ?_; rintro e w5 ⟨⟨a5, c5, rfl, L5, -⟩, k5⟩; have q5 := q4.trans k5; have HL5 := hid_of L5; clear L5)
          | (go_at_call 52; refine (HWV.out _ (KB.out.trans q5) a5 _ c5 _ LV.out HL5.out).mono ?_; rintro e w6 ⟨⟨a6, c6, rfl, L6, F6⟩, k6⟩; have q6 := q5.trans k6; have HL6 := hid_of L6; have HF6 := hid_of F6; clear L6 F6; obtain ⟨⟨z0, z1, z2, z3⟩, ⟨f0, f1, f2, f3⟩⟩ := TWz.out _ q6))
      all_goals go_wp2_with fail
      have hs5 : w.heap.size + 1 + 1 + 1 ≤ w5.heap.size := by have h := q5.size; rw [SW.out] at h; omega
      obtain ⟨m6, hm6⟩ : ∃ m6, m6 = (setP (V.changes ++ pickP O.changes V.last false)).length := ⟨_, rfl⟩
      rw [← hm6] at HL6 ⊢
      have M6 := hid_of hm6
      clear hm6
      obtain ⟨r0, r1, r2, r3⟩ := set4 z0 z1 z2 z3 (.int .u64 N) (.slice ab nb cb) (.slice al nl cl) (.slice a6 m6 c6)
      have KY : Kept w ((((w6.setCell ⟨w.heap.size + 1 + 1, 0, none⟩ (.int .u64 N)).setCell ⟨w.heap.size + 1 + 1, 1, none⟩ (.slice ab nb cb)).setCell ⟨w.heap.size + 1 + 1, 2, none⟩ (.slice al nl cl)).setCell ⟨w.heap.size + 1 + 1, 3, none⟩ (.slice a6 m6 c6)) :=
        ((((KB.out.trans q6).setNew _ (by simp; omega) _).setNew _ (by simp; omega) _).setNew _ (by simp; omega) _).setNew _ (by simp; omega) _
      obtain ⟨y1, y2, -⟩ := HRV.out _ KY
      have F6 : Fresh (w.heap.size + 1 + 1 + 1) a6 := HF6.out.mono hs5
      refine bodyPost_ret (v := .agg #[.int .u64 N, .slice ab nb cb, .slice al nl cl, .slice a6 m6 c6]) (by simp [results, Tryz.results40, go_sem, r0, r1, r2, r3]) rfl ⟨⟨_, rfl, ?_⟩, KY⟩
      obtain ⟨l0, l1, l2⟩ := ZV.out
      refine ⟨⟨_, _, _, _, _, _, _, _, _, by subst l2; rfl, y1, y2, RL.of_fresh ?_ F6 (fun k hk => by have := hG k hk; omega)⟩, l0, l1⟩
      exact (((HL6.out.set _ _ _ F6).set _ _ _ F6).set _ _ _ F6).set _ _ _ F6
    · go_region_held3 (fun w' => (w'.cell? ⟨w.heap.size, 0, none⟩ = some (.int .u64 N) ∧ w'.cell? ⟨w.heap.size, 1, none⟩ = some (.slice ab nb cb) ∧ w'.cell? ⟨w.heap.size, 2, none⟩ = some (.slice al nl cl) ∧ w'.cell? ⟨w.heap.size, 3, none⟩ = some (.slice ac nc cc) ∧ w'.cell? ⟨w.heap.size + 1, 0, none⟩ = some (.int .u64 N') ∧ w'.cell? ⟨w.heap.size + 1, 1, none⟩ = some (.slice ab' nb' cb') ∧ w'.cell? ⟨w.heap.size + 1, 2, none⟩ = some (.slice al' nl' cl') ∧ w'.cell? ⟨w.heap.size + 1, 3, none⟩ = some (.slice ac' nc' cc')))
        (first | with_reducible exact (TW.out _ q3) | with_reducible exact (TW.out _ q0))
        (first
          | (go_at_call 46; refine (HCB.out _ (KB.out.trans q0)).mono ?_; rintro e w3 ⟨rfl, k3⟩; have q3 := q0.trans k3; obtain ⟨⟨z0, z1, z2, z3⟩, ⟨f0, f1, f2, f3⟩⟩ := TWz.out _ q3; obtain ⟨t0, t1, t2, t3, g0, g1, g2, g3⟩ := TW.out _ q3))
      all_goals go_wp2_with fail
      obtain ⟨r0, r1, r2, r3⟩ := set4 z0 z1 z2 z3 (.int .u64 N) (.slice ab nb cb) (.slice al nl cl) (.slice ac nc cc)
      have KY : Kept w ((((w3.setCell ⟨w.heap.size + 1 + 1, 0, none⟩ (.int .u64 N)).setCell ⟨w.heap.size + 1 + 1, 1, none⟩ (.slice ab nb cb)).setCell ⟨w.heap.size + 1 + 1, 2, none⟩ (.slice al nl cl)).setCell ⟨w.heap.size + 1 + 1, 3, none⟩ (.slice ac nc cc)) :=
        ((((KB.out.trans q3).setNew _ (by simp; omega) _).setNew _ (by simp; omega) _).setNew _ (by simp; omega) _).setNew _ (by simp; omega) _
      obtain ⟨y1, y2, y3⟩ := HRV.out _ KY
      refine bodyPost_ret (v := .agg #[.int .u64 N, .slice ab nb cb, .slice al nl cl, .slice ac nc cc]) (by simp [results, Tryz.results40, go_sem, r0, r1, r2, r3]) rfl ⟨⟨_, rfl, ?_⟩, KY⟩
      obtain ⟨l0, l1, l2⟩ := ZV.out
      exact ⟨⟨_, _, _, _, _, _, _, _, _, by subst l2; rfl, y1, y2, y3⟩, l0, l1⟩
  · go_enter Tryz.func40, Tryz.ntmps40
    go_wp2_with fail
    obtain ⟨W, hW⟩ : ∃ W, W = ((w.alloc (.cells #[.int .u64 N', .slice ab' nb' cb', .slice al' nl' cl', .slice ac' nc' cc'] 42)).alloc (.cells #[.int .u64 N, .slice ab nb cb, .slice al nl cl, .slice ac nc cc] 42)).alloc (.cells #[.int .u64 0, .slice none 0 0, .slice none 0 0, .slice none 0 0] 42) := ⟨_, rfl⟩
    have KW : Hid (Kept w W) := by rw [hW]; exact ((Kept.alloc _ _).more _).more _
    have B0 : W.heap[w.heap.size]? = some (.cells #[.int .u64 N', .slice ab' nb' cb', .slice al' nl' cl', .slice ac' nc' cc'] 42) := by rw [hW, Below.heap_alloc _ _ _ (by simp; omega)]; exact new1 w _ _
    have B1 : W.heap[w.heap.size + 1]? = some (.cells #[.int .u64 N, .slice ab nb cb, .slice al nl cl, .slice ac nc cc] 42) := by rw [hW, Below.heap_alloc _ _ _ (by simp)]; exact new2 w _ _
    have B2 : W.heap[w.heap.size + 1 + 1]? = some (.cells #[.int .u64 0, .slice none 0 0, .slice none 0 0, .slice none 0 0] 42) := by
      have := heap_alloc_new ((w.alloc (.cells #[.int .u64 N', .slice ab' nb' cb', .slice al' nl' cl', .slice ac' nc' cc'] 42)).alloc (.cells #[.int .u64 N, .slice ab nb cb, .slice al nl cl, .slice ac nc cc] 42)) (.cells #[.int .u64 0, .slice none 0 0, .slice none 0 0, .slice none 0 0] 42)
      rw [hW]
      simpa using this
    have TW : Hid (∀ w', Kept W w' → (w'.cell? ⟨w.heap.size, 0, none⟩ = some (.int .u64 N') ∧ w'.cell? ⟨w.heap.size, 1, none⟩ = some (.slice ab' nb' cb') ∧ w'.cell? ⟨w.heap.size, 2, none⟩ = some (.slice al' nl' cl') ∧ w'.cell? ⟨w.heap.size, 3, none⟩ = some (.slice ac' nc' cc') ∧ w'.cell? ⟨w.heap.size + 1, 0, none⟩ = some (.int .u64 N) ∧ w'.cell? ⟨w.heap.size + 1, 1, none⟩ = some (.slice ab nb cb) ∧ w'.cell? ⟨w.heap.size + 1, 2, none⟩ = some (.slice al nl cl) ∧ w'.cell? ⟨w.heap.size + 1, 3, none⟩ = some (.slice ac nc cc))) := fun w' q => by
        have h0 := q.blk B0
        have h1 := q.blk B1
        refine ⟨?_, ?_, ?_, ?_, ?_, ?_, ?_, ?_⟩ <;> simp [World.cell?, h0, h1]
    have TWz : Hid (∀ w', Kept W w' → (w'.cell? ⟨w.heap.size + 1 + 1, 0, none⟩ = some (.int .u64 0) ∧ w'.cell? ⟨w.heap.size + 1 + 1, 1, none⟩ = some (.slice none 0 0) ∧ w'.cell? ⟨w.heap.size + 1 + 1, 2, none⟩ = some (.slice none 0 0) ∧ w'.cell? ⟨w.heap.size + 1 + 1, 3, none⟩ = some (.slice none 0 0)) ∧ (w'.frozen? ⟨w.heap.size + 1 + 1, 0, none⟩ = false ∧ w'.frozen? ⟨w.heap.size + 1 + 1, 1, none⟩ = false ∧ w'.frozen? ⟨w.heap.size + 1 + 1, 2, none⟩ = false ∧ w'.frozen? ⟨w.heap.size + 1 + 1, 3, none⟩ = false)) := fun w' q => by
        have h2 := q.blk B2
        refine ⟨⟨?_, ?_, ?_, ?_⟩, ⟨?_, ?_, ?_, ?_⟩⟩ <;> simp [World.cell?, World.frozen?, h2]

    have SW : Hid (W.heap.size = w.heap.size + 3) := by rw [hW]; exact hid_of (by simp)
    clear B0 B1 B2
    rw [← hW]
    clear hW
    have KB := KW
    have q0 := Kept.drew W
    cases hb1 : decide (N < ob)
    · go_region_held3 (fun w' => (w'.cell? ⟨w.heap.size, 0, none⟩ = some (.int .u64 N') ∧ w'.cell? ⟨w.heap.size, 1, none⟩ = some (.slice ab' nb' cb') ∧ w'.cell? ⟨w.heap.size, 2, none⟩ = some (.slice al' nl' cl') ∧ w'.cell? ⟨w.heap.size, 3, none⟩ = some (.slice ac' nc' cc') ∧ w'.cell? ⟨w.heap.size + 1, 0, none⟩ = some (.int .u64 N) ∧ w'.cell? ⟨w.heap.size + 1, 1, none⟩ = some (.slice ab nb cb) ∧ w'.cell? ⟨w.heap.size + 1, 2, none⟩ = some (.slice al nl cl) ∧ w'.cell? ⟨w.heap.size + 1, 3, none⟩ = some (.slice ac nc cc)))
        (first | with_reducible exact (TW.out _ q3) | with_reducible exact (TW.out _ q0))
        (first
          | (go_at_call 46; refine (HOB.out _ (KB.out.trans q0)).mono ?_; rintro e w3 ⟨rfl, k3⟩; have q3 := q0.trans k3; obtain ⟨⟨z0, z1, z2, z3⟩, ⟨f0, f1, f2, f3⟩⟩ := TWz.out _ q3; obtain ⟨t0, t1, t2, t3, g0, g1, g2, g3⟩ := TW.out _ q3))
      all_goals go_wp2_with fail
      clear t0 t1 t2 t3 g0 g1 g2 g3 z0 z1 z2 z3 f0 f1 f2 f3
      have q4 := q3.trans (Kept.drew _)
      go_region_held3 (fun w' => (w'.cell? ⟨w.heap.size, 0, none⟩ = some (.int .u64 N') ∧ w'.cell? ⟨w.heap.size, 1, none⟩ = some (.slice ab' nb' cb') ∧ w'.cell? ⟨w.heap.size, 2, none⟩ = some (.slice al' nl' cl') ∧ w'.cell? ⟨w.heap.size, 3, none⟩ = some (.slice ac' nc' cc') ∧ w'.cell? ⟨w.heap.size + 1, 0, none⟩ = some (.int .u64 N) ∧ w'.cell? ⟨w.heap.size + 1, 1, none⟩ = some (.slice ab nb cb) ∧ w'.cell? ⟨w.heap.size + 1, 2, none⟩ = some (.slice al nl cl) ∧ w'.cell? ⟨w.heap.size + 1, 3, none⟩ = some (.slice ac nc cc)))
        (first | exact keep8 (TW.out _ q6) _ _ _ _ _ rfl | with_reducible exact (TW.out _ q6) | with_reducible exact (TW.out _ q5) | with_reducible exact (TW.out _ q4))
        (first
          | (go_at_call 49; refine (HPO.out _ (KB.out.trans q4)).mono ?_; rintro e w5 ⟨⟨a5, c5, rfl, L5, -⟩, k5⟩; have q5 := q4.trans k5; have HL5 := hid_of L5; clear L5)
          | (go_at_call 52; refine (HWO.out _ (KB.out.trans q5) a5 _ c5 _ LO.out HL5.out).mono ?_; rintro e w6 ⟨⟨a6, c6, rfl, L6, F6⟩, k6⟩; have q6 := q5.trans k6; have HL6 := hid_of L6; have HF6 := hid_of F6; clear L6 F6; obtain ⟨⟨z0, z1, z2, z3⟩, ⟨f0, f1, f2, f3⟩⟩ := TWz.out _ q6))
      all_goals go_wp2_with fail
      have hs5 : w.heap.size + 1 + 1 + 1 ≤ w5.heap.size := by have h := q5.size; rw [SW.out] at h; omega
      obtain ⟨m6, hm6⟩ : ∃ m6, m6 = (setP (O.changes ++ pickP V.changes O.last false)).length := ⟨_, rfl⟩
      rw [← hm6] at HL6 ⊢
      have M6 := hid_of hm6
      clear hm6
      obtain ⟨r0, r1, r2, r3⟩ := set4 z0 z1 z2 z3 (.int .u64 N') (.slice ab' nb' cb') (.slice al' nl' cl') (.slice a6 m6 c6)
      have KY : Kept w ((((w6.setCell ⟨w.heap.size + 1 + 1, 0, none⟩ (.int .u64 N')).setCell ⟨w.heap.size + 1 + 1, 1, none⟩ (.slice ab' nb' cb')).setCell ⟨w.heap.size + 1 + 1, 2, none⟩ (.slice al' nl' cl')).setCell ⟨w.heap.size + 1 + 1, 3, none⟩ (.slice a6 m6 c6)) :=
        ((((KB.out.trans q6).setNew _ (by simp; omega) _).setNew _ (by simp; omega) _).setNew _ (by simp; omega) _).setNew _ (by simp; omega) _
      obtain ⟨y1, y2, -⟩ := HRO.out _ KY
      have F6 : Fresh (w.heap.size + 1 + 1 + 1) a6 := HF6.out.mono hs5
      refine bodyPost_ret (v := .agg #[.int .u64 N', .slice ab' nb' cb', .slice al' nl' cl', .slice a6 m6 c6]) (by simp [results, Tryz.results40, go_sem, r0, r1, r2, r3]) rfl ⟨⟨_, rfl, ?_⟩, KY⟩
      obtain ⟨l0, l1, l2⟩ := ZO.out
      refine ⟨⟨_, _, _, _, _, _, _, _, _, by subst l2; rfl, y1, y2, RL.of_fresh ?_ F6 (fun k hk => by have := hG k hk; omega)⟩, l0, l1⟩
      exact (((HL6.out.set _ _ _ F6).set _ _ _ F6).set _ _ _ F6).set _ _ _ F6
    · go_region_held3 (fun w' => (w'.cell? ⟨w.heap.size, 0, none⟩ = some (.int .u64 N') ∧ w'.cell? ⟨w.heap.size, 1, none⟩ = some (.slice ab' nb' cb') ∧ w'.cell? ⟨w.heap.size, 2, none⟩ = some (.slice al' nl' cl') ∧ w'.cell? ⟨w.heap.size, 3, none⟩ = some (.slice ac' nc' cc') ∧ w'.cell? ⟨w.heap.size + 1, 0, none⟩ = some (.int .u64 N) ∧ w'.cell? ⟨w.heap.size + 1, 1, none⟩ = some (.slice ab nb cb) ∧ w'.cell? ⟨w.heap.size + 1, 2, none⟩ = some (.slice al nl cl) ∧ w'.cell? ⟨w.heap.size + 1, 3, none⟩ = some (.slice ac nc cc)))
        (first | with_reducible exact (TW.out _ q3) | with_reducible exact (TW.out _ q0))
        (first
          | (go_at_call 46; refine (HOB.out _ (KB.out.trans q0)).mono ?_; rintro e w3 ⟨rfl, k3⟩; have q3 := q0.trans k3; obtain ⟨⟨z0, z1, z2, z3⟩, ⟨f0, f1, f2, f3⟩⟩ := TWz.out _ q3; obtain ⟨t0, t1, t2, t3, g0, g1, g2, g3⟩ := TW.out _ q3))
      all_goals go_wp2_with fail
      obtain ⟨r0, r1, r2, r3⟩ := set4 z0 z1 z2 z3 (.int .u64 N') (.slice ab' nb' cb') (.slice al' nl' cl') (.slice ac' nc' cc')
      have KY : Kept w ((((w3.setCell ⟨w.heap.size + 1 + 1, 0, none⟩ (.int .u64 N')).setCell ⟨w.heap.size + 1 + 1, 1, none⟩ (.slice ab' nb' cb')).setCell ⟨w.heap.size + 1 + 1, 2, none⟩ (.slice al' nl' cl')).setCell ⟨w.heap.size + 1 + 1, 3, none⟩ (.slice ac' nc' cc')) :=
        ((((KB.out.trans q3).setNew _ (by simp; omega) _).setNew _ (by simp; omega) _).setNew _ (by simp; omega) _).setNew _ (by simp; omega) _
      obtain ⟨y1, y2, y3⟩ := HRO.out _ KY
      refine bodyPost_ret (v := .agg #[.int .u64 N', .slice ab' nb' cb', .slice al' nl' cl', .slice ac' nc' cc']) (by simp [results, Tryz.results40, go_sem, r0, r1, r2, r3]) rfl ⟨⟨_, rfl, ?_⟩, KY⟩
      obtain ⟨l0, l1, l2⟩ := ZO.out
      exact ⟨⟨_, _, _, _, _, _, _, _, _, by subst l2; rfl, y1, y2, y3⟩, l0, l1⟩

theorem union40 (v o : Value) (V O : View) (w : World) (G : Nat → Prop) (hG : ∀ k, G k → k < w.heap.size) (hV : RV w G v V) (hO : RV w G o O) (n1 : V.last.length ≤ 4194304) (n2 : V.changes.length + O.changes.length ≤ 4398046511104) (n3 : O.last.length ≤ 4194304) :
    Calls Tryz.prog 40 #[v, o] w fun e w' => RetV G w' e (unionP V O) ∧ Kept w w' := by
  obtain ⟨ab, nb, cb, al, nl, cl, ac, nc, cc, rfl, h1, h2, h3⟩ := hV.ex
  obtain ⟨ab', nb', cb', al', nl', cl', ac', nc', cc', rfl, h1', h2', h3'⟩ := hO.ex
  rw [h2.is.len] at n1
  rw [h3.is.len, h3'.is.len] at n2
  rw [h2'.is.len] at n3
  exact union40_in _ ab al ac nb cb nl cl nc cc _ ab' al' ac' nb' cb' nl' cl' nc' cc' V O w G hG hV hO rfl rfl n1 n2 n3 h2.is h3.is h2'.is h3'.is

end Go.Proofs.Qxb6616331aGreatDoor
