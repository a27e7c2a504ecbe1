/-
  THE WALKS of seat b6616331aZD, r: view.contains.
-/
import Derived.Test.Qxb6616331aGreatDoorZq
namespace Go.Proofs.Qxb6616331aGreatDoor
open Go.RowKit
set_option linter.unusedVariables false
set_option linter.unusedSimpArgs false
set_option linter.unnecessarySimpa false
set_option maxRecDepth 40000

theorem iteF {b : Bool} {A B : Prop} (h : b = false) (hB : B) : if b = true then A else B := by rw [if_neg (by rw [h]; decide)]; exact hB

/-- Does V hold every change of O? -/
def containsP (V O : View) : Bool :=
  if O.none then true else if V.none then false
  else if decide (O.count < V.before) then decide (O.total ≤ V.total)
  else if decide (O.count ≤ V.count) then subP (pickP O.changes V.last false) V.changes
  else if decide (O.before ≤ V.count) then subP O.changes V.changes && (((pickP O.last V.changes false).length : Int) == IntKind.u64.wrap (V.count - O.before))
  else false

/-- The two boxes of a method of two views. -/
def box42 (w : World) (N : Int) (ab al ac : Option Addr) (nb cb nl cl nc cc : Nat) : World := w.alloc (.cells #[.int .u64 N, .slice ab nb cb, .slice al nl cl, .slice ac nc cc] 42)

set_option maxHeartbeats 8000000 in
theorem contains37_in (N : Int) (ab al ac : Option Addr) (nb cb nl cl nc cc : Nat) (N' : Int) (ab' al' ac' : Option Addr) (nb' cb' nl' cl' nc' cc' : Nat) (V O : View) (w : World)
    (hV : IsV w (.agg #[.int .u64 N, .slice ab nb cb, .slice al nl cl, .slice ac nc cc]) V) (hO : IsV w (.agg #[.int .u64 N', .slice ab' nb' cb', .slice al' nl' cl', .slice ac' nc' cc']) O) (hM : Mid V) (hMO : Mid O)
    (eN : V.count = N) (eN' : O.count = N') (n1 : nl ≤ 4194304) (n2 : nc ≤ 4194304) (n3 : nl' ≤ 4194304) (n4 : nc' ≤ 4194304) (h1 : IsL w al nl V.last) (h2 : IsL w ac nc V.changes) (h3 : IsL w al' nl' O.last) (h4 : IsL w ac' nc' O.changes) :
    Calls Tryz.prog 37 #[.agg #[.int .u64 N, .slice ab nb cb, .slice al nl cl, .slice ac nc cc], .agg #[.int .u64 N', .slice ab' nb' cb', .slice al' nl' cl', .slice ac' nc' cc']] w fun e w' => e = .returned (.bool (containsP V O)) ∧ Kept w w' := by
  have CN := fun w' q => none45 _ V w' (hV.kept (w' := w') q) hM
  have ON := fun w' q => none45 _ O w' (hO.kept (w' := w') q) hMO
  have CB := fun w' q => before46 _ V w' (hV.kept (w' := w') q) hM
  have OB := fun w' q => before46 _ O w' (hO.kept (w' := w') q) hMO
  have CT := fun w' q => total47 _ V w' (hV.kept (w' := w') q) hM
  have OT := fun w' q => total47 _ O w' (hO.kept (w' := w') q) hMO
  obtain ⟨vn, evn⟩ : ∃ vn, vn = V.none := ⟨_, rfl⟩
  obtain ⟨on, eon⟩ : ∃ on, on = O.none := ⟨_, rfl⟩
  obtain ⟨vb, evb⟩ : ∃ vb, vb = V.before := ⟨_, rfl⟩
  obtain ⟨ob, eob⟩ : ∃ ob, ob = O.before := ⟨_, rfl⟩
  obtain ⟨vt, evt⟩ : ∃ vt, vt = V.total := ⟨_, rfl⟩
  obtain ⟨ot, eot⟩ : ∃ ot, ot = O.total := ⟨_, rfl⟩
  obtain ⟨xl, exl⟩ : ∃ xl, xl = V.last := ⟨_, rfl⟩
  obtain ⟨xc, exc⟩ : ∃ xc, xc = V.changes := ⟨_, rfl⟩
  obtain ⟨yl, eyl⟩ : ∃ yl, yl = O.last := ⟨_, rfl⟩
  obtain ⟨yc, eyc⟩ : ∃ yc, yc = O.changes := ⟨_, rfl⟩
  unfold containsP
  rw [eN, eN', ← evn, ← eon, ← evb, ← eob, ← evt, ← eot, ← exl, ← exc, ← eyl, ← eyc]
  rw [← evn] at CN
  rw [← eon] at ON
  rw [← evb] at CB
  rw [← eob] at OB
  rw [← evt] at CT
  rw [← eot] at OT
  rw [← exl] at h1
  rw [← exc] at h2
  rw [← eyl] at h3
  rw [← eyc] at h4
  clear hV hO hM hMO evn eon evb eob evt eot exl exc eyl eyc eN eN'
  have HCN := hid_of CN
  have HON := hid_of ON
  have HCB := hid_of CB
  have HOB := hid_of OB
  have HCT := hid_of CT
  have HOT := hid_of OT
  have H1 : Hid (∀ w', Kept w w' → IsL w' al nl xl) := fun w' q => h1.kept q
  have H2 : Hid (∀ w', Kept w w' → IsL w' ac nc xc) := fun w' q => h2.kept q
  have H3 : Hid (∀ w', Kept w w' → IsL w' al' nl' yl) := fun w' q => h3.kept q
  have H4 : Hid (∀ w', Kept w w' → IsL w' ac' nc' yc) := fun w' q => h4.kept q
  clear CN ON CB OB CT OT h1 h2 h3 h4
  obtain ⟨sb, hsb⟩ : ∃ sb, sb = subP yc xc := ⟨_, rfl⟩
  have SB := hid_of hsb
  rw [← hsb]
  clear hsb
  obtain ⟨pm, hpm⟩ : ∃ pm, pm = (pickP yl xc false).length := ⟨_, rfl⟩
  have PM := hid_of hpm
  have hpm1 : pm ≤ 4194304 := by rw [hpm]; have h := pickP_le yl xc false; rw [(H3.out _ (Kept.refl _)).len] at h; omega
  rw [← hpm]
  clear hpm
  have HS : Hid (∀ w', Kept w w' → Calls Tryz.prog 48 #[.slice ac' nc' cc', .slice ac nc cc] w' fun e w2 => e = .returned (.bool sb) ∧ Kept w' w2) := fun w' q => by
    rw [SB.out]; exact subset48 ac' nc' cc' yc ac nc cc xc w' (by omega) (H4.out _ q) (by omega) (H2.out _ q)
  have HP : Hid (∀ w', Kept w w' → Calls Tryz.prog 49 #[.slice al' nl' cl', .slice ac nc cc, .bool false] w' fun e w2 => (∃ a c, e = .returned (.slice a pm c)) ∧ Kept w' w2) := fun w' q =>
    (pick49 al' nl' cl' yl ac nc cc xc false w' (by omega) (H3.out _ q) (by omega) (H2.out _ q)).mono (by
      rintro e w2 ⟨⟨a, c, rfl, -, -⟩, k⟩
      exact ⟨⟨a, c, by rw [PM.out]⟩, k⟩)
  go_enter Tryz.func37, Tryz.ntmps37
  go_wp2_with fail
  obtain ⟨W, hW⟩ : ∃ W, W = ((w.alloc (.cells #[.int .u64 N, .slice ab nb cb, .slice al nl cl, .slice ac nc cc] 42)).alloc (.cells #[.int .u64 N', .slice ab' nb' cb', .slice al' nl' cl', .slice ac' nc' cc'] 42)) := ⟨_, rfl⟩
  have KW : Hid (Kept w W) := by rw [hW]; exact (Kept.alloc _ _).more _
  have TW : Hid (∀ w', Kept W w' → Two4 w.heap.size (.int .u64 N) (.slice ab nb cb) (.slice al nl cl) (.slice ac nc cc) (.int .u64 N') (.slice ab' nb' cb') (.slice al' nl' cl') (.slice ac' nc' cc') w') := fun w' q => two4 w w' _ _ _ _ _ _ _ _ 42 42 (by rw [hW] at q; exact q)
  have T8 : Hid (∀ w', Kept W w' → (w'.cell? ⟨w.heap.size, 0, none⟩ = some (.int .u64 N) ∧ w'.cell? ⟨w.heap.size, 1, none⟩ = some (.slice ab nb cb) ∧ w'.cell? ⟨w.heap.size, 2, none⟩ = some (.slice al nl cl) ∧ w'.cell? ⟨w.heap.size, 3, none⟩ = some (.slice ac nc cc) ∧ w'.cell? ⟨w.heap.size + 1, 0, none⟩ = some (.int .u64 N') ∧ w'.cell? ⟨w.heap.size + 1, 1, none⟩ = some (.slice ab' nb' cb') ∧ w'.cell? ⟨w.heap.size + 1, 2, none⟩ = some (.slice al' nl' cl') ∧ w'.cell? ⟨w.heap.size + 1, 3, none⟩ = some (.slice ac' nc' cc'))) := fun w' q => by
    obtain ⟨t0, t1, t2, t3⟩ := (TW.out _ q).a
    obtain ⟨g0, g1, g2, g3⟩ := (TW.out _ q).b
    exact ⟨t0, t1, t2, t3, g0, g1, g2, g3⟩
  rw [← hW]
  clear hW
  refine (HON.out _ KW.out).mono ?_
  rintro e w1 ⟨rfl, k1⟩
  have Q1 := hid_of k1
  obtain ⟨t0, t1, t2, t3⟩ := (TW.out _ Q1.out).a
  obtain ⟨g0, g1, g2, g3⟩ := (TW.out _ Q1.out).b
  clear k1
  cases on
  · go_wp2_with fail
    refine (HCN.out _ (KW.out.trans Q1.out)).mono ?_
    rintro e w2 ⟨rfl, k2⟩
    have Q2 := hid_of (Q1.out.trans k2)
    clear t0 t1 t2 t3 g0 g1 g2 g3 k2 Q1
    obtain ⟨t0, t1, t2, t3⟩ := (TW.out _ Q2.out).a
    obtain ⟨g0, g1, g2, g3⟩ := (TW.out _ Q2.out).b
    cases vn
    · go_wp2_with fail
      have q0 := Q2.out.trans (Kept.drew _)
      cases hb1 : decide (N' < vb)
      · -- the base of o is not older
        cases hb2 : decide (N' ≤ N)
        · go_region_held3 (fun w' => (w'.cell? ⟨w.heap.size, 0, none⟩ = some (.int .u64 N) ∧ w'.cell? ⟨w.heap.size, 1, none⟩ = some (.slice ab nb cb) ∧ w'.cell? ⟨w.heap.size, 2, none⟩ = some (.slice al nl cl) ∧ w'.cell? ⟨w.heap.size, 3, none⟩ = some (.slice ac nc cc) ∧ w'.cell? ⟨w.heap.size + 1, 0, none⟩ = some (.int .u64 N') ∧ w'.cell? ⟨w.heap.size + 1, 1, none⟩ = some (.slice ab' nb' cb') ∧ w'.cell? ⟨w.heap.size + 1, 2, none⟩ = some (.slice al' nl' cl') ∧ w'.cell? ⟨w.heap.size + 1, 3, none⟩ = some (.slice ac' nc' cc')))
            (first | with_reducible exact (T8.out _ q3) | with_reducible exact (T8.out _ q0))
            (first
                | (go_at_call 46; refine (HCB.out _ (KW.out.trans q0)).mono ?_; rintro e w3 ⟨rfl, k3⟩; have q3 := q0.trans k3))
          all_goals go_wp2_with fail
          clear t0 t1 t2 t3 g0 g1 g2 g3
          have q4 := q3.trans (Kept.drew _)
          cases hb3 : decide (ob ≤ N)
          · go_region_held3 (fun w' => (w'.cell? ⟨w.heap.size, 0, none⟩ = some (.int .u64 N) ∧ w'.cell? ⟨w.heap.size, 1, none⟩ = some (.slice ab nb cb) ∧ w'.cell? ⟨w.heap.size, 2, none⟩ = some (.slice al nl cl) ∧ w'.cell? ⟨w.heap.size, 3, none⟩ = some (.slice ac nc cc) ∧ w'.cell? ⟨w.heap.size + 1, 0, none⟩ = some (.int .u64 N') ∧ w'.cell? ⟨w.heap.size + 1, 1, none⟩ = some (.slice ab' nb' cb') ∧ w'.cell? ⟨w.heap.size + 1, 2, none⟩ = some (.slice al' nl' cl') ∧ w'.cell? ⟨w.heap.size + 1, 3, none⟩ = some (.slice ac' nc' cc')))
              (first | with_reducible exact (T8.out _ q5) | with_reducible exact (T8.out _ q4))
              (first
                  | (go_at_call 46; refine (HOB.out _ (KW.out.trans q4)).mono ?_; rintro e w5 ⟨rfl, k5⟩; have q5 := q4.trans k5))
            all_goals go_wp2_with fail
            go_wp2
            go_ret
            exact ⟨rfl, KW.out.trans q5⟩
          · go_region_held3 (fun w' => (w'.cell? ⟨w.heap.size, 0, none⟩ = some (.int .u64 N) ∧ w'.cell? ⟨w.heap.size, 1, none⟩ = some (.slice ab nb cb) ∧ w'.cell? ⟨w.heap.size, 2, none⟩ = some (.slice al nl cl) ∧ w'.cell? ⟨w.heap.size, 3, none⟩ = some (.slice ac nc cc) ∧ w'.cell? ⟨w.heap.size + 1, 0, none⟩ = some (.int .u64 N') ∧ w'.cell? ⟨w.heap.size + 1, 1, none⟩ = some (.slice ab' nb' cb') ∧ w'.cell? ⟨w.heap.size + 1, 2, none⟩ = some (.slice al' nl' cl') ∧ w'.cell? ⟨w.heap.size + 1, 3, none⟩ = some (.slice ac' nc' cc')))
              (first | with_reducible exact (T8.out _ q5) | with_reducible exact (T8.out _ q4))
              (first
                  | (go_at_call 46; refine (HOB.out _ (KW.out.trans q4)).mono ?_; rintro e w5 ⟨rfl, k5⟩; have q5 := q4.trans k5))
            all_goals go_wp2_with fail
            have q6 := q5.trans (Kept.drew _)
            have hpw : IntKind.u64.wrap (pm : Int) = pm := by simp [IntKind.wrap, IntKind.bits]; omega
            cases sb
            · refine wp_region_noPanic ?_
              refine wp_region_held_drew (S := (fun w' => (w'.cell? ⟨w.heap.size, 0, none⟩ = some (.int .u64 N) ∧ w'.cell? ⟨w.heap.size, 1, none⟩ = some (.slice ab nb cb) ∧ w'.cell? ⟨w.heap.size, 2, none⟩ = some (.slice al nl cl) ∧ w'.cell? ⟨w.heap.size, 3, none⟩ = some (.slice ac nc cc) ∧ w'.cell? ⟨w.heap.size + 1, 0, none⟩ = some (.int .u64 N') ∧ w'.cell? ⟨w.heap.size + 1, 1, none⟩ = some (.slice ab' nb' cb') ∧ w'.cell? ⟨w.heap.size + 1, 2, none⟩ = some (.slice al' nl' cl') ∧ w'.cell? ⟨w.heap.size + 1, 3, none⟩ = some (.slice ac' nc' cc')))) (by kernel_rfl) (T8.out _ q6) (fun hHeld => ?_)
              refine wpAnyH_take (i := 0) (v := ?_) rfl (by kernel_rfl) (by kernel_rfl) (by kernel_rfl) (fun _ _ _ h => h) (Or.inl ⟨by rfl, ?_⟩) (by assumption) ?_
              rotate_left
              · (intro w hSw; (try dsimp only at hSw); go_simp; try with_reducible rfl)
              try simp only [Act.put, List.setIfInBounds_toArray, List.set_cons_zero, List.set_cons_succ, List.getElem_toArray, List.getElem_cons_succ, List.getElem_cons_zero]
              refine wpAnyH_take (i := 1) (v := ?_) rfl (by kernel_rfl) (by kernel_rfl) (by kernel_rfl) (fun _ _ _ h => h) (Or.inl ⟨by rfl, ?_⟩) (by assumption) ?_
              rotate_left
              · (intro w hSw; (try dsimp only at hSw); go_simp; try with_reducible rfl)
              try simp only [Act.put, List.setIfInBounds_toArray, List.set_cons_zero, List.set_cons_succ, List.getElem_toArray, List.getElem_cons_succ, List.getElem_cons_zero]
              refine wpAnyH_take (i := 2) (v := ?_) rfl (by kernel_rfl) (by kernel_rfl) (by kernel_rfl) (fun _ _ _ h => h) (Or.inl ⟨by rfl, ?_⟩) (by assumption) ?_
              rotate_left
              · (intro w hSw; (try dsimp only at hSw); go_simp; try with_reducible rfl)
              try simp only [Act.put, List.setIfInBounds_toArray, List.set_cons_zero, List.set_cons_succ, List.getElem_toArray, List.getElem_cons_succ, List.getElem_cons_zero]
              refine wpAnyH_take (i := 3) (v := ?_) rfl (by kernel_rfl) (by kernel_rfl) (by kernel_rfl) (fun _ _ _ h => h) (Or.inl ⟨by rfl, ?_⟩) (by assumption) ?_
              rotate_left
              · (intro w hSw; (try dsimp only at hSw); go_simp; try with_reducible rfl)
              try simp only [Act.put, List.setIfInBounds_toArray, List.set_cons_zero, List.set_cons_succ, List.getElem_toArray, List.getElem_cons_succ, List.getElem_cons_zero]
              refine wpAnyH_ready (rs := [4]) (by kernel_rfl) (by simp) ?_
              refine AllReadyH.cons rfl (fun K hK => ?_) AllReadyH.nil
              go_simp
              refine (HS.out _ (KW.out.trans q6)).mono ?_
              rintro e w7 ⟨rfl, k7⟩
              have q7 := q6.trans k7
              go_wp2_with fail
              refine hK.out _ _ (T8.out _ q7) (fun hHeld => ?_)
              clear hK K
              try simp only [Act.put, List.setIfInBounds_toArray, List.set_cons_zero, List.set_cons_succ, List.getElem_toArray, List.getElem_cons_succ, List.getElem_cons_zero]
              refine wpAnyH_take (i := 5) (v := ?_) rfl (by kernel_rfl) (by kernel_rfl) (by kernel_rfl) (fun _ _ _ h => h) (Or.inl ⟨by rfl, ?_⟩) (by assumption) ?_
              rotate_left
              · (intro w hSw; (try dsimp only at hSw); go_simp; try with_reducible rfl)
              try simp only [Act.put, List.setIfInBounds_toArray, List.set_cons_zero, List.set_cons_succ, List.getElem_toArray, List.getElem_cons_succ, List.getElem_cons_zero]
              refine wpAnyH_take (i := 6) (v := undef) rfl (by kernel_rfl) (by kernel_rfl) (by kernel_rfl) (fun _ _ _ h => h) (Or.inr ⟨by rfl, rfl⟩) (by assumption) ?_
              try simp only [Act.put, List.setIfInBounds_toArray, List.set_cons_zero, List.set_cons_succ, List.getElem_toArray, List.getElem_cons_succ, List.getElem_cons_zero]
              refine wpAnyH_take (i := 7) (v := undef) rfl (by kernel_rfl) (by kernel_rfl) (by kernel_rfl) (fun _ _ _ h => h) (Or.inr ⟨by rfl, rfl⟩) (by assumption) ?_
              try simp only [Act.put, List.setIfInBounds_toArray, List.set_cons_zero, List.set_cons_succ, List.getElem_toArray, List.getElem_cons_succ, List.getElem_cons_zero]
              refine wpAnyH_take (i := 8) (v := undef) rfl (by kernel_rfl) (by kernel_rfl) (by kernel_rfl) (fun _ _ _ h => h) (Or.inr ⟨by rfl, rfl⟩) (by assumption) ?_
              try simp only [Act.put, List.setIfInBounds_toArray, List.set_cons_zero, List.set_cons_succ, List.getElem_toArray, List.getElem_cons_succ, List.getElem_cons_zero]
              refine wpAnyH_take (i := 9) (v := undef) rfl (by kernel_rfl) (by kernel_rfl) (by kernel_rfl) (fun _ _ _ h => h) (Or.inr ⟨by rfl, rfl⟩) (by assumption) ?_
              try simp only [Act.put, List.setIfInBounds_toArray, List.set_cons_zero, List.set_cons_succ, List.getElem_toArray, List.getElem_cons_succ, List.getElem_cons_zero]
              refine wpAnyH_take (i := 13) (v := undef) rfl (by kernel_rfl) (by kernel_rfl) (by kernel_rfl) (fun _ _ _ h => h) (Or.inr ⟨by rfl, rfl⟩) (by assumption) ?_
              try simp only [Act.put, List.setIfInBounds_toArray, List.set_cons_zero, List.set_cons_succ, List.getElem_toArray, List.getElem_cons_succ, List.getElem_cons_zero]
              refine wpAnyH_take (i := 14) (v := undef) rfl (by kernel_rfl) (by kernel_rfl) (by kernel_rfl) (fun _ _ _ h => h) (Or.inr ⟨by rfl, rfl⟩) (by assumption) ?_
              try simp only [Act.put, List.setIfInBounds_toArray, List.set_cons_zero, List.set_cons_succ, List.getElem_toArray, List.getElem_cons_succ, List.getElem_cons_zero]
              refine wpAnyH_take (i := 15) (v := undef) rfl (by kernel_rfl) (by kernel_rfl) (by kernel_rfl) (fun _ _ _ h => h) (Or.inr ⟨by rfl, rfl⟩) (by assumption) ?_
              try simp only [Act.put, List.setIfInBounds_toArray, List.set_cons_zero, List.set_cons_succ, List.getElem_toArray, List.getElem_cons_succ, List.getElem_cons_zero]
              refine wpAnyH_ready (rs := [10]) (by kernel_rfl) (by simp) ?_
              refine AllReadyH.cons rfl (fun K hK => ?_) AllReadyH.nil
              refine iteF (by rfl) ?_
              refine hK.out _ _ (by assumption) (fun hHeld => ?_)
              clear hK K
              try simp only [Act.put, List.setIfInBounds_toArray, List.set_cons_zero, List.set_cons_succ, List.getElem_toArray, List.getElem_cons_succ, List.getElem_cons_zero]
              refine wpAnyH_take (i := 11) (v := undef) rfl (by kernel_rfl) (by kernel_rfl) (by kernel_rfl) (fun _ _ _ h => h) (Or.inr ⟨by rfl, rfl⟩) (by assumption) ?_
              try simp only [Act.put, List.setIfInBounds_toArray, List.set_cons_zero, List.set_cons_succ, List.getElem_toArray, List.getElem_cons_succ, List.getElem_cons_zero]
              refine wpAnyH_take (i := 12) (v := undef) rfl (by kernel_rfl) (by kernel_rfl) (by kernel_rfl) (fun _ _ _ h => h) (Or.inr ⟨by rfl, rfl⟩) (by assumption) ?_
              try simp only [Act.put, List.setIfInBounds_toArray, List.set_cons_zero, List.set_cons_succ, List.getElem_toArray, List.getElem_cons_succ, List.getElem_cons_zero]
              refine wpAnyH_ready (rs := [16]) (by kernel_rfl) (by simp) ?_
              refine AllReadyH.cons rfl (fun K hK => ?_) AllReadyH.nil
              refine iteF (by rfl) ?_
              refine hK.out _ _ (by assumption) (fun hHeld => ?_)
              clear hK K
              try simp only [Act.put, List.setIfInBounds_toArray, List.set_cons_zero, List.set_cons_succ, List.getElem_toArray, List.getElem_cons_succ, List.getElem_cons_zero]
              refine wpAnyH_take (i := 17) (v := undef) rfl (by kernel_rfl) (by kernel_rfl) (by kernel_rfl) (fun _ _ _ h => h) (Or.inr ⟨by rfl, rfl⟩) (by assumption) ?_
              try simp only [Act.put, List.setIfInBounds_toArray, List.set_cons_zero, List.set_cons_succ, List.getElem_toArray, List.getElem_cons_succ, List.getElem_cons_zero]
              refine wpAnyH_take (i := 18) (v := undef) rfl (by kernel_rfl) (by kernel_rfl) (by kernel_rfl) (fun _ _ _ h => h) (Or.inr ⟨by rfl, rfl⟩) (by assumption) ?_
              try simp only [Act.put, List.setIfInBounds_toArray, List.set_cons_zero, List.set_cons_succ, List.getElem_toArray, List.getElem_cons_succ, List.getElem_cons_zero]
              refine wpAnyH_take (i := 19) (v := ?_) rfl (by kernel_rfl) (by kernel_rfl) (by kernel_rfl) (fun _ _ _ h => h) (Or.inl ⟨by rfl, ?_⟩) (by assumption) ?_
              rotate_left
              · (intro w hSw; (try dsimp only at hSw); go_simp; try with_reducible rfl)
              try simp only [Act.put, List.setIfInBounds_toArray, List.set_cons_zero, List.set_cons_succ, List.getElem_toArray, List.getElem_cons_succ, List.getElem_cons_zero]
              refine wpAnyH_take (i := 20) (v := ?_) rfl (by kernel_rfl) (by kernel_rfl) (by kernel_rfl) (fun _ _ _ h => h) (Or.inl ⟨by rfl, ?_⟩) (by assumption) ?_
              rotate_left
              · (intro w hSw; (try dsimp only at hSw); go_simp; try with_reducible rfl)
              try simp only [Act.put, List.setIfInBounds_toArray, List.set_cons_zero, List.set_cons_succ, List.getElem_toArray, List.getElem_cons_succ, List.getElem_cons_zero]
              refine wpAnyH_done (by kernel_rfl) ?_ _
              refine NoPanic.normal ?_
              go_wp2_with fail
              all_goals (go_ret; exact ⟨rfl, KW.out.trans q7⟩)
            · go_region_held3 (fun w' => (w'.cell? ⟨w.heap.size, 0, none⟩ = some (.int .u64 N) ∧ w'.cell? ⟨w.heap.size, 1, none⟩ = some (.slice ab nb cb) ∧ w'.cell? ⟨w.heap.size, 2, none⟩ = some (.slice al nl cl) ∧ w'.cell? ⟨w.heap.size, 3, none⟩ = some (.slice ac nc cc) ∧ w'.cell? ⟨w.heap.size + 1, 0, none⟩ = some (.int .u64 N') ∧ w'.cell? ⟨w.heap.size + 1, 1, none⟩ = some (.slice ab' nb' cb') ∧ w'.cell? ⟨w.heap.size + 1, 2, none⟩ = some (.slice al' nl' cl') ∧ w'.cell? ⟨w.heap.size + 1, 3, none⟩ = some (.slice ac' nc' cc')))
                (first | with_reducible exact (T8.out _ q9) | with_reducible exact (T8.out _ q8) | with_reducible exact (T8.out _ q7) | with_reducible exact (T8.out _ q6))
                (first
                    | (go_at_call 48; refine (HS.out _ (KW.out.trans q6)).mono ?_; rintro e w7 ⟨rfl, k7⟩; have q7 := q6.trans k7)
                    | (go_at_call 49; refine (HP.out _ (KW.out.trans q7)).mono ?_; rintro e w8 ⟨⟨a8, c8, rfl⟩, k8⟩; have q8 := q7.trans k8)
                    | (go_at_call 46; refine (HOB.out _ (KW.out.trans q8)).mono ?_; rintro e w9 ⟨rfl, k9⟩; have q9 := q8.trans k9))
              all_goals go_wp2_with fail
              all_goals (go_ret; exact ⟨by simp [hpw], KW.out.trans q9⟩)
        · go_region_held3 (fun w' => (w'.cell? ⟨w.heap.size, 0, none⟩ = some (.int .u64 N) ∧ w'.cell? ⟨w.heap.size, 1, none⟩ = some (.slice ab nb cb) ∧ w'.cell? ⟨w.heap.size, 2, none⟩ = some (.slice al nl cl) ∧ w'.cell? ⟨w.heap.size, 3, none⟩ = some (.slice ac nc cc) ∧ w'.cell? ⟨w.heap.size + 1, 0, none⟩ = some (.int .u64 N') ∧ w'.cell? ⟨w.heap.size + 1, 1, none⟩ = some (.slice ab' nb' cb') ∧ w'.cell? ⟨w.heap.size + 1, 2, none⟩ = some (.slice al' nl' cl') ∧ w'.cell? ⟨w.heap.size + 1, 3, none⟩ = some (.slice ac' nc' cc')))
            (first | with_reducible exact (T8.out _ q3) | with_reducible exact (T8.out _ q0))
            (first
                | (go_at_call 46; refine (HCB.out _ (KW.out.trans q0)).mono ?_; rintro e w3 ⟨rfl, k3⟩; have q3 := q0.trans k3))
          all_goals go_wp2_with fail
          clear t0 t1 t2 t3 g0 g1 g2 g3
          have q4 := q3.trans (Kept.drew _)
          have HPL : Hid ((pickP yc xl false).length ≤ 4398046511104) := hid_of (by have h := pickP_le yc xl false; rw [(H4.out _ (Kept.refl _)).len] at h; omega)
          go_region_held3 (fun w' => (w'.cell? ⟨w.heap.size, 0, none⟩ = some (.int .u64 N) ∧ w'.cell? ⟨w.heap.size, 1, none⟩ = some (.slice ab nb cb) ∧ w'.cell? ⟨w.heap.size, 2, none⟩ = some (.slice al nl cl) ∧ w'.cell? ⟨w.heap.size, 3, none⟩ = some (.slice ac nc cc) ∧ w'.cell? ⟨w.heap.size + 1, 0, none⟩ = some (.int .u64 N') ∧ w'.cell? ⟨w.heap.size + 1, 1, none⟩ = some (.slice ab' nb' cb') ∧ w'.cell? ⟨w.heap.size + 1, 2, none⟩ = some (.slice al' nl' cl') ∧ w'.cell? ⟨w.heap.size + 1, 3, none⟩ = some (.slice ac' nc' cc')))
            (first | with_reducible exact (T8.out _ q6) | with_reducible exact (T8.out _ q5) | with_reducible exact (T8.out _ q4))
            (first
                | (go_at_call 49; refine (pick49 ac' nc' cc' yc al nl cl xl false _ (by omega) (H4.out _ (KW.out.trans q4)) (by omega) (H1.out _ (KW.out.trans q4))).mono ?_; rintro e w5 ⟨⟨a5, c5, rfl, L5, -⟩, k5⟩; have q5 := q4.trans k5; have HL5 := hid_of L5; clear L5)
                | (go_at_call 48; refine (subset48 a5 _ c5 (pickP yc xl false) ac nc cc xc _ HPL.out HL5.out (by omega) (H2.out _ (KW.out.trans q5))).mono ?_; rintro e w6 ⟨rfl, k6⟩; have q6 := q5.trans k6))
          all_goals go_wp2_with fail
          all_goals (go_ret; exact ⟨rfl, KW.out.trans q6⟩)
      · go_region_held3 (fun w' => (w'.cell? ⟨w.heap.size, 0, none⟩ = some (.int .u64 N) ∧ w'.cell? ⟨w.heap.size, 1, none⟩ = some (.slice ab nb cb) ∧ w'.cell? ⟨w.heap.size, 2, none⟩ = some (.slice al nl cl) ∧ w'.cell? ⟨w.heap.size, 3, none⟩ = some (.slice ac nc cc) ∧ w'.cell? ⟨w.heap.size + 1, 0, none⟩ = some (.int .u64 N') ∧ w'.cell? ⟨w.heap.size + 1, 1, none⟩ = some (.slice ab' nb' cb') ∧ w'.cell? ⟨w.heap.size + 1, 2, none⟩ = some (.slice al' nl' cl') ∧ w'.cell? ⟨w.heap.size + 1, 3, none⟩ = some (.slice ac' nc' cc')))
          (first | with_reducible exact (T8.out _ q3) | with_reducible exact (T8.out _ q0))
          (first
              | (go_at_call 46; refine (HCB.out _ (KW.out.trans q0)).mono ?_; rintro e w3 ⟨rfl, k3⟩; have q3 := q0.trans k3))
        all_goals go_wp2_with fail
        have tokO : True := trivial
        have q4 := q3.trans (Kept.drew _)
        go_region_held3 (fun w' => (w'.cell? ⟨w.heap.size, 0, none⟩ = some (.int .u64 N) ∧ w'.cell? ⟨w.heap.size, 1, none⟩ = some (.slice ab nb cb) ∧ w'.cell? ⟨w.heap.size, 2, none⟩ = some (.slice al nl cl) ∧ w'.cell? ⟨w.heap.size, 3, none⟩ = some (.slice ac nc cc) ∧ w'.cell? ⟨w.heap.size + 1, 0, none⟩ = some (.int .u64 N') ∧ w'.cell? ⟨w.heap.size + 1, 1, none⟩ = some (.slice ab' nb' cb') ∧ w'.cell? ⟨w.heap.size + 1, 2, none⟩ = some (.slice al' nl' cl') ∧ w'.cell? ⟨w.heap.size + 1, 3, none⟩ = some (.slice ac' nc' cc')))
          (first | with_reducible exact (T8.out _ q6) | with_reducible exact (T8.out _ q5) | with_reducible exact (T8.out _ q4))
          (first
              | (go_at_call_of 47 (Value.agg #[Value.int IntKind.u64 N', Value.slice ab' nb' cb', Value.slice al' nl' cl', Value.slice ac' nc' cc']); have _t := tokO; refine (HOT.out _ (KW.out.trans q4)).mono ?_; rintro e w5 ⟨rfl, k5⟩; have q5 := q4.trans k5; clear tokO)
              | (go_at_call_of 47 (Value.agg #[Value.int IntKind.u64 N, Value.slice ab nb cb, Value.slice al nl cl, Value.slice ac nc cc]); refine (HCT.out _ (KW.out.trans q5)).mono ?_; rintro e w6 ⟨rfl, k6⟩; have q6 := q5.trans k6))
        all_goals go_wp2_with fail
        all_goals (go_ret; exact ⟨rfl, KW.out.trans q6⟩)
    · go_wp2
      go_ret
      exact ⟨rfl, KW.out.trans Q2.out⟩
  · go_wp2
    go_ret
    exact ⟨rfl, KW.out.trans Q1.out⟩

end Go.Proofs.Qxb6616331aGreatDoor
