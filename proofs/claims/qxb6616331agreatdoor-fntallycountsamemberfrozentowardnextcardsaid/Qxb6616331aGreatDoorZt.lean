/-
  THE WALKS of seat b6616331aZD, t: view.equal.
-/
import Derived.Test.Qxb6616331aGreatDoorZs
namespace Go.Proofs.Qxb6616331aGreatDoor
open Go.RowKit
set_option linter.unusedVariables false
set_option linter.unusedSimpArgs false
set_option linter.unnecessarySimpa false
set_option maxRecDepth 40000

set_option maxHeartbeats 8000000 in
theorem equal38_in (N : Int) (ab al ac : Option Addr) (nb cb nl cl nc cc : Nat) (N' : Int) (ab' al' ac' : Option Addr) (nb' cb' nl' cl' nc' cc' : Nat) (V O : View) (w : World)
    (hV : IsV w (.agg #[.int .u64 N, .slice ab nb cb, .slice al nl cl, .slice ac nc cc]) V) (hO : IsV w (.agg #[.int .u64 N', .slice ab' nb' cb', .slice al' nl' cl', .slice ac' nc' cc']) O) (hM : Mid V) (hMO : Mid O) (eN : V.count = N) (eN' : O.count = N') (h1 : IsL w ab nb V.base) (h2 : IsL w al nl V.last) (h3 : IsL w ac nc V.changes) (h1' : IsL w ab' nb' O.base) (h2' : IsL w al' nl' O.last) (h3' : IsL w ac' nc' O.changes) :
    Calls Tryz.prog 38 #[.agg #[.int .u64 N, .slice ab nb cb, .slice al nl cl, .slice ac nc cc], .agg #[.int .u64 N', .slice ab' nb' cb', .slice al' nl' cl', .slice ac' nc' cc']] w fun e w' => e = .returned (.bool (equalP V O)) ∧ Kept w w' := by
  have n1 := hM.base
  have n2 := hM.last
  have n3 := hM.changes
  have m1 := hMO.base
  have m2 := hMO.last
  have m3 := hMO.changes
  rw [h1.len] at n1
  rw [h2.len] at n2
  rw [h3.len] at n3
  rw [h1'.len] at m1
  rw [h2'.len] at m2
  rw [h3'.len] at m3
  have EC := fun w' q => equal50 ac nc cc _ ac' nc' cc' _ w' (by omega) (h3.kept (w' := w') q) (by omega) (h3'.kept (w' := w') q)
  have EL := fun w' q => equal50 al nl cl _ al' nl' cl' _ w' (by omega) (h2.kept (w' := w') q) (by omega) (h2'.kept (w' := w') q)
  have EB := fun w' q => equal50 ab nb cb _ ab' nb' cb' _ w' (by omega) (h1.kept (w' := w') q) (by omega) (h1'.kept (w' := w') q)
  have CT := fun w' q => total47 _ V w' (hV.kept (w' := w') q) hM
  have OT := fun w' q => total47 _ O w' (hO.kept (w' := w') q) hMO
  have CC := fun w' q => contains37 _ _ V O w' (hV.kept (w' := w') q) (hO.kept (w' := w') q) hM hMO
  obtain ⟨vt, evt⟩ : ∃ vt, vt = V.total := ⟨_, rfl⟩
  obtain ⟨ot, eot⟩ : ∃ ot, ot = O.total := ⟨_, rfl⟩
  obtain ⟨ct, ect⟩ : ∃ ct, ct = containsP V O := ⟨_, rfl⟩
  obtain ⟨bc, ebc⟩ : ∃ bc, bc = decide (V.changes = O.changes) := ⟨_, rfl⟩
  obtain ⟨bl, ebl⟩ : ∃ bl, bl = decide (V.last = O.last) := ⟨_, rfl⟩
  obtain ⟨bb, ebb⟩ : ∃ bb, bb = decide (V.base = O.base) := ⟨_, rfl⟩
  unfold equalP
  rw [← evt, ← eot, ← ect, eN, eN', ← ebc, ← ebl, ← ebb]
  rw [← evt] at CT
  rw [← eot] at OT
  rw [← ect] at CC
  rw [← ebc] at EC
  rw [← ebl] at EL
  rw [← ebb] at EB
  clear hV hO hM hMO evt eot ect ebc ebl ebb eN eN' h1 h2 h3 h1' h2' h3'
  have HCT := hid_of CT
  have HOT := hid_of OT
  have HCC := hid_of CC
  have HEC := hid_of EC
  have HEL := hid_of EL
  have HEB := hid_of EB
  clear CT OT CC EC EL EB n1 n2 n3 m1 m2 m3
  cases hN : (N == N')
  · go_enter Tryz.func38, Tryz.ntmps38
    go_wp2_with fail
    obtain ⟨W, hW⟩ : ∃ W, W = ((w.alloc (.cells #[.int .u64 N, .slice ab nb cb, .slice al nl cl, .slice ac nc cc] 42)).alloc (.cells #[.int .u64 N', .slice ab' nb' cb', .slice al' nl' cl', .slice ac' nc' cc'] 42)) := ⟨_, rfl⟩
    have KW : Hid (Kept w W) := by rw [hW]; exact (Kept.alloc _ _).more _
    have T8 : Hid (∀ w', Kept W w' → (w'.cell? ⟨w.heap.size, 0, none⟩ = some (.int .u64 N) ∧ w'.cell? ⟨w.heap.size, 1, none⟩ = some (.slice ab nb cb) ∧ w'.cell? ⟨w.heap.size, 2, none⟩ = some (.slice al nl cl) ∧ w'.cell? ⟨w.heap.size, 3, none⟩ = some (.slice ac nc cc) ∧ w'.cell? ⟨w.heap.size + 1, 0, none⟩ = some (.int .u64 N') ∧ w'.cell? ⟨w.heap.size + 1, 1, none⟩ = some (.slice ab' nb' cb') ∧ w'.cell? ⟨w.heap.size + 1, 2, none⟩ = some (.slice al' nl' cl') ∧ w'.cell? ⟨w.heap.size + 1, 3, none⟩ = some (.slice ac' nc' cc'))) := fun w' q => by
      have T := two4 w w' _ _ _ _ _ _ _ _ 42 42 (by rw [hW] at q; exact q)
      obtain ⟨t0, t1, t2, t3⟩ := T.a
      obtain ⟨g0, g1, g2, g3⟩ := T.b
      exact ⟨t0, t1, t2, t3, g0, g1, g2, g3⟩
    rw [← hW]
    clear hW
    have Q0 := Kept.refl W
    have q0 := Q0.trans (Kept.drew _)
    cases hb : (vt == ot)
    · refine wp_region_noPanic ?_
      refine wp_region_held_drew (S := (fun w' => (w'.cell? ⟨w.heap.size, 0, none⟩ = some (.int .u64 N) ∧ w'.cell? ⟨w.heap.size, 1, none⟩ = some (.slice ab nb cb) ∧ w'.cell? ⟨w.heap.size, 2, none⟩ = some (.slice al nl cl) ∧ w'.cell? ⟨w.heap.size, 3, none⟩ = some (.slice ac nc cc) ∧ w'.cell? ⟨w.heap.size + 1, 0, none⟩ = some (.int .u64 N') ∧ w'.cell? ⟨w.heap.size + 1, 1, none⟩ = some (.slice ab' nb' cb') ∧ w'.cell? ⟨w.heap.size + 1, 2, none⟩ = some (.slice al' nl' cl') ∧ w'.cell? ⟨w.heap.size + 1, 3, none⟩ = some (.slice ac' nc' cc')))) (by kernel_rfl) (T8.out _ q0) (fun hHeld => ?_)
      refine wpAnyH_take (i := 0) (v := ?_) rfl (by kernel_rfl) (by kernel_rfl) (by kernel_rfl) (fun _ _ _ h => h) (Or.inl ⟨by rfl, ?_⟩) (by assumption) ?_
      rotate_left
      · (intro w hSw; (try dsimp only at hSw); go_simp; try with_reducible rfl)
      try simp only [Act.put, List.setIfInBounds_toArray, List.set_cons_zero, List.set_cons_succ, List.getElem_toArray, List.getElem_cons_succ, List.getElem_cons_zero]
      refine wpAnyH_take (i := 2) (v := ?_) rfl (by kernel_rfl) (by kernel_rfl) (by kernel_rfl) (fun _ _ _ h => h) (Or.inl ⟨by rfl, ?_⟩) (by assumption) ?_
      rotate_left
      · (intro w hSw; (try dsimp only at hSw); go_simp; try with_reducible rfl)
      try simp only [Act.put, List.setIfInBounds_toArray, List.set_cons_zero, List.set_cons_succ, List.getElem_toArray, List.getElem_cons_succ, List.getElem_cons_zero]
      refine wpAnyH_ready (rs := [1]) (by kernel_rfl) (by simp) ?_
      refine AllReadyH.cons rfl (fun K hK => ?_) AllReadyH.nil
      go_simp
      refine (HCT.out _ (KW.out.trans q0)).mono ?_
      rintro e w11 ⟨rfl, k11⟩
      have q1 := q0.trans k11
      go_wp2_with fail
      refine hK.out _ _ (T8.out _ q1) (fun hHeld => ?_)
      clear hK K
      try simp only [Act.put, List.setIfInBounds_toArray, List.set_cons_zero, List.set_cons_succ, List.getElem_toArray, List.getElem_cons_succ, List.getElem_cons_zero]
      refine wpAnyH_ready (rs := [3]) (by kernel_rfl) (by simp) ?_
      refine AllReadyH.cons rfl (fun K hK => ?_) AllReadyH.nil
      go_simp
      refine (HOT.out _ (KW.out.trans q1)).mono ?_
      rintro e w12 ⟨rfl, k12⟩
      have q2 := q1.trans k12
      go_wp2_with fail
      refine hK.out _ _ (T8.out _ q2) (fun hHeld => ?_)
      clear hK K
      try simp only [Act.put, List.setIfInBounds_toArray, List.set_cons_zero, List.set_cons_succ, List.getElem_toArray, List.getElem_cons_succ, List.getElem_cons_zero]
      refine wpAnyH_take (i := 4) (v := ?_) rfl (by kernel_rfl) (by kernel_rfl) (by kernel_rfl) (fun _ _ _ h => h) (Or.inl ⟨by rfl, ?_⟩) (by assumption) ?_
      rotate_left
      · (intro w hSw; (try dsimp only at hSw); go_simp; try with_reducible rfl)
      try simp only [Act.put, List.setIfInBounds_toArray, List.set_cons_zero, List.set_cons_succ, List.getElem_toArray, List.getElem_cons_succ, List.getElem_cons_zero]
      refine wpAnyH_take (i := 5) (v := ?_) rfl (by kernel_rfl) (by kernel_rfl) (by kernel_rfl) (fun _ _ _ h => h) (Or.inl ⟨by rfl, ?_⟩) (by assumption) ?_
      rotate_left
      · (intro w hSw; (try dsimp only at hSw); go_simp; try with_reducible rfl)
      try simp only [Act.put, List.setIfInBounds_toArray, List.set_cons_zero, List.set_cons_succ, List.getElem_toArray, List.getElem_cons_succ, List.getElem_cons_zero]
      refine wpAnyH_take (i := 6) (v := undef) rfl (by kernel_rfl) (by kernel_rfl) (by kernel_rfl) (fun _ _ _ h => h) (Or.inr ⟨by rfl, rfl⟩) (by assumption) ?_
      try simp only [Act.put, List.setIfInBounds_toArray, List.set_cons_zero, List.set_cons_succ, List.getElem_toArray, List.getElem_cons_succ, List.getElem_cons_zero]
      refine wpAnyH_take (i := 7) (v := undef) rfl (by kernel_rfl) (by kernel_rfl) (by kernel_rfl) (fun _ _ _ h => h) (Or.inr ⟨by rfl, rfl⟩) (by assumption) ?_
      try simp only [Act.put, List.setIfInBounds_toArray, List.set_cons_zero, List.set_cons_succ, List.getElem_toArray, List.getElem_cons_succ, List.getElem_cons_zero]
      refine wpAnyH_ready (rs := [8]) (by kernel_rfl) (by simp) ?_
      refine AllReadyH.cons rfl (fun K hK => ?_) AllReadyH.nil
      refine iteF (by rfl) ?_
      refine hK.out _ _ (by assumption) (fun hHeld => ?_)
      clear hK K
      try simp only [Act.put, List.setIfInBounds_toArray, List.set_cons_zero, List.set_cons_succ, List.getElem_toArray, List.getElem_cons_succ, List.getElem_cons_zero]
      refine wpAnyH_take (i := 9) (v := ?_) rfl (by kernel_rfl) (by kernel_rfl) (by kernel_rfl) (fun _ _ _ h => h) (Or.inl ⟨by rfl, ?_⟩) (by assumption) ?_
      rotate_left
      · (intro w hSw; (try dsimp only at hSw); go_simp; try with_reducible rfl)
      try simp only [Act.put, List.setIfInBounds_toArray, List.set_cons_zero, List.set_cons_succ, List.getElem_toArray, List.getElem_cons_succ, List.getElem_cons_zero]
      refine wpAnyH_take (i := 10) (v := ?_) rfl (by kernel_rfl) (by kernel_rfl) (by kernel_rfl) (fun _ _ _ h => h) (Or.inl ⟨by rfl, ?_⟩) (by assumption) ?_
      rotate_left
      · (intro w hSw; (try dsimp only at hSw); go_simp; try with_reducible rfl)
      try simp only [Act.put, List.setIfInBounds_toArray, List.set_cons_zero, List.set_cons_succ, List.getElem_toArray, List.getElem_cons_succ, List.getElem_cons_zero]
      refine wpAnyH_done (by kernel_rfl) ?_ _
      refine NoPanic.normal ?_
      go_wp2_with fail
      go_ret
      first | exact ⟨rfl, KW.out.trans q2⟩ | exact ⟨by simp [hb], KW.out.trans q2⟩
    · go_region_held3 (fun w' => (w'.cell? ⟨w.heap.size, 0, none⟩ = some (.int .u64 N) ∧ w'.cell? ⟨w.heap.size, 1, none⟩ = some (.slice ab nb cb) ∧ w'.cell? ⟨w.heap.size, 2, none⟩ = some (.slice al nl cl) ∧ w'.cell? ⟨w.heap.size, 3, none⟩ = some (.slice ac nc cc) ∧ w'.cell? ⟨w.heap.size + 1, 0, none⟩ = some (.int .u64 N') ∧ w'.cell? ⟨w.heap.size + 1, 1, none⟩ = some (.slice ab' nb' cb') ∧ w'.cell? ⟨w.heap.size + 1, 2, none⟩ = some (.slice al' nl' cl') ∧ w'.cell? ⟨w.heap.size + 1, 3, none⟩ = some (.slice ac' nc' cc')))
        (first | with_reducible exact (T8.out _ q3) | with_reducible exact (T8.out _ q2) | with_reducible exact (T8.out _ q1) | with_reducible exact (T8.out _ q0))
        (first
          | (go_at_call_of 47 (Value.agg #[Value.int IntKind.u64 N, Value.slice ab nb cb, Value.slice al nl cl, Value.slice ac nc cc]); refine (HCT.out _ (KW.out.trans q0)).mono ?_; rintro e w11 ⟨rfl, k11⟩; have q1 := q0.trans k11)
          | (go_at_call_of 47 (Value.agg #[Value.int IntKind.u64 N', Value.slice ab' nb' cb', Value.slice al' nl' cl', Value.slice ac' nc' cc']); refine (HOT.out _ (KW.out.trans q1)).mono ?_; rintro e w12 ⟨rfl, k12⟩; have q2 := q1.trans k12)
          | (go_at_call 37; refine (HCC.out _ (KW.out.trans q2)).mono ?_; rintro e w13 ⟨rfl, k13⟩; have q3 := q2.trans k13))
      all_goals go_wp2_with fail
      all_goals (go_ret; first | exact ⟨rfl, KW.out.trans q3⟩ | exact ⟨by simp [hb], KW.out.trans q3⟩)
  · go_enter Tryz.func38, Tryz.ntmps38
    go_wp2_with fail
    obtain ⟨W, hW⟩ : ∃ W, W = ((w.alloc (.cells #[.int .u64 N, .slice ab nb cb, .slice al nl cl, .slice ac nc cc] 42)).alloc (.cells #[.int .u64 N', .slice ab' nb' cb', .slice al' nl' cl', .slice ac' nc' cc'] 42)) := ⟨_, rfl⟩
    have KW : Hid (Kept w W) := by rw [hW]; exact (Kept.alloc _ _).more _
    have T8 : Hid (∀ w', Kept W w' → (w'.cell? ⟨w.heap.size, 0, none⟩ = some (.int .u64 N) ∧ w'.cell? ⟨w.heap.size, 1, none⟩ = some (.slice ab nb cb) ∧ w'.cell? ⟨w.heap.size, 2, none⟩ = some (.slice al nl cl) ∧ w'.cell? ⟨w.heap.size, 3, none⟩ = some (.slice ac nc cc) ∧ w'.cell? ⟨w.heap.size + 1, 0, none⟩ = some (.int .u64 N') ∧ w'.cell? ⟨w.heap.size + 1, 1, none⟩ = some (.slice ab' nb' cb') ∧ w'.cell? ⟨w.heap.size + 1, 2, none⟩ = some (.slice al' nl' cl') ∧ w'.cell? ⟨w.heap.size + 1, 3, none⟩ = some (.slice ac' nc' cc'))) := fun w' q => by
      have T := two4 w w' _ _ _ _ _ _ _ _ 42 42 (by rw [hW] at q; exact q)
      obtain ⟨t0, t1, t2, t3⟩ := T.a
      obtain ⟨g0, g1, g2, g3⟩ := T.b
      exact ⟨t0, t1, t2, t3, g0, g1, g2, g3⟩
    rw [← hW]
    clear hW
    refine (HEC.out _ KW.out).mono ?_
    rintro e w1 ⟨rfl, k1⟩
    have Q1 := hid_of k1
    obtain ⟨t0, t1, t2, t3, g0, g1, g2, g3⟩ := T8.out _ k1
    clear k1
    cases bc
    · go_wp2_with fail
      clear t0 t1 t2 t3 g0 g1 g2 g3
      have q0 := Q1.out.trans (Kept.drew _)
      cases hb : (vt == ot)
      · refine wp_region_noPanic ?_
        refine wp_region_held_drew (S := (fun w' => (w'.cell? ⟨w.heap.size, 0, none⟩ = some (.int .u64 N) ∧ w'.cell? ⟨w.heap.size, 1, none⟩ = some (.slice ab nb cb) ∧ w'.cell? ⟨w.heap.size, 2, none⟩ = some (.slice al nl cl) ∧ w'.cell? ⟨w.heap.size, 3, none⟩ = some (.slice ac nc cc) ∧ w'.cell? ⟨w.heap.size + 1, 0, none⟩ = some (.int .u64 N') ∧ w'.cell? ⟨w.heap.size + 1, 1, none⟩ = some (.slice ab' nb' cb') ∧ w'.cell? ⟨w.heap.size + 1, 2, none⟩ = some (.slice al' nl' cl') ∧ w'.cell? ⟨w.heap.size + 1, 3, none⟩ = some (.slice ac' nc' cc')))) (by kernel_rfl) (T8.out _ q0) (fun hHeld => ?_)
        refine wpAnyH_take (i := 0) (v := ?_) rfl (by kernel_rfl) (by kernel_rfl) (by kernel_rfl) (fun _ _ _ h => h) (Or.inl ⟨by rfl, ?_⟩) (by assumption) ?_
        rotate_left
        · (intro w hSw; (try dsimp only at hSw); go_simp; try with_reducible rfl)
        try simp only [Act.put, List.setIfInBounds_toArray, List.set_cons_zero, List.set_cons_succ, List.getElem_toArray, List.getElem_cons_succ, List.getElem_cons_zero]
        refine wpAnyH_take (i := 2) (v := ?_) rfl (by kernel_rfl) (by kernel_rfl) (by kernel_rfl) (fun _ _ _ h => h) (Or.inl ⟨by rfl, ?_⟩) (by assumption) ?_
        rotate_left
        · (intro w hSw; (try dsimp only at hSw); go_simp; try with_reducible rfl)
        try simp only [Act.put, List.setIfInBounds_toArray, List.set_cons_zero, List.set_cons_succ, List.getElem_toArray, List.getElem_cons_succ, List.getElem_cons_zero]
        refine wpAnyH_ready (rs := [1]) (by kernel_rfl) (by simp) ?_
        refine AllReadyH.cons rfl (fun K hK => ?_) AllReadyH.nil
        go_simp
        refine (HCT.out _ (KW.out.trans q0)).mono ?_
        rintro e w11 ⟨rfl, k11⟩
        have q1 := q0.trans k11
        go_wp2_with fail
        refine hK.out _ _ (T8.out _ q1) (fun hHeld => ?_)
        clear hK K
        try simp only [Act.put, List.setIfInBounds_toArray, List.set_cons_zero, List.set_cons_succ, List.getElem_toArray, List.getElem_cons_succ, List.getElem_cons_zero]
        refine wpAnyH_ready (rs := [3]) (by kernel_rfl) (by simp) ?_
        refine AllReadyH.cons rfl (fun K hK => ?_) AllReadyH.nil
        go_simp
        refine (HOT.out _ (KW.out.trans q1)).mono ?_
        rintro e w12 ⟨rfl, k12⟩
        have q2 := q1.trans k12
        go_wp2_with fail
        refine hK.out _ _ (T8.out _ q2) (fun hHeld => ?_)
        clear hK K
        try simp only [Act.put, List.setIfInBounds_toArray, List.set_cons_zero, List.set_cons_succ, List.getElem_toArray, List.getElem_cons_succ, List.getElem_cons_zero]
        refine wpAnyH_take (i := 4) (v := ?_) rfl (by kernel_rfl) (by kernel_rfl) (by kernel_rfl) (fun _ _ _ h => h) (Or.inl ⟨by rfl, ?_⟩) (by assumption) ?_
        rotate_left
        · (intro w hSw; (try dsimp only at hSw); go_simp; try with_reducible rfl)
        try simp only [Act.put, List.setIfInBounds_toArray, List.set_cons_zero, List.set_cons_succ, List.getElem_toArray, List.getElem_cons_succ, List.getElem_cons_zero]
        refine wpAnyH_take (i := 5) (v := ?_) rfl (by kernel_rfl) (by kernel_rfl) (by kernel_rfl) (fun _ _ _ h => h) (Or.inl ⟨by rfl, ?_⟩) (by assumption) ?_
        rotate_left
        · (intro w hSw; (try dsimp only at hSw); go_simp; try with_reducible rfl)
        try simp only [Act.put, List.setIfInBounds_toArray, List.set_cons_zero, List.set_cons_succ, List.getElem_toArray, List.getElem_cons_succ, List.getElem_cons_zero]
        refine wpAnyH_take (i := 6) (v := undef) rfl (by kernel_rfl) (by kernel_rfl) (by kernel_rfl) (fun _ _ _ h => h) (Or.inr ⟨by rfl, rfl⟩) (by assumption) ?_
        try simp only [Act.put, List.setIfInBounds_toArray, List.set_cons_zero, List.set_cons_succ, List.getElem_toArray, List.getElem_cons_succ, List.getElem_cons_zero]
        refine wpAnyH_take (i := 7) (v := undef) rfl (by kernel_rfl) (by kernel_rfl) (by kernel_rfl) (fun _ _ _ h => h) (Or.inr ⟨by rfl, rfl⟩) (by assumption) ?_
        try simp only [Act.put, List.setIfInBounds_toArray, List.set_cons_zero, List.set_cons_succ, List.getElem_toArray, List.getElem_cons_succ, List.getElem_cons_zero]
        refine wpAnyH_ready (rs := [8]) (by kernel_rfl) (by simp) ?_
        refine AllReadyH.cons rfl (fun K hK => ?_) AllReadyH.nil
        refine iteF (by rfl) ?_
        refine hK.out _ _ (by assumption) (fun hHeld => ?_)
        clear hK K
        try simp only [Act.put, List.setIfInBounds_toArray, List.set_cons_zero, List.set_cons_succ, List.getElem_toArray, List.getElem_cons_succ, List.getElem_cons_zero]
        refine wpAnyH_take (i := 9) (v := ?_) rfl (by kernel_rfl) (by kernel_rfl) (by kernel_rfl) (fun _ _ _ h => h) (Or.inl ⟨by rfl, ?_⟩) (by assumption) ?_
        rotate_left
        · (intro w hSw; (try dsimp only at hSw); go_simp; try with_reducible rfl)
        try simp only [Act.put, List.setIfInBounds_toArray, List.set_cons_zero, List.set_cons_succ, List.getElem_toArray, List.getElem_cons_succ, List.getElem_cons_zero]
        refine wpAnyH_take (i := 10) (v := ?_) rfl (by kernel_rfl) (by kernel_rfl) (by kernel_rfl) (fun _ _ _ h => h) (Or.inl ⟨by rfl, ?_⟩) (by assumption) ?_
        rotate_left
        · (intro w hSw; (try dsimp only at hSw); go_simp; try with_reducible rfl)
        try simp only [Act.put, List.setIfInBounds_toArray, List.set_cons_zero, List.set_cons_succ, List.getElem_toArray, List.getElem_cons_succ, List.getElem_cons_zero]
        refine wpAnyH_done (by kernel_rfl) ?_ _
        refine NoPanic.normal ?_
        go_wp2_with fail
        go_ret
        first | exact ⟨rfl, KW.out.trans q2⟩ | exact ⟨by simp [hb], KW.out.trans q2⟩
      · go_region_held3 (fun w' => (w'.cell? ⟨w.heap.size, 0, none⟩ = some (.int .u64 N) ∧ w'.cell? ⟨w.heap.size, 1, none⟩ = some (.slice ab nb cb) ∧ w'.cell? ⟨w.heap.size, 2, none⟩ = some (.slice al nl cl) ∧ w'.cell? ⟨w.heap.size, 3, none⟩ = some (.slice ac nc cc) ∧ w'.cell? ⟨w.heap.size + 1, 0, none⟩ = some (.int .u64 N') ∧ w'.cell? ⟨w.heap.size + 1, 1, none⟩ = some (.slice ab' nb' cb') ∧ w'.cell? ⟨w.heap.size + 1, 2, none⟩ = some (.slice al' nl' cl') ∧ w'.cell? ⟨w.heap.size + 1, 3, none⟩ = some (.slice ac' nc' cc')))
          (first | with_reducible exact (T8.out _ q3) | with_reducible exact (T8.out _ q2) | with_reducible exact (T8.out _ q1) | with_reducible exact (T8.out _ q0))
          (first
            | (go_at_call_of 47 (Value.agg #[Value.int IntKind.u64 N, Value.slice ab nb cb, Value.slice al nl cl, Value.slice ac nc cc]); refine (HCT.out _ (KW.out.trans q0)).mono ?_; rintro e w11 ⟨rfl, k11⟩; have q1 := q0.trans k11)
            | (go_at_call_of 47 (Value.agg #[Value.int IntKind.u64 N', Value.slice ab' nb' cb', Value.slice al' nl' cl', Value.slice ac' nc' cc']); refine (HOT.out _ (KW.out.trans q1)).mono ?_; rintro e w12 ⟨rfl, k12⟩; have q2 := q1.trans k12)
            | (go_at_call 37; refine (HCC.out _ (KW.out.trans q2)).mono ?_; rintro e w13 ⟨rfl, k13⟩; have q3 := q2.trans k13))
        all_goals go_wp2_with fail
        all_goals (go_ret; first | exact ⟨rfl, KW.out.trans q3⟩ | exact ⟨by simp [hb], KW.out.trans q3⟩)
    · go_wp2_with fail
      clear t0 t1 t2 t3 g0 g1 g2 g3
      refine (HEL.out _ (KW.out.trans Q1.out)).mono ?_
      rintro e w2 ⟨rfl, k2⟩
      have Q2 := hid_of (Q1.out.trans k2)
      obtain ⟨t0, t1, t2, t3, g0, g1, g2, g3⟩ := T8.out _ (Q1.out.trans k2)
      clear k2
      cases bl
      · go_wp2_with fail
        clear t0 t1 t2 t3 g0 g1 g2 g3
        have q0 := Q2.out.trans (Kept.drew _)
        cases hb : (vt == ot)
        · refine wp_region_noPanic ?_
          refine wp_region_held_drew (S := (fun w' => (w'.cell? ⟨w.heap.size, 0, none⟩ = some (.int .u64 N) ∧ w'.cell? ⟨w.heap.size, 1, none⟩ = some (.slice ab nb cb) ∧ w'.cell? ⟨w.heap.size, 2, none⟩ = some (.slice al nl cl) ∧ w'.cell? ⟨w.heap.size, 3, none⟩ = some (.slice ac nc cc) ∧ w'.cell? ⟨w.heap.size + 1, 0, none⟩ = some (.int .u64 N') ∧ w'.cell? ⟨w.heap.size + 1, 1, none⟩ = some (.slice ab' nb' cb') ∧ w'.cell? ⟨w.heap.size + 1, 2, none⟩ = some (.slice al' nl' cl') ∧ w'.cell? ⟨w.heap.size + 1, 3, none⟩ = some (.slice ac' nc' cc')))) (by kernel_rfl) (T8.out _ q0) (fun hHeld => ?_)
          refine wpAnyH_take (i := 0) (v := ?_) rfl (by kernel_rfl) (by kernel_rfl) (by kernel_rfl) (fun _ _ _ h => h) (Or.inl ⟨by rfl, ?_⟩) (by assumption) ?_
          rotate_left
          · (intro w hSw; (try dsimp only at hSw); go_simp; try with_reducible rfl)
          try simp only [Act.put, List.setIfInBounds_toArray, List.set_cons_zero, List.set_cons_succ, List.getElem_toArray, List.getElem_cons_succ, List.getElem_cons_zero]
          refine wpAnyH_take (i := 2) (v := ?_) rfl (by kernel_rfl) (by kernel_rfl) (by kernel_rfl) (fun _ _ _ h => h) (Or.inl ⟨by rfl, ?_⟩) (by assumption) ?_
          rotate_left
          · (intro w hSw; (try dsimp only at hSw); go_simp; try with_reducible rfl)
          try simp only [Act.put, List.setIfInBounds_toArray, List.set_cons_zero, List.set_cons_succ, List.getElem_toArray, List.getElem_cons_succ, List.getElem_cons_zero]
          refine wpAnyH_ready (rs := [1]) (by kernel_rfl) (by simp) ?_
          refine AllReadyH.cons rfl (fun K hK => ?_) AllReadyH.nil
          go_simp
          refine (HCT.out _ (KW.out.trans q0)).mono ?_
          rintro e w11 ⟨rfl, k11⟩
          have q1 := q0.trans k11
          go_wp2_with fail
          refine hK.out _ _ (T8.out _ q1) (fun hHeld => ?_)
          clear hK K
          try simp only [Act.put, List.setIfInBounds_toArray, List.set_cons_zero, List.set_cons_succ, List.getElem_toArray, List.getElem_cons_succ, List.getElem_cons_zero]
          refine wpAnyH_ready (rs := [3]) (by kernel_rfl) (by simp) ?_
          refine AllReadyH.cons rfl (fun K hK => ?_) AllReadyH.nil
          go_simp
          refine (HOT.out _ (KW.out.trans q1)).mono ?_
          rintro e w12 ⟨rfl, k12⟩
          have q2 := q1.trans k12
          go_wp2_with fail
          refine hK.out _ _ (T8.out _ q2) (fun hHeld => ?_)
          clear hK K
          try simp only [Act.put, List.setIfInBounds_toArray, List.set_cons_zero, List.set_cons_succ, List.getElem_toArray, List.getElem_cons_succ, List.getElem_cons_zero]
          refine wpAnyH_take (i := 4) (v := ?_) rfl (by kernel_rfl) (by kernel_rfl) (by kernel_rfl) (fun _ _ _ h => h) (Or.inl ⟨by rfl, ?_⟩) (by assumption) ?_
          rotate_left
          · (intro w hSw; (try dsimp only at hSw); go_simp; try with_reducible rfl)
          try simp only [Act.put, List.setIfInBounds_toArray, List.set_cons_zero, List.set_cons_succ, List.getElem_toArray, List.getElem_cons_succ, List.getElem_cons_zero]
          refine wpAnyH_take (i := 5) (v := ?_) rfl (by kernel_rfl) (by kernel_rfl) (by kernel_rfl) (fun _ _ _ h => h) (Or.inl ⟨by rfl, ?_⟩) (by assumption) ?_
          rotate_left
          · (intro w hSw; (try dsimp only at hSw); go_simp; try with_reducible rfl)
          try simp only [Act.put, List.setIfInBounds_toArray, List.set_cons_zero, List.set_cons_succ, List.getElem_toArray, List.getElem_cons_succ, List.getElem_cons_zero]
          refine wpAnyH_take (i := 6) (v := undef) rfl (by kernel_rfl) (by kernel_rfl) (by kernel_rfl) (fun _ _ _ h => h) (Or.inr ⟨by rfl, rfl⟩) (by assumption) ?_
          try simp only [Act.put, List.setIfInBounds_toArray, List.set_cons_zero, List.set_cons_succ, List.getElem_toArray, List.getElem_cons_succ, List.getElem_cons_zero]
          refine wpAnyH_take (i := 7) (v := undef) rfl (by kernel_rfl) (by kernel_rfl) (by kernel_rfl) (fun _ _ _ h => h) (Or.inr ⟨by rfl, rfl⟩) (by assumption) ?_
          try simp only [Act.put, List.setIfInBounds_toArray, List.set_cons_zero, List.set_cons_succ, List.getElem_toArray, List.getElem_cons_succ, List.getElem_cons_zero]
          refine wpAnyH_ready (rs := [8]) (by kernel_rfl) (by simp) ?_
          refine AllReadyH.cons rfl (fun K hK => ?_) AllReadyH.nil
          refine iteF (by rfl) ?_
          refine hK.out _ _ (by assumption) (fun hHeld => ?_)
          clear hK K
          try simp only [Act.put, List.setIfInBounds_toArray, List.set_cons_zero, List.set_cons_succ, List.getElem_toArray, List.getElem_cons_succ, List.getElem_cons_zero]
          refine wpAnyH_take (i := 9) (v := ?_) rfl (by kernel_rfl) (by kernel_rfl) (by kernel_rfl) (fun _ _ _ h => h) (Or.inl ⟨by rfl, ?_⟩) (by assumption) ?_
          rotate_left
          · (intro w hSw; (try dsimp only at hSw); go_simp; try with_reducible rfl)
          try simp only [Act.put, List.setIfInBounds_toArray, List.set_cons_zero, List.set_cons_succ, List.getElem_toArray, List.getElem_cons_succ, List.getElem_cons_zero]
          refine wpAnyH_take (i := 10) (v := ?_) rfl (by kernel_rfl) (by kernel_rfl) (by kernel_rfl) (fun _ _ _ h => h) (Or.inl ⟨by rfl, ?_⟩) (by assumption) ?_
          rotate_left
          · (intro w hSw; (try dsimp only at hSw); go_simp; try with_reducible rfl)
          try simp only [Act.put, List.setIfInBounds_toArray, List.set_cons_zero, List.set_cons_succ, List.getElem_toArray, List.getElem_cons_succ, List.getElem_cons_zero]
          refine wpAnyH_done (by kernel_rfl) ?_ _
          refine NoPanic.normal ?_
          go_wp2_with fail
          go_ret
          first | exact ⟨rfl, KW.out.trans q2⟩ | exact ⟨by simp [hb], KW.out.trans q2⟩
        · go_region_held3 (fun w' => (w'.cell? ⟨w.heap.size, 0, none⟩ = some (.int .u64 N) ∧ w'.cell? ⟨w.heap.size, 1, none⟩ = some (.slice ab nb cb) ∧ w'.cell? ⟨w.heap.size, 2, none⟩ = some (.slice al nl cl) ∧ w'.cell? ⟨w.heap.size, 3, none⟩ = some (.slice ac nc cc) ∧ w'.cell? ⟨w.heap.size + 1, 0, none⟩ = some (.int .u64 N') ∧ w'.cell? ⟨w.heap.size + 1, 1, none⟩ = some (.slice ab' nb' cb') ∧ w'.cell? ⟨w.heap.size + 1, 2, none⟩ = some (.slice al' nl' cl') ∧ w'.cell? ⟨w.heap.size + 1, 3, none⟩ = some (.slice ac' nc' cc')))
            (first | with_reducible exact (T8.out _ q3) | with_reducible exact (T8.out _ q2) | with_reducible exact (T8.out _ q1) | with_reducible exact (T8.out _ q0))
            (first
              | (go_at_call_of 47 (Value.agg #[Value.int IntKind.u64 N, Value.slice ab nb cb, Value.slice al nl cl, Value.slice ac nc cc]); refine (HCT.out _ (KW.out.trans q0)).mono ?_; rintro e w11 ⟨rfl, k11⟩; have q1 := q0.trans k11)
              | (go_at_call_of 47 (Value.agg #[Value.int IntKind.u64 N', Value.slice ab' nb' cb', Value.slice al' nl' cl', Value.slice ac' nc' cc']); refine (HOT.out _ (KW.out.trans q1)).mono ?_; rintro e w12 ⟨rfl, k12⟩; have q2 := q1.trans k12)
              | (go_at_call 37; refine (HCC.out _ (KW.out.trans q2)).mono ?_; rintro e w13 ⟨rfl, k13⟩; have q3 := q2.trans k13))
          all_goals go_wp2_with fail
          all_goals (go_ret; first | exact ⟨rfl, KW.out.trans q3⟩ | exact ⟨by simp [hb], KW.out.trans q3⟩)
      · go_wp2_with fail
        clear t0 t1 t2 t3 g0 g1 g2 g3
        refine (HEB.out _ (KW.out.trans Q2.out)).mono ?_
        rintro e w3 ⟨rfl, k3⟩
        have Q3 := hid_of (Q2.out.trans k3)
        obtain ⟨t0, t1, t2, t3, g0, g1, g2, g3⟩ := T8.out _ (Q2.out.trans k3)
        clear k3
        cases bb
        · go_wp2_with fail
          clear t0 t1 t2 t3 g0 g1 g2 g3
          have q0 := Q3.out.trans (Kept.drew _)
          cases hb : (vt == ot)
          · refine wp_region_noPanic ?_
            refine wp_region_held_drew (S := (fun w' => (w'.cell? ⟨w.heap.size, 0, none⟩ = some (.int .u64 N) ∧ w'.cell? ⟨w.heap.size, 1, none⟩ = some (.slice ab nb cb) ∧ w'.cell? ⟨w.heap.size, 2, none⟩ = some (.slice al nl cl) ∧ w'.cell? ⟨w.heap.size, 3, none⟩ = some (.slice ac nc cc) ∧ w'.cell? ⟨w.heap.size + 1, 0, none⟩ = some (.int .u64 N') ∧ w'.cell? ⟨w.heap.size + 1, 1, none⟩ = some (.slice ab' nb' cb') ∧ w'.cell? ⟨w.heap.size + 1, 2, none⟩ = some (.slice al' nl' cl') ∧ w'.cell? ⟨w.heap.size + 1, 3, none⟩ = some (.slice ac' nc' cc')))) (by kernel_rfl) (T8.out _ q0) (fun hHeld => ?_)
            refine wpAnyH_take (i := 0) (v := ?_) rfl (by kernel_rfl) (by kernel_rfl) (by kernel_rfl) (fun _ _ _ h => h) (Or.inl ⟨by rfl, ?_⟩) (by assumption) ?_
            rotate_left
            · (intro w hSw; (try dsimp only at hSw); go_simp; try with_reducible rfl)
            try simp only [Act.put, List.setIfInBounds_toArray, List.set_cons_zero, List.set_cons_succ, List.getElem_toArray, List.getElem_cons_succ, List.getElem_cons_zero]
            refine wpAnyH_take (i := 2) (v := ?_) rfl (by kernel_rfl) (by kernel_rfl) (by kernel_rfl) (fun _ _ _ h => h) (Or.inl ⟨by rfl, ?_⟩) (by assumption) ?_
            rotate_left
            · (intro w hSw; (try dsimp only at hSw); go_simp; try with_reducible rfl)
            try simp only [Act.put, List.setIfInBounds_toArray, List.set_cons_zero, List.set_cons_succ, List.getElem_toArray, List.getElem_cons_succ, List.getElem_cons_zero]
            refine wpAnyH_ready (rs := [1]) (by kernel_rfl) (by simp) ?_
            refine AllReadyH.cons rfl (fun K hK => ?_) AllReadyH.nil
            go_simp
            refine (HCT.out _ (KW.out.trans q0)).mono ?_
            rintro e w11 ⟨rfl, k11⟩
            have q1 := q0.trans k11
            go_wp2_with fail
            refine hK.out _ _ (T8.out _ q1) (fun hHeld => ?_)
            clear hK K
            try simp only [Act.put, List.setIfInBounds_toArray, List.set_cons_zero, List.set_cons_succ, List.getElem_toArray, List.getElem_cons_succ, List.getElem_cons_zero]
            refine wpAnyH_ready (rs := [3]) (by kernel_rfl) (by simp) ?_
            refine AllReadyH.cons rfl (fun K hK => ?_) AllReadyH.nil
            go_simp
            refine (HOT.out _ (KW.out.trans q1)).mono ?_
            rintro e w12 ⟨rfl, k12⟩
            have q2 := q1.trans k12
            go_wp2_with fail
            refine hK.out _ _ (T8.out _ q2) (fun hHeld => ?_)
            clear hK K
            try simp only [Act.put, List.setIfInBounds_toArray, List.set_cons_zero, List.set_cons_succ, List.getElem_toArray, List.getElem_cons_succ, List.getElem_cons_zero]
            refine wpAnyH_take (i := 4) (v := ?_) rfl (by kernel_rfl) (by kernel_rfl) (by kernel_rfl) (fun _ _ _ h => h) (Or.inl ⟨by rfl, ?_⟩) (by assumption) ?_
            rotate_left
            · (intro w hSw; (try dsimp only at hSw); go_simp; try with_reducible rfl)
            try simp only [Act.put, List.setIfInBounds_toArray, List.set_cons_zero, List.set_cons_succ, List.getElem_toArray, List.getElem_cons_succ, List.getElem_cons_zero]
            refine wpAnyH_take (i := 5) (v := ?_) rfl (by kernel_rfl) (by kernel_rfl) (by kernel_rfl) (fun _ _ _ h => h) (Or.inl ⟨by rfl, ?_⟩) (by assumption) ?_
            rotate_left
            · (intro w hSw; (try dsimp only at hSw); go_simp; try with_reducible rfl)
            try simp only [Act.put, List.setIfInBounds_toArray, List.set_cons_zero, List.set_cons_succ, List.getElem_toArray, List.getElem_cons_succ, List.getElem_cons_zero]
            refine wpAnyH_take (i := 6) (v := undef) rfl (by kernel_rfl) (by kernel_rfl) (by kernel_rfl) (fun _ _ _ h => h) (Or.inr ⟨by rfl, rfl⟩) (by assumption) ?_
            try simp only [Act.put, List.setIfInBounds_toArray, List.set_cons_zero, List.set_cons_succ, List.getElem_toArray, List.getElem_cons_succ, List.getElem_cons_zero]
            refine wpAnyH_take (i := 7) (v := undef) rfl (by kernel_rfl) (by kernel_rfl) (by kernel_rfl) (fun _ _ _ h => h) (Or.inr ⟨by rfl, rfl⟩) (by assumption) ?_
            try simp only [Act.put, List.setIfInBounds_toArray, List.set_cons_zero, List.set_cons_succ, List.getElem_toArray, List.getElem_cons_succ, List.getElem_cons_zero]
            refine wpAnyH_ready (rs := [8]) (by kernel_rfl) (by simp) ?_
            refine AllReadyH.cons rfl (fun K hK => ?_) AllReadyH.nil
            refine iteF (by rfl) ?_
            refine hK.out _ _ (by assumption) (fun hHeld => ?_)
            clear hK K
            try simp only [Act.put, List.setIfInBounds_toArray, List.set_cons_zero, List.set_cons_succ, List.getElem_toArray, List.getElem_cons_succ, List.getElem_cons_zero]
            refine wpAnyH_take (i := 9) (v := ?_) rfl (by kernel_rfl) (by kernel_rfl) (by kernel_rfl) (fun _ _ _ h => h) (Or.inl ⟨by rfl, ?_⟩) (by assumption) ?_
            rotate_left
            · (intro w hSw; (try dsimp only at hSw); go_simp; try with_reducible rfl)
            try simp only [Act.put, List.setIfInBounds_toArray, List.set_cons_zero, List.set_cons_succ, List.getElem_toArray, List.getElem_cons_succ, List.getElem_cons_zero]
            refine wpAnyH_take (i := 10) (v := ?_) rfl (by kernel_rfl) (by kernel_rfl) (by kernel_rfl) (fun _ _ _ h => h) (Or.inl ⟨by rfl, ?_⟩) (by assumption) ?_
            rotate_left
            · (intro w hSw; (try dsimp only at hSw); go_simp; try with_reducible rfl)
            try simp only [Act.put, List.setIfInBounds_toArray, List.set_cons_zero, List.set_cons_succ, List.getElem_toArray, List.getElem_cons_succ, List.getElem_cons_zero]
            refine wpAnyH_done (by kernel_rfl) ?_ _
            refine NoPanic.normal ?_
            go_wp2_with fail
            go_ret
            first | exact ⟨rfl, KW.out.trans q2⟩ | exact ⟨by simp [hb], KW.out.trans q2⟩
          · go_region_held3 (fun w' => (w'.cell? ⟨w.heap.size, 0, none⟩ = some (.int .u64 N) ∧ w'.cell? ⟨w.heap.size, 1, none⟩ = some (.slice ab nb cb) ∧ w'.cell? ⟨w.heap.size, 2, none⟩ = some (.slice al nl cl) ∧ w'.cell? ⟨w.heap.size, 3, none⟩ = some (.slice ac nc cc) ∧ w'.cell? ⟨w.heap.size + 1, 0, none⟩ = some (.int .u64 N') ∧ w'.cell? ⟨w.heap.size + 1, 1, none⟩ = some (.slice ab' nb' cb') ∧ w'.cell? ⟨w.heap.size + 1, 2, none⟩ = some (.slice al' nl' cl') ∧ w'.cell? ⟨w.heap.size + 1, 3, none⟩ = some (.slice ac' nc' cc')))
              (first | with_reducible exact (T8.out _ q3) | with_reducible exact (T8.out _ q2) | with_reducible exact (T8.out _ q1) | with_reducible exact (T8.out _ q0))
              (first
                | (go_at_call_of 47 (Value.agg #[Value.int IntKind.u64 N, Value.slice ab nb cb, Value.slice al nl cl, Value.slice ac nc cc]); refine (HCT.out _ (KW.out.trans q0)).mono ?_; rintro e w11 ⟨rfl, k11⟩; have q1 := q0.trans k11)
                | (go_at_call_of 47 (Value.agg #[Value.int IntKind.u64 N', Value.slice ab' nb' cb', Value.slice al' nl' cl', Value.slice ac' nc' cc']); refine (HOT.out _ (KW.out.trans q1)).mono ?_; rintro e w12 ⟨rfl, k12⟩; have q2 := q1.trans k12)
                | (go_at_call 37; refine (HCC.out _ (KW.out.trans q2)).mono ?_; rintro e w13 ⟨rfl, k13⟩; have q3 := q2.trans k13))
            all_goals go_wp2_with fail
            all_goals (go_ret; first | exact ⟨rfl, KW.out.trans q3⟩ | exact ⟨by simp [hb], KW.out.trans q3⟩)
        · go_wp2
          go_ret
          exact ⟨rfl, KW.out.trans Q3.out⟩

theorem equal38 (v o : Value) (V O : View) (w : World) (hV : IsV w v V) (hO : IsV w o O) (hM : Mid V) (hMO : Mid O) :
    Calls Tryz.prog 38 #[v, o] w fun e w' => e = .returned (.bool (equalP V O)) ∧ Kept w w' := by
  obtain ⟨ab, nb, cb, al, nl, cl, ac, nc, cc, rfl, h1, h2, h3⟩ := hV.ex
  obtain ⟨ab', nb', cb', al', nl', cl', ac', nc', cc', rfl, h1', h2', h3'⟩ := hO.ex
  exact equal38_in _ ab al ac nb cb nl cl nc cc _ ab' al' ac' nb' cb' nl' cl' nc' cc' V O w hV hO hM hMO rfl rfl h1 h2 h3 h1' h2' h3'

end Go.Proofs.Qxb6616331aGreatDoor
