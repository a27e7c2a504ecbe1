/-
  THE WALKS of seat b6616331aZD, s: view.contains in the views' words; view.newer; view.equal.
-/
import Derived.Test.Qxb6616331aGreatDoorZr
namespace Go.Proofs.Qxb6616331aGreatDoor
open Go.RowKit
set_option linter.unusedVariables false
set_option linter.unusedSimpArgs false
set_option linter.unnecessarySimpa false
set_option maxRecDepth 40000

theorem contains37 (v o : Value) (V O : View) (w : World) (hV : IsV w v V) (hO : IsV w o O) (hM : Mid V) (hMO : Mid O) :
    Calls Tryz.prog 37 #[v, o] w fun e w' => e = .returned (.bool (containsP V O)) ∧ Kept w w' := by
  obtain ⟨ab, nb, cb, al, nl, cl, ac, nc, cc, rfl, h1, h2, h3⟩ := hV.ex
  obtain ⟨ab', nb', cb', al', nl', cl', ac', nc', cc', rfl, h1', h2', h3'⟩ := hO.ex
  have n1 := hM.last
  have n2 := hM.changes
  have n3 := hMO.last
  have n4 := hMO.changes
  rw [h2.len] at n1
  rw [h3.len] at n2
  rw [h2'.len] at n3
  rw [h3'.len] at n4
  exact contains37_in _ ab al ac nb cb nl cl nc cc _ ab' al' ac' nb' cb' nl' cl' nc' cc' V O w hV hO hM hMO rfl rfl n1 n2 n3 n4 h2 h3 h2' h3'

/-- slices.Equal of strings. -/
theorem equal50 (a : Option Addr) (n c : Nat) (xs : List Str) (a' : Option Addr) (n' c' : Nat) (ys : List Str) (w : World) (hn : n ≤ 4398046511104) (hL : IsL w a n xs) (hn' : n' ≤ 4398046511104) (hL' : IsL w a' n' ys) :
    Calls Tryz.prog 50 #[.slice a n c, .slice a' n' c'] w fun e w' => e = .returned (.bool (decide (xs = ys))) ∧ Kept w w' := by
  have e1 := hL.len
  have e2 := hL'.len
  by_cases hnn : n = n'
  · subst hnn
    by_cases h0 : n = 0
    · subst h0
      have hx : xs = [] := List.eq_nil_of_length_eq_zero e1
      have hy : ys = [] := List.eq_nil_of_length_eq_zero e2
      subst hx
      subst hy
      refine (Tryz.slices_Equal_string_empty a a' c 0 c' w (by omega)).mono ?_
      rintro e w' ⟨rfl, rfl⟩
      exact ⟨by simp, Kept.refl _⟩
    · obtain ⟨b, off, rfl, hc⟩ := hL.row (by omega)
      obtain ⟨b', off', rfl, hc'⟩ := hL'.row (by omega)
      refine (Tryz.slices_Equal_string b off n c b' off' n c' (xs.map fun x => ⟨x.toArray⟩) (ys.map fun x => ⟨x.toArray⟩) w (by simp; omega) (by simp; omega) (by omega) (by omega) (fun j hj => ?_) (fun j hj => ?_)).mono ?_
      · have hj' : j < xs.length := by simpa using hj
        rw [hc j (by omega)]
        simp [hj']
      · have hj' : j < ys.length := by simpa using hj
        rw [hc' j (by omega)]
        simp [hj']
      · rintro e w' ⟨rfl, q, rfl⟩
        refine ⟨?_, Kept.drewN _ _⟩
        congr 3
        rw [List.take_of_length_le (by simp; omega), List.take_of_length_le (by simp; omega)]
        apply propext
        constructor
        · intro h
          have hi : ∀ x y : Str, (⟨x.toArray⟩ : ByteArray) = ⟨y.toArray⟩ → x = y := fun x y e => by
            have := congrArg (fun b : ByteArray => b.data.toList) e
            simpa using this
          exact List.map_inj_right hi |>.1 h
        · intro h; rw [h]
  · refine (Tryz.slices_Equal_string_lens a a' n c n' c' w hnn).mono ?_
    rintro e w' ⟨rfl, rfl⟩
    refine ⟨?_, Kept.refl _⟩
    have : xs ≠ ys := fun h => hnn (by rw [← e1, ← e2, h])
    simp [this]

/-- Is V newer than O; are they made of the same changes? -/
def newerP (V O : View) : Bool := decide (O.total < V.total) && containsP V O
def equalP (V O : View) : Bool := if (V.count == O.count && (decide (V.changes = O.changes) && (decide (V.last = O.last) && decide (V.base = O.base)))) then true else (V.total == O.total && containsP V O)

set_option maxHeartbeats 8000000 in
theorem newer51_in (N : Int) (ab al ac : Option Addr) (nb cb nl cl nc cc : Nat) (N' : Int) (ab' al' ac' : Option Addr) (nb' cb' nl' cl' nc' cc' : Nat) (V O : View) (w : World)
    (hV : IsV w (.agg #[.int .u64 N, .slice ab nb cb, .slice al nl cl, .slice ac nc cc]) V) (hO : IsV w (.agg #[.int .u64 N', .slice ab' nb' cb', .slice al' nl' cl', .slice ac' nc' cc']) O) (hM : Mid V) (hMO : Mid O) :
    Calls Tryz.prog 51 #[.agg #[.int .u64 N, .slice ab nb cb, .slice al nl cl, .slice ac nc cc], .agg #[.int .u64 N', .slice ab' nb' cb', .slice al' nl' cl', .slice ac' nc' cc']] w fun e w' => e = .returned (.bool (newerP V O)) ∧ Kept w w' := by
  have CT := fun w' q => total47 _ V w' (hV.kept (w' := w') q) hM
  have OT := fun w' q => total47 _ O w' (hO.kept (w' := w') q) hMO
  have CC := fun w' q => contains37 _ _ V O w' (hV.kept (w' := w') q) (hO.kept (w' := w') q) hM hMO
  obtain ⟨vt, evt⟩ : ∃ vt, vt = V.total := ⟨_, rfl⟩
  obtain ⟨ot, eot⟩ : ∃ ot, ot = O.total := ⟨_, rfl⟩
  obtain ⟨ct, ect⟩ : ∃ ct, ct = containsP V O := ⟨_, rfl⟩
  unfold newerP
  rw [← evt, ← eot, ← ect]
  rw [← evt] at CT
  rw [← eot] at OT
  rw [← ect] at CC
  clear hV hO hM hMO evt eot ect
  have HCT := hid_of CT
  have HOT := hid_of OT
  have HCC := hid_of CC
  clear CT OT CC
  go_enter Tryz.func51, Tryz.ntmps51
  go_wp2_with fail
  obtain ⟨W, hW⟩ : ∃ W, W = ((w.alloc (.cells #[.int .u64 N, .slice ab nb cb, .slice al nl cl, .slice ac nc cc] 42)).alloc (.cells #[.int .u64 N', .slice ab' nb' cb', .slice al' nl' cl', .slice ac' nc' cc'] 42)) := ⟨_, rfl⟩
  have KW : Hid (Kept w W) := by rw [hW]; exact (Kept.alloc _ _).more _
  have T8 : Hid (∀ w', Kept W w' → (w'.cell? ⟨w.heap.size, 0, none⟩ = some (.int .u64 N) ∧ w'.cell? ⟨w.heap.size, 1, none⟩ = some (.slice ab nb cb) ∧ w'.cell? ⟨w.heap.size, 2, none⟩ = some (.slice al nl cl) ∧ w'.cell? ⟨w.heap.size, 3, none⟩ = some (.slice ac nc cc) ∧ w'.cell? ⟨w.heap.size + 1, 0, none⟩ = some (.int .u64 N') ∧ w'.cell? ⟨w.heap.size + 1, 1, none⟩ = some (.slice ab' nb' cb') ∧ w'.cell? ⟨w.heap.size + 1, 2, none⟩ = some (.slice al' nl' cl') ∧ w'.cell? ⟨w.heap.size + 1, 3, none⟩ = some (.slice ac' nc' cc'))) := fun w' q => by
    have T := two4 w w' _ _ _ _ _ _ _ _ 42 42 (by rw [hW] at q; exact q)
    obtain ⟨t0, t1, t2, t3⟩ := T.a
    obtain ⟨g0, g1, g2, g3⟩ := T.b
    exact ⟨t0, t1, t2, t3, g0, g1, g2, g3⟩
  rw [← hW]
  clear hW
  have q0 := Kept.drew W
  cases hb : decide (ot < vt)
  · refine wp_region_noPanic ?_
    refine wp_region_held_drew (S := (fun w' => (w'.cell? ⟨w.heap.size, 0, none⟩ = some (.int .u64 N) ∧ w'.cell? ⟨w.heap.size, 1, none⟩ = some (.slice ab nb cb) ∧ w'.cell? ⟨w.heap.size, 2, none⟩ = some (.slice al nl cl) ∧ w'.cell? ⟨w.heap.size, 3, none⟩ = some (.slice ac nc cc) ∧ w'.cell? ⟨w.heap.size + 1, 0, none⟩ = some (.int .u64 N') ∧ w'.cell? ⟨w.heap.size + 1, 1, none⟩ = some (.slice ab' nb' cb') ∧ w'.cell? ⟨w.heap.size + 1, 2, none⟩ = some (.slice al' nl' cl') ∧ w'.cell? ⟨w.heap.size + 1, 3, none⟩ = some (.slice ac' nc' cc')))) (by kernel_rfl) (T8.out _ q0) (fun hHeld => ?_)
    refine wpAnyH_take (i := 0) (v := ?_) rfl (by kernel_rfl) (by kernel_rfl) (by kernel_rfl) (fun _ _ _ h => h) (Or.inl ⟨by rfl, ?_⟩) (by assumption) ?_
    rotate_left
    · (intro w hSw; (try dsimp only at hSw); go_simp; try with_reducible rfl)
    try simp only [Act.put, List.setIfInBounds_toArray, List.set_cons_zero, List.set_cons_succ, List.getElem_toArray, List.getElem_cons_succ, List.getElem_cons_zero]
    refine wpAnyH_take (i := 2) (v := ?_) rfl (by kernel_rfl) (by kernel_rfl) (by kernel_rfl) (fun _ _ _ h => h) (Or.inl ⟨by rfl, ?_⟩) (by assumption) ?_
    rotate_left
    · (intro w hSw; (try dsimp only at hSw); go_simp; try with_reducible rfl)
    try simp only [Act.put, List.setIfInBounds_toArray, List.set_cons_zero, List.set_cons_succ, List.getElem_toArray, List.getElem_cons_succ, List.getElem_cons_zero]
    refine wpAnyH_ready (rs := [1]) (by kernel_rfl) (by simp) ?_
    refine AllReadyH.cons rfl (fun K hK => ?_) AllReadyH.nil
    go_simp
    refine (HCT.out _ (KW.out.trans q0)).mono ?_
    rintro e w11 ⟨rfl, k11⟩
    have q1 := q0.trans k11
    go_wp2_with fail
    refine hK.out _ _ (T8.out _ q1) (fun hHeld => ?_)
    clear hK K
    try simp only [Act.put, List.setIfInBounds_toArray, List.set_cons_zero, List.set_cons_succ, List.getElem_toArray, List.getElem_cons_succ, List.getElem_cons_zero]
    refine wpAnyH_ready (rs := [3]) (by kernel_rfl) (by simp) ?_
    refine AllReadyH.cons rfl (fun K hK => ?_) AllReadyH.nil
    go_simp
    refine (HOT.out _ (KW.out.trans q1)).mono ?_
    rintro e w12 ⟨rfl, k12⟩
    have q2 := q1.trans k12
    go_wp2_with fail
    refine hK.out _ _ (T8.out _ q2) (fun hHeld => ?_)
    clear hK K
    try simp only [Act.put, List.setIfInBounds_toArray, List.set_cons_zero, List.set_cons_succ, List.getElem_toArray, List.getElem_cons_succ, List.getElem_cons_zero]
    refine wpAnyH_take (i := 4) (v := ?_) rfl (by kernel_rfl) (by kernel_rfl) (by kernel_rfl) (fun _ _ _ h => h) (Or.inl ⟨by rfl, ?_⟩) (by assumption) ?_
    rotate_left
    · (intro w hSw; (try dsimp only at hSw); go_simp; try with_reducible rfl)
    try simp only [Act.put, List.setIfInBounds_toArray, List.set_cons_zero, List.set_cons_succ, List.getElem_toArray, List.getElem_cons_succ, List.getElem_cons_zero]
    refine wpAnyH_take (i := 5) (v := ?_) rfl (by kernel_rfl) (by kernel_rfl) (by kernel_rfl) (fun _ _ _ h => h) (Or.inl ⟨by rfl, ?_⟩) (by assumption) ?_
    rotate_left
    · (intro w hSw; (try dsimp only at hSw); go_simp; try with_reducible rfl)
    try simp only [Act.put, List.setIfInBounds_toArray, List.set_cons_zero, List.set_cons_succ, List.getElem_toArray, List.getElem_cons_succ, List.getElem_cons_zero]
    refine wpAnyH_take (i := 6) (v := undef) rfl (by kernel_rfl) (by kernel_rfl) (by kernel_rfl) (fun _ _ _ h => h) (Or.inr ⟨by rfl, rfl⟩) (by assumption) ?_
    try simp only [Act.put, List.setIfInBounds_toArray, List.set_cons_zero, List.set_cons_succ, List.getElem_toArray, List.getElem_cons_succ, List.getElem_cons_zero]
    refine wpAnyH_take (i := 7) (v := undef) rfl (by kernel_rfl) (by kernel_rfl) (by kernel_rfl) (fun _ _ _ h => h) (Or.inr ⟨by rfl, rfl⟩) (by assumption) ?_
    try simp only [Act.put, List.setIfInBounds_toArray, List.set_cons_zero, List.set_cons_succ, List.getElem_toArray, List.getElem_cons_succ, List.getElem_cons_zero]
    refine wpAnyH_ready (rs := [8]) (by kernel_rfl) (by simp) ?_
    refine AllReadyH.cons rfl (fun K hK => ?_) AllReadyH.nil
    refine iteF (by rfl) ?_
    refine hK.out _ _ (by assumption) (fun hHeld => ?_)
    clear hK K
    try simp only [Act.put, List.setIfInBounds_toArray, List.set_cons_zero, List.set_cons_succ, List.getElem_toArray, List.getElem_cons_succ, List.getElem_cons_zero]
    refine wpAnyH_take (i := 9) (v := ?_) rfl (by kernel_rfl) (by kernel_rfl) (by kernel_rfl) (fun _ _ _ h => h) (Or.inl ⟨by rfl, ?_⟩) (by assumption) ?_
    rotate_left
    · (intro w hSw; (try dsimp only at hSw); go_simp; try with_reducible rfl)
    try simp only [Act.put, List.setIfInBounds_toArray, List.set_cons_zero, List.set_cons_succ, List.getElem_toArray, List.getElem_cons_succ, List.getElem_cons_zero]
    refine wpAnyH_take (i := 10) (v := ?_) rfl (by kernel_rfl) (by kernel_rfl) (by kernel_rfl) (fun _ _ _ h => h) (Or.inl ⟨by rfl, ?_⟩) (by assumption) ?_
    rotate_left
    · (intro w hSw; (try dsimp only at hSw); go_simp; try with_reducible rfl)
    try simp only [Act.put, List.setIfInBounds_toArray, List.set_cons_zero, List.set_cons_succ, List.getElem_toArray, List.getElem_cons_succ, List.getElem_cons_zero]
    refine wpAnyH_done (by kernel_rfl) ?_ _
    refine NoPanic.normal ?_
    go_wp2_with fail
    go_ret
    exact ⟨by rw [hb]; rfl, KW.out.trans q2⟩
  · go_region_held3 (fun w' => (w'.cell? ⟨w.heap.size, 0, none⟩ = some (.int .u64 N) ∧ w'.cell? ⟨w.heap.size, 1, none⟩ = some (.slice ab nb cb) ∧ w'.cell? ⟨w.heap.size, 2, none⟩ = some (.slice al nl cl) ∧ w'.cell? ⟨w.heap.size, 3, none⟩ = some (.slice ac nc cc) ∧ w'.cell? ⟨w.heap.size + 1, 0, none⟩ = some (.int .u64 N') ∧ w'.cell? ⟨w.heap.size + 1, 1, none⟩ = some (.slice ab' nb' cb') ∧ w'.cell? ⟨w.heap.size + 1, 2, none⟩ = some (.slice al' nl' cl') ∧ w'.cell? ⟨w.heap.size + 1, 3, none⟩ = some (.slice ac' nc' cc')))
      (first | with_reducible exact (T8.out _ q3) | with_reducible exact (T8.out _ q2) | with_reducible exact (T8.out _ q1) | with_reducible exact (T8.out _ q0))
      (first
        | (go_at_call_of 47 (Value.agg #[Value.int IntKind.u64 N, Value.slice ab nb cb, Value.slice al nl cl, Value.slice ac nc cc]); refine (HCT.out _ (KW.out.trans q0)).mono ?_; rintro e w11 ⟨rfl, k11⟩; have q1 := q0.trans k11)
        | (go_at_call_of 47 (Value.agg #[Value.int IntKind.u64 N', Value.slice ab' nb' cb', Value.slice al' nl' cl', Value.slice ac' nc' cc']); refine (HOT.out _ (KW.out.trans q1)).mono ?_; rintro e w12 ⟨rfl, k12⟩; have q2 := q1.trans k12)
        | (go_at_call 37; refine (HCC.out _ (KW.out.trans q2)).mono ?_; rintro e w13 ⟨rfl, k13⟩; have q3 := q2.trans k13))
    all_goals go_wp2_with fail
    all_goals (go_ret; exact ⟨by rw [hb]; rfl, KW.out.trans q3⟩)

theorem newer51 (v o : Value) (V O : View) (w : World) (hV : IsV w v V) (hO : IsV w o O) (hM : Mid V) (hMO : Mid O) :
    Calls Tryz.prog 51 #[v, o] w fun e w' => e = .returned (.bool (newerP V O)) ∧ Kept w w' := by
  obtain ⟨ab, nb, cb, al, nl, cl, ac, nc, cc, rfl, h1, h2, h3⟩ := hV.ex
  obtain ⟨ab', nb', cb', al', nl', cl', ac', nc', cc', rfl, h1', h2', h3'⟩ := hO.ex
  exact newer51_in _ ab al ac nb cb nl cl nc cc _ ab' al' ac' nb' cb' nl' cl' nc' cc' V O w hV hO hM hMO

end Go.Proofs.Qxb6616331aGreatDoor
