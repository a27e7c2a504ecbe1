/-
  THE WALKS of seat b6616541a, 7: ZZnewVoters, zzVoters, Voters.Witness, Votes.add, Voters.Count, Voters.Most.
-/
import Derived.Test.Qxb6616541aV6
namespace Go.Proofs.Qxb6616541a
open Go.RowKit
set_option linter.unusedVariables false
set_option linter.unusedSimpArgs false

/-- Block b holds a Votes: its nine cells, each of which may be written. -/
theorem v_cells {w : World} {b : Nat} {h t nd : Int} {tb : ByteArray} {x : Bool} {lh lt ln : Int} {lb : Bool} (hb : w.heap[b]? = some (.cells (vCells h t nd tb x lh lt ln lb) 33 (0, 0))) :
    w.cell? ⟨b, 0, none⟩ = some (.int .i64 h) ∧ w.cell? ⟨b, 1, none⟩ = some (.int .i64 t) ∧ w.cell? ⟨b, 2, none⟩ = some (.int .i64 nd) ∧ w.cell? ⟨b, 3, none⟩ = some (.string tb) ∧ w.cell? ⟨b, 4, none⟩ = some (.bool x) ∧
      w.cell? ⟨b, 5, none⟩ = some (.int .i64 lh) ∧ w.cell? ⟨b, 6, none⟩ = some (.int .i64 lt) ∧ w.cell? ⟨b, 7, none⟩ = some (.int .i64 ln) ∧ w.cell? ⟨b, 8, none⟩ = some (.bool lb) := by
  refine ⟨?_, ?_, ?_, ?_, ?_, ?_, ?_, ?_, ?_⟩ <;> simp [World.cell?, hb, vCells]
theorem v_free {w : World} {b : Nat} {cs : Array Value} (hb : w.heap[b]? = some (.cells cs 33 (0, 0))) : ∀ j, w.frozen? ⟨b, j, none⟩ = false := fun j => by simp [World.frozen?, hb]

set_option maxHeartbeats 400000 in
theorem new15 (v : Value) (w : World) (a : Option Addr) (n c : Nat) (hv : v = .slice a n c) :
    Calls Try.prog 15 #[v] w fun e w' => e = .returned (.agg #[v]) ∧ Kept No w w' := by
  subst hv
  go_enter Try.func15, Try.ntmps15
  go_wp2
  exact bodyPost_ret (v := .agg #[.slice a n c]) (by simp [results, Try.results15, go_sem]) rfl ⟨rfl, Kept.alloc _ _ _⟩

/-- Block lb lists one or two configurations. -/
structure IsVs (w : World) (lb : Nat) (two : Bool) (n0 : Nat) (nm0 : Nat → ByteArray) (vt0 : Nat → Int) (h0 : Bool) (k0 : Int) (n1 : Nat) (nm1 : Nat → ByteArray) (vt1 : Nat → Int) (h1 : Bool) (k1 : Int) : Prop where
  c0 : ∃ cb, w.cell? ⟨lb, 0, none⟩ = some (.pointer (some ⟨cb, 0, none⟩)) ∧ IsCfg w cb n0 nm0 vt0 h0 k0
  c1 : two = true → ∃ cb, w.cell? ⟨lb, 1, none⟩ = some (.pointer (some ⟨cb, 0, none⟩)) ∧ IsCfg w cb n1 nm1 vt1 h1 k1

theorem IsVs.kept {w w' : World} {lb : Nat} {two : Bool} {n0 : Nat} {nm0 : Nat → ByteArray} {vt0 : Nat → Int} {h0 : Bool} {k0 : Int} {n1 : Nat} {nm1 : Nat → ByteArray} {vt1 : Nat → Int} {h1 : Bool} {k1 : Int}
    (h : IsVs w lb two n0 nm0 vt0 h0 k0 n1 nm1 vt1 h1 k1) (q : Kept No w w') : IsVs w' lb two n0 nm0 vt0 h0 k0 n1 nm1 vt1 h1 k1 := by
  obtain ⟨⟨cb, hc, hi⟩, h1'⟩ := h
  refine ⟨⟨cb, q.cell hc (fun x => x), hi.kept q⟩, fun ht => ?_⟩
  obtain ⟨cb', hc', hi'⟩ := h1' ht
  exact ⟨cb', q.cell hc' (fun x => x), hi'.kept q⟩

/-- A store over a nil slice at the head of a block leaves every other thing as it was. -/
theorem keep0 {w : World} {rb : Nat} {u v : Value} {p : Addr} (hr : w.cell? ⟨rb, 0, none⟩ = some (.slice none 0 0)) (h : w.cell? p = some v) (hv : v ≠ .slice none 0 0 ∨ p.off ≠ 0) : (w.setCell ⟨rb, 0, none⟩ u).cell? p = some v := by
  rw [World.cell?_setCell_other w _ _ _ (fun e => ?_)]
  · exact h
  · subst e
    rcases hv with hv | hv
    · exact hv (Option.some.inj (h.symm.trans hr))
    · exact hv rfl
theorem IsCfg.set0 {w : World} {rb cb n : Nat} {nm : Nat → ByteArray} {vt : Nat → Int} {has : Bool} {wt : Int} (h : IsCfg w cb n nm vt has wt) (hr : w.cell? ⟨rb, 0, none⟩ = some (.slice none 0 0)) (u : Value) : IsCfg (w.setCell ⟨rb, 0, none⟩ u) cb n nm vt has wt := by
  obtain ⟨na, nb, h5, hn⟩ := h.nodes
  refine ⟨⟨na, nb, keep0 hr h5 (.inr (by simp)), fun h0 => ⟨(hn h0).1, ?_⟩⟩, ?_⟩
  · have N := (hn h0).2
    exact ⟨fun i hi => keep0 hr (N.c0 i hi) (.inl (by simp)), fun i hi => keep0 hr (N.c1 i hi) (.inr (by simp)), fun i hi => keep0 hr (N.c2 i hi) (.inl (by simp)), fun i hi => keep0 hr (N.c3 i hi) (.inl (by simp)), fun i hi => keep0 hr (N.c4 i hi) (.inl (by simp)), fun i hi => keep0 hr (N.c5 i hi) (.inl (by simp))⟩
  · rcases h.wit with ⟨hh, wb, h6, h7⟩ | ⟨hh, h6⟩
    · exact .inl ⟨hh, wb, keep0 hr h6 (.inl (by simp)), keep0 hr h7 (.inl (by simp))⟩
    · exact .inr ⟨hh, keep0 hr h6 (.inl (by simp))⟩
theorem IsVs.set0 {w : World} {rb lb : Nat} {two : Bool} {n0 : Nat} {nm0 : Nat → ByteArray} {vt0 : Nat → Int} {h0 : Bool} {k0 : Int} {n1 : Nat} {nm1 : Nat → ByteArray} {vt1 : Nat → Int} {h1 : Bool} {k1 : Int}
    (h : IsVs w lb two n0 nm0 vt0 h0 k0 n1 nm1 vt1 h1 k1) (hr : w.cell? ⟨rb, 0, none⟩ = some (.slice none 0 0)) (u : Value) : IsVs (w.setCell ⟨rb, 0, none⟩ u) lb two n0 nm0 vt0 h0 k0 n1 nm1 vt1 h1 k1 := by
  obtain ⟨⟨cb, hc, hi⟩, h1'⟩ := h
  refine ⟨⟨cb, keep0 hr hc (.inl (by simp)), hi.set0 hr u⟩, fun ht => ?_⟩
  obtain ⟨cb', hc', hi'⟩ := h1' ht
  exact ⟨cb', keep0 hr hc' (.inl (by simp)), hi'.set0 hr u⟩

set_option maxHeartbeats 800000 in
theorem voters7_one (a0 : Option Addr) (n0 c0 : Nat) (nm0 : Nat → ByteArray) (vt0 : Nat → Int) (h0 : Bool) (k0 : Int) (v4 v5 v6 : Value) (n1 : Nat) (nm1 : Nat → ByteArray) (vt1 : Nat → Int) (h1 : Bool) (k1 : Int) (w : World) (hn0 : n0 ≤ 1048576)
    (hN0 : IsN w a0 n0 nm0 vt0) (hnil0 : a0 = none → n0 = 0 ∧ c0 = 0) :
    Calls Try.prog 7 #[.slice a0 n0 c0, .bool h0, .int .i64 k0, .bool false, v4, v5, v6] w fun e w' =>
      (∃ lb, e = .returned (.agg #[.slice (some ⟨lb, 0, none⟩) 1 1]) ∧ IsVs w' lb false n0 nm0 vt0 h0 k0 n1 nm1 vt1 h1 k1) ∧ Kept No w w' := by
  go_enter Try.func7, Try.ntmps7
  go_wp2_with fail
  refine (config14 a0 h0 n0 c0 nm0 vt0 k0 _ hn0 ((Kept.alloc No _ _).isN hN0) hnil0).mono ?_
  rintro e w1 ⟨cb, rfl, hc1, q1⟩
  go_wp2_with fail
  refine (new15 _ _ _ _ _ rfl).mono ?_
  rintro e w2 ⟨rfl, q2⟩
  have r1 : w1.heap[w.heap.size]? = some (.cells #[.slice none 0 0] 28 (0, 0)) := (q1.block _ (by simp) (fun x => x)).trans (heap_alloc_new w _)
  have hlt := lt_of_block r1
  have r2 := (q2.block w.heap.size (by simp; omega) (fun x => x)).trans ((Below.heap_alloc _ _ _ hlt).trans r1)
  have cr := cell_of_one r2
  have fr := free_of_one r2
  have V2 : IsVs w2 w1.heap.size false n0 nm0 vt0 h0 k0 n1 nm1 vt1 h1 k1 :=
    ⟨⟨cb, q2.cell (by rw [World.cell?_alloc_new]; rfl) (fun x => x), hc1.kept ((Kept.alloc No _ _).trans q2)⟩, fun h => by cases h⟩
  have Q : Kept No w w2 := ((Kept.alloc No w _).trans q1).trans ((Kept.alloc No _ _).trans q2)
  go_wp2
  exact bodyPost_ret (v := .agg #[.slice (some ⟨w1.heap.size, 0, none⟩) 1 1]) (by simp [results, Try.results7, go_sem, cr]) rfl ⟨⟨_, rfl, V2.set0 cr _⟩, Q.setNew _ (Nat.le_refl _) _⟩

set_option maxHeartbeats 800000 in
theorem voters7_two (a0 a1 : Option Addr) (n0 c0 : Nat) (nm0 : Nat → ByteArray) (vt0 : Nat → Int) (h0 : Bool) (k0 : Int) (n1 c1 : Nat) (nm1 : Nat → ByteArray) (vt1 : Nat → Int) (h1 : Bool) (k1 : Int) (w : World) (hn0 : n0 ≤ 1048576) (hn1 : n1 ≤ 1048576)
    (hN0 : IsN w a0 n0 nm0 vt0) (hnil0 : a0 = none → n0 = 0 ∧ c0 = 0) (hN1 : IsN w a1 n1 nm1 vt1) (hnil1 : a1 = none → n1 = 0 ∧ c1 = 0) :
    Calls Try.prog 7 #[.slice a0 n0 c0, .bool h0, .int .i64 k0, .bool true, .slice a1 n1 c1, .bool h1, .int .i64 k1] w fun e w' =>
      (∃ lb, e = .returned (.agg #[.slice (some ⟨lb, 0, none⟩) 2 2]) ∧ IsVs w' lb true n0 nm0 vt0 h0 k0 n1 nm1 vt1 h1 k1) ∧ Kept No w w' := by
  go_enter Try.func7, Try.ntmps7
  go_wp2_with fail
  refine (config14 a0 h0 n0 c0 nm0 vt0 k0 _ hn0 ((Kept.alloc No _ _).isN hN0) hnil0).mono ?_
  rintro e w1 ⟨cb, rfl, hc1, q1⟩
  go_wp2_with fail
  refine (config14 a1 h1 n1 c1 nm1 vt1 k1 _ hn1 (((Kept.alloc No _ _).trans q1).isN hN1) hnil1).mono ?_
  rintro e w2 ⟨cb2, rfl, hc2, q2⟩
  go_wp2_with fail
  refine (new15 _ _ _ _ _ rfl).mono ?_
  rintro e w3 ⟨rfl, q3⟩
  have r1 : w1.heap[w.heap.size]? = some (.cells #[.slice none 0 0] 28 (0, 0)) := (q1.block _ (by simp) (fun x => x)).trans (heap_alloc_new w _)
  have r2 := (q2.block w.heap.size (lt_of_block r1) (fun x => x)).trans r1
  have hlt := lt_of_block r2
  have r3 := (q3.block w.heap.size (by simp; omega) (fun x => x)).trans ((Below.heap_alloc _ _ _ hlt).trans r2)
  have cr := cell_of_one r3
  have fr := free_of_one r3
  have V3 : IsVs w3 w2.heap.size true n0 nm0 vt0 h0 k0 n1 nm1 vt1 h1 k1 :=
    ⟨⟨cb, q3.cell (by rw [World.cell?_alloc_new]; rfl) (fun x => x), hc1.kept (q2.trans ((Kept.alloc No _ _).trans q3))⟩, fun _ => ⟨cb2, q3.cell (by rw [World.cell?_alloc_new]; rfl) (fun x => x), hc2.kept ((Kept.alloc No _ _).trans q3)⟩⟩
  have Q : Kept No w w3 := (((Kept.alloc No w _).trans q1).trans q2).trans ((Kept.alloc No _ _).trans q3)
  go_wp2
  exact bodyPost_ret (v := .agg #[.slice (some ⟨w2.heap.size, 0, none⟩) 2 2]) (by simp [results, Try.results7, go_sem, cr]) rfl ⟨⟨_, rfl, V3.set0 cr _⟩, Q.setNew _ (Nat.le_refl _) _⟩

end Go.Proofs.Qxb6616541a
