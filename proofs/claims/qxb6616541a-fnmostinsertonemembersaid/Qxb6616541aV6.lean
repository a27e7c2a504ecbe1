/-
  THE WALKS of seat b6616541a, 6: WitnessVotes, TotalVotes, CountVotes.
-/
import Derived.Test.Qxb6616541aV5
namespace Go.Proofs.Qxb6616541a
open Go.RowKit
set_option linter.unusedVariables false
set_option linter.unusedSimpArgs false

set_option maxHeartbeats 400000 in
theorem witness22 (cb n : Nat) (nm : Nat → ByteArray) (vt : Nat → Int) (has : Bool) (wt : Int) (w : World) (h : IsCfg w cb n nm vt has wt) :
    Calls Try.prog 22 #[.pointer (some ⟨cb, 0, none⟩)] w fun e w' => e = .returned (.int .i64 (witOf has wt)) ∧ w' = w := by
  rcases h.wit with ⟨rfl, wb, h6, h7⟩ | ⟨rfl, h6⟩
  · go_enter Try.func22, Try.ntmps22
    go_wp2
    go_ret
    exact ⟨rfl, rfl⟩
  · go_enter Try.func22, Try.ntmps22
    go_wp2
    go_ret
    exact ⟨rfl, rfl⟩

set_option maxHeartbeats 800000 in
theorem total23 (cb n : Nat) (nm : Nat → ByteArray) (vt : Nat → Int) (has : Bool) (wt : Int) (w : World) (hn : n ≤ 1048576) (h : IsCfg w cb n nm vt has wt) :
    Calls Try.prog 23 #[.pointer (some ⟨cb, 0, none⟩)] w fun e w' => e = .returned (.int .i64 (wrap64 (sumTo vt n + witOf has wt))) ∧ Kept No w w' := by
  obtain ⟨na, nb, h5, hnb⟩ := h.nodes
  go_enter Try.func23, Try.ntmps23
  go_wp2
  go_loopw [3, 11] (fun v i wr => ∃ k : Nat, k ≤ n ∧ i = .int .i64 k ∧ v = .int .i64 (wrap64 (sumTo vt k)) ∧ Kept No w wr) (fun _ i _ => n - (intOf i).toNat)
  case atStart => exact ⟨0, Nat.zero_le _, rfl, congrArg (Value.int .i64) w0, Kept.refl _ _⟩
  case round =>
    obtain ⟨k, hk, rfl, rfl, q⟩ := hrel
    obtain ⟨u, hu⟩ : ∃ u, u = wrap64 (sumTo vt k) := ⟨_, rfl⟩
    rw [← hu]
    have HU : Hid (u = wrap64 (sumTo vt k)) := hu
    clear hu
    by_cases hlt : k < n
    · obtain ⟨rfl, N⟩ := hnb (by omega)
      have N' := N.kept q (fun x => x)
      have c0 := N'.c0 k hlt
      have c1 := N'.c1 k hlt
      have c2 := N'.c2 k hlt
      have c3 := N'.c3 k hlt
      have c4 := N'.c4 k hlt
      have c5 := N'.c5 k hlt
      rw [if_pos hlt] at c0 c3
      have hl : (k : Int) < (n : Int) := by omega
      clear hnb
      go_wp2
      go_roundw
      case rel => exact ⟨k + 1, by omega, by go_num, by rw [HU.out, wrap_left]; rfl, q.trans (Kept.alloc _ _ _)⟩
      case measure => simp [intOf]; omega
    · obtain rfl : k = n := by omega
      go_wp2_with (go_at_call 22; refine (witness22 cb k nm vt has wt _ (h.kept q)).mono ?_; rintro e w' ⟨rfl, rfl⟩)
      go_ret
      exact ⟨ret_int (by rw [HU.out, wrap_left]), q⟩

/-- The nine cells of a Votes. -/
def vCells (h t nd : Int) (tb : ByteArray) (b : Bool) (lh lt ln : Int) (lb : Bool) : Array Value :=
  #[.int .i64 h, .int .i64 t, .int .i64 nd, .string tb, .bool b, .int .i64 lh, .int .i64 lt, .int .i64 ln, .bool lb]

/-- The state at the head of a round of CountVotes' loop. -/
structure CvSt (w wr : World) (vb : Nat) (h t nd : Int) (tb : ByteArray) : Prop where
  kept : Kept No w wr
  ge : w.heap.size < vb
  v : wr.heap[vb]? = some (.cells (vCells h t nd tb false 0 0 0 false) 33 (0, 0))
  r : wr.heap[w.heap.size]? = some (.cells (vCells 0 0 0 ⟨#[]⟩ false 0 0 0 false) 33 (0, 0))

theorem CvSt.d {w wr : World} {vb : Nat} {h t nd : Int} {tb : ByteArray} (S : CvSt w wr vb h t nd tb) (j : Nat) (v : Value) (hv : (vCells h t nd tb false 0 0 0 false)[j]? = some v) : wr.cell? ⟨vb, j, none⟩ = some v := by
  simp [World.cell?, S.v, hv]
theorem CvSt.f {w wr : World} {vb : Nat} {h t nd : Int} {tb : ByteArray} (S : CvSt w wr vb h t nd tb) (j : Nat) : wr.frozen? ⟨vb, j, none⟩ = false := by
  simp [World.frozen?, S.v]
theorem CvSt.lt {w wr : World} {vb : Nat} {h t nd : Int} {tb : ByteArray} (S : CvSt w wr vb h t nd tb) : vb < wr.heap.size := lt_of_block S.v
theorem CvSt.alloc {w wr : World} {vb : Nat} {h t nd : Int} {tb : ByteArray} (S : CvSt w wr vb h t nd tb) (o : Obj) : CvSt w (wr.alloc o) vb h t nd tb :=
  ⟨S.kept.trans (Kept.alloc _ _ _), S.ge, (Below.heap_alloc _ _ _ S.lt).trans S.v, (Below.heap_alloc _ _ _ (lt_of_block S.r)).trans S.r⟩
theorem CvSt.rd {w wr : World} {vb : Nat} {h t nd : Int} {tb : ByteArray} (S : CvSt w wr vb h t nd tb) (j : Nat) (v : Value) (hv : (vCells 0 0 0 ⟨#[]⟩ false 0 0 0 false)[j]? = some v) : wr.cell? ⟨w.heap.size, j, none⟩ = some v := by
  simp [World.cell?, S.r, hv]
theorem CvSt.rf {w wr : World} {vb : Nat} {h t nd : Int} {tb : ByteArray} (S : CvSt w wr vb h t nd tb) (j : Nat) : wr.frozen? ⟨w.heap.size, j, none⟩ = false := by
  simp [World.frozen?, S.r]
theorem setCell_block {w : World} {b : Nat} {cs : Array Value} {t : TypeId} (h : w.heap[b]? = some (.cells cs t (0, 0))) (j : Nat) (v : Value) : (w.setCell ⟨b, j, none⟩ v).heap[b]? = some (.cells (cs.setIfInBounds j v) t (0, 0)) := by
  have hlt := lt_of_block h
  have h' : w.heap[b] = .cells cs t (0, 0) := by simpa [Array.getElem?_eq_getElem hlt] using h
  show (w.heap.modify b _)[b]? = _
  rw [Array.getElem?_eq_getElem (by simpa using hlt), Array.getElem_modify_self, h']
  rfl
theorem CvSt.set {w wr : World} {vb : Nat} {h t nd : Int} {tb : ByteArray} (S : CvSt w wr vb h t nd tb) (h' : Int) : CvSt w (wr.setCell ⟨vb, 0, none⟩ (.int .i64 h')) vb h' t nd tb :=
  ⟨S.kept.setNew _ (Nat.le_of_lt S.ge) _, S.ge, setCell_block S.v 0 _, (Below.heap_setCell _ _ _ _ (by have := S.ge; show w.heap.size ≠ vb; omega)).trans S.r⟩

/-- A strict majority, as the program reckons it. -/
def need (t : Int) : Int := wrap64 (wrap64 (t.tdiv 2) + 1)
/-- Is the tie-breaker there and a member? -/
def tbHeld (tb : ByteArray) (mem : Nat → ByteArray) (m : Nat) : Bool := !tb.toList.isEmpty && hasTo mem m tb

set_option maxHeartbeats 1600000 in
theorem count21 (cb n m cm : Nat) (am : Option Addr) (nm mem : Nat → ByteArray) (vt : Nat → Int) (has : Bool) (wt : Int) (tb : ByteArray) (w : World) (hn : n ≤ 1048576) (hm : m ≤ 1048577) (h : IsCfg w cb n nm vt has wt) (hS : IsS w am m mem) :
    Calls Try.prog 21 #[.pointer (some ⟨cb, 0, none⟩), .slice am m cm, .string tb] w fun e w' => e = .returned (.agg (vCells (wrap64 (held nm vt n mem m)) (wrap64 (sumTo vt n + witOf has wt)) (need (wrap64 (sumTo vt n + witOf has wt))) tb (tbHeld tb mem m) 0 0 0 false)) ∧ Kept No w w' := by
  obtain ⟨na, nb, h5, hnb⟩ := h.nodes
  go_enter Try.func21, Try.ntmps21
  go_wp2_with fail
  refine (total23 cb n nm vt has wt _ hn (h.kept (Kept.alloc _ _ _))).mono ?_
  rintro e w1 ⟨rfl, q1⟩
  obtain ⟨t, ht⟩ : ∃ t, t = wrap64 (sumTo vt n + witOf has wt) := ⟨_, rfl⟩
  rw [← ht]
  have HT : Hid (t = wrap64 (sumTo vt n + witOf has wt)) := ht
  clear ht
  have Q1 : Kept No w w1 := (Kept.alloc _ _ _).trans q1
  have r1 : w1.heap[w.heap.size]? = some (.cells (vCells 0 0 0 ⟨#[]⟩ false 0 0 0 false) 33 (0, 0)) := (q1.block _ (by simp) (fun x => x)).trans (heap_alloc_new w _)
  have d5 := Q1.cell h5 (fun x => x)
  have hcb : cb < w1.heap.size := World.block_lt_of_cell? w1 _ d5
  have hws : w.heap.size < w1.heap.size := lt_of_block r1
  go_wp2_with fail
  go_loopw [24] (fun i wr => ∃ k : Nat, k ≤ n ∧ i = .int .i64 k ∧ CvSt w wr w1.heap.size (wrap64 (held nm vt k mem m)) t (need t) tb) (fun i _ => n - (intOf i).toNat)
  case atStart => exact ⟨0, Nat.zero_le _, rfl, ⟨Q1.trans (Kept.alloc _ _ _), hws, by rw [show wrap64 (held nm vt 0 mem m) = 0 from w0.symm]; exact heap_alloc_new w1 _, (Below.heap_alloc _ _ _ hws).trans r1⟩⟩
  case round =>
    obtain ⟨k, hk, rfl, S⟩ := hrel
    obtain ⟨u, hu⟩ : ∃ u, u = wrap64 (held nm vt k mem m) := ⟨_, rfl⟩
    rw [← hu] at S
    have HU : Hid (u = wrap64 (held nm vt k mem m)) := hu
    clear hu
    by_cases hlt : k < n
    · obtain ⟨rfl, N⟩ := hnb (by omega)
      have N' := N.kept S.kept (fun x => x)
      have c0 := N'.c0 k hlt
      have c1 := N'.c1 k hlt
      have c2 := N'.c2 k hlt
      have c3 := N'.c3 k hlt
      have c4 := N'.c4 k hlt
      have c5 := N'.c5 k hlt
      rw [if_pos hlt] at c0 c3
      have hl : (k : Int) < (n : Int) := by omega
      have d0 : wr.cell? ⟨w1.heap.size, 0, none⟩ = some (.int .i64 u) := S.d 0 _ rfl
      have f0 := S.f 0
      have hvb := S.lt
      have HS : Hid (∀ o, IsS (wr.alloc o) am m mem) := fun o => (S.kept.trans (Kept.alloc _ _ _)).isS hS
      clear hnb
      go_wp2_with (go_at_call 24; refine (contains24 am m cm mem _ _ hm (HS.out _)).mono ?_; rintro e w' ⟨rfl, rfl⟩)
      · have hh : hasTo mem m (nm k) = true := by assumption
        go_roundw
        case rel => exact ⟨k + 1, by omega, by go_num, by rw [show wrap64 (held nm vt (k + 1) mem m) = wrap64 (u + vt k) from by rw [HU.out, wrap_left]; simp only [held, sumTo]; rw [if_pos hh]]; exact (S.set _).alloc _⟩
        case measure => simp [intOf]; omega
      · have hh : ¬ hasTo mem m (nm k) = true := by rw [show hasTo mem m (nm k) = false by assumption]; simp
        go_roundw
        case rel => exact ⟨k + 1, by omega, by go_num, by rw [show wrap64 (held nm vt (k + 1) mem m) = u from by rw [HU.out]; simp only [held, sumTo]; rw [if_neg hh, Int.add_zero]]; exact S.alloc _⟩
        case measure => simp [intOf]; omega
    · obtain rfl : k = n := by omega
      have d0 : wr.cell? ⟨w1.heap.size, 0, none⟩ = some (.int .i64 u) := S.d 0 _ rfl
      have d1 : wr.cell? ⟨w1.heap.size, 1, none⟩ = some (.int .i64 t) := S.d 1 _ rfl
      have d2 : wr.cell? ⟨w1.heap.size, 2, none⟩ = some (.int .i64 (need t)) := S.d 2 _ rfl
      have d3 : wr.cell? ⟨w1.heap.size, 3, none⟩ = some (.string tb) := S.d 3 _ rfl
      have d4 : wr.cell? ⟨w1.heap.size, 4, none⟩ = some (.bool false) := S.d 4 _ rfl
      have d5 : wr.cell? ⟨w1.heap.size, 5, none⟩ = some (.int .i64 0) := S.d 5 _ rfl
      have d6 : wr.cell? ⟨w1.heap.size, 6, none⟩ = some (.int .i64 0) := S.d 6 _ rfl
      have d7 : wr.cell? ⟨w1.heap.size, 7, none⟩ = some (.int .i64 0) := S.d 7 _ rfl
      have d8 : wr.cell? ⟨w1.heap.size, 8, none⟩ = some (.bool false) := S.d 8 _ rfl
      have f4 := S.f 4
      have hvb := S.lt
      have r0' : wr.cell? ⟨w.heap.size, 0, none⟩ = some (.int .i64 0) := S.rd 0 _ rfl
      have g0 := S.rf 0
      have r1' : wr.cell? ⟨w.heap.size, 1, none⟩ = some (.int .i64 0) := S.rd 1 _ rfl
      have g1 := S.rf 1
      have r2' : wr.cell? ⟨w.heap.size, 2, none⟩ = some (.int .i64 0) := S.rd 2 _ rfl
      have g2 := S.rf 2
      have r3' : wr.cell? ⟨w.heap.size, 3, none⟩ = some (.string ⟨#[]⟩) := S.rd 3 _ rfl
      have g3 := S.rf 3
      have r4' : wr.cell? ⟨w.heap.size, 4, none⟩ = some (.bool false) := S.rd 4 _ rfl
      have g4 := S.rf 4
      have r5' : wr.cell? ⟨w.heap.size, 5, none⟩ = some (.int .i64 0) := S.rd 5 _ rfl
      have g5 := S.rf 5
      have r6' : wr.cell? ⟨w.heap.size, 6, none⟩ = some (.int .i64 0) := S.rd 6 _ rfl
      have g6 := S.rf 6
      have r7' : wr.cell? ⟨w.heap.size, 7, none⟩ = some (.int .i64 0) := S.rd 7 _ rfl
      have g7 := S.rf 7
      have r8' : wr.cell? ⟨w.heap.size, 8, none⟩ = some (.bool false) := S.rd 8 _ rfl
      have g8 := S.rf 8
      have HS : Hid (IsS wr am m mem) := S.kept.isS hS
      go_wp2_with (go_at_call 24; refine (contains24 am m cm mem _ _ hm HS.out).mono ?_; rintro e w' ⟨rfl, rfl⟩)
      · have he : tb.toList = [] := by assumption
        refine bodyPost_ret (v := .agg (vCells u t (need t) tb false 0 0 0 false)) (by simp [results, Try.results21, go_sem, vCells, r0', r1', r2', r3', r4', r5', r6', r7', r8', hws, Nat.ne_of_lt hws, Nat.ne_of_gt hws]) rfl ⟨?_, ?_⟩
        · rw [HU.out, HT.out, show tbHeld tb mem m = false by simp [tbHeld, he]]
        · refine ((((((((((S.kept.setNew _ ?_ _).setNew _ ?_ _).setNew _ ?_ _).setNew _ ?_ _).setNew _ ?_ _).setNew _ ?_ _).setNew _ ?_ _).setNew _ ?_ _).setNew _ ?_ _).setNew _ ?_ _)
          all_goals first | exact Nat.le_refl _ | exact Nat.le_of_lt hws
      · refine bodyPost_ret (v := .agg (vCells u t (need t) tb (tbHeld tb mem m) 0 0 0 false)) (by simp [results, Try.results21, go_sem, vCells, tbHeld, r0', r1', r2', r3', r4', r5', r6', r7', r8', hws, Nat.ne_of_lt hws, Nat.ne_of_gt hws]) rfl ⟨?_, ?_⟩
        · rw [HU.out, HT.out]
        · refine ((((((((((S.kept.setNew _ ?_ _).setNew _ ?_ _).setNew _ ?_ _).setNew _ ?_ _).setNew _ ?_ _).setNew _ ?_ _).setNew _ ?_ _).setNew _ ?_ _).setNew _ ?_ _).setNew _ ?_ _)
          all_goals first | exact Nat.le_refl _ | exact Nat.le_of_lt hws

end Go.Proofs.Qxb6616541a
