/-
  THE WALKS of seat b6616614a, 3: ZZleafTimes.
-/
import Derived.Test.Qxb6616614aT2
import Derived.RegionTactic
namespace Go.Proofs.Qxb6616614a
open Go.RowKit
set_option linter.unusedVariables false
set_option linter.unusedSimpArgs false

/-- A slice of int64 reads as ts 0, .., ts (n - 1), each within its kind. -/
structure IsT (w : World) (a : Option Addr) (n : Nat) (ts : Nat → Int) : Prop where
  row : 0 < n → ∃ b off, a = some ⟨b, off, none⟩ ∧ ∀ i, i < n → w.cell? ⟨b, off + i, none⟩ = some (.int .i64 (ts i))
  lo : ∀ i, i < n → -9223372036854775808 ≤ ts i
  hi : ∀ i, i < n → ts i ≤ 9223372036854775807
theorem Kept.isT {w w' : World} (h : Kept w w') {a : Option Addr} {n : Nat} {ts : Nat → Int} (hT : IsT w a n ts) : IsT w' a n ts := by
  refine ⟨fun h0 => ?_, hT.lo, hT.hi⟩
  obtain ⟨b, off, ha, hc⟩ := hT.row h0
  exact ⟨b, off, ha, fun i hi => h.cell (hc i hi)⟩

/-- An entry's five cells. -/
def entryCells (n s : Int) : Array Value := #[.int .u64 n, .int .i64 s, .pointer none, .int .i64 0, .pointer none]
theorem Try.info50 : (Try.prog.info? 50).map (fun i => (i.zero, i.size, i.bytes)) = some (some (.agg (entryCells 0 0)), 5, 40) := by kernel_rfl

/-- Block eb holds n entries: of the first k the time, of the rest none. -/
structure EntriesTo (w : World) (eb n : Nat) (ts : Nat → Int) (k : Nat) : Prop where
  c0 : ∀ i, i < n → w.cell? ⟨eb, i * 5, none⟩ = some (.int .u64 (if i < k then ts i % 1000000000 else 0))
  c1 : ∀ i, i < n → w.cell? ⟨eb, i * 5 + 1, none⟩ = some (.int .i64 (if i < k then ts i / 1000000000 else 0))
  c2 : ∀ i, i < n → w.cell? ⟨eb, i * 5 + 2, none⟩ = some (.pointer none)
  c3 : ∀ i, i < n → w.cell? ⟨eb, i * 5 + 3, none⟩ = some (.int .i64 0)
  c4 : ∀ i, i < n → w.cell? ⟨eb, i * 5 + 4, none⟩ = some (.pointer none)

theorem EntriesTo.kept {w w' : World} {eb n : Nat} {ts : Nat → Int} {k : Nat} (h : EntriesTo w eb n ts k) (q : Kept w w') : EntriesTo w' eb n ts k :=
  ⟨fun i hi => q.cell (h.c0 i hi), fun i hi => q.cell (h.c1 i hi), fun i hi => q.cell (h.c2 i hi), fun i hi => q.cell (h.c3 i hi), fun i hi => q.cell (h.c4 i hi)⟩

theorem other {w : World} {nb a b : Nat} {v u : Value} (h : w.cell? ⟨nb, b, none⟩ = some u) (hne : a ≠ b) : (w.setCell ⟨nb, a, none⟩ v).cell? ⟨nb, b, none⟩ = some u := by
  rw [World.cell?_setCell_other w _ _ _ (fun e => hne (by cases e; rfl))]; exact h
theorem same {w : World} {nb a : Nat} {v u : Value} (h : w.cell? ⟨nb, a, none⟩ = some u) : (w.setCell ⟨nb, a, none⟩ v).cell? ⟨nb, a, none⟩ = some v := World.cell?_setCell_same w _ _ h

/-- An entry laid over element k. -/
def setEntry (w : World) (eb k : Nat) (n s : Int) : World :=
  ((((w.setCell ⟨eb, k * 5, none⟩ (.int .u64 n)).setCell ⟨eb, k * 5 + 1, none⟩ (.int .i64 s)).setCell ⟨eb, k * 5 + 2, none⟩ (.pointer none)).setCell ⟨eb, k * 5 + 3, none⟩ (.int .i64 0)).setCell ⟨eb, k * 5 + 4, none⟩ (.pointer none)
theorem setEntry_other {w : World} {eb k : Nat} {n s : Int} {b : Nat} {u : Value} (h : w.cell? ⟨eb, b, none⟩ = some u) (h0 : k * 5 ≠ b) (h1 : k * 5 + 1 ≠ b) (h2 : k * 5 + 2 ≠ b) (h3 : k * 5 + 3 ≠ b) (h4 : k * 5 + 4 ≠ b) :
    (setEntry w eb k n s).cell? ⟨eb, b, none⟩ = some u := other (other (other (other (other h h0) h1) h2) h3) h4

theorem EntriesTo.step {w : World} {eb n : Nat} {ts : Nat → Int} {k : Nat} (h : EntriesTo w eb n ts k) (hk : k < n) : EntriesTo (setEntry w eb k (ts k % 1000000000) (ts k / 1000000000)) eb n ts (k + 1) := by
  have far : ∀ i j, i < n → j < 5 → i ≠ k → ∀ u, w.cell? ⟨eb, i * 5 + j, none⟩ = some u → (setEntry w eb k (ts k % 1000000000) (ts k / 1000000000)).cell? ⟨eb, i * 5 + j, none⟩ = some u := fun i j hi hj hne u hu =>
    setEntry_other hu (by omega) (by omega) (by omega) (by omega) (by omega)
  refine ⟨fun i hi => ?_, fun i hi => ?_, fun i hi => ?_, fun i hi => ?_, fun i hi => ?_⟩
  · by_cases e : i = k
    · subst e
      rw [if_pos (by omega)]
      exact other (other (other (other (same (h.c0 i hi)) (by omega)) (by omega)) (by omega)) (by omega)
    · rw [show i * 5 = i * 5 + 0 from rfl, far i 0 hi (by omega) e _ (h.c0 i hi)]
      by_cases c : i < k
      · rw [if_pos c, if_pos (by omega)]
      · rw [if_neg c, if_neg (by omega)]
  · by_cases e : i = k
    · subst e
      rw [if_pos (by omega)]
      exact other (other (other (same (other (h.c1 i hi) (by omega))) (by omega)) (by omega)) (by omega)
    · rw [far i 1 hi (by omega) e _ (h.c1 i hi)]
      by_cases c : i < k
      · rw [if_pos c, if_pos (by omega)]
      · rw [if_neg c, if_neg (by omega)]
  · by_cases e : i = k
    · subst e
      exact other (other (same (other (other (h.c2 i hi) (by omega)) (by omega))) (by omega)) (by omega)
    · exact far i 2 hi (by omega) e _ (h.c2 i hi)
  · by_cases e : i = k
    · subst e
      exact other (same (other (other (other (h.c3 i hi) (by omega)) (by omega)) (by omega))) (by omega)
    · exact far i 3 hi (by omega) e _ (h.c3 i hi)
  · by_cases e : i = k
    · subst e
      exact same (other (other (other (other (h.c4 i hi) (by omega)) (by omega)) (by omega)) (by omega))
    · exact far i 4 hi (by omega) e _ (h.c4 i hi)

theorem zeroRow_cell (n i j : Nat) (hi : i < n) (hj : j < 5) : (madeCells (entryCells 0 0) (n * 5))[i * 5 + j]? = (entryCells 0 0)[j]? := by
  have h1 : i * 5 + j < n * 5 := by omega
  have h2 : (i * 5 + j) % 5 = j := by omega
  have h3 : (entryCells 0 0).size = 5 := rfl
  simp only [madeCells]
  rw [Array.getElem?_map, Array.getElem?_range]
  simp only [h1, if_true, Option.map_some, h3, h2]
  match j, hj with
  | 0, _ => rfl
  | 1, _ => rfl
  | 2, _ => rfl
  | 3, _ => rfl
  | 4, _ => rfl

/-- The state at the head of a round of ZZleafTimes' loop. -/
structure LeafSt (w wr : World) (n : Nat) (ts : Nat → Int) (k : Nat) : Prop where
  kept : Kept w wr
  lt : w.heap.size < wr.heap.size
  es : EntriesTo wr w.heap.size n ts k
  free : ∀ o, wr.frozen? ⟨w.heap.size, o, none⟩ = false

theorem LeafSt.start (w : World) (n : Nat) (ts : Nat → Int) : LeafSt w (w.alloc (.cells (madeCells (entryCells 0 0) (n * 5)) 50)) n ts 0 := by
  have key : ∀ i j, i < n → j < 5 → (w.alloc (.cells (madeCells (entryCells 0 0) (n * 5)) 50)).cell? ⟨w.heap.size, i * 5 + j, none⟩ = (entryCells 0 0)[j]? := fun i j hi hj => by
    rw [← zeroRow_cell n i j hi hj]
    rw [World.cell?_alloc_new]
  exact ⟨Kept.alloc _ _, by simp, ⟨fun i hi => key i 0 hi (by omega), fun i hi => key i 1 hi (by omega), fun i hi => key i 2 hi (by omega), fun i hi => key i 3 hi (by omega), fun i hi => key i 4 hi (by omega)⟩, fun o => World.frozen?_alloc_new w _ 50 o⟩

theorem LeafSt.step {w wr w1 : World} {n : Nat} {ts : Nat → Int} {k : Nat} (S : LeafSt w wr n ts k) (hk : k < n) (q : Kept wr w1) : LeafSt w (setEntry w1 w.heap.size k (ts k % 1000000000) (ts k / 1000000000)) n ts (k + 1) := by
  have hs := q.size
  refine ⟨((((((S.kept.trans q).setNew _ (Nat.le_refl _) _).setNew _ (Nat.le_refl _) _).setNew _ (Nat.le_refl _) _).setNew _ (Nat.le_refl _) _).setNew _ (Nat.le_refl _) _), by have := S.lt; simp [setEntry]; omega, (S.es.kept q).step hk, fun o => ?_⟩
  have := q.free (p := ⟨w.heap.size, o, none⟩) S.lt (S.free o)
  simpa [setEntry] using this

/-- Block nb is a leaf over the times ts. -/
structure IsLeaf (w : World) (nb n : Nat) (ts : Nat → Int) : Prop where
  es : ∃ eb, w.cell? ⟨nb, 0, none⟩ = some (.slice (some ⟨eb, 0, none⟩) n n) ∧ EntriesTo w eb n ts n
  br : w.cell? ⟨nb, 2, none⟩ = some (.slice none 0 0)
theorem IsLeaf.kept {w w' : World} {nb n : Nat} {ts : Nat → Int} (h : IsLeaf w nb n ts) (q : Kept w w') : IsLeaf w' nb n ts := by
  obtain ⟨eb, h0, hE⟩ := h.es
  exact ⟨⟨eb, q.cell h0, hE.kept q⟩, q.cell h.br⟩

set_option maxHeartbeats 800000 in
theorem leaf10 (a : Option Addr) (n c : Nat) (ts : Nat → Int) (w : World) (hn : n ≤ 131072) (hT : IsT w a n ts) :
    Calls Try.prog 10 #[.slice a n c] w fun e w' => ∃ nb, e = .returned (.pointer (some ⟨nb, 0, none⟩)) ∧ IsLeaf w' nb n ts ∧ Kept w w' := by
  obtain ⟨i0, hi, hz0, hz1, hz2⟩ := info_parts Try.info50
  have hmk : ∀ w : World, (Instr.makeSlice 41 (.int .i64 (n : Int)) (.int .i64 (n : Int))).run Try.prog w = .ok (.slice (some ⟨w.heap.size, 0, none⟩) n n) (w.alloc (.cells (madeCells (entryCells 0 0) (n * 5)) 50)) := fun w => by
    have := run_make (P := Try.prog) w 41 50 i0 _ Try.underlying41 hi hz0 .i64 .i64 n n (by omega) (by omega) (by rw [hz2]; omega) (by omega)
    rw [hz1] at this
    simpa [Value.cells] using this
  clear hz0 hz1 hz2 hi
  go_enter Try.func10, Try.ntmps10
  go_wp2
  clear hmk
  go_loopw [4] (fun i wr => ∃ k : Nat, k ≤ n ∧ i = .int .i64 k ∧ LeafSt w wr n ts k) (fun i _ => n - (intOf i).toNat)
  case atStart => exact ⟨0, Nat.zero_le _, rfl, LeafSt.start w n ts⟩
  case round =>
    obtain ⟨k, hk, rfl, S⟩ := hrel
    by_cases hlt : k < n
    · obtain ⟨b, off, rfl, hc⟩ := hT.row (by omega)
      have c0 := S.kept.cell (hc k hlt)
      have l0 := hT.lo k hlt
      have l1 := hT.hi k hlt
      have hl : (k : Int) < (n : Int) := by omega
      clear hc
      go_wp2_with fail
      refine (time17 (ts k) _ l0 l1).mono ?_
      rintro e w1 ⟨rfl, q1⟩
      have S' := S.step hlt q1
      have E1 := S.es.kept q1
      have d0 := E1.c0 k hlt
      have d1 := E1.c1 k hlt
      have d2 := E1.c2 k hlt
      have d3 := E1.c3 k hlt
      have d4 := E1.c4 k hlt
      have fr : ∀ o, w1.frozen? ⟨w.heap.size, o, none⟩ = false := fun o => q1.free (p := ⟨w.heap.size, o, none⟩) S.lt (S.free o)
      have f0 := fr (k * 5)
      have f1 := fr (k * 5 + 1)
      have f2 := fr (k * 5 + 2)
      have f3 := fr (k * 5 + 3)
      have f4 := fr (k * 5 + 4)
      obtain ⟨N, hN⟩ : ∃ N, N = ts k % 1000000000 := ⟨_, rfl⟩
      obtain ⟨SS, hSS⟩ : ∃ SS, SS = ts k / 1000000000 := ⟨_, rfl⟩
      rw [show tmOf (ts k) = .agg #[.int .u64 N, .int .i64 SS, .pointer none] by rw [hN, hSS]; rfl]
      rw [← hN, ← hSS] at S'
      have HS' : Hid (LeafSt w (setEntry w1 w.heap.size k N SS) n ts (k + 1)) := S'
      clear S' hN hSS fr E1 c0 l0 l1
      go_wp2
      go_roundw
      case rel => exact ⟨k + 1, by omega, by go_num, HS'.out⟩
      case measure => simp [intOf]; omega
    · obtain rfl : k = n := by omega
      go_wp2
      go_ret
      refine ⟨_, rfl, ⟨⟨w.heap.size, ?_, S.es.kept (Kept.alloc _ _)⟩, ?_⟩, S.kept.more _⟩
      · simp
      · simp

end Go.Proofs.Qxb6616614a
