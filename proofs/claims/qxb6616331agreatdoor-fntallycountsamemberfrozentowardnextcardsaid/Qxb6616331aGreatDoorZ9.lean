/-
  THE WALKS of seat b6616331aZD, 9: zzCopyLists.
-/
import Derived.Test.Qxb6616331aGreatDoorZ4
namespace Go.Proofs.Qxb6616331aGreatDoor
open Go.RowKit
set_option linter.unusedVariables false
set_option linter.unusedSimpArgs false

/-- As IsLL, every block of it at or beyond h. -/
structure NewLL (w : World) (h : Nat) (a : Option Addr) (n : Nat) (xss : List (List Str)) : Prop where
  len : xss.length = n
  fresh : Fresh h a
  row : 0 < n → ∃ b off, a = some ⟨b, off, none⟩ ∧ ∀ i, i < n → ∃ ai ni ci, w.cell? ⟨b, off + i, none⟩ = some (.slice ai ni ci) ∧ IsL w ai ni (xss.getD i []) ∧ Fresh h ai
theorem NewLL.isLL {w : World} {h : Nat} {a : Option Addr} {n : Nat} {xss : List (List Str)} (H : NewLL w h a n xss) : IsLL w a n xss :=
  ⟨H.len, fun h0 => by
    obtain ⟨b, off, ha, hc⟩ := H.row h0
    refine ⟨b, off, ha, fun i hi => ?_⟩
    obtain ⟨ai, ni, ci, h1, h2, _⟩ := hc i hi
    exact ⟨ai, ni, ci, h1, h2⟩⟩
theorem NewLL.kept {w w' : World} {h : Nat} {a : Option Addr} {n : Nat} {xss : List (List Str)} (H : NewLL w h a n xss) (q : Kept w w') : NewLL w' h a n xss :=
  ⟨H.len, H.fresh, fun h0 => by
    obtain ⟨b, off, ha, hc⟩ := H.row h0
    refine ⟨b, off, ha, fun i hi => ?_⟩
    obtain ⟨ai, ni, ci, h1, h2, h3⟩ := hc i hi
    exact ⟨ai, ni, ci, q.cell h1, h2.kept q, h3⟩⟩
theorem NewLL.set {w : World} {h : Nat} {a : Option Addr} {n : Nat} {xss : List (List Str)} (H : NewLL w h a n xss) (k o : Nat) (v : Value) (hk : k < h) : NewLL (w.setCell ⟨k, o, none⟩ v) h a n xss :=
  ⟨H.len, H.fresh, fun h0 => by
    obtain ⟨b, off, ha, hc⟩ := H.row h0
    have hb : h ≤ b := H.fresh _ ha
    refine ⟨b, off, ha, fun i hi => ?_⟩
    obtain ⟨ai, ni, ci, h1, h2, h3⟩ := hc i hi
    refine ⟨ai, ni, ci, ?_, h2.set _ _ _ (h3.mono (by omega)), h3⟩
    rw [World.cell?_setCell_other w _ _ _ (fun e => by cases e; omega)]
    exact h1⟩

/-- The state at the head of a round: of the first k lists the copies lie in block w.heap.size. -/
structure LLSt (w wr : World) (n : Nat) (xss : List (List Str)) (k : Nat) : Prop where
  kept : Kept w wr
  lt : w.heap.size < wr.heap.size
  cells : ∀ i, i < n → ∃ a m c, wr.cell? ⟨w.heap.size, i, none⟩ = some (.slice a m c) ∧ (i < k → IsL wr a m (xss.getD i []) ∧ Fresh (w.heap.size + 1) a)
  free : ∀ o, wr.frozen? ⟨w.heap.size, o, none⟩ = false

theorem LLSt.start (w : World) (n : Nat) (xss : List (List Str)) : LLSt w (w.alloc (.cells (madeCells #[.slice none 0 0] n) 23)) n xss 0 := by
  refine ⟨Kept.alloc _ _, by simp, fun i hi => ⟨none, 0, 0, ?_, fun h => absurd h (Nat.not_lt_zero i)⟩, fun o => World.frozen?_alloc_new w _ 23 o⟩
  rw [World.cell?_alloc_new]
  simp [madeCells, hi, Nat.mod_one]

theorem LLSt.step {w wr w1 : World} {n : Nat} {xss : List (List Str)} {k : Nat} (S : LLSt w wr n xss k) (hk : k < n) (q : Kept wr w1) {a : Option Addr} {m c : Nat} (hL : IsL w1 a m (xss.getD k [])) (f : Fresh (w.heap.size + 1) a) :
    LLSt w (w1.setCell ⟨w.heap.size, k, none⟩ (.slice a m c)) n xss (k + 1) := by
  have hs := q.size
  have hlt := S.lt
  refine ⟨(S.kept.trans q).setNew _ (Nat.le_refl _) _, by simp; omega, fun i hi => ?_, fun o => ?_⟩
  · by_cases e : i = k
    · subst e
      obtain ⟨a0, m0, c0, h0, -⟩ := S.cells i hi
      exact ⟨a, m, c, World.cell?_setCell_same _ _ _ (q.cell h0), fun _ => ⟨hL.set _ _ _ f, f⟩⟩
    · obtain ⟨a0, m0, c0, h0, g0⟩ := S.cells i hi
      refine ⟨a0, m0, c0, ?_, fun h => ?_⟩
      · rw [World.cell?_setCell_other _ _ _ _ (fun e' => e (by cases e'; rfl))]
        exact q.cell h0
      · obtain ⟨g1, g2⟩ := g0 (by omega)
        exact ⟨(g1.kept q).set _ _ _ g2, g2⟩
  · have := q.free (p := ⟨w.heap.size, o, none⟩) hlt (S.free o)
    simpa using this

set_option maxHeartbeats 1600000 in
theorem copyLists35 (a : Option Addr) (n c : Nat) (xss : List (List Str)) (w : World) (hn : n ≤ 1048576) (hL : IsLL w a n xss) (hs : ∀ l ∈ xss, l.length ≤ 1048576) :
    Calls Tryz.prog 35 #[.slice a n c] w fun e w' => (∃ a' c', e = .returned (.slice a' n c') ∧ NewLL w' w.heap.size a' n xss ∧ n ≤ c') ∧ Kept w w' := by
  have hq := fun w => Lib.run_eql_slice_nil (P := Tryz.prog) w 29 23 a n c 0 0 Tryz.underlying29
  cases a with
  | none =>
    obtain rfl : n = 0 := by
      rcases Nat.eq_zero_or_pos n with h | h
      · exact h
      · obtain ⟨b, off, h', _⟩ := hL.row h
        cases h'
    go_enter Tryz.func35, Tryz.ntmps35
    go_wp2
    go_ret
    exact ⟨⟨none, 0, rfl, ⟨hL.len, (fun x e => by cases e), fun h => absurd h (Nat.lt_irrefl _)⟩, Nat.le_refl _⟩, Kept.refl _⟩
  | some x =>
    have hmk := run_make_row' (P := Tryz.prog) 29 23 (.slice none 0 0) 24 Tryz.underlying29 Tryz.info23 rfl .i64 .i64 n (by omega) (by omega)
    have hlen := hL.len
    go_enter Tryz.func35, Tryz.ntmps35
    go_wp2
    clear hmk hq
    go_loopw [4] (fun i wr => ∃ k : Nat, k ≤ n ∧ i = .int .i64 k ∧ LLSt w wr n xss k) (fun i _ => n - (intOf i).toNat)
    case atStart => exact ⟨0, Nat.zero_le _, rfl, LLSt.start w n xss⟩
    case round =>
      obtain ⟨k, hk, rfl, S⟩ := hrel
      by_cases hlt : k < n
      · obtain ⟨b, off, ha, hc⟩ := hL.row (by omega)
        cases ha
        obtain ⟨ai, ni, ci, c0, hLi⟩ := hc k hlt
        have c0' := S.kept.cell c0
        have hLi' := hLi.kept S.kept
        have hni := getD_small hs k
        rw [hLi.len] at hni
        have hl : (k : Int) < (n : Int) := by omega
        clear hc hL c0 hLi
        go_wp2_with fail
        refine (copyStrs10 ai ni ci _ _ (by omega) hLi').mono ?_
        rintro e w1 ⟨⟨a1, c1, rfl, L1, F1, -⟩, q1⟩
        obtain ⟨a0, m0, k0, h0, -⟩ := S.cells k hlt
        have d0 := q1.cell h0
        have f0 := q1.free (p := ⟨w.heap.size, k, none⟩) S.lt (S.free k)
        have HS : Hid (LLSt w (w1.setCell ⟨w.heap.size, k, none⟩ (.slice a1 ni c1)) n xss (k + 1)) := S.step hlt q1 L1 (F1.mono S.lt)
        clear h0 c0' hLi' S q1 L1 F1 hlen
        go_wp2
        go_roundw
        case rel => exact ⟨k + 1, by omega, by go_num, HS.out⟩
        case measure => simp [intOf]; omega
      · obtain rfl : n = k := by omega
        have hl : ¬ (n : Int) < (n : Int) := by omega
        have HS : Hid (LLSt w wr n xss n) := S
        clear S
        go_wp2
        go_ret
        refine ⟨⟨_, _, rfl, ⟨hlen, (fun x e => by cases e; exact Nat.le_refl _), fun _ => ⟨_, 0, rfl, fun i hi => ?_⟩⟩, Nat.le_refl _⟩, HS.out.kept⟩
        obtain ⟨a0, m0, k0, h0, g0⟩ := HS.out.cells i hi
        exact ⟨a0, m0, k0, by rw [Nat.zero_add]; exact h0, (g0 hi).1, (g0 hi).2.mono (Nat.le_succ _)⟩

end Go.Proofs.Qxb6616331aGreatDoor
