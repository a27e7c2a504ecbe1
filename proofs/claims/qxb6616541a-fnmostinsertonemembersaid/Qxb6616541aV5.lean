/-
  THE WALKS of seat b6616541a, 5: zzConfig.
-/
import Derived.Test.Qxb6616541aV4
import Derived.RegionTactic
namespace Go.Proofs.Qxb6616541a
open Go.RowKit
set_option linter.unusedVariables false
set_option linter.unusedSimpArgs false

/-- Of the blocks that w had, at most those in S have turned; streams and tape stand. -/
structure Kept (S : Nat → Prop) (w w' : World) : Prop where
  os : w'.os = w.os
  tape : w'.tape = w.tape
  output : w'.output = w.output
  size : w.heap.size ≤ w'.heap.size
  block : ∀ k, k < w.heap.size → ¬ S k → w'.heap[k]? = w.heap[k]?

/-- No old block has turned. -/
def No (_ : Nat) : Prop := False

theorem Kept.refl (S : Nat → Prop) (w : World) : Kept S w w := ⟨rfl, rfl, rfl, Nat.le_refl _, fun _ _ _ => rfl⟩
theorem Kept.trans {S : Nat → Prop} {a b c : World} (h : Kept S a b) (k : Kept S b c) : Kept S a c :=
  ⟨k.os.trans h.os, k.tape.trans h.tape, k.output.trans h.output, Nat.le_trans h.size k.size, fun i hi hs => (k.block i (Nat.lt_of_lt_of_le hi h.size) hs).trans (h.block i hi hs)⟩
theorem Kept.drewN (S : Nat → Prop) (w : World) (q : Nat) : Kept S w (w.drewN q) := ⟨rfl, rfl, rfl, Nat.le_refl _, fun _ _ _ => rfl⟩
theorem Kept.drew (S : Nat → Prop) (w : World) : Kept S w w.drew := ⟨rfl, rfl, rfl, Nat.le_refl _, fun _ _ _ => rfl⟩
theorem Kept.alloc (S : Nat → Prop) (w : World) (o : Obj) : Kept S w (w.alloc o) := ⟨rfl, rfl, rfl, by simp, fun k hk _ => Below.heap_alloc _ _ _ hk⟩
theorem Kept.setNew {w w' : World} (h : Kept No w w') (p : Addr) (hp : w.heap.size ≤ p.block) (v : Value) : Kept No w (w'.setCell p v) :=
  ⟨h.os, h.tape, h.output, by simpa using h.size, fun k hk hs => (Below.heap_setCell _ _ _ _ (by omega)).trans (h.block k hk hs)⟩
theorem Kept.below {S : Nat → Prop} {w w' : World} (h : Kept S w w') {B : Nat} (hB : B ≤ w.heap.size) (hS : ∀ k, k < B → ¬ S k) : Below B w w' :=
  ⟨h.os, h.tape, h.output, h.size, fun k hk => h.block k (by omega) (hS k hk)⟩
theorem Kept.cell {S : Nat → Prop} {w w' : World} (h : Kept S w w') {p : Addr} {v : Value} (hc : w.cell? p = some v) (hs : ¬ S p.block) : w'.cell? p = some v :=
  (World.cell?_of_block (h.block p.block (World.block_lt_of_cell? w p hc) hs)).trans hc
theorem Kept.isS {w w' : World} (h : Kept No w w') {a : Option Addr} {n : Nat} {mem : Nat → ByteArray} (hS : IsS w a n mem) : IsS w' a n mem := fun h0 => by
  obtain ⟨b, off, ha, hc⟩ := hS h0
  exact ⟨b, off, ha, fun i hi => h.cell (hc i hi) (fun x => x)⟩
theorem Kept.isN {w w' : World} (h : Kept No w w') {a : Option Addr} {n : Nat} {nm : Nat → ByteArray} {vt : Nat → Int} (hN : IsN w a n nm vt) : IsN w' a n nm vt := fun h0 => by
  obtain ⟨b, off, ha, hc⟩ := hN h0
  exact ⟨b, off, ha, fun i hi => ⟨h.cell (hc i hi).1 (fun x => x), h.cell (hc i hi).2 (fun x => x)⟩⟩

/-- A node's six cells. -/
def nodeCells (nm : ByteArray) (vt : Int) : Array Value := #[.string nm, .slice none 0 0, .string ⟨#[]⟩, .int .i64 vt, .string ⟨#[]⟩, .map none]
theorem Try.info59 : (Try.prog.info? 59).map (fun i => (i.zero, i.size, i.bytes)) = some (some (.agg (nodeCells ⟨#[]⟩ 0)), 6, 88) := by kernel_rfl

/-- Block nb holds n nodes: of the first k name and votes, of the rest none. -/
structure NodesTo (w : World) (nb n : Nat) (nm : Nat → ByteArray) (vt : Nat → Int) (k : Nat) : Prop where
  c0 : ∀ i, i < n → w.cell? ⟨nb, i * 6, none⟩ = some (.string (if i < k then nm i else ⟨#[]⟩))
  c1 : ∀ i, i < n → w.cell? ⟨nb, i * 6 + 1, none⟩ = some (.slice none 0 0)
  c2 : ∀ i, i < n → w.cell? ⟨nb, i * 6 + 2, none⟩ = some (.string ⟨#[]⟩)
  c3 : ∀ i, i < n → w.cell? ⟨nb, i * 6 + 3, none⟩ = some (.int .i64 (if i < k then vt i else 0))
  c4 : ∀ i, i < n → w.cell? ⟨nb, i * 6 + 4, none⟩ = some (.string ⟨#[]⟩)
  c5 : ∀ i, i < n → w.cell? ⟨nb, i * 6 + 5, none⟩ = some (.map none)

theorem NodesTo.kept {S : Nat → Prop} {w w' : World} {nb n : Nat} {nm : Nat → ByteArray} {vt : Nat → Int} {k : Nat} (h : NodesTo w nb n nm vt k) (q : Kept S w w') (hs : ¬ S nb) : NodesTo w' nb n nm vt k :=
  ⟨fun i hi => q.cell (h.c0 i hi) hs, fun i hi => q.cell (h.c1 i hi) hs, fun i hi => q.cell (h.c2 i hi) hs, fun i hi => q.cell (h.c3 i hi) hs, fun i hi => q.cell (h.c4 i hi) hs, fun i hi => q.cell (h.c5 i hi) hs⟩

theorem other {w : World} {nb a b : Nat} {v u : Value} (h : w.cell? ⟨nb, b, none⟩ = some u) (hne : a ≠ b) : (w.setCell ⟨nb, a, none⟩ v).cell? ⟨nb, b, none⟩ = some u := by
  rw [World.cell?_setCell_other w _ _ _ (fun e => hne (by cases e; rfl))]; exact h
theorem same {w : World} {nb a : Nat} {v u : Value} (h : w.cell? ⟨nb, a, none⟩ = some u) : (w.setCell ⟨nb, a, none⟩ v).cell? ⟨nb, a, none⟩ = some v := World.cell?_setCell_same w _ _ h

theorem NodesTo.step {w : World} {nb n : Nat} {nm : Nat → ByteArray} {vt : Nat → Int} {k : Nat} (h : NodesTo w nb n nm vt k) (hk : k < n) :
    NodesTo ((w.setCell ⟨nb, k * 6, none⟩ (.string (nm k))).setCell ⟨nb, k * 6 + 3, none⟩ (.int .i64 (vt k))) nb n nm vt (k + 1) := by
  refine ⟨fun i hi => ?_, fun i hi => other (other (h.c1 i hi) (by omega)) (by omega), fun i hi => other (other (h.c2 i hi) (by omega)) (by omega), fun i hi => ?_, fun i hi => other (other (h.c4 i hi) (by omega)) (by omega), fun i hi => other (other (h.c5 i hi) (by omega)) (by omega)⟩
  · by_cases e : i = k
    · subst e
      rw [if_pos (by omega)]
      exact other (same (h.c0 i hi)) (by omega)
    · have := other (v := .int .i64 (vt k)) (a := k * 6 + 3) (other (v := .string (nm k)) (a := k * 6) (h.c0 i hi) (by omega)) (by omega)
      rw [this]
      by_cases c : i < k
      · rw [if_pos c, if_pos (by omega)]
      · rw [if_neg c, if_neg (by omega)]
  · by_cases e : i = k
    · subst e
      rw [if_pos (by omega)]
      exact same (other (h.c3 i hi) (by omega))
    · have := other (v := .int .i64 (vt k)) (a := k * 6 + 3) (other (v := .string (nm k)) (a := k * 6) (h.c3 i hi) (by omega)) (by omega)
      rw [this]
      by_cases c : i < k
      · rw [if_pos c, if_pos (by omega)]
      · rw [if_neg c, if_neg (by omega)]

theorem zeroRow_cell (n i j : Nat) (hi : i < n) (hj : j < 6) : (madeCells (nodeCells ⟨#[]⟩ 0) (n * 6))[i * 6 + j]? = (nodeCells ⟨#[]⟩ 0)[j]? := by
  have h1 : i * 6 + j < n * 6 := by omega
  have h2 : (i * 6 + j) % 6 = j := by omega
  have h3 : (nodeCells ⟨#[]⟩ 0).size = 6 := rfl
  simp only [madeCells]
  rw [Array.getElem?_map, Array.getElem?_range]
  simp only [h1, if_true, Option.map_some, h3, h2]
  match j, hj with
  | 0, _ => rfl
  | 1, _ => rfl
  | 2, _ => rfl
  | 3, _ => rfl
  | 4, _ => rfl
  | 5, _ => rfl

theorem nodes_zero (w : World) (n : Nat) (nm : Nat → ByteArray) (vt : Nat → Int) : NodesTo (w.alloc (.cells (madeCells (nodeCells ⟨#[]⟩ 0) (n * 6)) 59)) w.heap.size n nm vt 0 := by
  have key : ∀ i j, i < n → j < 6 → (w.alloc (.cells (madeCells (nodeCells ⟨#[]⟩ 0) (n * 6)) 59)).cell? ⟨w.heap.size, i * 6 + j, none⟩ = (nodeCells ⟨#[]⟩ 0)[j]? := fun i j hi hj => by
    rw [← zeroRow_cell n i j hi hj]
    rw [World.cell?_alloc_new]
  refine ⟨fun i hi => key i 0 hi (by omega), fun i hi => key i 1 hi (by omega), fun i hi => key i 2 hi (by omega), fun i hi => key i 3 hi (by omega), fun i hi => key i 4 hi (by omega), fun i hi => key i 5 hi (by omega)⟩

/-- The configuration's eleven cells: its nodes (na, n), its witness wp. -/
def cfgCells (na : Option Addr) (n : Nat) (wp : Option Addr) : Array Value :=
  #[.string ⟨#[]⟩, .string ⟨#[]⟩, .int .i64 0, .int .i64 0, .string ⟨#[]⟩, .slice na n n, .pointer wp, .pointer none, .slice none 0 0, .slice none 0 0, .bool false]

/-- The state at the head of a round of zzConfig's loop. -/
structure CfgSt (w wr : World) (n : Nat) (nm : Nat → ByteArray) (vt : Nat → Int) (k : Nat) : Prop where
  kept : Kept No w wr
  size : wr.heap.size = w.heap.size + 2
  cfg : wr.heap[w.heap.size]? = some (.cells (cfgCells (some ⟨w.heap.size + 1, 0, none⟩) n none) 55 (0, 0))
  nodes : NodesTo wr (w.heap.size + 1) n nm vt k
  free : ∀ o, wr.frozen? ⟨w.heap.size + 1, o, none⟩ = false

theorem CfgSt.start (w : World) (n : Nat) (nm : Nat → ByteArray) (vt : Nat → Int) :
    CfgSt w ((w.alloc (.cells (cfgCells (some ⟨w.heap.size + 1, 0, none⟩) n none) 55)).alloc (.cells (madeCells (nodeCells ⟨#[]⟩ 0) (n * 6)) 59)) n nm vt 0 := by
  refine ⟨(Kept.alloc _ _ _).trans (Kept.alloc _ _ _), by simp, ?_, ?_, fun o => ?_⟩
  · rw [Below.heap_alloc _ _ _ (by simp)]; exact heap_alloc_new w _
  · have := nodes_zero (w.alloc (.cells (cfgCells (some ⟨w.heap.size + 1, 0, none⟩) n none) 55)) n nm vt
    simpa using this
  · have := World.frozen?_alloc_new (w.alloc (.cells (cfgCells (some ⟨w.heap.size + 1, 0, none⟩) n none) 55)) (madeCells (nodeCells ⟨#[]⟩ 0) (n * 6)) 59 o
    rw [World.size_alloc] at this
    exact this

theorem CfgSt.c5 {w wr : World} {n : Nat} {nm : Nat → ByteArray} {vt : Nat → Int} {k : Nat} (h : CfgSt w wr n nm vt k) : wr.cell? ⟨w.heap.size, 5, none⟩ = some (.slice (some ⟨w.heap.size + 1, 0, none⟩) n n) := by
  simp [World.cell?, h.cfg, cfgCells]

theorem CfgSt.step {w wr : World} {n : Nat} {nm : Nat → ByteArray} {vt : Nat → Int} {k : Nat} (h : CfgSt w wr n nm vt k) (hk : k < n) :
    CfgSt w ((wr.setCell ⟨w.heap.size + 1, k * 6, none⟩ (.string (nm k))).setCell ⟨w.heap.size + 1, k * 6 + 3, none⟩ (.int .i64 (vt k))) n nm vt (k + 1) := by
  refine ⟨(h.kept.setNew _ (by simp) _).setNew _ (by simp) _, by simpa using h.size, ?_, h.nodes.step hk, fun o => by simpa using h.free o⟩
  rw [Below.heap_setCell _ _ _ _ (by simp), Below.heap_setCell _ _ _ _ (by simp)]
  exact h.cfg
theorem CfgSt.drew {w wr : World} {n : Nat} {nm : Nat → ByteArray} {vt : Nat → Int} {k : Nat} (h : CfgSt w wr n nm vt k) : CfgSt w wr.drew n nm vt k :=
  ⟨h.kept.trans (Kept.drew _ _), h.size, h.cfg, h.nodes.kept (S := No) (Kept.drew _ _) (fun x => x), h.free⟩

/-- Block cb is a configuration of n nodes; has, wt: its witness. -/
structure IsCfg (w : World) (cb n : Nat) (nm : Nat → ByteArray) (vt : Nat → Int) (has : Bool) (wt : Int) : Prop where
  nodes : ∃ na nb, w.cell? ⟨cb, 5, none⟩ = some (.slice na n n) ∧ (0 < n → na = some ⟨nb, 0, none⟩ ∧ NodesTo w nb n nm vt n)
  wit : (has = true ∧ ∃ wb, w.cell? ⟨cb, 6, none⟩ = some (.pointer (some ⟨wb, 0, none⟩)) ∧ w.cell? ⟨wb, 1, none⟩ = some (.int .i64 wt)) ∨ (has = false ∧ w.cell? ⟨cb, 6, none⟩ = some (.pointer none))

theorem IsCfg.kept {w w' : World} {cb n : Nat} {nm : Nat → ByteArray} {vt : Nat → Int} {has : Bool} {wt : Int} (h : IsCfg w cb n nm vt has wt) (q : Kept No w w') : IsCfg w' cb n nm vt has wt := by
  obtain ⟨na, nb, h5, hn⟩ := h.nodes
  refine ⟨⟨na, nb, q.cell h5 (fun x => x), fun h0 => ⟨(hn h0).1, (hn h0).2.kept q (fun x => x)⟩⟩, ?_⟩
  rcases h.wit with ⟨hh, wb, h6, h7⟩ | ⟨hh, h6⟩
  · exact .inl ⟨hh, wb, q.cell h6 (fun x => x), q.cell h7 (fun x => x)⟩
  · exact .inr ⟨hh, q.cell h6 (fun x => x)⟩

theorem CfgSt.c6 {w wr : World} {n : Nat} {nm : Nat → ByteArray} {vt : Nat → Int} {k : Nat} (h : CfgSt w wr n nm vt k) : wr.cell? ⟨w.heap.size, 6, none⟩ = some (.pointer none) := by
  simp [World.cell?, h.cfg, cfgCells]
theorem CfgSt.f6 {w wr : World} {n : Nat} {nm : Nat → ByteArray} {vt : Nat → Int} {k : Nat} (h : CfgSt w wr n nm vt k) : wr.frozen? ⟨w.heap.size, 6, none⟩ = false := by
  simp [World.frozen?, h.cfg]
theorem CfgSt.fin_no {w wr : World} {n : Nat} {nm : Nat → ByteArray} {vt : Nat → Int} (h : CfgSt w wr n nm vt n) (wt : Int) : IsCfg wr w.heap.size n nm vt false wt :=
  ⟨⟨_, w.heap.size + 1, h.c5, fun _ => ⟨rfl, h.nodes⟩⟩, .inr ⟨rfl, h.c6⟩⟩
theorem CfgSt.fin_kept {w wr : World} {n : Nat} {nm : Nat → ByteArray} {vt : Nat → Int} (h : CfgSt w wr n nm vt n) (wt : Int) :
    Kept No w ((wr.setCell ⟨w.heap.size, 6, none⟩ (.pointer (some ⟨wr.heap.size, 0, none⟩))).alloc (.cells #[.string ⟨#[]⟩, .int .i64 wt] 61)) :=
  (h.kept.setNew _ (Nat.le_refl _) _).trans (Kept.alloc _ _ _)
theorem CfgSt.fin_yes {w wr : World} {n : Nat} {nm : Nat → ByteArray} {vt : Nat → Int} (h : CfgSt w wr n nm vt n) (wt : Int) :
    IsCfg ((wr.setCell ⟨w.heap.size, 6, none⟩ (.pointer (some ⟨wr.heap.size, 0, none⟩))).alloc (.cells #[.string ⟨#[]⟩, .int .i64 wt] 61)) w.heap.size n nm vt true wt := by
  have hs := h.size
  obtain ⟨X, hX⟩ : ∃ X, X = wr.setCell ⟨w.heap.size, 6, none⟩ (.pointer (some ⟨wr.heap.size, 0, none⟩)) := ⟨_, rfl⟩
  have q2 : Kept (fun b => b = w.heap.size) wr X := by rw [hX]; exact ⟨rfl, rfl, rfl, by simp, fun k _ hk => Below.heap_setCell _ _ _ _ hk⟩
  have x5 : X.cell? ⟨w.heap.size, 5, none⟩ = some (.slice (some ⟨w.heap.size + 1, 0, none⟩) n n) := by rw [hX]; exact other h.c5 (by omega)
  have x6 : X.cell? ⟨w.heap.size, 6, none⟩ = some (.pointer (some ⟨wr.heap.size, 0, none⟩)) := by rw [hX]; exact same h.c6
  have hsX : X.heap.size = wr.heap.size := by rw [hX]; simp
  have xn := h.nodes.kept q2 (by omega)
  rw [← hX]
  have q1 : Kept No X (X.alloc (.cells #[.string ⟨#[]⟩, .int .i64 wt] 61)) := Kept.alloc _ _ _
  refine ⟨⟨_, w.heap.size + 1, q1.cell x5 (fun x => x), fun _ => ⟨rfl, xn.kept q1 (fun x => x)⟩⟩, .inl ⟨rfl, wr.heap.size, q1.cell x6 (fun x => x), ?_⟩⟩
  rw [← hsX, World.cell?_alloc_new]; rfl

set_option maxHeartbeats 800000 in
theorem config14_some (x : Addr) (has : Bool) (n c : Nat) (nm : Nat → ByteArray) (vt : Nat → Int) (wt : Int) (w : World) (hn : n ≤ 1048576) (hN : IsN w (some x) n nm vt) :
    Calls Try.prog 14 #[.slice (some x) n c, .bool has, .int .i64 wt] w fun e w' => e = .returned (.pointer (some ⟨w.heap.size, 0, none⟩)) ∧ IsCfg w' w.heap.size n nm vt has wt ∧ Kept No w w' := by
  have hq := fun w => run_neq_slice_nil_any (P := Try.prog) w 22 41 (some x) n c 0 0 Try.underlying22
  obtain ⟨i0, hi, hz0, hz1, hz2⟩ := info_parts Try.info59
  have hmk : ∀ w : World, (Instr.makeSlice 50 (.int .i64 (n : Int)) (.int .i64 (n : Int))).run Try.prog w = .ok (.slice (some ⟨w.heap.size, 0, none⟩) n n) (w.alloc (.cells (madeCells (nodeCells ⟨#[]⟩ 0) (n * 6)) 59)) := fun w => by
    have := run_make (P := Try.prog) w 50 59 i0 _ Try.underlying50 hi hz0 .i64 .i64 n n (by omega) (by omega) (by rw [hz2]; omega) (by omega)
    rw [hz1] at this
    simpa [Value.cells] using this
  clear hz0 hz1 hz2 hi
  go_enter Try.func14, Try.ntmps14
  go_wp2
  clear hq hmk
  go_loopw [8] (fun i wr => ∃ k : Nat, k ≤ n ∧ i = .int .i64 k ∧ CfgSt w wr n nm vt k) (fun i _ => n - (intOf i).toNat)
  case atStart => exact ⟨0, Nat.zero_le _, rfl, CfgSt.start w n nm vt⟩
  case round =>
    obtain ⟨k, hk, rfl, S⟩ := hrel
    by_cases hlt : k < n
    · obtain ⟨b, off, hx, hc⟩ := hN (by omega)
      cases hx
      obtain ⟨e0, e1⟩ := hc k hlt
      have c0 := S.kept.cell e0 (fun x => x)
      have c1 := S.kept.cell e1 (fun x => x)
      have hbw : b < w.heap.size := World.block_lt_of_cell? w _ e0
      have d5 := S.c5
      have d0 := S.nodes.c0 k hlt
      have d3 := S.nodes.c3 k hlt
      rw [if_neg (by omega)] at d0 d3
      have f0 := S.free (k * 6)
      have f3 := S.free (k * 6 + 3)
      have hl : (k : Int) < (n : Int) := by omega
      clear hc e0 e1 hN
      go_wp2
      go_region
      go_wp2
      go_region
      go_wp2
      go_roundw
      case rel => exact ⟨k + 1, by omega, by go_num, (S.step hlt).drew.drew⟩
      case measure => simp [intOf]; omega
    · obtain rfl : k = n := by omega
      have d6 := S.c6
      have f6 := S.f6
      have hsz : w.heap.size < wr.heap.size := by have := S.size; omega
      cases has
      · go_wp2
        go_ret
        exact ⟨rfl, S.fin_no wt, S.kept⟩
      · go_wp2
        go_ret
        exact ⟨rfl, S.fin_yes wt, S.fin_kept wt⟩


set_option maxHeartbeats 400000 in
theorem config14_nil (has : Bool) (nm : Nat → ByteArray) (vt : Nat → Int) (wt : Int) (w : World) :
    Calls Try.prog 14 #[.slice none 0 0, .bool has, .int .i64 wt] w fun e w' => e = .returned (.pointer (some ⟨w.heap.size, 0, none⟩)) ∧ IsCfg w' w.heap.size 0 nm vt has wt ∧ Kept No w w' := by
  have hq := fun w => run_neq_slice_nil_any (P := Try.prog) w 22 41 none 0 0 0 0 Try.underlying22
  cases has
  · go_enter Try.func14, Try.ntmps14
    go_wp2
    go_ret
    refine ⟨rfl, ⟨⟨none, 0, by simp, fun h => absurd h (Nat.lt_irrefl _)⟩, .inr ⟨rfl, by simp⟩⟩, Kept.alloc _ _ _⟩
  · go_enter Try.func14, Try.ntmps14
    go_wp2
    go_ret
    refine ⟨rfl, ⟨⟨none, 0, by simp, fun h => absurd h (Nat.lt_irrefl _)⟩, .inl ⟨rfl, w.heap.size + 1, by simp, by simp⟩⟩, (Kept.alloc _ _ _).trans (Kept.alloc _ _ _)⟩

theorem config14 (a : Option Addr) (has : Bool) (n c : Nat) (nm : Nat → ByteArray) (vt : Nat → Int) (wt : Int) (w : World) (hn : n ≤ 1048576) (hN : IsN w a n nm vt) (hnil : a = none → n = 0 ∧ c = 0) :
    Calls Try.prog 14 #[.slice a n c, .bool has, .int .i64 wt] w fun e w' => ∃ cb, e = .returned (.pointer (some ⟨cb, 0, none⟩)) ∧ IsCfg w' cb n nm vt has wt ∧ Kept No w w' := by
  cases a with
  | none =>
    obtain ⟨rfl, rfl⟩ := hnil rfl
    exact (config14_nil has nm vt wt w).mono fun e w' ⟨he, h⟩ => ⟨_, he, h⟩
  | some x => exact (config14_some x has n c nm vt wt w hn hN).mono fun e w' ⟨he, h⟩ => ⟨_, he, h⟩

end Go.Proofs.Qxb6616541a
