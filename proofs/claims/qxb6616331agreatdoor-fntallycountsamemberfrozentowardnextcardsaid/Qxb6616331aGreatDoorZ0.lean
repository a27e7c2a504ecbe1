/-
  THE WALKS of seat b6616331aZD, 0: how the data lie in memory; what a call keeps.
-/
import Derived.Test.Qxb6616331aGreatDoorProg
import Derived.WalkKit
import Derived.WalkSpells
import Derived.WalkLawsBesides
import Derived.Deep.Draws
import Derived.Deep.QuietTactic
import Derived.BigQuiet
import Derived.Deep.RegionWith
import Derived.Deep.Cut
namespace Go.Proofs.Qxb6616331aGreatDoor
open Go.RowKit

/-- No old block has turned; streams and tape stand. -/
structure Kept (w w' : World) : Prop where
  os : w'.os = w.os
  tape : w'.tape = w.tape
  output : w'.output = w.output
  size : w.heap.size ≤ w'.heap.size
  block : ∀ k, k < w.heap.size → w'.heap[k]? = w.heap[k]?

theorem lt_of_blk {w : World} {b : Nat} {o : Obj} (h : w.heap[b]? = some o) : b < w.heap.size := (Array.getElem?_eq_some_iff.1 h).1
theorem Kept.refl (w : World) : Kept w w := ⟨rfl, rfl, rfl, Nat.le_refl _, fun _ _ => rfl⟩
theorem Kept.trans {a b c : World} (h : Kept a b) (k : Kept b c) : Kept a c :=
  ⟨k.os.trans h.os, k.tape.trans h.tape, k.output.trans h.output, Nat.le_trans h.size k.size, fun i hi => (k.block i (Nat.lt_of_lt_of_le hi h.size)).trans (h.block i hi)⟩
theorem Kept.drewN (w : World) (q : Nat) : Kept w (w.drewN q) := ⟨rfl, rfl, rfl, Nat.le_refl _, fun _ _ => rfl⟩
theorem Kept.drew (w : World) : Kept w w.drew := ⟨rfl, rfl, rfl, Nat.le_refl _, fun _ _ => rfl⟩
theorem Kept.alloc (w : World) (o : Obj) : Kept w (w.alloc o) := ⟨rfl, rfl, rfl, by simp, fun k hk => Below.heap_alloc _ _ _ hk⟩
theorem Kept.more {w X : World} (h : Kept w X) (o : Obj) : Kept w (X.alloc o) := h.trans (Kept.alloc _ _)
theorem Kept.setNew {w w' : World} (h : Kept w w') (p : Addr) (hp : w.heap.size ≤ p.block) (v : Value) : Kept w (w'.setCell p v) :=
  ⟨h.os, h.tape, h.output, by simpa using h.size, fun k hk => (Below.heap_setCell _ _ _ _ (by omega)).trans (h.block k hk)⟩
theorem Kept.below {w w' : World} (h : Kept w w') : Below w.heap.size w w' := ⟨h.os, h.tape, h.output, h.size, h.block⟩
theorem Kept.of_below {w w' : World} (h : Below w.heap.size w w') : Kept w w' := ⟨h.os, h.tape, h.output, h.size, h.block⟩
theorem Kept.cell {w w' : World} (h : Kept w w') {p : Addr} {v : Value} (hc : w.cell? p = some v) : w'.cell? p = some v :=
  (World.cell?_of_block (h.block p.block (World.block_lt_of_cell? w p hc))).trans hc
theorem Kept.free {w w' : World} (h : Kept w w') {p : Addr} (hp : p.block < w.heap.size) (hc : w.frozen? p = false) : w'.frozen? p = false :=
  (World.frozen?_of_block (h.block p.block hp)).trans hc
theorem Kept.blk {w w' : World} (q : Kept w w') {b : Nat} {o : Obj} (h : w.heap[b]? = some o) : w'.heap[b]? = some o := (q.block b (lt_of_blk h)).trans h

/-- A string is the list of its bytes. -/
abbrev Str := List UInt8
/-- .. as Go holds it. -/
abbrev sv (s : Str) : Value := .string ⟨s.toArray⟩

/-- The slice of n strings at a reads as xs. -/
structure IsL (w : World) (a : Option Addr) (n : Nat) (xs : List Str) : Prop where
  len : xs.length = n
  row : 0 < n → ∃ b off, a = some ⟨b, off, none⟩ ∧ ∀ i, i < n → w.cell? ⟨b, off + i, none⟩ = some (sv (xs.getD i []))
theorem IsL.kept {w w' : World} {a : Option Addr} {n : Nat} {xs : List Str} (h : IsL w a n xs) (q : Kept w w') : IsL w' a n xs :=
  ⟨h.len, fun h0 => by
    obtain ⟨b, off, ha, hc⟩ := h.row h0
    exact ⟨b, off, ha, fun i hi => q.cell (hc i hi)⟩⟩

/-- The slice of n slices of strings at a reads as xss. -/
structure IsLL (w : World) (a : Option Addr) (n : Nat) (xss : List (List Str)) : Prop where
  len : xss.length = n
  row : 0 < n → ∃ b off, a = some ⟨b, off, none⟩ ∧ ∀ i, i < n → ∃ ai ni ci, w.cell? ⟨b, off + i, none⟩ = some (.slice ai ni ci) ∧ IsL w ai ni (xss.getD i [])
theorem IsLL.kept {w w' : World} {a : Option Addr} {n : Nat} {xss : List (List Str)} (h : IsLL w a n xss) (q : Kept w w') : IsLL w' a n xss :=
  ⟨h.len, fun h0 => by
    obtain ⟨b, off, ha, hc⟩ := h.row h0
    refine ⟨b, off, ha, fun i hi => ?_⟩
    obtain ⟨ai, ni, ci, h1, h2⟩ := hc i hi
    exact ⟨ai, ni, ci, q.cell h1, h2.kept q⟩⟩

/-- A view: its count, and three lists of changes. -/
structure View where
  count : Int
  base : List Str
  last : List Str
  changes : List Str
/-- Four cells that read as a view. -/
structure IsV (w : World) (v : Value) (V : View) : Prop where
  ex : ∃ ab nb cb al nl cl ac nc cc, v = .agg #[.int .u64 V.count, .slice ab nb cb, .slice al nl cl, .slice ac nc cc] ∧ IsL w ab nb V.base ∧ IsL w al nl V.last ∧ IsL w ac nc V.changes
  lo : 0 ≤ V.count
  hi : V.count < 18446744073709551616
theorem IsV.kept {w w' : World} {v : Value} {V : View} (h : IsV w v V) (q : Kept w w') : IsV w' v V := by
  obtain ⟨ab, nb, cb, al, nl, cl, ac, nc, cc, e, h1, h2, h3⟩ := h.ex
  exact ⟨⟨ab, nb, cb, al, nl, cl, ac, nc, cc, e, h1.kept q, h2.kept q, h3.kept q⟩, h.lo, h.hi⟩

end Go.Proofs.Qxb6616331aGreatDoor
