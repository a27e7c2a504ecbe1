/-
  THE WALKS of seat b6616614a, 1: package time's Add, Sub, Equal at times that are built out of the zero time.
-/
import Derived.Test.Qxb6616614aProg
import Derived.Test.Qxb6616614aT0
import Derived.WalkKit
import Derived.WalkSpells
import Derived.WalkLawsBesides
import Derived.Deep.Draws
import Derived.Deep.QuietTactic
import Derived.BigQuiet
import Derived.Deep.RegionWith
namespace Go.Proofs.Qxb6616614a
open Go.RowKit
set_option linter.unusedVariables false
set_option linter.unusedSimpArgs false

theorem ret_int {k : IntKind} {a b : Int} (h : a = b) : Ending.returned (.int k a) = .returned (.int k b) := by rw [h]

set_option maxHeartbeats 400000 in
theorem nsec24 (b : Nat) (n : Int) (w : World) (h0 : 0 ≤ n) (h1 : n < 1000000000) (hc : w.cell? ⟨b, 0, none⟩ = some (.int .u64 n)) :
    Calls Try.prog 24 #[.pointer (some ⟨b, 0, none⟩)] w fun e w' => e = .returned (.int .i32 n) ∧ w' = w := by
  have hk := and_mask n h0 (by omega)
  go_enter Try.func24, Try.ntmps24
  go_wp2
  go_ret
  exact ⟨rfl, rfl⟩

set_option maxHeartbeats 400000 in
theorem sec28 (b : Nat) (n s : Int) (w : World) (h0 : 0 ≤ n) (h1 : n < 1000000000) (hc : w.cell? ⟨b, 0, none⟩ = some (.int .u64 n)) (hc1 : w.cell? ⟨b, 1, none⟩ = some (.int .i64 s)) :
    Calls Try.prog 28 #[.pointer (some ⟨b, 0, none⟩)] w fun e w' => e = .returned (.int .i64 s) ∧ w' = w := by
  have ht := and_top n h0 (by omega)
  go_enter Try.func28, Try.ntmps28
  go_wp2
  go_ret
  exact ⟨rfl, rfl⟩

set_option maxHeartbeats 400000 in
theorem addSec25 (b : Nat) (n d : Int) (w : World) (h0 : 0 ≤ n) (h1 : n < 1000000000) (d0 : -9223372038 ≤ d) (d1 : d ≤ 9223372038) (hc : w.cell? ⟨b, 0, none⟩ = some (.int .u64 n)) (hc1 : w.cell? ⟨b, 1, none⟩ = some (.int .i64 0)) (hf : w.frozen? ⟨b, 1, none⟩ = false) :
    Calls Try.prog 25 #[.pointer (some ⟨b, 0, none⟩), .int .i64 d] w fun e w' => e = .returned (.tuple #[]) ∧ w' = w.setCell ⟨b, 1, none⟩ (.int .i64 d) := by
  have ht := and_top n h0 (by omega)
  go_enter Try.func25, Try.ntmps25
  go_wp2
  go_end0
  exact ⟨rfl, rfl⟩

/-- No old block has turned; streams and tape stand. -/
structure Kept (w w' : World) : Prop where
  os : w'.os = w.os
  tape : w'.tape = w.tape
  output : w'.output = w.output
  size : w.heap.size ≤ w'.heap.size
  block : ∀ k, k < w.heap.size → w'.heap[k]? = w.heap[k]?

theorem Kept.refl (w : World) : Kept w w := ⟨rfl, rfl, rfl, Nat.le_refl _, fun _ _ => rfl⟩
theorem Kept.trans {a b c : World} (h : Kept a b) (k : Kept b c) : Kept a c :=
  ⟨k.os.trans h.os, k.tape.trans h.tape, k.output.trans h.output, Nat.le_trans h.size k.size, fun i hi => (k.block i (Nat.lt_of_lt_of_le hi h.size)).trans (h.block i hi)⟩
theorem Kept.drewN (w : World) (q : Nat) : Kept w (w.drewN q) := ⟨rfl, rfl, rfl, Nat.le_refl _, fun _ _ => rfl⟩
theorem Kept.drew (w : World) : Kept w w.drew := ⟨rfl, rfl, rfl, Nat.le_refl _, fun _ _ => rfl⟩
theorem Kept.alloc (w : World) (o : Obj) : Kept w (w.alloc o) := ⟨rfl, rfl, rfl, by simp, fun k hk => Below.heap_alloc _ _ _ hk⟩
theorem Kept.more {w X : World} (h : Kept w X) (o : Obj) : Kept w (X.alloc o) := h.trans (Kept.alloc _ _)
theorem Kept.setNew {w w' : World} (h : Kept w w') (p : Addr) (hp : w.heap.size ≤ p.block) (v : Value) : Kept w (w'.setCell p v) :=
  ⟨h.os, h.tape, h.output, by simpa using h.size, fun k hk => (Below.heap_setCell _ _ _ _ (by omega)).trans (h.block k hk)⟩
theorem Kept.below {w w' : World} (h : Kept w w') : Below w.heap.size w w' := ⟨h.os, h.tape, h.output, h.size, h.block⟩
theorem Kept.cell {w w' : World} (h : Kept w w') {p : Addr} {v : Value} (hc : w.cell? p = some v) : w'.cell? p = some v :=
  (World.cell?_of_block (h.block p.block (World.block_lt_of_cell? w p hc))).trans hc
theorem Kept.free {w w' : World} (h : Kept w w') {p : Addr} (hp : p.block < w.heap.size) (hc : w.frozen? p = false) : w'.frozen? p = false :=
  (World.frozen?_of_block (h.block p.block hp)).trans hc
theorem Kept.blk {w w' : World} (q : Kept w w') {b : Nat} {o : Obj} (h : w.heap[b]? = some o) : w'.heap[b]? = some o := (q.block b (lt_of_block h)).trans h

/-- A time's three cells: s seconds and n nanoseconds behind the zero time. -/
def tmV (n s : Int) : Value := .agg #[.int .u64 n, .int .i64 s, .pointer none]
/-- Nanoseconds behind the zero time, as a time. -/
def tmOf (d : Int) : Value := tmV (d % 1000000000) (d / 1000000000)

set_option maxHeartbeats 800000 in
theorem add21_in (d q r n s : Int) (w : World) (hq : d.tdiv 1000000000 = q) (hr : d.tmod 1000000000 = r) (q0 : -9223372037 ≤ q) (q1 : q ≤ 9223372036) (r0 : -1000000000 < r) (r1 : r < 1000000000)
    (hrn : (r < 0 ∧ n = r + 1000000000 ∧ s = q - 1) ∨ (0 ≤ r ∧ n = r ∧ s = q)) :
    Calls Try.prog 21 #[tmV 0 0, .int .i64 d] w fun e w' => e = .returned (tmV n s) ∧ Kept w w' := by
  have ha := andNot_zero
  unfold tmV
  rcases hrn with ⟨hr0, rfl, rfl⟩ | ⟨hr0, rfl, rfl⟩
  · have ho := or_zero (r + 1000000000) (by omega) (by omega)
    have ht := and_top (r + 1000000000) (by omega) (by omega)
    go_enter Try.func21, Try.ntmps21
    go_wp2_with (first | (go_at_call 24; refine (nsec24 _ 0 _ (by omega) (by omega) (by simp)).mono ?_; rintro e w' ⟨rfl, rfl⟩) | (go_at_call 25; refine (addSec25 w.heap.size (r + 1000000000) (q - 1) _ (by omega) (by omega) (by omega) (by omega) (by simp) (by simp) (by simp)).mono ?_; rintro e w' ⟨rfl, rfl⟩))
    exact bodyPost_ret (v := .agg #[.int .u64 (r + 1000000000), .int .i64 (q - 1), .pointer none]) (by simp [results, Try.results21, go_sem]) rfl ⟨rfl, (Kept.alloc _ _).more _⟩
  · have ho := or_zero (n) (by omega) (by omega)
    have ht := and_top (n) (by omega) (by omega)
    go_enter Try.func21, Try.ntmps21
    go_wp2_with (first | (go_at_call 24; refine (nsec24 _ 0 _ (by omega) (by omega) (by simp)).mono ?_; rintro e w' ⟨rfl, rfl⟩) | (go_at_call 25; refine (addSec25 w.heap.size (n) (s) _ (by omega) (by omega) (by omega) (by omega) (by simp) (by simp) (by simp)).mono ?_; rintro e w' ⟨rfl, rfl⟩))
    exact bodyPost_ret (v := .agg #[.int .u64 (n), .int .i64 (s), .pointer none]) (by simp [results, Try.results21, go_sem]) rfl ⟨rfl, (Kept.alloc _ _).more _⟩

theorem add21 (d : Int) (w : World) (h0 : -9223372036854775808 ≤ d) (h1 : d ≤ 9223372036854775807) :
    Calls Try.prog 21 #[tmV 0 0, .int .i64 d] w fun e w' => e = .returned (tmOf d) ∧ Kept w w' := by
  by_cases hd : 0 ≤ d
  · exact add21_in d (d / 1000000000) (d % 1000000000) (d % 1000000000) (d / 1000000000) w (Int.tdiv_eq_ediv_of_nonneg hd) (Int.tmod_eq_emod_of_nonneg hd) (by omega) (by omega) (by omega) (by omega) (.inr ⟨by omega, rfl, rfl⟩)
  · obtain ⟨c, rfl⟩ : ∃ c, d = -c := ⟨-d, by omega⟩
    have e1 : (-c).tdiv 1000000000 = -(c / 1000000000) := by rw [Int.neg_tdiv, Int.tdiv_eq_ediv_of_nonneg (by omega)]
    have e2 : (-c).tmod 1000000000 = -(c % 1000000000) := by rw [Int.neg_tmod, Int.tmod_eq_emod_of_nonneg (by omega)]
    refine add21_in (-c) _ _ ((-c) % 1000000000) ((-c) / 1000000000) w e1 e2 (by omega) (by omega) (by omega) (by omega) ?_
    by_cases hr : c % 1000000000 = 0
    · exact .inr ⟨by omega, by omega, by omega⟩
    · exact .inl ⟨by omega, by omega, by omega⟩

set_option maxHeartbeats 800000 in
theorem equal29 (n s : Int) (w : World) (h0 : 0 ≤ n) (h1 : n < 1000000000) :
    Calls Try.prog 29 #[tmV n s, tmV n s] w fun e w' => e = .returned (.bool true) ∧ Kept w w' := by
  unfold tmV
  have hk : ∀ x : Int, bits .and .u64 (bits .and .u64 n n) x = bits .and .u64 n x := fun x => by rw [and_self n h0 (by omega)]
  have ht := and_top n h0 (by omega)
  go_enter Try.func29, Try.ntmps29
  go_wp2_with (first | (go_at_call 24; refine (nsec24 _ n _ (by omega) (by omega) (by simp)).mono ?_; rintro e w' ⟨rfl, rfl⟩) | (go_at_call 28; refine (sec28 _ n s _ (by omega) (by omega) (by simp) (by simp)).mono ?_; rintro e w' ⟨rfl, rfl⟩))
  go_ret
  exact ⟨rfl, (Kept.alloc _ _).more _⟩

end Go.Proofs.Qxb6616614a
