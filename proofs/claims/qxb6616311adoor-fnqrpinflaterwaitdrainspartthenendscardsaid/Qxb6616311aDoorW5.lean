import Derived.Test.Qxb6616311aDoorW4
import Derived.Deep.QuietTactic
import Derived.BigQuiet
import Derived.Deep.RegionWith
namespace Go.Proofs.Qxb6616311aDoor
open Go.RowKit
set_option linter.unusedVariables false

/-- A slice that a clone handed back: in new memory, or nil where there is nothing. -/
structure Fresh (w w' : World) (a : Option Addr) (n : Nat) (xs : List Int) : Prop where
  len : xs.length = n
  row : 0 < n → ∃ g, a = some ⟨g, 0, none⟩ ∧ w.heap.size ≤ g ∧ Row w' g xs
  nil : a = none → n = 0

theorem Fresh.isB {w w' : World} {a : Option Addr} {n : Nat} {xs : List Int} (h : Fresh w w' a n xs) : IsB w' a n xs := by
  refine ⟨h.len, fun h0 => ?_⟩
  obtain ⟨g, ha, _, hr⟩ := h.row h0
  exact ⟨g, 0, ha, fun i hi => by rw [Nat.zero_add]; exact hr.cell i (by have := h.len; omega)⟩

theorem clone6_any (a : Option Addr) (n c : Nat) (xs : List Int) (w : World) (hn : n ≤ 1048576) (hx : IsB w a n xs) (hnil : a = none → n = 0 ∧ c = 0) :
    Calls Tryd.prog 6 #[.slice a n c] w fun e w' => ∃ a', e = .returned (.slice a' n n) ∧ Fresh w w' a' n xs ∧ Kept (fun _ => False) w w' := by
  cases a with
  | none =>
    obtain ⟨rfl, rfl⟩ := hnil rfl
    refine (clone6_nil w).mono ?_
    rintro e w' ⟨rfl, rfl⟩
    exact ⟨none, rfl, ⟨hx.1, fun h => absurd h (Nat.lt_irrefl _), fun _ => rfl⟩, Kept.refl _ _⟩
  | some x =>
    refine (clone6_some x n c xs w hn hx).mono ?_
    rintro e w' ⟨rfl, hr, hk, hs⟩
    exact ⟨_, rfl, ⟨hx.1, fun _ => ⟨_, rfl, Nat.le_refl _, hr⟩, fun h => by cases h⟩, hk⟩

theorem Kept.isB {S : Nat → Prop} {w w' : World} (h : Kept S w w') {a : Option Addr} {n : Nat} {xs : List Int} (hb : IsB w a n xs) (hs : ∀ x, a = some x → ¬ S x.block) : IsB w' a n xs := by
  refine ⟨hb.1, fun h0 => ?_⟩
  obtain ⟨b, off, ha, hc⟩ := hb.2 h0
  refine ⟨b, off, ha, fun i hi => ?_⟩
  have := hc i hi
  rw [← this]
  exact World.cell?_of_block (h.block b (World.block_lt_of_cell? w _ this) (hs _ ha))

theorem new7_any (a : Option Addr) (n c : Nat) (last : Bool) (w : World) :
    Calls Tryd.prog 7 #[.slice a n c, .bool last] w fun e w' => ∃ zb, e = .returned (.pointer (some ⟨zb, 0, none⟩)) ∧ w.heap.size ≤ zb ∧ IsZ w' zb a n c last ∧ Kept (fun _ => False) w w' := by
  refine (new7 a n c last w).mono ?_
  rintro e w' ⟨rfl, rfl⟩
  exact ⟨_, rfl, Nat.le_refl _, heap_alloc_new w _, Kept.alloc _ _ _⟩

theorem Kept.fresh {S : Nat → Prop} {w w1 w2 : World} (h : Kept S w1 w2) {a : Option Addr} {n : Nat} {xs : List Int} (hf : Fresh w w1 a n xs) (hs : ∀ g, w.heap.size ≤ g → g < w1.heap.size → ¬ S g) : Fresh w w2 a n xs := by
  refine ⟨hf.len, fun h0 => ?_, hf.nil⟩
  obtain ⟨g, ha, hg, hr⟩ := hf.row h0
  exact ⟨g, ha, hg, h.row hr (hs g hg (lt_of_block hr))⟩

theorem clone6_pos (x : Addr) (n c : Nat) (xs : List Int) (w : World) (hn : n ≤ 1048576) (hx : IsB w (some x) n xs) :
    Calls Tryd.prog 6 #[.slice (some x) n c] w fun e w' => ∃ g, e = .returned (.slice (some ⟨g, 0, none⟩) n n) ∧ w.heap.size ≤ g ∧ Row w' g xs ∧ Kept (fun _ => False) w w' := by
  refine (clone6_some x n c xs w hn hx).mono ?_
  rintro e w' ⟨rfl, hr, hk, hs⟩
  exact ⟨_, rfl, Nat.le_refl _, hr, hk⟩

theorem Row.isB' {w : World} {g n : Nat} {xs : List Int} (h : Row w g xs) (hn : xs.length = n) : IsB w (some ⟨g, 0, none⟩) n xs := hn ▸ h.isB
theorem Row.take {w : World} {g n : Nat} {xs : List Int} (h : Row w g xs) (hn : n ≤ xs.length) : IsB w (some ⟨g, 0, none⟩) n (xs.take n) := by
  refine ⟨by simp; omega, fun _ => ⟨g, 0, rfl, fun i hi => ?_⟩⟩
  rw [Nat.zero_add, h.cell i (by omega)]
  simp [hi]
theorem Row.drop {w : World} {g n : Nat} {xs : List Int} (h : Row w g xs) (hn : n ≤ xs.length) {a : Option Addr} (ha : n < xs.length → a = some ⟨g, n, none⟩) : IsB w a (xs.length - n) (xs.drop n) := by
  refine ⟨by simp, fun h0 => ⟨g, n, ha (by omega), fun i hi => ?_⟩⟩
  rw [h.cell (n + i) (by omega)]
  simp

theorem Kept.then_new {S : Nat → Prop} {a b c : World} (h : Kept (fun _ => False) a b) (k : Kept S b c) (hS : ∀ j, j < a.heap.size → ¬ S j) : Kept (fun _ => False) a c :=
  ⟨k.os.trans h.os, k.tape.trans h.tape, k.output.trans h.output, Nat.le_trans h.size k.size, fun i hi hs => (k.block i (Nat.lt_of_lt_of_le hi h.size) (hS i hi)).trans (h.block i hi hs)⟩

set_option maxHeartbeats 1600000 in
theorem keeps_some (x : Addr) (n c k : Nat) (xs : List Int) (last : Bool) (w : World) (hB : IsB w (some x) n xs) (hE : Errs w) (hn : n ≤ 1048576) (hn0 : 0 < n) (hk : k ≤ 65536) (hk1 : 1 ≤ k) :
    Calls Tryd.prog 4 #[.slice (some x) n c, .bool last, .int .i64 k] w fun e w' => e = .returned (.bool true) ∧ Kept (fun _ => False) w w' := by
  have hmk := run_make_row' (P := Tryd.prog) 22 5 (.int .u8 0) 1 Tryd.underlying22 Tryd.info5 rfl .i64 .i64 k (by omega) (by omega)
  have HL : Hid (xs.length = n) := hB.1
  go_enter Tryd.func4, Tryd.ntmps4
  go_wp2_with fail
  refine (bytes12 _ n c last k _ hn).mono ?_
  rintro e w ⟨rfl, rfl⟩
  go_wp2_with fail
  refine (clone6_pos x n c xs _ hn hB).mono ?_
  rintro e w1 ⟨g1, rfl, l1, hr1, q1⟩
  go_wp2_with fail
  refine (clone6_pos ⟨g1, 0, none⟩ n n xs _ hn (hr1.isB' HL.out)).mono ?_
  rintro e w2 ⟨g2, rfl, l2, hr2, q2⟩
  go_wp2_with fail
  refine (new7_any (some ⟨g1, 0, none⟩) n n last w2).mono ?_
  rintro e w3 ⟨zb, rfl, hzb, hz, q3⟩
  go_wp2_with fail
  refine (wait8_some zb _ n n last w3 hz hn0).mono ?_
  rintro e w3 ⟨rfl, rfl⟩
  go_wp2_with fail
  refine (wait8_some zb _ n n last w3 hz hn0).mono ?_
  rintro e w3 ⟨rfl, rfl⟩
  go_wp2_with fail
  refine (part11 zb _ w3 hz.c0).mono ?_
  rintro e w3 ⟨rfl, rfl⟩
  have hs2 := q2.size
  have hs1 := q1.size
  have z1 : g1 < w1.heap.size := lt_of_block hr1
  have z2 : g2 < w2.heap.size := lt_of_block hr2
  have z3 : zb < w3.heap.size := lt_of_block hz
  have hr1' : Row w3 g1 xs := (q2.trans q3).row hr1 (fun h => h)
  have hr2' : Row w3 g2 xs := q3.row hr2 (fun h => h)
  go_wp2_with fail
  refine (eq10 _ _ n n n xs w3 hn (hr1'.isB' HL.out) (hr2'.isB' HL.out)).mono ?_
  rintro e w4 ⟨rfl, q, rfl⟩
  have q5 : Kept (fun _ => False) w3 ((w3.drewN q).alloc (Obj.cells (madeCells #[Value.int IntKind.u8 0] k) 5)) := (Kept.drewN _ _ _).trans (Kept.alloc _ _ _)
  have hz5 := q5.isZ hz (fun h => h)
  have hp5 := q5.row hr1' (fun h => h)
  have ho5 := q5.row hr2' (fun h => h)
  have hb5 : Row ((w3.drewN q).alloc (Obj.cells (madeCells #[Value.int IntKind.u8 0] k) 5)) w3.heap.size (List.replicate k 0) := by
    unfold Row; rw [madeRow]; exact heap_alloc_new (w3.drewN q) _
  have hq0 : Kept (fun _ => False) w ((w3.drewN q).alloc (Obj.cells (madeCells #[Value.int IntKind.u8 0] k) 5)) := ((q1.trans q2).trans q3).trans q5
  by_cases hnk : n < k
  · have hnk' : (n : Int) < (k : Int) := by omega
    go_wp2_with fail
    refine (read9_some zb g1 w3.heap.size 0 n k n last xs (List.replicate k 0) _ hz5 hn0 (hp5.isB' HL.out) hb5 (by simp) (by omega) (by omega) hn).mono ?_
    rintro e w6 ⟨rfl, az, hz6, _, hb6, q6, hs6⟩
    have cz := hz6.c0
    have hn0' : (0 : Int) < (n : Int) := by omega
    have e1 : ∀ q, IsB (w6.drewN q) (some ⟨w3.heap.size, 0, none⟩) n (xs.take n) := fun q => by
      have := (((Kept.drewN (fun _ => False) w6 q).row hb6 (fun h => h)).take (n := n) (by simp [HL.out]))
      simpa [HL.out] using this
    have ho6 := q6.row ho5 (by omega)
    have e2 : ∀ q, IsB (w6.drewN q) (some ⟨g2, 0, none⟩) n (xs.take n) := fun q => ((Kept.drewN (fun _ => False) w6 q).row ho6 (fun h => h)).take (by rw [HL.out]; exact Nat.le_refl _)
    go_wp2
    go_quiet ((first | (go_at_call 11; exact Calls.quiet_of_same (part11 zb _ _ cz)) | (go_at_call_of 10 (Value.slice (some ⟨w3.heap.size, 0, none⟩) n k); exact Calls.quiet_of (eq10 _ _ n k n _ _ hn (e1 _) (e2 _))) | (go_at_call 10; exact Calls.quiet_of (eq10_zero _ _ _ _ _))))
    go_wp2
    have fin : ∀ q, Kept (fun _ => False) w (w6.drewN q) := fun q => (hq0.then_new q6 (fun j hj => by have := q1.size; have := q3.size; omega)).trans (Kept.drewN _ _ _)
    go_ret
    exact ⟨rfl, fin _⟩
  · have hnk' : ¬ (n : Int) < (k : Int) := by omega
    have hkn : k ≤ n := by omega
    go_wp2_with fail
    refine (read9_some zb g1 w3.heap.size 0 n k k last xs (List.replicate k 0) _ hz5 hn0 (hp5.isB' HL.out) hb5 (by simp) (by omega) (by omega) hn).mono ?_
    rintro e w6 ⟨rfl, az, hz6, haz, hb6, q6, hs6⟩
    have cz := hz6.c0
    have hn0' : (0 : Int) < (n : Int) := by omega
    have e1 : ∀ q, IsB (w6.drewN q) (some ⟨w3.heap.size, 0, none⟩) k (xs.take k) := fun q => by
      have := (((Kept.drewN (fun _ => False) w6 q).row hb6 (fun h => h)).take (n := k) (by simp [HL.out]; omega))
      simpa [HL.out, hkn, List.take_take] using this
    have ho6 := q6.row ho5 (by omega)
    have e2 : ∀ q, IsB (w6.drewN q) (some ⟨g2, 0, none⟩) k (xs.take k) := fun q => ((Kept.drewN (fun _ => False) w6 q).row ho6 (fun h => h)).take (by rw [HL.out]; omega)
    have hr6 := q6.row hp5 (by omega)
    have e3 : ∀ q, IsB (w6.drewN q) az (n - k) (xs.drop k) := fun q => by
      have := (((Kept.drewN (fun _ => False) w6 q).row hr6 (fun h => h)).drop (n := k) (a := az) (by rw [HL.out]; exact hkn) (fun h => by rw [HL.out] at h; simpa using haz h))
      rwa [HL.out] at this
    have e4 : ∀ q a, (k < n → a = some ⟨g2, k, none⟩) → IsB (w6.drewN q) a (n - k) (xs.drop k) := fun q a ha => by
      have := (((Kept.drewN (fun _ => False) w6 q).row ho6 (fun h => h)).drop (n := k) (a := a) (by rw [HL.out]; exact hkn) (fun h => by rw [HL.out] at h; exact ha h))
      rwa [HL.out] at this
    clear hr6 haz
    by_cases hkn' : k = n
    · subst hkn'
      go_wp2
      go_quiet ((first | (go_at_call 11; exact Calls.quiet_of_same (part11 zb _ _ cz)) | (go_at_call_of 10 (Value.slice (some ⟨w3.heap.size, 0, none⟩) k k); exact Calls.quiet_of (eq10 _ _ k k k _ _ (by omega) (e1 _) (e2 _))) | (go_at_call 10; exact Calls.quiet_of (eq10_zero _ _ _ _ _))))
      go_wp2
      have fin : ∀ q, Kept (fun _ => False) w (w6.drewN q) := fun q => (hq0.then_new q6 (fun j hj => by have := q1.size; have := q3.size; omega)).trans (Kept.drewN _ _ _)
      go_ret
      exact ⟨rfl, fin _⟩
    · have hlt : k < n := by omega
      go_wp2
      go_quiet ((first | (go_at_call 11; exact Calls.quiet_of_same (part11 zb _ _ cz)) | (go_at_call_of 10 (Value.slice (some ⟨w3.heap.size, 0, none⟩) k k); exact Calls.quiet_of (eq10 _ _ k k n _ _ (by omega) (e1 _) (e2 _))) | (go_at_call 10; exact Calls.quiet_of (eq10 _ _ (n - k) _ _ _ _ (by omega) (e3 _) (e4 _ _ (fun _ => rfl))))))
      go_wp2
      have fin : ∀ q, Kept (fun _ => False) w (w6.drewN q) := fun q => (hq0.then_new q6 (fun j hj => by have := q1.size; have := q3.size; omega)).trans (Kept.drewN _ _ _)
      go_ret
      exact ⟨rfl, fin _⟩

end Go.Proofs.Qxb6616311aDoor
