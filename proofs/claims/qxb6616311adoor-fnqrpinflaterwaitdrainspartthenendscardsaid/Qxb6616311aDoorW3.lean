import Derived.Test.Qxb6616311aDoorW1
import Derived.Test.Qxb6616311aDoorW2
import Derived.Laws.CopyOwn
import Derived.Deep.OwnRows
namespace Go.Proofs.Qxb6616311aDoor
open Go.RowKit

/-- Block g is a row of the bytes xs. -/
def Row (w : World) (g : Nat) (xs : List Int) : Prop := w.heap[g]? = some (.cells (xs.map (Value.int .u8)).toArray 5 (0, 0))

theorem Row.cell {w : World} {g : Nat} {xs : List Int} (h : Row w g xs) (i : Nat) (hi : i < xs.length) : w.cell? ⟨g, i, none⟩ = some (.int .u8 (xs.getD i 0)) := by
  unfold Row at h
  simp [World.cell?, h, hi]

theorem Row.isB {w : World} {g : Nat} {xs : List Int} (h : Row w g xs) : IsB w (some ⟨g, 0, none⟩) xs.length xs :=
  ⟨rfl, fun _ => ⟨g, 0, rfl, fun i hi => by rw [Nat.zero_add]; exact h.cell i hi⟩⟩

theorem Tryd.info5 : (Tryd.prog.info? 5).map (fun i => (i.zero, i.size, i.bytes)) = some (some (.int .u8 0), 1, 1) := by kernel_rfl
theorem Tryd.size5 : (Tryd.prog.info? 5).map (·.size) = some 1 := by kernel_rfl

theorem madeRow (n : Nat) : madeCells #[Value.int .u8 0] n = ((List.replicate n (0 : Int)).map (Value.int .u8)).toArray := by
  apply Array.ext
  · simp [madeCells]
  · intro i h1 h2
    simp [madeCells, Nat.mod_one]

set_option maxHeartbeats 400000 in
theorem clone6_nil (w : World) :
    Calls Tryd.prog 6 #[.slice none 0 0] w fun e w' => e = .returned (.slice none 0 0) ∧ w' = w := by
  have hq := fun w => Lib.run_eql_slice_nil (P := Tryd.prog) w 22 5 none 0 0 0 0 Tryd.underlying22
  go_enter Tryd.func6, Tryd.ntmps6
  go_wp2
  go_ret
  exact ⟨rfl, rfl⟩

/-- Of the blocks that w had, at most those in S have turned; streams and tape stand. -/
structure Kept (S : Nat → Prop) (w w' : World) : Prop where
  os : w'.os = w.os
  tape : w'.tape = w.tape
  output : w'.output = w.output
  size : w.heap.size ≤ w'.heap.size
  block : ∀ k, k < w.heap.size → ¬ S k → w'.heap[k]? = w.heap[k]?

theorem Kept.refl (S : Nat → Prop) (w : World) : Kept S w w := ⟨rfl, rfl, rfl, Nat.le_refl _, fun _ _ _ => rfl⟩
theorem Kept.trans {S : Nat → Prop} {a b c : World} (h : Kept S a b) (k : Kept S b c) : Kept S a c :=
  ⟨k.os.trans h.os, k.tape.trans h.tape, k.output.trans h.output, Nat.le_trans h.size k.size, fun i hi hs => (k.block i (Nat.lt_of_lt_of_le hi h.size) hs).trans (h.block i hi hs)⟩
theorem Kept.mono {S T : Nat → Prop} {a b : World} (h : Kept S a b) (hST : ∀ k, k < a.heap.size → S k → T k) : Kept T a b :=
  ⟨h.os, h.tape, h.output, h.size, fun i hi hs => h.block i hi (fun x => hs (hST i hi x))⟩
theorem Kept.drewN (S : Nat → Prop) (w : World) (q : Nat) : Kept S w (w.drewN q) := ⟨rfl, rfl, rfl, Nat.le_refl _, fun _ _ _ => rfl⟩
theorem Kept.alloc (S : Nat → Prop) (w : World) (o : Obj) : Kept S w (w.alloc o) := ⟨rfl, rfl, rfl, by simp, fun k hk _ => Below.heap_alloc _ _ _ hk⟩
theorem Kept.below {S : Nat → Prop} {w w' : World} (h : Kept S w w') {B : Nat} (hB : B ≤ w.heap.size) (hS : ∀ k, k < B → ¬ S k) : Below B w w' :=
  ⟨h.os, h.tape, h.output, h.size, fun k hk => h.block k (by omega) (hS k hk)⟩
theorem Kept.grown {w w' : World} {row : Option Nat} (h : w.grownBy w' row) : Kept (fun k => row = some k) w w' :=
  ⟨h.os, h.tape, h.output, h.size, fun k hk hs => h.block k hk (fun e => hs e.symm)⟩
theorem Kept.of_below {w w' : World} (h : Below w.heap.size w w') : Kept (fun _ => False) w w' := ⟨h.os, h.tape, h.output, h.size, fun k hk _ => h.block k hk⟩
theorem Kept.row {S : Nat → Prop} {w w' : World} (h : Kept S w w') {g : Nat} {xs : List Int} (hr : Row w g xs) (hs : ¬ S g) : Row w' g xs := by
  unfold Row at hr ⊢
  rw [h.block g (lt_of_block hr) hs]; exact hr

/-- The built-in copy into a row of the call's own, from its head. -/
theorem copy_row (w : World) (d s : Option Addr) (dLen dCap sLen sCap : Nat) (g : Nat) (cur cs : List Int) (hg : Row w g cur) (hm : cs.length = min sLen dLen)
    (hd : 0 < cs.length → d = some ⟨g, 0, none⟩) (hs : IsB w s cs.length cs) (hfit : cs.length ≤ cur.length) :
    ∃ w', (Builtin.copy_ #[22, 22] 3 #[.slice d dLen dCap, .slice s sLen sCap]).run Tryd.prog w = .ok (.int .i64 cs.length) w' ∧ Row w' g (cs ++ cur.drop cs.length) ∧ Kept (fun k => k = g) w w' ∧ w'.heap.size = w.heap.size := by
  by_cases h0 : cs.length = 0
  · obtain rfl : cs = [] := List.eq_nil_of_length_eq_zero h0
    refine ⟨w, ?_, by simpa using hg, Kept.refl _ _, rfl⟩
    have := run_copy_none (P := Tryd.prog) w 22 22 3 5 d s dLen dCap sLen sCap Tryd.underlying22 Tryd.size5 (by simpa using hm.symm)
    simpa [goInt] using this
  · obtain rfl := hd (by omega)
    obtain ⟨b, off, rfl, hc⟩ := hs.2 (by omega)
    have hr := run_copy_row (P := Tryd.prog) w 22 22 3 5 g 0 dLen dCap ⟨b, off, none⟩ sLen sCap (cur.map (Value.int .u8)).toArray 5 (cs.map (Value.int .u8)) Tryd.underlying22 Tryd.size5 hg (by simpa using hm)
      (fun j v hj => by
        have hj' : j < cs.length := by simpa using (List.getElem?_eq_some_iff.1 hj).1
        rw [Addr.add_lit, hc j hj']
        simp [hj'] at hj
        simp [hj', ← hj]) (by simpa using hfit) (ints_oneCell _ _)
    refine ⟨w.setRow g (cs.map (Value.int .u8) ++ (cur.map (Value.int .u8)).drop cs.length).toArray, by simpa [goInt] using hr, ?_, ⟨rfl, rfl, rfl, by simp [World.setRow], fun k _ hk => setRow_other w g k _ hk⟩, by simp [World.setRow]⟩
    have := setRow_heap w g _ ((cur.map (Value.int .u8)).toArray.toList.take 0 ++ cs.map (Value.int .u8) ++ (cur.map (Value.int .u8)).toArray.toList.drop (0 + (cs.map (Value.int .u8)).length)).toArray 5 _ hg
    unfold Row
    simpa using this

set_option maxHeartbeats 400000 in
theorem clone6_some (x : Addr) (n c : Nat) (xs : List Int) (w : World) (hn : n ≤ 1048576) (hx : IsB w (some x) n xs) :
    Calls Tryd.prog 6 #[.slice (some x) n c] w fun e w' => e = .returned (.slice (some ⟨w.heap.size, 0, none⟩) n n) ∧ Row w' w.heap.size xs ∧ Kept (fun _ => False) w w' ∧ w'.heap.size = w.heap.size + 1 := by
  have hq := fun w => Lib.run_eql_slice_nil (P := Tryd.prog) w 22 5 (some x) n c 0 0 Tryd.underlying22
  have hmk := run_make_row' (P := Tryd.prog) 22 5 (.int .u8 0) 1 Tryd.underlying22 Tryd.info5 rfl .i64 .i64 n (by omega) (by omega)
  have hlen := hx.1
  have hrow : Row (w.alloc (.cells (madeCells #[Value.int .u8 0] n) 5)) w.heap.size (List.replicate n 0) := by
    unfold Row; rw [madeRow]; exact heap_alloc_new w _
  have hx' : IsB (w.alloc (.cells (madeCells #[Value.int .u8 0] n) 5)) (some x) xs.length xs := by
    refine ⟨rfl, fun h0 => ?_⟩
    obtain ⟨b, off, hb, hc⟩ := hx.2 (by omega)
    refine ⟨b, off, hb, fun i hi => ?_⟩
    have hlt : b < w.heap.size := World.block_lt_of_cell? w ⟨b, off + 0, none⟩ (hc 0 (by omega))
    rw [World.cell?_alloc_lt w _ _ hlt]
    exact hc i (by omega)
  obtain ⟨w2, hrun, hr2, hk2, hs2⟩ := copy_row _ (some ⟨w.heap.size, 0, none⟩) (some x) n n n c w.heap.size _ xs hrow (by simp [hlen]) (fun _ => rfl) hx' (by simp [hlen])
  have Hrow : Row w2 w.heap.size xs := by simpa [hlen] using hr2
  have Hk : Kept (fun _ => False) w w2 := by
    refine ⟨hk2.os, hk2.tape, hk2.output, by rw [hs2]; simp, fun k hk _ => ?_⟩
    rw [hk2.block k (by simp; omega) (by omega)]
    exact Below.heap_alloc _ _ _ hk
  have Hs : w2.heap.size = w.heap.size + 1 := by rw [hs2]; simp
  clear hx hrow hx' hr2 hk2 hs2
  rw [hlen] at hrun
  clear hlen
  go_enter Tryd.func6, Tryd.ntmps6
  go_wp2
  go_ret
  exact ⟨rfl, Hrow, Hk, Hs⟩

end Go.Proofs.Qxb6616311aDoor
