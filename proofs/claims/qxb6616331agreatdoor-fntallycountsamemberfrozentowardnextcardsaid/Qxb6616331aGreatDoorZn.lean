/-
  THE WALKS of seat b6616331aZD, n: setOf, newMembers.
-/
import Derived.Test.Qxb6616331aGreatDoorZm
import Derived.Test.Qxb6616331aGreatDoorShelf
import Derived.Sort.OwnSorted
import Derived.Laws.IdiomStrings
namespace Go.Proofs.Qxb6616331aGreatDoor
open Go.RowKit
set_option linter.unusedVariables false
set_option linter.unusedSimpArgs false
set_option maxRecDepth 40000

/-- A slice is returned that reads as xs. -/
def RetL (w w' : World) (e : Ending) (xs : List Str) : Prop := ∃ a c, e = .returned (.slice a xs.length c) ∧ IsL w' a xs.length xs ∧ Fresh w.heap.size a
theorem OwnS.retL {w w' : World} {v : Value} {xs : List Str} (h : OwnS w' w.heap.size v xs) : RetL w w' (.returned v) xs := by
  obtain ⟨a, c, rfl, h1, h2, _⟩ := h.isL
  exact ⟨a, c, rfl, h1, h2⟩
theorem encStr_sv (x : Str) : encStr x = sv x := rfl

set_option maxHeartbeats 1600000 in
theorem values59 (a : Option Addr) (n c : Nat) (w : World) :
    Calls Tryz.prog 59 #[.slice a n c] w fun e w' => e = .returned (.func (.func 70) #[] #[.pointer (some ⟨w.heap.size, 0, none⟩)]) ∧ w' = w.alloc (.cells #[.slice a n c] 23) := by
  go_enter Tryz.func59, Tryz.ntmps59
  go_wp2
  go_ret
  exact ⟨rfl, rfl⟩

theorem appendSeq76 (Bs b off cap : Nat) (zs : List Str) (hlen : zs.length ≤ 4398046511104) (w : World) (hBs : Bs < w.heap.size)
    (hc : w.cell? ⟨Bs, 0, none⟩ = some (.slice (some ⟨b, off, none⟩) zs.length cap)) (hb : b < w.heap.size) (hcs : ∀ j, j < zs.length → w.cell? ⟨b, off + j, none⟩ = some (sv (zs[j]?.getD []))) :
    Calls Tryz.prog 76 #[.slice none 0 0, .func (.func 70) #[] #[.pointer (some ⟨Bs, 0, none⟩)]] w fun e W' => ∃ v, e = .returned v ∧ OwnS W' w.heap.size v zs ∧ Kept w W' := by
  refine ((callsIn_wide (n := 5)).1 (appendSeq76_in Fence.wide 5 trivial trivial rfl (by omega) Bs b off cap zs hlen w hBs hc hb hcs)).mono ?_
  rintro e w' ⟨v, rfl, h1, h2⟩
  exact ⟨v, rfl, h1, Kept.of_below h2⟩

set_option maxHeartbeats 1600000 in
theorem collect68 (Bs b off cap : Nat) (zs : List Str) (hlen : zs.length ≤ 4398046511104) (w : World) (hBs : Bs < w.heap.size)
    (hc : w.cell? ⟨Bs, 0, none⟩ = some (.slice (some ⟨b, off, none⟩) zs.length cap)) (hb : b < w.heap.size) (hcs : ∀ j, j < zs.length → w.cell? ⟨b, off + j, none⟩ = some (sv (zs[j]?.getD []))) :
    Calls Tryz.prog 68 #[.func (.func 70) #[] #[.pointer (some ⟨Bs, 0, none⟩)]] w fun e W' => ∃ v, e = .returned v ∧ OwnS W' w.heap.size v zs ∧ Kept w W' := by
  have H := appendSeq76 Bs b off cap zs hlen w hBs hc hb hcs
  have HH : Hid (Calls Tryz.prog 76 #[.slice none 0 0, .func (.func 70) #[] #[.pointer (some ⟨Bs, 0, none⟩)]] w fun e W' => ∃ v, e = .returned v ∧ OwnS W' w.heap.size v zs ∧ Kept w W') := H
  clear H hcs hc
  go_enter Tryz.func68, Tryz.ntmps68
  go_wp2_with fail
  refine HH.out.mono ?_
  rintro e w1 ⟨v, rfl, h1, h2⟩
  go_wp2
  go_ret
  exact ⟨_, rfl, h1, h2⟩

set_option maxHeartbeats 1600000 in
theorem sorted58 (Bs b off cap : Nat) (zs : List Str) (hlen : zs.length ≤ 4398046511104) (w : World) (hBs : Bs < w.heap.size)
    (hc : w.cell? ⟨Bs, 0, none⟩ = some (.slice (some ⟨b, off, none⟩) zs.length cap)) (hb : b < w.heap.size) (hcs : ∀ j, j < zs.length → w.cell? ⟨b, off + j, none⟩ = some (sv (zs[j]?.getD []))) :
    Calls Tryz.prog 58 #[.func (.func 70) #[] #[.pointer (some ⟨Bs, 0, none⟩)]] w fun e W' => ∃ v, e = .returned v ∧ OwnS W' w.heap.size v (zs.mergeSort fun x y => decide (x ≤ y)) ∧ Kept w W' := by
  have H := collect68 Bs b off cap zs hlen w hBs hc hb hcs
  have HH : Hid (Calls Tryz.prog 68 #[.func (.func 70) #[] #[.pointer (some ⟨Bs, 0, none⟩)]] w fun e W' => ∃ v, e = .returned v ∧ OwnS W' w.heap.size v zs ∧ Kept w W') := H
  clear H hcs hc
  go_enter Tryz.func58, Tryz.ntmps58
  go_wp2_with fail
  refine HH.out.mono ?_
  rintro e w1 ⟨v, rfl, hrow, hk⟩
  have HK : Hid (Kept w w1) := hk
  have HR : Hid (OwnS w1 w.heap.size v zs) := hrow
  rcases hrow.2 with ⟨rfl, hz⟩ | ⟨gb, gcap, cur, rfl, hbase, hgb, r1, r2, r3, r4⟩
  · have hss : zs = [] := List.eq_nil_of_length_eq_zero hz
    subst hss
    clear hk hrow
    go_wp2_with fail
    refine (Tryz.slices_Sort_string_none none 0 w1).mono ?_
    rintro e w' ⟨rfl, rfl⟩
    go_wp2
    go_ret
    exact ⟨_, rfl, by simpa using HR.out, HK.out⟩
  · have hH : Sort.Holds encStr w1 gb 0 zs.toArray := holds_of_block hgb (by simpa [encStr_sv] using r4)
    have hgl : gb < w1.heap.size := (Array.getElem?_eq_some_iff.1 hgb).1
    have G : Hid (w1.heap[gb]? = some (.cells cur 9 (0, 0))) := hgb
    have R3 : Hid (cur.size = gcap * 1) := r3
    have HHs : Hid (Sort.Holds encStr w1 gb 0 zs.toArray) := hH
    clear hk hrow hgb r3 r4 hH
    go_wp2_with fail
    refine (Tryz.slices_Sort_string gb 0 gcap zs w1 HHs.out hgl (by omega)).mono ?_
    rintro e w' ⟨rfl, nn, os, rfl⟩
    go_wp2
    go_ret
    refine ⟨_, rfl, ?_, Kept.of_below (HK.out.below.grown (grownBy_sorted _) HK.out.size (fun j hj => by cases hj; exact hbase))⟩
    have := ownsRow_sorted (n := nn) (os := os) (ss := zs) (ts := zs.mergeSort fun x y => decide (x ≤ y)) (by simp) hbase G.out r1 r2 R3.out
    unfold OwnS
    rw [List.length_mergeSort]
    exact this


set_option maxHeartbeats 1600000 in
theorem setOf44 (a : Option Addr) (n c : Nat) (xs : List Str) (w : World) (hn : n ≤ 4398046511104) (hL : IsL w a n xs) :
    Calls Tryz.prog 44 #[.slice a n c] w fun e w' => RetL w w' e (setP xs) ∧ Kept w w' := by
  have hlen := hL.len
  by_cases h0 : n = 0
  · subst h0
    have hx : xs = [] := List.eq_nil_of_length_eq_zero hlen
    subst hx
    clear hL hlen
    go_enter Tryz.func44, Tryz.ntmps44
    go_wp2
    go_ret
    exact ⟨⟨none, 0, rfl, ⟨rfl, fun h => absurd h (Nat.lt_irrefl _)⟩, (fun x e => by cases e)⟩, Kept.refl _⟩
  · have hz : ((n : Int) == 0) = false := by simp; omega
    obtain ⟨b, off, rfl, hc⟩ := hL.row (by omega)
    have hb : b < w.heap.size := World.block_lt_of_cell? w ⟨b, off + 0, none⟩ (hc 0 (by omega))
    subst hlen
    have HS : Hid (Calls Tryz.prog 58 #[.func (.func 70) #[] #[.pointer (some ⟨w.heap.size, 0, none⟩)]] (w.alloc (.cells #[.slice (some ⟨b, off, none⟩) xs.length c] 23)) fun e W' => ∃ v, e = .returned v ∧ OwnS W' (w.alloc (.cells #[.slice (some ⟨b, off, none⟩) xs.length c] 23)).heap.size v (xs.mergeSort fun x y => decide (x ≤ y)) ∧ Kept (w.alloc (.cells #[.slice (some ⟨b, off, none⟩) xs.length c] 23)) W') :=
      sorted58 w.heap.size b off c xs hn _ (by simp) (World.cell?_alloc_mark w _ _ (0, 0) 0) (by simp; omega) (fun j hj => by
        rw [World.cell?_alloc_lt w _ _ hb]
        have := hc j hj
        rwa [List.getD_eq_getElem?_getD] at this)
    clear hc hL
    go_enter Tryz.func44, Tryz.ntmps44
    go_wp2_with fail
    refine (values59 _ _ _ _).mono ?_
    rintro e w1 ⟨rfl, rfl⟩
    go_wp2_with fail
    refine HS.out.mono ?_
    rintro e w2 ⟨v, rfl, hrow, hk⟩
    have K2 : Hid (Kept w w2) := (Kept.alloc _ _).trans hk
    obtain ⟨ms, hms⟩ : ∃ ms, ms = xs.mergeSort fun x y => decide (x ≤ y) := ⟨_, rfl⟩
    have HM : Hid (Lib.compact ms = setP xs) := by rw [hms]; exact compact_sorted xs
    have hml : ms.length = xs.length := by rw [hms]; simp
    rw [← hms] at hrow
    rcases hrow.2 with ⟨rfl, hz'⟩ | ⟨gb, gcap, cur, rfl, hbase, hgb, r1, r2, r3, r4⟩
    · exfalso; omega
    · have hH : Sort.Holds encStr w2 gb 0 ms.toArray := holds_of_block hgb (by simpa [encStr_sv] using r4)
      have HHs : Hid (Sort.Holds encStr w2 gb 0 ms.toArray) := hH
      have hbase' : w.heap.size ≤ gb := by simp at hbase; omega
      have ML : Hid (ms.length = xs.length) := hml
      have C := Lib.compact_length_le ms
      have CL : Hid ((Lib.compact ms).length ≤ ms.length) := C
      clear hk hrow hgb r3 r4 hH hms hml C hbase
      go_wp2_with fail
      refine (Tryz.slices_Compact_string gb 0 gcap ms w2 HHs.out (by rw [ML.out]; omega) r1).mono ?_
      rintro e w' ⟨rfl, q, rfl⟩
      go_wp2
      go_ret
      refine ⟨?_, ?_⟩
      · rw [← HM.out]
        refine ⟨_, _, rfl, ⟨rfl, fun _ => ⟨gb, 0, rfl, fun i hi => ?_⟩⟩, (fun x e => by cases e; exact hbase')⟩
        have e1 := Sort.cell?_putRow encStr (Sort.ahead w2 q) gb 0 ms.toArray (Lib.compact ms ++ List.replicate (ms.length - (Lib.compact ms).length) []).toArray HHs.out (by have := CL.out; simp; omega) i (by have := CL.out; simp; omega)
        rw [e1, encStr_sv]
        congr 2
        have h2 : i < (Lib.compact ms ++ List.replicate (ms.length - (Lib.compact ms).length) []).length := by simp; omega
        rw [getElem!_pos _ i (by simpa using h2)]
        simp [hi]
      · have g := grownBy_sorted (w := w2) (g := gb) (n := q) (os := #[]) (Lib.compact ms ++ List.replicate (ms.length - (Lib.compact ms).length) []).toArray
        rw [Sort.grow_empty] at g
        exact Kept.of_below (K2.out.below.grown g K2.out.size (fun j hj => by cases hj; exact hbase'))

set_option maxHeartbeats 1600000 in
theorem setOf53 (a : Option Addr) (n c : Nat) (xs : List Str) (w : World) (hn : n ≤ 4398046511104) (hL : IsL w a n xs) :
    Calls Tryz.prog 53 #[.slice a n c] w fun e w' => RetL w w' e (setP xs) ∧ Kept w w' := by
  have hlen := hL.len
  by_cases h0 : n = 0
  · subst h0
    have hx : xs = [] := List.eq_nil_of_length_eq_zero hlen
    subst hx
    clear hL hlen
    go_enter Tryz.func53, Tryz.ntmps53
    go_wp2
    go_ret
    exact ⟨⟨none, 0, rfl, ⟨rfl, fun h => absurd h (Nat.lt_irrefl _)⟩, (fun x e => by cases e)⟩, Kept.refl _⟩
  · have hz : ((n : Int) == 0) = false := by simp; omega
    obtain ⟨b, off, rfl, hc⟩ := hL.row (by omega)
    have hb : b < w.heap.size := World.block_lt_of_cell? w ⟨b, off + 0, none⟩ (hc 0 (by omega))
    subst hlen
    have HS : Hid (Calls Tryz.prog 58 #[.func (.func 70) #[] #[.pointer (some ⟨w.heap.size, 0, none⟩)]] (w.alloc (.cells #[.slice (some ⟨b, off, none⟩) xs.length c] 23)) fun e W' => ∃ v, e = .returned v ∧ OwnS W' (w.alloc (.cells #[.slice (some ⟨b, off, none⟩) xs.length c] 23)).heap.size v (xs.mergeSort fun x y => decide (x ≤ y)) ∧ Kept (w.alloc (.cells #[.slice (some ⟨b, off, none⟩) xs.length c] 23)) W') :=
      sorted58 w.heap.size b off c xs hn _ (by simp) (World.cell?_alloc_mark w _ _ (0, 0) 0) (by simp; omega) (fun j hj => by
        rw [World.cell?_alloc_lt w _ _ hb]
        have := hc j hj
        rwa [List.getD_eq_getElem?_getD] at this)
    clear hc hL
    go_enter Tryz.func53, Tryz.ntmps53
    go_wp2_with fail
    refine (values59 _ _ _ _).mono ?_
    rintro e w1 ⟨rfl, rfl⟩
    go_wp2_with fail
    refine HS.out.mono ?_
    rintro e w2 ⟨v, rfl, hrow, hk⟩
    have K2 : Hid (Kept w w2) := (Kept.alloc _ _).trans hk
    obtain ⟨ms, hms⟩ : ∃ ms, ms = xs.mergeSort fun x y => decide (x ≤ y) := ⟨_, rfl⟩
    have HM : Hid (Lib.compact ms = setP xs) := by rw [hms]; exact compact_sorted xs
    have hml : ms.length = xs.length := by rw [hms]; simp
    rw [← hms] at hrow
    rcases hrow.2 with ⟨rfl, hz'⟩ | ⟨gb, gcap, cur, rfl, hbase, hgb, r1, r2, r3, r4⟩
    · exfalso; omega
    · have hH : Sort.Holds encStr w2 gb 0 ms.toArray := holds_of_block hgb (by simpa [encStr_sv] using r4)
      have HHs : Hid (Sort.Holds encStr w2 gb 0 ms.toArray) := hH
      have hbase' : w.heap.size ≤ gb := by simp at hbase; omega
      have ML : Hid (ms.length = xs.length) := hml
      have C := Lib.compact_length_le ms
      have CL : Hid ((Lib.compact ms).length ≤ ms.length) := C
      clear hk hrow hgb r3 r4 hH hms hml C hbase
      go_wp2_with fail
      refine (Tryz.slices_Compact_string gb 0 gcap ms w2 HHs.out (by rw [ML.out]; omega) r1).mono ?_
      rintro e w' ⟨rfl, q, rfl⟩
      go_wp2
      go_ret
      refine ⟨?_, ?_⟩
      · rw [← HM.out]
        refine ⟨_, _, rfl, ⟨rfl, fun _ => ⟨gb, 0, rfl, fun i hi => ?_⟩⟩, (fun x e => by cases e; exact hbase')⟩
        have e1 := Sort.cell?_putRow encStr (Sort.ahead w2 q) gb 0 ms.toArray (Lib.compact ms ++ List.replicate (ms.length - (Lib.compact ms).length) []).toArray HHs.out (by have := CL.out; simp; omega) i (by have := CL.out; simp; omega)
        rw [e1, encStr_sv]
        congr 2
        have h2 : i < (Lib.compact ms ++ List.replicate (ms.length - (Lib.compact ms).length) []).length := by simp; omega
        rw [getElem!_pos _ i (by simpa using h2)]
        simp [hi]
      · have g := grownBy_sorted (w := w2) (g := gb) (n := q) (os := #[]) (Lib.compact ms ++ List.replicate (ms.length - (Lib.compact ms).length) []).toArray
        rw [Sort.grow_empty] at g
        exact Kept.of_below (K2.out.below.grown g K2.out.size (fun j hj => by cases hj; exact hbase'))

set_option maxHeartbeats 1600000 in
theorem newMembers41 (a : Option Addr) (n c : Nat) (xs : List Str) (w : World) (hn : n ≤ 4398046511104) (hL : IsL w a n xs) :
    Calls Tryz.prog 41 #[.slice a n c] w fun e w' => RetL w w' e (setP xs) ∧ Kept w w' := by
  have H : Hid (Calls Tryz.prog 53 #[.slice a n c] w fun e w' => RetL w w' e (setP xs) ∧ Kept w w') := setOf53 a n c xs w hn hL
  clear hL
  go_enter Tryz.func41, Tryz.ntmps41
  go_wp2_with fail
  refine H.out.mono ?_
  rintro e w1 ⟨⟨a1, c1, rfl, h1, h2⟩, k1⟩
  go_wp2
  go_ret
  exact ⟨⟨_, _, rfl, h1, h2⟩, k1⟩

end Go.Proofs.Qxb6616331aGreatDoor
