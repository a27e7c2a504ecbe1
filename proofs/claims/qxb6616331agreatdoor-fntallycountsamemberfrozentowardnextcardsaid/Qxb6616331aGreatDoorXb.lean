/-
  THE WALKS of seat b6616331aZD, Xb: answers in a row: zzAnswers once more, slices of one, the append.
-/
import Derived.Test.Qxb6616331aGreatDoorXa
namespace Go.Proofs.Qxb6616331aGreatDoor
open Go.RowKit
set_option linter.unusedVariables false
set_option linter.unusedSimpArgs false
set_option linter.unnecessarySimpa false
set_option maxRecDepth 40000

set_option maxRecDepth 40000 in
set_option maxHeartbeats 3200000 in
theorem answers15c (a : Option Addr) (n c : Nat) (As : List Ans) (w : World) (hn : n ≤ 1048576) (hA : IsA w a n As) (hs : ∀ i, i < n → SmallW (As.getD i noAns)) :
    Calls Tryz.prog 15 #[.slice a n c] w fun e w' => (∃ a' c', e = .returned (.slice a' n c') ∧ IsA w' a' n As ∧ c' = n ∧ (a' = none → n = 0)) ∧ Kept w w' := by
  have hq := fun w => Lib.run_eql_slice_nil (P := Tryz.prog) w 26 31 a n c 0 0 Tryz.underlying26
  cases a with
  | none =>
    obtain rfl : n = 0 := by
      rcases Nat.eq_zero_or_pos n with h | h
      · exact h
      · obtain ⟨b, off, h', _⟩ := hA.row h
        cases h'
    go_enter Tryz.func15, Tryz.ntmps15
    go_wp2
    go_ret
    exact ⟨⟨none, 0, rfl, hA, by simp⟩, Kept.refl _⟩
  | some x =>
    obtain ⟨i0, hi, hz0, hz1, hz2⟩ := info_parts Tryz.info58'
    have hmk : ∀ w : World, (Instr.makeSlice 48 (.int .i64 (n : Int)) (.int .i64 (n : Int))).run Tryz.prog w = .ok (.slice (some ⟨w.heap.size, 0, none⟩) n n) (w.alloc (.cells (madeCells ansCells (n * 11)) 58)) := fun w => by
      have := run_make (P := Tryz.prog) w 48 58 i0 _ Tryz.underlying48 hi hz0 .i64 .i64 n n (by omega) (by omega) (by rw [hz2]; omega) (by omega)
      rw [hz1] at this
      simpa [Value.cells] using this
    clear hz0 hz1 hz2 hi
    have hlen := hA.len
    go_enter Tryz.func15, Tryz.ntmps15
    go_wp2
    clear hmk hq
    go_loopw [4] (fun i wr => ∃ k : Nat, k ≤ n ∧ i = .int .i64 k ∧ AnsSt w wr n As k) (fun i _ => n - (intOf i).toNat)
    case atStart => exact ⟨0, Nat.zero_le _, rfl, AnsSt.start w n As 58⟩
    case round =>
      obtain ⟨k, hk, rfl, S⟩ := hrel
      by_cases hlt : k < n
      · obtain ⟨b, off, ha, hc⟩ := hA.row (by omega)
        cases ha
        have H := (hc k hlt).kept S.kept
        have sA := hs k hlt
        have t0 := H.c0
        obtain ⟨a1, n1, c1, t1, l1⟩ := H.c1
        obtain ⟨a2, n2, c2, t2, l2⟩ := H.c2
        have t3 := H.c3
        obtain ⟨a4, n4, c4, t4, l4⟩ := H.c4
        have t5 := H.c5
        have t6 := H.c6
        obtain ⟨a7, n7, c7, t7, l7⟩ := H.c7
        have t8 := H.c8
        have t9 := H.c9
        have t10 := H.c10
        have m1 := sA.view
        have m2 := sA.next
        have m4 := sA.before
        have m7 := sA.unsure
        have r4 := sA.befores
        have r7 := sA.unsures
        rw [l1.len] at m1
        rw [l2.len] at m2
        rw [l4.len] at m4
        rw [l7.len] at m7
        have hl : (k : Int) < (n : Int) := by omega
        clear hc hA H sA hs
        obtain ⟨A, hAk⟩ : ∃ A, A = As.getD k noAns := ⟨_, rfl⟩
        rw [← hAk] at t0 t3 t5 t6 t8 t9 t10 l1 l2 l4 l7 r4 r7
        have HA : Hid (A = As.getD k noAns) := hAk
        clear hAk
        go_wp2_with fail
        refine (answer19_in A.sender A.frozen A.known A.prepare A.announce A.commit A.mark a1 a2 a4 a7 n1 c1 n2 c2 n4 c4 n7 c7 _ _ _ _ _ l1 l2 l4 l7 (by omega) (by omega) m4 m7 r4 r7).mono ?_
        rintro e w1 ⟨⟨x1, d1, x2, d2, x4, d4, x7, d7, rfl, ⟨g1, f1⟩, ⟨g2, f2⟩, g4, g7⟩, q1⟩
        have HS : Hid (AnsSt w (setAns w1 w.heap.size (k * 11) A x1 x2 x4 x7 n1 d1 n2 d2 n4 d4 n7 d7) n As (k + 1)) := by
          have e := HA.out
          rw [e] at g1 g2 g4 g7 ⊢
          exact S.step hlt q1 g1 (f1.mono S.lt) g2 (f2.mono S.lt) (g4.mono S.lt) (g7.mono S.lt)
        obtain ⟨u0, p0⟩ := Option.isSome_iff_exists.1 (S.there k 0 hlt (by omega))
        have z0 := q1.cell p0
        have f0' := q1.free (p := ⟨w.heap.size, k * 11 + 0, none⟩) S.lt (S.free _)
        clear p0
        obtain ⟨u1, p1⟩ := Option.isSome_iff_exists.1 (S.there k 1 hlt (by omega))
        have z1 := q1.cell p1
        have f1' := q1.free (p := ⟨w.heap.size, k * 11 + 1, none⟩) S.lt (S.free _)
        clear p1
        obtain ⟨u2, p2⟩ := Option.isSome_iff_exists.1 (S.there k 2 hlt (by omega))
        have z2 := q1.cell p2
        have f2' := q1.free (p := ⟨w.heap.size, k * 11 + 2, none⟩) S.lt (S.free _)
        clear p2
        obtain ⟨u3, p3⟩ := Option.isSome_iff_exists.1 (S.there k 3 hlt (by omega))
        have z3 := q1.cell p3
        have f3' := q1.free (p := ⟨w.heap.size, k * 11 + 3, none⟩) S.lt (S.free _)
        clear p3
        obtain ⟨u4, p4⟩ := Option.isSome_iff_exists.1 (S.there k 4 hlt (by omega))
        have z4 := q1.cell p4
        have f4' := q1.free (p := ⟨w.heap.size, k * 11 + 4, none⟩) S.lt (S.free _)
        clear p4
        obtain ⟨u5, p5⟩ := Option.isSome_iff_exists.1 (S.there k 5 hlt (by omega))
        have z5 := q1.cell p5
        have f5' := q1.free (p := ⟨w.heap.size, k * 11 + 5, none⟩) S.lt (S.free _)
        clear p5
        obtain ⟨u6, p6⟩ := Option.isSome_iff_exists.1 (S.there k 6 hlt (by omega))
        have z6 := q1.cell p6
        have f6' := q1.free (p := ⟨w.heap.size, k * 11 + 6, none⟩) S.lt (S.free _)
        clear p6
        obtain ⟨u7, p7⟩ := Option.isSome_iff_exists.1 (S.there k 7 hlt (by omega))
        have z7 := q1.cell p7
        have f7' := q1.free (p := ⟨w.heap.size, k * 11 + 7, none⟩) S.lt (S.free _)
        clear p7
        obtain ⟨u8, p8⟩ := Option.isSome_iff_exists.1 (S.there k 8 hlt (by omega))
        have z8 := q1.cell p8
        have f8' := q1.free (p := ⟨w.heap.size, k * 11 + 8, none⟩) S.lt (S.free _)
        clear p8
        obtain ⟨u9, p9⟩ := Option.isSome_iff_exists.1 (S.there k 9 hlt (by omega))
        have z9 := q1.cell p9
        have f9' := q1.free (p := ⟨w.heap.size, k * 11 + 9, none⟩) S.lt (S.free _)
        clear p9
        obtain ⟨u10, p10⟩ := Option.isSome_iff_exists.1 (S.there k 10 hlt (by omega))
        have z10 := q1.cell p10
        have f10' := q1.free (p := ⟨w.heap.size, k * 11 + 10, none⟩) S.lt (S.free _)
        clear p10
        rw [Nat.add_zero] at z0 f0'
        clear t0 t1 t2 t3 t4 t5 t6 t7 t8 t9 t10 l1 l2 l4 l7 m1 m2 m4 m7 r4 r7 g1 f1 g2 f2 g4 g7 q1 S hlen HA
        go_wp2
        go_roundw
        case rel => exact ⟨k + 1, by omega, by go_num, HS.out⟩
        case measure => simp [intOf]; omega
      · obtain rfl : n = k := by omega
        have hl : ¬ (n : Int) < (n : Int) := by omega
        have HS : Hid (AnsSt w wr n As n) := S
        clear S
        go_wp2
        go_ret
        refine ⟨⟨_, _, rfl, ⟨hlen, fun _ => ⟨_, 0, rfl, fun i hi => ?_⟩⟩, rfl, fun e => by cases e⟩, HS.out.kept⟩
        rw [Nat.zero_add]
        exact (HS.out.done i hi).isAns

/-- The eleven cells of an answer. -/
abbrev cells11 (j : Int) (a1 : Option Addr) (n1 c1 : Nat) (a2 : Option Addr) (n2 c2 : Nat) (fz : Bool) (a4 : Option Addr) (n4 c4 : Nat) (kn : Bool) (mk : Str) (a7 : Option Addr) (n7 c7 : Nat) (p8 p9 p10 : Bool) : Array Value :=
  #[.int .i64 j, .slice a1 n1 c1, .slice a2 n2 c2, .bool fz, .slice a4 n4 c4, .bool kn, sv mk, .slice a7 n7 c7, .bool p8, .bool p9, .bool p10]
theorem cell_at {w : World} {b : Nat} {c : Array Value} {t : TypeId} {z : Nat × Nat} (e : w.heap[b]? = some (.cells c t z)) (o : Nat) : w.cell? ⟨b, o, none⟩ = c[o]? := by simp [World.cell?, e]
theorem isAns_of {w : World} {b o : Nat} {A : Ans} {a1 : Option Addr} {n1 c1 : Nat} {a2 : Option Addr} {n2 c2 : Nat} {a4 : Option Addr} {n4 c4 : Nat} {a7 : Option Addr} {n7 c7 : Nat}
    (hc : ∀ j, j < 11 → w.cell? ⟨b, o + j, none⟩ = (cells11 A.sender a1 n1 c1 a2 n2 c2 A.frozen a4 n4 c4 A.known A.mark a7 n7 c7 A.prepare A.announce A.commit)[j]?)
    (h1 : IsL w a1 n1 A.view) (h2 : IsL w a2 n2 A.next) (h4 : IsLL w a4 n4 A.before) (h7 : IsLL w a7 n7 A.unsure) : IsAns w b o A :=
  ⟨hc 0 (by omega), ⟨a1, n1, c1, hc 1 (by omega), h1⟩, ⟨a2, n2, c2, hc 2 (by omega), h2⟩, hc 3 (by omega), ⟨a4, n4, c4, hc 4 (by omega), h4⟩, hc 5 (by omega), hc 6 (by omega), ⟨a7, n7, c7, hc 7 (by omega), h7⟩, hc 8 (by omega), hc 9 (by omega), hc 10 (by omega)⟩
theorem isA_one {w : World} {b : Nat} {A : Ans} {t : TypeId} {a1 : Option Addr} {n1 c1 : Nat} {a2 : Option Addr} {n2 c2 : Nat} {a4 : Option Addr} {n4 c4 : Nat} {a7 : Option Addr} {n7 c7 : Nat}
    (e : w.heap[b]? = some (.cells (cells11 A.sender a1 n1 c1 a2 n2 c2 A.frozen a4 n4 c4 A.known A.mark a7 n7 c7 A.prepare A.announce A.commit) t (0, 0)))
    (h1 : IsL w a1 n1 A.view) (h2 : IsL w a2 n2 A.next) (h4 : IsLL w a4 n4 A.before) (h7 : IsLL w a7 n7 A.unsure) : IsA w (some ⟨b, 0, none⟩) 1 [A] :=
  ⟨rfl, fun _ => ⟨b, 0, rfl, fun i hi => by
    obtain rfl : i = 0 := by omega
    refine isAns_of (A := A) (c1 := c1) (c2 := c2) (c4 := c4) (c7 := c7) (fun j hj => ?_) h1 h2 h4 h7
    rw [cell_at e]
    simp⟩⟩
/-- An answer's cells stand elsewhere too. -/
theorem IsAns.copy {w w' : World} {b o b' o' : Nat} {A : Ans} (h : IsAns w b o A) (q : Kept w w') (hc : ∀ j, j < 11 → w'.cell? ⟨b', o' + j, none⟩ = w.cell? ⟨b, o + j, none⟩) : IsAns w' b' o' A := by
  obtain ⟨a1, n1, k1, h1, g1⟩ := h.c1
  obtain ⟨a2, n2, k2, h2, g2⟩ := h.c2
  obtain ⟨a4, n4, k4, h4, g4⟩ := h.c4
  obtain ⟨a7, n7, k7, h7, g7⟩ := h.c7
  exact ⟨(hc 0 (by omega)).trans h.c0, ⟨a1, n1, k1, (hc 1 (by omega)).trans h1, g1.kept q⟩, ⟨a2, n2, k2, (hc 2 (by omega)).trans h2, g2.kept q⟩, (hc 3 (by omega)).trans h.c3, ⟨a4, n4, k4, (hc 4 (by omega)).trans h4, g4.kept q⟩, (hc 5 (by omega)).trans h.c5, (hc 6 (by omega)).trans h.c6, ⟨a7, n7, k7, (hc 7 (by omega)).trans h7, g7.kept q⟩, (hc 8 (by omega)).trans h.c8, (hc 9 (by omega)).trans h.c9, (hc 10 (by omega)).trans h.c10⟩
theorem IsAns.there {w : World} {b o : Nat} {A : Ans} (h : IsAns w b o A) (j : Nat) (hj : j < 11) : ∃ v, w.cell? ⟨b, o + j, none⟩ = some v := by
  obtain ⟨a1, n1, k1, h1, g1⟩ := h.c1
  obtain ⟨a2, n2, k2, h2, g2⟩ := h.c2
  obtain ⟨a4, n4, k4, h4, g4⟩ := h.c4
  obtain ⟨a7, n7, k7, h7, g7⟩ := h.c7
  obtain rfl | rfl | rfl | rfl | rfl | rfl | rfl | rfl | rfl | rfl | rfl : j = 0 ∨ j = 1 ∨ j = 2 ∨ j = 3 ∨ j = 4 ∨ j = 5 ∨ j = 6 ∨ j = 7 ∨ j = 8 ∨ j = 9 ∨ j = 10 := by omega
  · exact ⟨_, h.c0⟩
  · exact ⟨_, h1⟩
  · exact ⟨_, h2⟩
  · exact ⟨_, h.c3⟩
  · exact ⟨_, h4⟩
  · exact ⟨_, h.c5⟩
  · exact ⟨_, h.c6⟩
  · exact ⟨_, h7⟩
  · exact ⟨_, h.c8⟩
  · exact ⟨_, h.c9⟩
  · exact ⟨_, h.c10⟩
/-- The cells of a row of answers, read one by one. -/
def rowOf (w : World) (b off n : Nat) : List Value := (List.range (n * 11)).map (fun j => (w.cell? ⟨b, off + j, none⟩).getD undef)
theorem rowOf_at {w : World} {b off n : Nat} {As : List Ans} (h : ∀ i, i < n → IsAns w b (off + i * 11) (As.getD i noAns)) (j : Nat) (v : Value) (e : (rowOf w b off n)[j]? = some v) : w.cell? ⟨b, off + j, none⟩ = some v := by
  unfold rowOf at e
  rw [List.getElem?_map] at e
  by_cases hj : j < n * 11
  · rw [List.getElem?_range hj] at e
    obtain ⟨u, hu⟩ := (h (j / 11) (by omega)).there (j % 11) (by omega)
    rw [show off + j / 11 * 11 + j % 11 = off + j by omega] at hu
    simp only [Option.map_some] at e
    rw [hu] at e ⊢
    simpa using e
  · rw [List.getElem?_eq_none (by simpa using hj)] at e
    cases e
theorem rowOf_get (w : World) (b off n j : Nat) (hj : j < n * 11) {v : Value} (hv : w.cell? ⟨b, off + j, none⟩ = some v) : (rowOf w b off n)[j]? = some v := by
  unfold rowOf
  rw [List.getElem?_map, List.getElem?_range hj]
  simp only [Option.map_some]
  rw [hv]
  rfl
theorem isA_app {w w' : World} {n b' : Nat} {As : List Ans} {A : Ans} {olds : List Value} {news : List Value} {zs : Array Value} {c : Nat} (q : Kept w w') (hl : olds.length = n * 11) (hAs : As.length = n)
    (e : w'.heap[b']? = some (.cells (olds.toArray ++ news.toArray ++ zs) 58 (0, 0)))
    (ho : ∀ i, i < n → ∃ b o, IsAns w b o (As.getD i noAns) ∧ ∀ j, j < 11 → olds[i * 11 + j]? = w.cell? ⟨b, o + j, none⟩)
    (hn : ∃ b o, IsAns w b o A ∧ ∀ j, j < 11 → news[j]? = w.cell? ⟨b, o + j, none⟩) : IsA w' (some ⟨b', 0, none⟩) (n + 1) (As ++ [A]) := by
  have hnl : ∀ j, j < 11 → j < news.length := fun j hj => by
    obtain ⟨b, o, h1, h2⟩ := hn
    obtain ⟨v, hv⟩ := h1.there j hj
    have := h2 j hj
    rw [hv] at this
    exact (List.getElem?_eq_some_iff.1 this).1
  refine ⟨by simp [hAs], fun _ => ⟨b', 0, rfl, fun i hi => ?_⟩⟩
  by_cases hin : i < n
  · obtain ⟨b, o, h1, h2⟩ := ho i hin
    have e1 : (As ++ [A]).getD i noAns = As.getD i noAns := by
      rw [List.getD_eq_getElem?_getD, List.getD_eq_getElem?_getD, List.getElem?_append_left (by omega)]
    rw [e1]
    refine h1.copy q (fun j hj => ?_)
    rw [cell_at e, ← h2 j hj, Nat.zero_add, Array.getElem?_append_left (by simp [hl]; omega), Array.getElem?_append_left (by simp [hl]; omega)]
    simp
  · obtain rfl : i = n := by omega
    obtain ⟨b, o, h1, h2⟩ := hn
    have e1 : (As ++ [A]).getD i noAns = A := by
      rw [List.getD_eq_getElem?_getD, List.getElem?_append_right (by omega), hAs, Nat.sub_self]
      rfl
    rw [e1]
    refine h1.copy q (fun j hj => ?_)
    have := hnl j hj
    rw [cell_at e, ← h2 j hj, Nat.zero_add, Array.getElem?_append_left (by simp [hl]; omega), Array.getElem?_append_right (by simp [hl])]
    simp [hl]
/-- The append of one answer to a row without room. -/
theorem append48 {w : World} {p : Option Addr} {n : Nat} {As : List Ans} (hA : IsA w p n As) (hp : p = none → n = 0) (hn : n ≤ 1048576) {q : Option Addr} {c : Nat} {A : Ans} (hq : IsA w q 1 [A]) :
    ∃ p' c' w', (Builtin.append_ #[48, 48] 48 #[.slice p n n, .slice q 1 c]).run Tryz.prog w = .ok (.slice p' (n + 1) c') w' ∧ IsA w' p' (n + 1) (As ++ [A]) ∧ Kept w w' := by
  obtain ⟨i0, hi, hz0, hz1, hz2⟩ := info_parts Tryz.info58'
  obtain ⟨bq, oq, rfl, hcq⟩ := hq.row (by omega)
  have hnw : ∀ i, i < 1 → IsAns w bq (oq + i * 11) ([A].getD i noAns) := hcq
  have hnews : ∀ j v, (rowOf w bq oq 1)[j]? = some v → w.cell? ((⟨bq, oq, none⟩ : Addr).add j) = some v := fun j v e => by
    rw [Addr.add_lit]; exact rowOf_at hnw j v e
  have hA0 : IsAns w bq oq A := by simpa using hcq 0 (by omega)
  have hnew11 : ∃ b o, IsAns w b o A ∧ ∀ j, j < 11 → (rowOf w bq oq 1)[j]? = w.cell? ⟨b, o + j, none⟩ := ⟨bq, oq, hA0, fun j hj => by
    obtain ⟨v, hv⟩ := hA0.there j hj
    rw [hv]
    exact rowOf_get w bq oq 1 j (by omega) hv⟩
  have hln : (rowOf w bq oq 1).length = 1 * i0.size := by rw [hz1]; simp [rowOf]
  cases p with
  | none =>
    obtain rfl := hp rfl
    have hAs : As = [] := List.eq_nil_of_length_eq_zero hA.len
    subst hAs
    have hr := run_append_nil (P := Tryz.prog) w 48 48 58 i0 _ Tryz.underlying48 hi hz0 ⟨bq, oq, none⟩ 1 c (rowOf w bq oq 1) hln hnews (by omega) (by omega) (by rw [hz2]; omega)
    refine ⟨_, _, _, hr, ?_, (Kept.drew _).trans (Kept.alloc _ _)⟩
    refine isA_app (w := w) (olds := []) (news := rowOf w bq oq 1) (zs := Builtin.zeroCells (Value.cells (.agg ansCells)) (grownCap w 1 0 58 - 1)) (c := 0) ((Kept.drew _).trans (Kept.alloc _ _)) rfl rfl ?_ (fun i hi => absurd hi (Nat.not_lt_zero _)) hnew11
    rw [show w.heap.size = w.drew.heap.size from rfl, heap_alloc_new]
    simp
  | some ad =>
    by_cases h0 : n = 0
    · subst h0
      have hAs : As = [] := List.eq_nil_of_length_eq_zero hA.len
      subst hAs
      have hr := run_append_grow (P := Tryz.prog) w 48 48 58 i0 _ Tryz.underlying48 hi hz0 ad 0 0 [] (by simp) (fun j v e => by simp at e) ⟨bq, oq, none⟩ 1 c (rowOf w bq oq 1) hln hnews (by omega) (by omega) (by rw [hz2]; exact growslice_fits (by omega) (by omega))
      refine ⟨_, _, _, hr, ?_, (Kept.drew _).trans (Kept.alloc _ _)⟩
      refine isA_app (w := w) (olds := []) (zs := Builtin.zeroCells (Value.cells (.agg ansCells)) (grownCap w (0 + 1) 0 58 - (0 + 1))) (c := 0) ((Kept.drew _).trans (Kept.alloc _ _)) rfl rfl ?_ (fun i hi => absurd hi (Nat.not_lt_zero _)) hnew11
      rw [show w.heap.size = w.drew.heap.size from rfl, heap_alloc_new]
    · obtain ⟨b, off, ea, hc⟩ := hA.row (by omega)
      cases ea
      have hlo : (rowOf w b off n).length = n * i0.size := by rw [hz1]; simp [rowOf]
      have hr := run_append_grow (P := Tryz.prog) w 48 48 58 i0 _ Tryz.underlying48 hi hz0 ⟨b, off, none⟩ n n (rowOf w b off n) hlo (fun j v e => by rw [Addr.add_lit]; exact rowOf_at hc j v e) ⟨bq, oq, none⟩ 1 c (rowOf w bq oq 1) hln hnews (by omega) (by omega) (by rw [hz2]; exact growslice_fits (by omega) (by omega))
      refine ⟨_, _, _, hr, ?_, (Kept.drew _).trans (Kept.alloc _ _)⟩
      refine isA_app (w := w) (olds := rowOf w b off n) (zs := Builtin.zeroCells (Value.cells (.agg ansCells)) (grownCap w (n + 1) n 58 - (n + 1))) (c := 0) ((Kept.drew _).trans (Kept.alloc _ _)) (by simp [rowOf]) hA.len ?_ (fun i hi => ⟨b, off + i * 11, hc i hi, fun j hj => ?_⟩) hnew11
      · rw [show w.heap.size = w.drew.heap.size from rfl, heap_alloc_new]
      · obtain ⟨v, hv⟩ := (hc i hi).there j hj
        rw [hv]
        exact rowOf_get w b off n _ (by omega) (by rw [show off + (i * 11 + j) = off + i * 11 + j by omega]; exact hv)

section
variable {W : World} {a : Act} {o : Oper}
theorem run_bs26 {s : Nat} {x0 x1 x2 x3 x4 x5 x6 x7 x8 x9 x10 : Value} (ho : o.op = .buildSlice 26 1 #[(0, .tmp s)]) (h : rd a s = .agg #[x0, x1, x2, x3, x4, x5, x6, x7, x8, x9, x10]) : (execOp a.eval o).run Tryz.prog W = .ok (.value (.slice (some ⟨W.heap.size, 0, none⟩) 1 1)) (W.alloc (.cells #[x0, x1, x2, x3, x4, x5, x6, x7, x8, x9, x10] 31)) := by
  obtain ⟨dst, op, ty, pos, after, guard⟩ := o
  cases ho
  have h' : a.eval (.tmp s) = _ := h
  generalize a.eval = ρ at h' ⊢
  simp [execOp, go_sem, h']
theorem run_bs48 {s : Nat} {x0 x1 x2 x3 x4 x5 x6 x7 x8 x9 x10 : Value} (ho : o.op = .buildSlice 48 1 #[(0, .tmp s)]) (h : rd a s = .agg #[x0, x1, x2, x3, x4, x5, x6, x7, x8, x9, x10]) : (execOp a.eval o).run Tryz.prog W = .ok (.value (.slice (some ⟨W.heap.size, 0, none⟩) 1 1)) (W.alloc (.cells #[x0, x1, x2, x3, x4, x5, x6, x7, x8, x9, x10] 58)) := by
  obtain ⟨dst, op, ty, pos, after, guard⟩ := o
  cases ho
  have h' : a.eval (.tmp s) = _ := h
  generalize a.eval = ρ at h' ⊢
  simp [execOp, go_sem, h']
theorem run_append48 {s t : Nat} {v u v' : Value} {W' : World} (ho : o.op = .call { callee := .builtin .append, args := #[.tmp s, .tmp t], argTypes := #[48, 48] }) (hty : o.type = 48) (h : rd a s = v) (h2 : rd a t = u) (hr : (Builtin.append_ #[48, 48] 48 #[v, u]).run Tryz.prog W = .ok v' W') : (execOp a.eval o).run Tryz.prog W = .ok (.value v') W' := by
  obtain ⟨dst, op, ty, pos, after, guard⟩ := o
  cases ho
  cases hty
  have h' : a.eval (.tmp s) = _ := h
  have h2' : a.eval (.tmp t) = _ := h2
  generalize a.eval = ρ at h' h2' ⊢
  rw [BigFrame.execOp_builtin, BigFrame.builtin_append]
  simp only [List.map_toArray, List.map_cons, List.map_nil, h', h2', Sem.run_bind, hr, Result.andThen_ok, Sem.run_pure]
end

end Go.Proofs.Qxb6616331aGreatDoor
