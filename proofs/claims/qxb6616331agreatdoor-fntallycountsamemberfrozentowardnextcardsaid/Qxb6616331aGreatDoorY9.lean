/-
  THE WALKS of seat b6616331aZD, Y9: zzSameStrs, zzViewsEq, zzAnswers under wider bounds.
-/
import Derived.Test.Qxb6616331aGreatDoorY8
import Derived.Test.Qxb6616331aGreatDoorZf
import Derived.Test.Qxb6616331aGreatDoorZ7
namespace Go.Proofs.Qxb6616331aGreatDoor
open Go.RowKit
set_option linter.unusedVariables false
set_option linter.unusedSimpArgs false
set_option linter.unnecessarySimpa false
set_option maxRecDepth 40000

set_option maxHeartbeats 800000 in
theorem sameStrs22w (a a' : Option Addr) (n c n' c' : Nat) (xs ys : List Str) (w : World) (hn : n ≤ 4398046511104) (hL : IsL w a n xs) (hL' : IsL w a' n' ys) :
    Calls Tryz.prog 22 #[.slice a n c, .slice a' n' c'] w fun e w' => RetB e (fun b => b = true ↔ xs = ys) ∧ Kept w w' := by
  have e1 := hL.len
  have e2 := hL'.len
  by_cases hnn : n = n'
  · subst hnn
    go_enter Tryz.func22, Tryz.ntmps22
    go_wp2
    go_loopw [5] (fun i wr => ∃ (k : Nat), k ≤ n ∧ i = .int .i64 k ∧ (∀ i, i < k → xs.getD i [] = ys.getD i []) ∧ Kept w wr) (fun i _ => n - (intOf i).toNat)
    case atStart => exact ⟨0, by omega, rfl, fun i h => by omega, Kept.refl _⟩
    case round =>
      obtain ⟨k, hk, rfl, hup, kr⟩ := hrel
      by_cases hlt : k < n
      · obtain ⟨b, off, rfl, hc⟩ := hL.row (by omega)
        obtain ⟨b', off', rfl, hc'⟩ := hL'.row (by omega)
        have c0 := kr.cell (hc k (by omega))
        have c1 := kr.cell (hc' k (by omega))
        have hl : (k : Int) < (n : Int) := by omega
        have HU : Hid (∀ i, i < k → xs.getD i [] = ys.getD i []) := hup
        clear hc hL hup hc' hL'
        obtain ⟨x, hx⟩ : ∃ x, x = xs.getD k [] := ⟨_, rfl⟩
        obtain ⟨y, hy⟩ : ∃ y, y = ys.getD k [] := ⟨_, rfl⟩
        rw [← hx] at c0
        rw [← hy] at c1
        have HX : Hid (x = xs.getD k []) := hx
        have HY : Hid (y = ys.getD k []) := hy
        have E : Hid (xs.length = n ∧ ys.length = n) := ⟨e1, e2⟩
        clear hx hy e1 e2
        by_cases hxy : x = y
        · subst hxy
          go_wp2
          go_region
          go_wp2
          go_roundw
          case rel =>
            exact ⟨k + 1, by omega, by go_num, fun i h1 => by
              by_cases e : i < k
              · exact HU.out i e
              · obtain rfl : i = k := by omega
                rw [← HX.out, ← HY.out], kr.trans (Kept.drew _)⟩
          case measure => simp [intOf]; omega
        · have hb : (x == y) = false := by simpa using hxy
          go_wp2
          go_region
          go_wp2
          go_ret
          refine ⟨⟨_, rfl, Iff.intro (fun h => by cases h) (fun h => ?_)⟩, kr.trans (Kept.drew _)⟩
          exact absurd (by rw [HX.out, HY.out, h]) hxy
      · obtain rfl : n = k := by omega
        have hl : ¬ (n : Int) < (n : Int) := by omega
        have E : Hid (xs.length = n ∧ ys.length = n) := ⟨e1, e2⟩
        have HU : Hid (∀ i, i < n → xs.getD i [] = ys.getD i []) := hup
        clear e1 e2 hL hL' hup
        go_wp2
        go_ret
        refine ⟨⟨_, rfl, Iff.intro (fun _ => ?_) (fun _ => rfl)⟩, kr⟩
        obtain ⟨e1, e2⟩ := E.out
        refine List.ext_getElem (by omega) fun i h1 h2 => ?_
        have := HU.out i (by omega)
        rw [List.getD_eq_getElem?_getD, List.getD_eq_getElem?_getD, List.getElem?_eq_getElem h1, List.getElem?_eq_getElem h2] at this
        simpa using this
  · have hz : ((n : Int) == (n' : Int)) = false := by simp; omega
    have hz2 : ¬ (n : Int) = (n' : Int) := by omega
    have E : Hid (xs.length = n ∧ ys.length = n') := ⟨e1, e2⟩
    clear e1 e2 hL hL'
    go_enter Tryz.func22, Tryz.ntmps22
    go_wp2
    go_ret
    refine ⟨⟨_, rfl, Iff.intro (fun h => by cases h) (fun h => ?_)⟩, Kept.refl _⟩
    obtain ⟨e1, e2⟩ := E.out
    rw [h] at e1
    omega

theorem same22w (a a' : Option Addr) (n c n' c' : Nat) (xs : List Str) (w : World) (hn : n ≤ 4398046511104) (hL : IsL w a n xs) (hL' : IsL w a' n' xs) :
    Calls Tryz.prog 22 #[.slice a n c, .slice a' n' c'] w fun e w' => e = .returned (.bool true) ∧ Kept w w' := by
  refine (sameStrs22w a a' n c n' c' xs xs w hn hL hL').mono ?_
  rintro e w' ⟨⟨b, rfl, hb⟩, k⟩
  rw [hb.2 rfl]
  exact ⟨rfl, k⟩

set_option maxHeartbeats 1600000 in
theorem viewsEq21w (v v' : Value) (V : View) (w : World) (hV : IsV w v V) (hV' : IsV w v' V) (hM : Wide V) :
    Calls Tryz.prog 21 #[v, v'] w fun e w' => e = .returned (.bool true) ∧ Kept w w' := by
  obtain ⟨ab, nb, cb, al, nl, cl, ac, nc, cc, rfl, h1, h2, h3⟩ := hV.ex
  obtain ⟨ab', nb', cb', al', nl', cl', ac', nc', cc', rfl, h1', h2', h3'⟩ := hV'.ex
  have n1 := hM.base
  have n2 := hM.last
  have n3 := hM.changes
  rw [h1.len] at n1
  rw [h2.len] at n2
  rw [h3.len] at n3
  have H1 : Hid (∀ w', Kept w w' → Calls Tryz.prog 22 #[.slice ab nb cb, .slice ab' nb' cb'] w' fun e w2 => e = .returned (.bool true) ∧ Kept w' w2) := fun w' q => same22w _ _ _ _ _ _ _ _ (Nat.le_trans n1 (by decide)) (h1.kept q) (h1'.kept q)
  have H2 : Hid (∀ w', Kept w w' → Calls Tryz.prog 22 #[.slice al nl cl, .slice al' nl' cl'] w' fun e w2 => e = .returned (.bool true) ∧ Kept w' w2) := fun w' q => same22w _ _ _ _ _ _ _ _ (Nat.le_trans n2 (by decide)) (h2.kept q) (h2'.kept q)
  have H3 : Hid (∀ w', Kept w w' → Calls Tryz.prog 22 #[.slice ac nc cc, .slice ac' nc' cc'] w' fun e w2 => e = .returned (.bool true) ∧ Kept w' w2) := fun w' q => same22w _ _ _ _ _ _ _ _ n3 (h3.kept q) (h3'.kept q)
  clear hV hV' hM h1 h2 h3 h1' h2' h3' n1 n2 n3
  obtain ⟨N, hN⟩ : ∃ N, N = V.count := ⟨_, rfl⟩
  rw [← hN]
  clear hN
  go_enter Tryz.func21, Tryz.ntmps21
  go_wp2_with fail
  refine (fields34 N ab al ac nb cb nl cl nc cc _).mono ?_
  rintro e w1 ⟨rfl, q1⟩
  obtain ⟨y0, y1, y2, y3⟩ := q1.box4 (new2 w _ _)
  have Q1 : Hid (Kept w w1) := ((Kept.alloc _ _).more _).trans q1
  clear q1
  go_wp2_with fail
  refine (fields34 N ab' al' ac' nb' cb' nl' cl' nc' cc' _).mono ?_
  rintro e w5 ⟨rfl, q5⟩
  have Q5 : Hid (Kept w w5) := Q1.out.trans q5
  clear q5 y0 y1 y2 y3
  go_wp2_with fail
  refine (H1.out _ Q5.out).mono ?_
  rintro e w2 ⟨rfl, q2⟩
  have Q2 : Hid (Kept w w2) := Q5.out.trans q2
  clear q2
  go_wp2_with fail
  refine (H2.out _ Q2.out).mono ?_
  rintro e w3 ⟨rfl, q3⟩
  have Q3 : Hid (Kept w w3) := Q2.out.trans q3
  clear q3
  go_wp2_with fail
  refine (H3.out _ Q3.out).mono ?_
  rintro e w4 ⟨rfl, q4⟩
  go_wp2
  go_ret
  exact ⟨rfl, Q3.out.trans q4⟩

/-- Each list of an answer is of at most 2^20 elements; next of at most 2^21. -/
structure SmallW (A : Ans) : Prop where
  view : A.view.length ≤ 1048576
  next : A.next.length ≤ 2097152
  before : A.before.length ≤ 1048576
  unsure : A.unsure.length ≤ 1048576
  befores : ∀ l ∈ A.before, l.length ≤ 1048576
  unsures : ∀ l ∈ A.unsure, l.length ≤ 1048576

set_option maxRecDepth 40000 in
set_option maxHeartbeats 3200000 in
theorem answers15w (a : Option Addr) (n c : Nat) (As : List Ans) (w : World) (hn : n ≤ 1048576) (hA : IsA w a n As) (hs : ∀ i, i < n → SmallW (As.getD i noAns)) :
    Calls Tryz.prog 15 #[.slice a n c] w fun e w' => (∃ a' c', e = .returned (.slice a' n c') ∧ IsA w' a' n As ∧ n ≤ c') ∧ Kept w w' := by
  have hq := fun w => Lib.run_eql_slice_nil (P := Tryz.prog) w 26 31 a n c 0 0 Tryz.underlying26
  cases a with
  | none =>
    obtain rfl : n = 0 := by
      rcases Nat.eq_zero_or_pos n with h | h
      · exact h
      · obtain ⟨b, off, h', _⟩ := hA.row h
        cases h'
    go_enter Tryz.func15, Tryz.ntmps15
    go_wp2
    go_ret
    exact ⟨⟨none, 0, rfl, hA, Nat.le_refl _⟩, Kept.refl _⟩
  | some x =>
    obtain ⟨i0, hi, hz0, hz1, hz2⟩ := info_parts Tryz.info58'
    have hmk : ∀ w : World, (Instr.makeSlice 48 (.int .i64 (n : Int)) (.int .i64 (n : Int))).run Tryz.prog w = .ok (.slice (some ⟨w.heap.size, 0, none⟩) n n) (w.alloc (.cells (madeCells ansCells (n * 11)) 58)) := fun w => by
      have := run_make (P := Tryz.prog) w 48 58 i0 _ Tryz.underlying48 hi hz0 .i64 .i64 n n (by omega) (by omega) (by rw [hz2]; omega) (by omega)
      rw [hz1] at this
      simpa [Value.cells] using this
    clear hz0 hz1 hz2 hi
    have hlen := hA.len
    go_enter Tryz.func15, Tryz.ntmps15
    go_wp2
    clear hmk hq
    go_loopw [4] (fun i wr => ∃ k : Nat, k ≤ n ∧ i = .int .i64 k ∧ AnsSt w wr n As k) (fun i _ => n - (intOf i).toNat)
    case atStart => exact ⟨0, Nat.zero_le _, rfl, AnsSt.start w n As 58⟩
    case round =>
      obtain ⟨k, hk, rfl, S⟩ := hrel
      by_cases hlt : k < n
      · obtain ⟨b, off, ha, hc⟩ := hA.row (by omega)
        cases ha
        have H := (hc k hlt).kept S.kept
        have sA := hs k hlt
        have t0 := H.c0
        obtain ⟨a1, n1, c1, t1, l1⟩ := H.c1
        obtain ⟨a2, n2, c2, t2, l2⟩ := H.c2
        have t3 := H.c3
        obtain ⟨a4, n4, c4, t4, l4⟩ := H.c4
        have t5 := H.c5
        have t6 := H.c6
        obtain ⟨a7, n7, c7, t7, l7⟩ := H.c7
        have t8 := H.c8
        have t9 := H.c9
        have t10 := H.c10
        have m1 := sA.view
        have m2 := sA.next
        have m4 := sA.before
        have m7 := sA.unsure
        have r4 := sA.befores
        have r7 := sA.unsures
        rw [l1.len] at m1
        rw [l2.len] at m2
        rw [l4.len] at m4
        rw [l7.len] at m7
        have hl : (k : Int) < (n : Int) := by omega
        clear hc hA H sA hs
        obtain ⟨A, hAk⟩ : ∃ A, A = As.getD k noAns := ⟨_, rfl⟩
        rw [← hAk] at t0 t3 t5 t6 t8 t9 t10 l1 l2 l4 l7 r4 r7
        have HA : Hid (A = As.getD k noAns) := hAk
        clear hAk
        go_wp2_with fail
        refine (answer19_in A.sender A.frozen A.known A.prepare A.announce A.commit A.mark a1 a2 a4 a7 n1 c1 n2 c2 n4 c4 n7 c7 _ _ _ _ _ l1 l2 l4 l7 (by omega) (by omega) m4 m7 r4 r7).mono ?_
        rintro e w1 ⟨⟨x1, d1, x2, d2, x4, d4, x7, d7, rfl, ⟨g1, f1⟩, ⟨g2, f2⟩, g4, g7⟩, q1⟩
        have HS : Hid (AnsSt w (setAns w1 w.heap.size (k * 11) A x1 x2 x4 x7 n1 d1 n2 d2 n4 d4 n7 d7) n As (k + 1)) := by
          have e := HA.out
          rw [e] at g1 g2 g4 g7 ⊢
          exact S.step hlt q1 g1 (f1.mono S.lt) g2 (f2.mono S.lt) (g4.mono S.lt) (g7.mono S.lt)
        obtain ⟨u0, p0⟩ := Option.isSome_iff_exists.1 (S.there k 0 hlt (by omega))
        have z0 := q1.cell p0
        have f0' := q1.free (p := ⟨w.heap.size, k * 11 + 0, none⟩) S.lt (S.free _)
        clear p0
        obtain ⟨u1, p1⟩ := Option.isSome_iff_exists.1 (S.there k 1 hlt (by omega))
        have z1 := q1.cell p1
        have f1' := q1.free (p := ⟨w.heap.size, k * 11 + 1, none⟩) S.lt (S.free _)
        clear p1
        obtain ⟨u2, p2⟩ := Option.isSome_iff_exists.1 (S.there k 2 hlt (by omega))
        have z2 := q1.cell p2
        have f2' := q1.free (p := ⟨w.heap.size, k * 11 + 2, none⟩) S.lt (S.free _)
        clear p2
        obtain ⟨u3, p3⟩ := Option.isSome_iff_exists.1 (S.there k 3 hlt (by omega))
        have z3 := q1.cell p3
        have f3' := q1.free (p := ⟨w.heap.size, k * 11 + 3, none⟩) S.lt (S.free _)
        clear p3
        obtain ⟨u4, p4⟩ := Option.isSome_iff_exists.1 (S.there k 4 hlt (by omega))
        have z4 := q1.cell p4
        have f4' := q1.free (p := ⟨w.heap.size, k * 11 + 4, none⟩) S.lt (S.free _)
        clear p4
        obtain ⟨u5, p5⟩ := Option.isSome_iff_exists.1 (S.there k 5 hlt (by omega))
        have z5 := q1.cell p5
        have f5' := q1.free (p := ⟨w.heap.size, k * 11 + 5, none⟩) S.lt (S.free _)
        clear p5
        obtain ⟨u6, p6⟩ := Option.isSome_iff_exists.1 (S.there k 6 hlt (by omega))
        have z6 := q1.cell p6
        have f6' := q1.free (p := ⟨w.heap.size, k * 11 + 6, none⟩) S.lt (S.free _)
        clear p6
        obtain ⟨u7, p7⟩ := Option.isSome_iff_exists.1 (S.there k 7 hlt (by omega))
        have z7 := q1.cell p7
        have f7' := q1.free (p := ⟨w.heap.size, k * 11 + 7, none⟩) S.lt (S.free _)
        clear p7
        obtain ⟨u8, p8⟩ := Option.isSome_iff_exists.1 (S.there k 8 hlt (by omega))
        have z8 := q1.cell p8
        have f8' := q1.free (p := ⟨w.heap.size, k * 11 + 8, none⟩) S.lt (S.free _)
        clear p8
        obtain ⟨u9, p9⟩ := Option.isSome_iff_exists.1 (S.there k 9 hlt (by omega))
        have z9 := q1.cell p9
        have f9' := q1.free (p := ⟨w.heap.size, k * 11 + 9, none⟩) S.lt (S.free _)
        clear p9
        obtain ⟨u10, p10⟩ := Option.isSome_iff_exists.1 (S.there k 10 hlt (by omega))
        have z10 := q1.cell p10
        have f10' := q1.free (p := ⟨w.heap.size, k * 11 + 10, none⟩) S.lt (S.free _)
        clear p10
        rw [Nat.add_zero] at z0 f0'
        clear t0 t1 t2 t3 t4 t5 t6 t7 t8 t9 t10 l1 l2 l4 l7 m1 m2 m4 m7 r4 r7 g1 f1 g2 f2 g4 g7 q1 S hlen HA
        go_wp2
        go_roundw
        case rel => exact ⟨k + 1, by omega, by go_num, HS.out⟩
        case measure => simp [intOf]; omega
      · obtain rfl : n = k := by omega
        have hl : ¬ (n : Int) < (n : Int) := by omega
        have HS : Hid (AnsSt w wr n As n) := S
        clear S
        go_wp2
        go_ret
        refine ⟨⟨_, _, rfl, ⟨hlen, fun _ => ⟨_, 0, rfl, fun i hi => ?_⟩⟩, Nat.le_refl _⟩, HS.out.kept⟩
        rw [Nat.zero_add]
        exact (HS.out.done i hi).isAns

end Go.Proofs.Qxb6616331aGreatDoor
