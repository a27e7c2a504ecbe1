/-
  THE ROW of seat b6616331aZD, Xg: the arguments opened.
-/
import Derived.Test.Qxb6616331aGreatDoorXf
import Derived.ProofKit
import Derived.OpenShut
import Derived.ShutString
import Derived.ChangeOld
import Derived.Deep.Strs
import Derived.Deep.Slices
import Derived.Lib.SmallJoins
namespace Go.Proofs.Qxb6616331aGreatDoor
open Go.ChangeShapes Go.WideShapes Go.ChangeAt Go.RowKit
set_option linter.unusedVariables false
set_option linter.unusedSimpArgs false
set_option maxRecDepth 40000

theorem addr_plain {w : World} {a : Addr} {v : Value} (h : w.cell? (a.add 0) = some v) : ∃ b off, a = ⟨b, off, none⟩ := by
  obtain ⟨b, off, sp⟩ := a
  cases sp with
  | none => exact ⟨b, off, rfl⟩
  | some s =>
    exfalso
    simp only [Addr.add, if_true, World.cell?] at h
    split at h
    · simp at h
    · simp at h

section
variable {H : Type} {enc : TypeId × Value → H} {W : World}
theorem sv_of (s : ByteArray) : (.string s : Value) = sv s.data.toList := by
  congr 1
theorem opStrs {fuel : Nat} {v : Value} {x : DataW H × List MemPlace} (h : DataW.trod enc Tryz.prog W 0 (fun _ => true) true fuel 23 [v] = some x) : ∃ a n c xs, v = .slice a n c ∧ IsL W a n xs := by
  rcases Deep.open_strs Tryz.underlying23 Tryz.underlying9 (by kernel_rfl) h with ⟨hcs, _⟩ | ⟨x, l, cp, m, Sx, hcs, _, hl, hm, hmm, _, hc⟩
  · simp at hcs
    subst hcs
    exact ⟨none, 0, 0, [], rfl, rfl, fun h => absurd h (Nat.lt_irrefl _)⟩
  · simp at hcs
    subst hcs
    simp only [if_true] at hmm
    subst hmm
    refine ⟨some x, l, m, (List.range l).map (fun i => (Sx i).data.toList), rfl, by simp, fun h0 => ?_⟩
    obtain ⟨b, off, rfl⟩ := addr_plain (hc 0 (by omega)).1
    refine ⟨b, off, rfl, fun i hi => ?_⟩
    have := (hc i (by omega)).1
    rw [Addr.add_lit] at this
    rw [this, sv_of]
    simp [List.getD_eq_getElem?_getD, hi]
theorem opRows {fuel : Nat} {v : Value} {x : DataW H × List MemPlace} (h : DataW.trod enc Tryz.prog W 0 (fun _ => true) true fuel 29 [v] = some x) : ∃ a n c xss, v = .slice a n c ∧ IsLL W a n xss := by
  rcases Deep.open_slice1 Tryz.underlying29 (by kernel_rfl) h with ⟨hcs, _⟩ | ⟨x, l, cp, m, fu, V, D, Pl, hcs, _, hl, hm, hmm, _, hc⟩
  · simp at hcs
    subst hcs
    exact ⟨none, 0, 0, [], rfl, rfl, fun h => absurd h (Nat.lt_irrefl _)⟩
  · simp at hcs
    subst hcs
    simp only [if_true] at hmm
    subst hmm
    have each : ∀ i, i < l → ∃ xs : List Str, ∃ a n c, W.cell? (x.add i) = some (.slice a n c) ∧ IsL W a n xs := fun i hi => by
      obtain ⟨h1, h2⟩ := hc i (by omega)
      obtain ⟨a, n, c, xs, e, hL⟩ := opStrs h2
      exact ⟨xs, a, n, c, by rw [h1, e], hL⟩
    obtain ⟨f, hf⟩ := Deep.choose_lt (α := List Str) each
    refine ⟨some x, l, m, (List.range l).map f, rfl, by simp, fun h0 => ?_⟩
    obtain ⟨a0, n0, c0, g0, -⟩ := hf 0 h0
    obtain ⟨b, off, rfl⟩ := addr_plain g0
    refine ⟨b, off, rfl, fun i hi => ?_⟩
    obtain ⟨a, n, c, g1, g2⟩ := hf i hi
    rw [Addr.add_lit] at g1
    refine ⟨a, n, c, g1, ?_⟩
    rw [List.getD_eq_getElem?_getD]
    simpa [hi] using g2
theorem opBool {fuel : Nat} {v : Value} {x : DataW H × List MemPlace} (h : DataW.trod enc Tryz.prog W 0 (fun _ => true) true fuel 4 [v] = some x) : ∃ b, v = .bool b := by
  obtain ⟨b, e, _⟩ := DataW.trod_bool Tryz.underlying4 h
  simp at e
  exact ⟨b, e⟩
theorem opStr {fuel : Nat} {v : Value} {x : DataW H × List MemPlace} (h : DataW.trod enc Tryz.prog W 0 (fun _ => true) true fuel 9 [v] = some x) : ∃ s, v = sv s := by
  obtain ⟨s, e, _⟩ := DataW.trod_string Tryz.underlying9 h
  simp at e
  exact ⟨s.data.toList, by rw [e, sv_of]⟩
theorem opInt {fuel : Nat} {v : Value} {x : DataW H × List MemPlace} (h : DataW.trod enc Tryz.prog W 0 (fun _ => true) true fuel 3 [v] = some x) : ∃ k, v = .int .i64 k := by
  obtain ⟨k, e, _⟩ := DataW.trod_int Tryz.underlying3 h
  simp at e
  exact ⟨k, e⟩
theorem opU64 {fuel : Nat} {v : Value} {x : DataW H × List MemPlace} (h : DataW.trod enc Tryz.prog W 0 (fun _ => true) true fuel 22 [v] = some x) : ∃ k, v = .int .u64 k ∧ 0 ≤ k ∧ k < 18446744073709551616 := by
  obtain ⟨k, e, h2⟩ := DataW.trod_int (k := .u64) (by kernel_rfl) h
  simp at e
  have hw := h2.2
  have hb := bounds_u64 hw
  exact ⟨k, e, hb.1, by omega⟩
theorem opAns {fuel : Nat} {cs : List Value} {x : DataW H × List MemPlace} (h : DataW.trod enc Tryz.prog W 0 (fun _ => true) true fuel 31 cs = some x) : ∃ A : Ans, ∃ a1 n1 c1 a2 n2 c2 a4 n4 c4 a7 n7 c7,
    cs = (cells11 A.sender a1 n1 c1 a2 n2 c2 A.frozen a4 n4 c4 A.known A.mark a7 n7 c7 A.prepare A.announce A.commit).toList ∧ IsL W a1 n1 A.view ∧ IsL W a2 n2 A.next ∧ IsLL W a4 n4 A.before ∧ IsLL W a7 n7 A.unsure := by
  obtain ⟨xs, n, -, -, hlen, hxs, hfl⟩ := DataW.trod_struct Tryz.underlying31 h
  have h11 : cs.length = 11 := hlen.trans (by kernel_rfl)
  have hx11 : xs.length = 11 := hxs
  obtain ⟨v0, v1, v2, v3, v4, v5, v6, v7, v8, v9, v10, rfl⟩ : ∃ v0 v1 v2 v3 v4 v5 v6 v7 v8 v9 v10, cs = [v0, v1, v2, v3, v4, v5, v6, v7, v8, v9, v10] := by
    match cs, h11 with
    | [v0, v1, v2, v3, v4, v5, v6, v7, v8, v9, v10], _ => exact ⟨v0, v1, v2, v3, v4, v5, v6, v7, v8, v9, v10, rfl⟩
  have c3 : Tryz.prog.cellsOf 3 = 1 := by kernel_rfl
  have c23 : Tryz.prog.cellsOf 23 = 1 := by kernel_rfl
  have c4' : Tryz.prog.cellsOf 4 = 1 := by kernel_rfl
  have c29 : Tryz.prog.cellsOf 29 = 1 := by kernel_rfl
  have c9 : Tryz.prog.cellsOf 9 = 1 := by kernel_rfl
  have at_ : ∀ i (hi : i < 11), ∃ y, xs[i]? = some y := fun i hi => ⟨_, List.getElem?_eq_getElem (by omega)⟩
  obtain ⟨y0, e0⟩ := at_ 0 (by omega)
  have t0 : DataW.trod enc Tryz.prog W 0 (fun _ => true) true n 3 [v0] = some y0 := by
    have := hfl 0 _ rfl
    rw [e0] at this
    simpa [c3] using this
  obtain ⟨y1, e1⟩ := at_ 1 (by omega)
  have t1 : DataW.trod enc Tryz.prog W 0 (fun _ => true) true n 23 [v1] = some y1 := by
    have := hfl 1 _ rfl
    rw [e1] at this
    simpa [c23] using this
  obtain ⟨y2, e2⟩ := at_ 2 (by omega)
  have t2 : DataW.trod enc Tryz.prog W 0 (fun _ => true) true n 23 [v2] = some y2 := by
    have := hfl 2 _ rfl
    rw [e2] at this
    simpa [c23] using this
  obtain ⟨y3, e3⟩ := at_ 3 (by omega)
  have t3 : DataW.trod enc Tryz.prog W 0 (fun _ => true) true n 4 [v3] = some y3 := by
    have := hfl 3 _ rfl
    rw [e3] at this
    simpa [c4'] using this
  obtain ⟨y4, e4⟩ := at_ 4 (by omega)
  have t4 : DataW.trod enc Tryz.prog W 0 (fun _ => true) true n 29 [v4] = some y4 := by
    have := hfl 4 _ rfl
    rw [e4] at this
    simpa [c29] using this
  obtain ⟨y5, e5⟩ := at_ 5 (by omega)
  have t5 : DataW.trod enc Tryz.prog W 0 (fun _ => true) true n 4 [v5] = some y5 := by
    have := hfl 5 _ rfl
    rw [e5] at this
    simpa [c4'] using this
  obtain ⟨y6, e6⟩ := at_ 6 (by omega)
  have t6 : DataW.trod enc Tryz.prog W 0 (fun _ => true) true n 9 [v6] = some y6 := by
    have := hfl 6 _ rfl
    rw [e6] at this
    simpa [c9] using this
  obtain ⟨y7, e7⟩ := at_ 7 (by omega)
  have t7 : DataW.trod enc Tryz.prog W 0 (fun _ => true) true n 29 [v7] = some y7 := by
    have := hfl 7 _ rfl
    rw [e7] at this
    simpa [c29] using this
  obtain ⟨y8, e8⟩ := at_ 8 (by omega)
  have t8 : DataW.trod enc Tryz.prog W 0 (fun _ => true) true n 4 [v8] = some y8 := by
    have := hfl 8 _ rfl
    rw [e8] at this
    simpa [c4'] using this
  obtain ⟨y9, e9⟩ := at_ 9 (by omega)
  have t9 : DataW.trod enc Tryz.prog W 0 (fun _ => true) true n 4 [v9] = some y9 := by
    have := hfl 9 _ rfl
    rw [e9] at this
    simpa [c4'] using this
  obtain ⟨y10, e10⟩ := at_ 10 (by omega)
  have t10 : DataW.trod enc Tryz.prog W 0 (fun _ => true) true n 4 [v10] = some y10 := by
    have := hfl 10 _ rfl
    rw [e10] at this
    simpa [c4'] using this
  obtain ⟨k0, rfl⟩ := opInt t0
  obtain ⟨a1, n1, c1, l1, rfl, L1⟩ := opStrs t1
  obtain ⟨a2, n2, c2, l2, rfl, L2⟩ := opStrs t2
  obtain ⟨b3, rfl⟩ := opBool t3
  obtain ⟨a4, n4, c4, l4, rfl, L4⟩ := opRows t4
  obtain ⟨b5, rfl⟩ := opBool t5
  obtain ⟨s6, rfl⟩ := opStr t6
  obtain ⟨a7, n7, c7, l7, rfl, L7⟩ := opRows t7
  obtain ⟨b8, rfl⟩ := opBool t8
  obtain ⟨b9, rfl⟩ := opBool t9
  obtain ⟨b10, rfl⟩ := opBool t10
  exact ⟨⟨k0, l1, l2, b3, l4, b5, s6, l7, b8, b9, b10⟩, a1, n1, c1, a2, n2, c2, a4, n4, c4, a7, n7, c7, rfl, L1, L2, L4, L7⟩
theorem opA {fuel : Nat} {v : Value} {x : DataW H × List MemPlace} (h : DataW.trod enc Tryz.prog W 0 (fun _ => true) true fuel 26 [v] = some x) : ∃ a n c As, v = .slice a n c ∧ IsA W a n As := by
  have c31 : Tryz.prog.cellsOf 31 = 11 := by kernel_rfl
  rcases Deep.open_slice Tryz.underlying26 h with ⟨hcs, _⟩ | ⟨x, l, cp, m, fu, D, Pl, hcs, _, hl, hm, hmm, _, hc⟩
  · simp at hcs
    subst hcs
    exact ⟨none, 0, 0, [], rfl, rfl, fun h => absurd h (Nat.lt_irrefl _)⟩
  · simp at hcs
    subst hcs
    simp only [if_true] at hmm
    subst hmm
    have each : ∀ i, i < l → ∃ A : Ans, ∃ a1 n1 c1 a2 n2 c2 a4 n4 c4 a7 n7 c7, (∀ j, j < 11 → W.cell? ((x.add (i * 11)).add j) = (cells11 A.sender a1 n1 c1 a2 n2 c2 A.frozen a4 n4 c4 A.known A.mark a7 n7 c7 A.prepare A.announce A.commit)[j]?) ∧ IsL W a1 n1 A.view ∧ IsL W a2 n2 A.next ∧ IsLL W a4 n4 A.before ∧ IsLL W a7 n7 A.unsure := fun i hi => by
      obtain ⟨cs', h1, h2⟩ := hc i (by omega)
      rw [c31] at h1
      obtain ⟨A, a1, n1, c1, a2, n2, c2, a4, n4, c4, a7, n7, c7, e, g⟩ := opAns h2
      refine ⟨A, a1, n1, c1, a2, n2, c2, a4, n4, c4, a7, n7, c7, fun j hj => ?_, g⟩
      rw [(World.cells?_some h1).2.2 j hj, e]
      simp
    haveI : Inhabited Ans := ⟨noAns⟩
    obtain ⟨f, hf⟩ := Deep.choose_lt (α := Ans) each
    refine ⟨some x, l, m, (List.range l).map f, rfl, by simp, fun h0 => ?_⟩
    obtain ⟨a1, n1, c1, a2, n2, c2, a4, n4, c4, a7, n7, c7, g0, -⟩ := hf 0 h0
    have g00 := g0 0 (by omega)
    have ex : x.add 0 = x := by
      obtain ⟨b, off, sp⟩ := x
      cases sp <;> simp [Addr.add]
    rw [Nat.zero_mul, ex] at g00
    obtain ⟨b, off, rfl⟩ := addr_plain g00
    refine ⟨b, off, rfl, fun i hi => ?_⟩
    obtain ⟨a1, n1, c1, a2, n2, c2, a4, n4, c4, a7, n7, c7, g1, g2, g3, g4, g5⟩ := hf i hi
    have e : ((List.range l).map f).getD i noAns = f i := by
      rw [List.getD_eq_getElem?_getD]
      simp [hi]
    rw [e]
    refine isAns_of (c1 := c1) (c2 := c2) (c4 := c4) (c7 := c7) (fun j hj => ?_) g2 g3 g4 g5
    have := g1 j hj
    rw [Addr.add_lit, Addr.add_lit] at this
    exact this
theorem opV {r : Reach} {b0 : Nat} {v : Value} {d : DataW H} {p : List MemPlace} (hv : Value.okWide Tryz.prog W r b0 25 v) (h : DataW.Trod enc Tryz.prog W 0 (fun _ => true) true 25 v d p) : ∃ V, IsV W v V := by
  obtain ⟨v0, v1, v2, v3, y0, y1, y2, y3, n, rfl, -, -, h0, h1, h2, h3⟩ := Joins.open_agg4 Tryz.underlying25 (by kernel_rfl) (by kernel_rfl) hv h
  obtain ⟨k, rfl, hk0, hk1⟩ := opU64 h0
  obtain ⟨a1, n1, c1, l1, rfl, L1⟩ := opStrs h1
  obtain ⟨a2, n2, c2, l2, rfl, L2⟩ := opStrs h2
  obtain ⟨a3, n3, c3, l3, rfl, L3⟩ := opStrs h3
  exact ⟨⟨k, l1, l2, l3⟩, ⟨a1, n1, c1, a2, n2, c2, a3, n3, c3, rfl, L1, L2, L3⟩, hk0, hk1⟩
end

end Go.Proofs.Qxb6616331aGreatDoor
