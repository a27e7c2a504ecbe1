/-
  THE WALKS of seat b6616331aZD, Y5: zzViewListsEq, ZZfreezingFields, zzFreezingIsZero.
-/
import Derived.Test.Qxb6616331aGreatDoorY0
namespace Go.Proofs.Qxb6616331aGreatDoor
open Go.RowKit
set_option linter.unusedVariables false
set_option linter.unusedSimpArgs false
set_option linter.unnecessarySimpa false
set_option maxRecDepth 40000

/-- The slice of n views at a reads as Vs. -/
structure IsVL (w : World) (a : Option Addr) (n : Nat) (Vs : List View) : Prop where
  len : Vs.length = n
  row : 0 < n → ∃ b off, a = some ⟨b, off, none⟩ ∧ ∀ i, i < n → ∃ x0 x1 x2 x3, (w.cell? ⟨b, off + i * 4, none⟩ = some x0 ∧ w.cell? ⟨b, off + i * 4 + 1, none⟩ = some x1 ∧ w.cell? ⟨b, off + i * 4 + 2, none⟩ = some x2 ∧ w.cell? ⟨b, off + i * 4 + 3, none⟩ = some x3) ∧ IsV w (.agg #[x0, x1, x2, x3]) (Vs.getD i zeroV)
theorem IsVL.kept {w w' : World} {a : Option Addr} {n : Nat} {Vs : List View} (h : IsVL w a n Vs) (q : Kept w w') : IsVL w' a n Vs :=
  ⟨h.len, fun h0 => by
    obtain ⟨b, off, ha, hc⟩ := h.row h0
    refine ⟨b, off, ha, fun i hi => ?_⟩
    obtain ⟨x0, x1, x2, x3, ⟨c0, c1, c2, c3⟩, hv⟩ := hc i hi
    exact ⟨x0, x1, x2, x3, ⟨q.cell c0, q.cell c1, q.cell c2, q.cell c3⟩, hv.kept q⟩⟩
theorem OwnV.isVL {w : World} {B : Nat} {G : Nat → Prop} {a : Option Addr} {n c : Nat} {us : List Value} {Vs : List View} (h : OwnV w B (.slice a n c) us) (hA : AllV w G us Vs) (hn : us.length = n) : IsVL w a n Vs := by
  have hl := hA.1
  refine ⟨by omega, fun h0 => ?_⟩
  obtain ⟨b, ha, -, -, hc⟩ := h.cells (by omega)
  refine ⟨b, 0, ha, fun i hi => ?_⟩
  have hR := hA.2 i (by omega)
  obtain ⟨ab, nb, cb, al, nl, cl, ac, nc, cc, e, -, -, -⟩ := hR.ex
  have g := fun j hj => hA.get i j (by omega) hj
  rw [e] at g
  have r : ∀ j u, j < 4 → (cellsOf (.agg #[.int .u64 (Vs.getD i zeroV).count, .slice ab nb cb, .slice al nl cl, .slice ac nc cc]))[j]? = some u → w.cell? ⟨b, i * 4 + j, none⟩ = some u := fun j u hj hu => by
    rw [Nat.mul_comm]
    exact hc (4 * i + j) u ((g j hj).trans hu)
  refine ⟨_, _, _, _, ⟨?_, ?_, ?_, ?_⟩, e ▸ hR.isV⟩
  · rw [Nat.zero_add]; exact r 0 _ (by omega) rfl
  · rw [Nat.zero_add]; exact r 1 _ (by omega) rfl
  · rw [Nat.zero_add]; exact r 2 _ (by omega) rfl
  · rw [Nat.zero_add]; exact r 3 _ (by omega) rfl

set_option maxHeartbeats 3200000 in
theorem viewListsEq24 (a : Option Addr) (n c : Nat) (a' : Option Addr) (n' c' : Nat) (Vs : List View) (w : World) (hn : n ≤ 1099511627776) (h1 : IsVL w a n Vs) (h2 : IsVL w a' n' Vs) (hM : ∀ i, i < n → Mid (Vs.getD i zeroV)) :
    Calls Tryz.prog 24 #[.slice a n c, .slice a' n' c'] w fun e w' => e = .returned (.bool true) ∧ Kept w w' := by
  obtain rfl : n = n' := by rw [← h1.len, ← h2.len]
  have H1 := hid_of h1
  have H2 := hid_of h2
  have HM := hid_of hM
  clear h1 h2 hM
  go_enter Tryz.func24, Tryz.ntmps24
  go_wp2
  go_loopw [5] (fun i wr => ∃ (k : Nat), k ≤ n ∧ i = .int .i64 k ∧ Hid (Kept w wr)) (fun i _ => n - (intOf i).toNat)
  case atStart => exact ⟨0, by omega, rfl, Kept.refl _⟩
  case round =>
    obtain ⟨k, hk, rfl, KR⟩ := hrel
    by_cases hlt : k < n
    · obtain ⟨b, off, rfl, hc⟩ := (H1.out.kept KR.out).row (by omega)
      obtain ⟨b', off', rfl, hc'⟩ := (H2.out.kept KR.out).row (by omega)
      obtain ⟨x0, x1, x2, x3, ⟨c0, c1, c2, c3⟩, V1⟩ := hc k hlt
      obtain ⟨y0, y1, y2, y3, ⟨d0, d1, d2, d3⟩, V2⟩ := hc' k hlt
      have HV1 := hid_of V1
      have HV2 := hid_of V2
      have hl : (k : Int) < (n : Int) := by omega
      have HMk := hid_of (HM.out k hlt)
      clear hc hc' V1 V2
      go_wp2
      have q0 := Kept.drew wr
      have HC : Hid (∀ w', Kept wr w' → w'.cell? ⟨b, off + k * 4, none⟩ = some x0 ∧ w'.cell? ⟨b, off + k * 4 + 1, none⟩ = some x1 ∧ w'.cell? ⟨b, off + k * 4 + 2, none⟩ = some x2 ∧ w'.cell? ⟨b, off + k * 4 + 3, none⟩ = some x3 ∧ w'.cell? ⟨b', off' + k * 4, none⟩ = some y0 ∧ w'.cell? ⟨b', off' + k * 4 + 1, none⟩ = some y1 ∧ w'.cell? ⟨b', off' + k * 4 + 2, none⟩ = some y2 ∧ w'.cell? ⟨b', off' + k * 4 + 3, none⟩ = some y3) := fun w' q => ⟨q.cell c0, q.cell c1, q.cell c2, q.cell c3, q.cell d0, q.cell d1, q.cell d2, q.cell d3⟩
      clear c0 c1 c2 c3 d0 d1 d2 d3
      go_region_held3 (fun w' => w'.cell? ⟨b, off + k * 4, none⟩ = some x0 ∧ w'.cell? ⟨b, off + k * 4 + 1, none⟩ = some x1 ∧ w'.cell? ⟨b, off + k * 4 + 2, none⟩ = some x2 ∧ w'.cell? ⟨b, off + k * 4 + 3, none⟩ = some x3 ∧ w'.cell? ⟨b', off' + k * 4, none⟩ = some y0 ∧ w'.cell? ⟨b', off' + k * 4 + 1, none⟩ = some y1 ∧ w'.cell? ⟨b', off' + k * 4 + 2, none⟩ = some y2 ∧ w'.cell? ⟨b', off' + k * 4 + 3, none⟩ = some y3)
        (first | with_reducible exact HC.out _ q1 | with_reducible exact HC.out _ q0)
        (first
          | (go_at_call 21; refine (viewsEq21 _ _ _ _ (HV1.out.kept q0) (HV2.out.kept q0) HMk.out).mono ?_; rintro e w1 ⟨rfl, k1⟩; have q1 := q0.trans k1))
      all_goals go_wp2
      go_roundw
      case rel => exact ⟨k + 1, by omega, by go_num, KR.out.trans q1⟩
      case measure => simp [intOf]; omega
    · have hl : ¬ (k : Int) < (n : Int) := by omega
      go_wp2
      go_ret
      exact ⟨rfl, KR.out⟩

set_option maxHeartbeats 3200000 in
theorem frzFields16 (w : World) (a0 : Option Addr) (n0 c0 : Nat) (m1 : Option Nat) (a2 : Option Addr) (n2 c2 : Nat) (b3 : Bool) (a4 : Option Addr) (n4 c4 : Nat) (N : Int) (a6 : Option Addr) (n6 c6 : Nat) (a7 : Option Addr) (n7 c7 : Nat) (a8 : Option Addr) (n8 c8 : Nat) :
    Calls Tryz.prog 16 #[.agg #[.slice a0 n0 c0, .map m1, .slice a2 n2 c2, .bool b3, .slice a4 n4 c4, .int .u64 N, .slice a6 n6 c6, .slice a7 n7 c7, .slice a8 n8 c8]] w fun e w' =>
      e = .returned (.tuple #[.slice a0 n0 c0, .map m1, .slice a2 n2 c2, .bool b3, .slice a4 n4 c4, .agg #[.int .u64 N, .slice a6 n6 c6, .slice a7 n7 c7, .slice a8 n8 c8]]) ∧ Kept w w' := by
  go_enter Tryz.func16, Tryz.ntmps16
  go_wp2
  go_region
  go_wp2
  refine bodyPost_ret (v := .tuple #[.slice a0 n0 c0, .map m1, .slice a2 n2 c2, .bool b3, .slice a4 n4 c4, .agg #[.int .u64 N, .slice a6 n6 c6, .slice a7 n7 c7, .slice a8 n8 c8]]) (by simp [results, Tryz.results16, go_sem]) rfl ⟨rfl, ?_⟩
  exact ((Kept.alloc _ _).more _).trans (Kept.drew _)

set_option maxHeartbeats 3200000 in
theorem frzIsZero20 (w : World) :
    Calls Tryz.prog 20 #[.agg #[.slice none 0 0, .map none, .slice none 0 0, .bool false, .slice none 0 0, .int .u64 0, .slice none 0 0, .slice none 0 0, .slice none 0 0]] w fun e w' => e = .returned (.bool true) ∧ Kept w w' := by
  have q39 : ∀ (w : World) (r : Option Nat), (binOp .eql 39 (.map r) (.map none)).run Tryz.prog w = .ok (.bool r.isNone) w := fun w r => run_eql_map_nil w _ _ _ r Tryz.underlying39
  go_enter Tryz.func20, Tryz.ntmps20
  go_wp2_with fail
  refine (frzFields16 _ none 0 0 none none 0 0 false none 0 0 0 none 0 0 none 0 0 none 0 0).mono ?_
  rintro e w1 ⟨rfl, k1⟩
  have K1 := hid_of ((Kept.alloc _ _).trans k1)
  clear k1
  go_wp2_with fail
  refine (viewIsZero18 _ _ (isZero _)).mono ?_
  rintro e w2 ⟨rfl, k2⟩
  have K2 := hid_of k2
  clear k2
  go_wp2_with fail
  go_ret
  exact ⟨rfl, (K1.out.trans (Kept.alloc _ _)).trans K2.out⟩

end Go.Proofs.Qxb6616331aGreatDoor
