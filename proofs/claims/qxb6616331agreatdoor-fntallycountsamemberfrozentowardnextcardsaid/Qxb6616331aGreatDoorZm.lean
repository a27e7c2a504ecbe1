/-
  THE WALKS of seat b6616331aZD, m: slices.Values, slices.AppendSeq over it.
-/
import Derived.RangeFuncNested
import Derived.RangeFuncBound
import Derived.RangeFuncCalls
import Derived.RangeFuncLeaves
import Derived.RangeFuncBox
import Derived.Shelf.Abstract
import Derived.WalkKit
import Derived.OwnWalkIn
import Derived.TacticsInMore
import Derived.LoopNIn
import Derived.LoopIn
import Derived.Maps.AppendAt
import Derived.Test.Qxb6616331aGreatDoorZk
namespace Go.Proofs.Qxb6616331aGreatDoor
open Go.RowKit Go.Shelf
set_option linter.unusedVariables false
set_option linter.unusedSimpArgs false

attribute [local go_sem] Oper.semAt_some

/-- What has come when k rounds are over. -/
def upto {α : Type} (f : Nat → α) (k : Nat) : List α := (List.range k).map f
theorem upto_succ {α : Type} (f : Nat → α) (k : Nat) : upto f (k + 1) = upto f k ++ [f k] := by simp [upto, List.range_succ]
theorem upto_length {α : Type} (f : Nat → α) (k : Nat) : (upto f k).length = k := by simp [upto]
theorem upto_all (zs : List Str) : upto (fun j => zs[j]?.getD []) zs.length = zs := by
  apply List.ext_getElem
  · simp [upto]
  · intro i h1 h2
    simp [upto, h2]
theorem upto_take (zs : List Str) {k : Nat} (hk : k ≤ zs.length) : upto (fun j => zs[j]?.getD []) k = zs.take k := by
  apply List.ext_getElem
  · simp [upto, hk]
  · intro i h1 h2
    have : i < zs.length := by simp [upto] at h1; omega
    simp [upto, this]

set_option maxRecDepth 100000 in
set_option maxHeartbeats 2000000 in
theorem values70_in (F : Fence) (n : Nat) (h7 : F.fn 70) (hro : F.round = none) (hn : 1 ≤ n) (l Bs n₀ b off len cap : Nat) (zs : List Str) (hreach : len ≤ 4398046511104) (hb : b < n₀) (J Jx : List Str → World → Prop)
    (hY : ∀ pre x W, J pre W → pre.length < len → YieldAt F (n - 1) Tryz.prog l #[sv x] W fun e W' =>
      (e = .returned (.bool true) ∧ J (pre ++ [x]) W' ∧ Below n₀ W W') ∨ (e = .returned (.bool false) ∧ Jx (pre ++ [x]) W'))
    (W : World) (hBs : W.cell? ⟨Bs, 0, none⟩ = some (.slice (some ⟨b, off, none⟩) len cap)) (hc : ∀ j, j < len → W.cell? ⟨b, off + j, none⟩ = some (sv (zs[j]?.getD []))) (h0 : J [] W) :
    CallsIn F n Tryz.prog 70 #[.func (.yield l) #[] #[], .pointer (some ⟨Bs, 0, none⟩)] W fun e W' => (∃ v, e = .returned v) ∧
      ((∃ ys, ys = upto (fun j => zs[j]?.getD []) len ∧ J ys W') ∨ (∃ pre, (∃ k, k ≤ len ∧ pre = upto (fun j => zs[j]?.getD []) k) ∧ Jx pre W')) := by
  refine callsIn_of_wp Tryz.func70 rfl h7 ?_ hro
  simp only [Tryz.ntmps70, List.size_toArray, List.length_cons, List.length_nil, Nat.reduceAdd, Nat.reduceSub, Array.replicate_succ, Array.replicate_zero, List.push_toArray, List.append_toArray, List.nil_append, List.cons_append]
  gi_wp2
  gi_loopw [7] (fun i wr => ∃ k : Nat, k ≤ len ∧ i = .int .i64 k ∧ J (upto (fun j => zs[j]?.getD []) k) wr ∧ Below n₀ W wr)
    (fun i _ => len - (intOf i).toNat)
  case atStart => exact ⟨0, Nat.zero_le _, rfl, h0, Below.refl _ _⟩
  case round =>
    obtain ⟨k, hk, rfl, hJs, hnx⟩ := hrel
    have hcx : k < len → wr.cell? ⟨b, off + k, none⟩ = some (sv (zs[k]?.getD [])) := fun h => (hnx.cell (p := ⟨b, off + k, none⟩) hb).trans (hc k h)
    by_cases hlt : k < len
    · obtain ⟨fn, tmps, assign, body, hy, hR⟩ := hY _ (zs[k]?.getD []) wr hJs (by rw [upto_length]; exact hlt)
      have hcx' := hcx hlt
      gi_wp2
      refine hR.mono ?_
      rintro e W3 (⟨rfl, hJ3, hk3⟩ | ⟨rfl, hJx3⟩)
      · gi_wp2
        go_roundw
        case rel => exact ⟨k + 1, by omega, by simp, by rw [upto_succ]; exact hJ3, hnx.trans hk3⟩
        case measure => simp [intOf]; omega
      · gi_wp2
        refine bodyPost_ret (results_none rfl _ _ _) rfl ?_
        exact ⟨⟨_, rfl⟩, .inr ⟨_, ⟨k + 1, by omega, (upto_succ _ _).symm⟩, hJx3⟩⟩
    · obtain rfl : k = len := by omega
      gi_wp2
      go_end0
      exact ⟨⟨_, rfl⟩, .inl ⟨_, rfl, hJs⟩⟩

theorem values70_stops (F : Fence) (n : Nat) (h7 : F.fn 70) (hro : F.round = none) (hn : 1 ≤ n) (Bs n₀ b off cap : Nat) (zs : List Str) (hreach : zs.length ≤ 4398046511104) (w : World) (hBs : Bs < w.heap.size) (hn₀ : n₀ ≤ w.heap.size)
    (hc : w.cell? ⟨Bs, 0, none⟩ = some (.slice (some ⟨b, off, none⟩) zs.length cap)) (hb : b < n₀) (hcs : ∀ j, j < zs.length → w.cell? ⟨b, off + j, none⟩ = some (sv (zs[j]?.getD []))) :
    SeqStopsK F n Tryz.prog 70 #[.pointer (some ⟨Bs, 0, none⟩)] (fun x : Str => #[sv x]) (Below n₀) (fun ys => ys = zs) (fun pre => pre <+: zs) zs.length w := fun l J Jx W hW _ _ hY h0 => by
  have hc' := (hW.cell (p := ⟨Bs, 0, none⟩) hBs).trans hc
  refine (values70_in F n h7 hro hn l Bs n₀ b off zs.length cap zs hreach hb J Jx hY W hc' (fun j hj => ((hW.mono hn₀).cell (p := ⟨b, off + j, none⟩) hb).trans (hcs j hj)) h0).mono ?_
  rintro e W' ⟨he, ⟨ys, rfl, hj⟩ | ⟨pre, ⟨k, hk, rfl⟩, hj⟩⟩
  · exact ⟨he, .inl ⟨_, upto_all zs, hj⟩⟩
  · exact ⟨he, .inr ⟨_, by rw [upto_take zs hk]; exact List.take_prefix _ _, hj⟩⟩

set_option maxRecDepth 100000 in
set_option maxHeartbeats 2000000 in
theorem appendSeq76_in (F : Fence) (n : Nat) (h76 : F.fn 76) (h70 : F.fn 70) (hro : F.round = none) (hn : 3 ≤ n) (Bs b off cap : Nat) (zs : List Str) (hlen : zs.length ≤ 4398046511104) (w : World) (hBs : Bs < w.heap.size)
    (hc : w.cell? ⟨Bs, 0, none⟩ = some (.slice (some ⟨b, off, none⟩) zs.length cap)) (hb : b < w.heap.size) (hcs : ∀ j, j < zs.length → w.cell? ⟨b, off + j, none⟩ = some (sv (zs[j]?.getD []))) :
    CallsIn F n Tryz.prog 76 #[.slice none 0 0, .func (.func 70) #[] #[.pointer (some ⟨Bs, 0, none⟩)]] w fun e W' => ∃ v, e = .returned v ∧ W'.ownsRow w.heap.size 9 1 v zs.length (zs.map sv) ∧ Below w.heap.size w W' := by
  have h1 : 1 ≤ n := by omega
  obtain ⟨i0, hi, hz0, hz1, hz2⟩ := info_parts Tryz.info9
  refine callsIn_of_wp_marks Tryz.func76 rfl h76 ?_ hro
  simp only [Tryz.ntmps76, List.size_toArray, List.length_cons, List.length_nil, Nat.reduceAdd, Nat.reduceSub, Array.replicate_succ, Array.replicate_zero, List.push_toArray, List.append_toArray, List.nil_append, List.cons_append]
  gi_wp2
  have bO := Boxed.new w 23 (.slice none 0 0)
  have hB0 : Below w.heap.size w (w.alloc (.cells #[.slice none 0 0] 23)) := (Below.refl _ w).alloc (Nat.le_refl _) _
  refine wpIn_rangeFunc_ownG hro h1 (gf := 70) (lb := #[.pointer (some ⟨Bs, 0, none⟩)]) rfl h70 (enters_of Tryz.func70 (by kernel_rfl) rfl)
    (values70_stops F (n - 1) h70 hro (by omega) Bs w.heap.size b off cap zs hlen _ (by simp; omega) (by simp) ((hB0.cell (p := ⟨Bs, 0, none⟩) hBs).trans hc) hb (fun j hj => (hB0.cell (p := ⟨b, off + j, none⟩) hb).trans (hcs j hj))) belowK_t (belowK_b (by simp)) (Below.refl _ _) (fun _ => rfl)
    (fun pre W => (∃ v, Boxed W w.heap.size 23 v ∧ W.ownsRow w.heap.size 9 1 v pre.length (pre.map sv) ∧ (v = .slice none 0 0 ↔ pre = [])) ∧ Below w.heap.size w W)
    (fun _ _ _ => False)
    (OwnFrom.and (Own.from (holdsRow_own w.heap.size w.heap.size 23 9 1 (fun pre : List Str => pre.length) (fun pre => pre.map sv) (fun pre v => v = .slice none 0 0 ↔ pre = [])) _) (ownFrom_below (Nat.le_refl _) (by simp)))
    (fun _ _ _ _ _ hs _ _ => hs)
    ⟨⟨_, bO, World.ownsRow_nil _ _ _ _, by simp⟩, hB0⟩
    (fun x => { tmps := #[.slice none 0 0, .func (.func 70) #[] #[.pointer (some ⟨Bs, 0, none⟩)], .pointer (some ⟨w.heap.size, 0, none⟩), undef, .slice none 0 0, sv x, .func (.func 70) #[] #[.pointer (some ⟨Bs, 0, none⟩)], sv x, undef, undef, undef, undef, undef], defers := [] }) ?assign ?body ?done ?stop
  case assign =>
    intro l x W K hK
    gi_wp2
    exact hK
  case body =>
    rintro l pre x W ⟨⟨v, hv, hrow, hnil⟩, hB⟩ hlt
    have hc := hv.cell
    gi_wp2_with (gi_at_builtin; refine wpListIn_append_own _ rfl _ _ 23 rfl w.heap.size 9 i0 (sv []) 1 16 Tryz.underlying23 hi hz0 hz1 hz2 rfl (by decide) _ _ _ rfl (hrow.alloc _) ⟨W.heap.size, 0, none⟩ 1 1 [sv x] rfl rfl (cell_one_new _ _ _) (by simp [Value.oneCell']) (by unfold maxLen; omega) (by omega) (by have := hB.size; simp; omega) ?_; intro v' w1 hown' hgrow _; obtain ⟨g', cap', rfl⟩ := ownsRow_succ hown'; obtain ⟨hv1, hv2, hr2, hk2, hb2⟩ := hv.appended (by decide) hrow hB.size (Nat.le_refl _) hown' hgrow; have hc1 := hv1.cell; have hf1 := hv1.frozen)
    exact ⟨hk2.from _, hb2, ⟨_, hv2, by simpa using hr2, by simp⟩, hB.trans hb2⟩
  case done =>
    rintro D ys W hD rfl ⟨⟨v, hv, hrow, hnil⟩, hB⟩ hK
    have hc := hv.cell
    gi_wp2
    refine ⟨by simp, .inl ⟨_, _, rfl, run_takeDeferred hK, ?_⟩⟩
    exact ⟨_, results_tmp rfl _ _ _, v, rfl, ownsRow_putObj hrow _ hK rfl, hB.trans (belowK_b (w := w) (Nat.le_refl _) W D _ _ (by simp at hD; omega) hK rfl rfl)⟩
  case stop =>
    rintro D c pre W _ _ h _
    exact h.elim

end Go.Proofs.Qxb6616331aGreatDoor
