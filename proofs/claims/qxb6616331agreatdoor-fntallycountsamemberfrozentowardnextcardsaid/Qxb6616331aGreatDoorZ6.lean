/-
  THE WALKS of seat b6616331aZD, 6: view.none, .before, .total; zzSameStrs; ZZviewFields, ZZview.
-/
import Derived.Test.Qxb6616331aGreatDoorZ3
namespace Go.Proofs.Qxb6616331aGreatDoor
open Go.RowKit
set_option linter.unusedVariables false
set_option linter.unusedSimpArgs false

set_option maxHeartbeats 800000 in
theorem sameStrs22 (a a' : Option Addr) (n c n' c' : Nat) (xs ys : List Str) (w : World) (hn : n ≤ 4194304) (hL : IsL w a n xs) (hL' : IsL w a' n' ys) :
    Calls Tryz.prog 22 #[.slice a n c, .slice a' n' c'] w fun e w' => RetB e (fun b => b = true ↔ xs = ys) ∧ Kept w w' := by
  have e1 := hL.len
  have e2 := hL'.len
  by_cases hnn : n = n'
  · subst hnn
    go_enter Tryz.func22, Tryz.ntmps22
    go_wp2
    go_loopw [5] (fun i wr => ∃ (k : Nat), k ≤ n ∧ i = .int .i64 k ∧ (∀ i, i < k → xs.getD i [] = ys.getD i []) ∧ Kept w wr) (fun i _ => n - (intOf i).toNat)
    case atStart => exact ⟨0, by omega, rfl, fun i h => by omega, Kept.refl _⟩
    case round =>
      obtain ⟨k, hk, rfl, hup, kr⟩ := hrel
      by_cases hlt : k < n
      · obtain ⟨b, off, rfl, hc⟩ := hL.row (by omega)
        obtain ⟨b', off', rfl, hc'⟩ := hL'.row (by omega)
        have c0 := kr.cell (hc k (by omega))
        have c1 := kr.cell (hc' k (by omega))
        have hl : (k : Int) < (n : Int) := by omega
        have HU : Hid (∀ i, i < k → xs.getD i [] = ys.getD i []) := hup
        clear hc hL hup hc' hL'
        obtain ⟨x, hx⟩ : ∃ x, x = xs.getD k [] := ⟨_, rfl⟩
        obtain ⟨y, hy⟩ : ∃ y, y = ys.getD k [] := ⟨_, rfl⟩
        rw [← hx] at c0
        rw [← hy] at c1
        have HX : Hid (x = xs.getD k []) := hx
        have HY : Hid (y = ys.getD k []) := hy
        have E : Hid (xs.length = n ∧ ys.length = n) := ⟨e1, e2⟩
        clear hx hy e1 e2
        by_cases hxy : x = y
        · subst hxy
          go_wp2
          go_region
          go_wp2
          go_roundw
          case rel =>
            exact ⟨k + 1, by omega, by go_num, fun i h1 => by
              by_cases e : i < k
              · exact HU.out i e
              · obtain rfl : i = k := by omega
                rw [← HX.out, ← HY.out], kr.trans (Kept.drew _)⟩
          case measure => simp [intOf]; omega
        · have hb : (x == y) = false := by simpa using hxy
          go_wp2
          go_region
          go_wp2
          go_ret
          refine ⟨⟨_, rfl, Iff.intro (fun h => by cases h) (fun h => ?_)⟩, kr.trans (Kept.drew _)⟩
          exact absurd (by rw [HX.out, HY.out, h]) hxy
      · obtain rfl : n = k := by omega
        have hl : ¬ (n : Int) < (n : Int) := by omega
        have E : Hid (xs.length = n ∧ ys.length = n) := ⟨e1, e2⟩
        have HU : Hid (∀ i, i < n → xs.getD i [] = ys.getD i []) := hup
        clear e1 e2 hL hL' hup
        go_wp2
        go_ret
        refine ⟨⟨_, rfl, Iff.intro (fun _ => ?_) (fun _ => rfl)⟩, kr⟩
        obtain ⟨e1, e2⟩ := E.out
        refine List.ext_getElem (by omega) fun i h1 h2 => ?_
        have := HU.out i (by omega)
        rw [List.getD_eq_getElem?_getD, List.getD_eq_getElem?_getD, List.getElem?_eq_getElem h1, List.getElem?_eq_getElem h2] at this
        simpa using this
  · have hz : ((n : Int) == (n' : Int)) = false := by simp; omega
    have hz2 : ¬ (n : Int) = (n' : Int) := by omega
    have E : Hid (xs.length = n ∧ ys.length = n') := ⟨e1, e2⟩
    clear e1 e2 hL hL'
    go_enter Tryz.func22, Tryz.ntmps22
    go_wp2
    go_ret
    refine ⟨⟨_, rfl, Iff.intro (fun h => by cases h) (fun h => ?_)⟩, Kept.refl _⟩
    obtain ⟨e1, e2⟩ := E.out
    rw [h] at e1
    omega

/-- The number of changes that made V; .. that made the base of its base; no view at all. -/
def View.total (V : View) : Int := IntKind.u64.wrap (V.count + V.changes.length)
def View.before (V : View) : Int := IntKind.u64.wrap (V.count - V.last.length)
def View.none (V : View) : Bool := V.count == 0 && V.changes.length == 0

/-- The lists of V are of at most 2^22 elements. -/
structure Mid (V : View) : Prop where
  base : V.base.length ≤ 4194304
  last : V.last.length ≤ 4194304
  changes : V.changes.length ≤ 4194304

set_option maxHeartbeats 800000 in
theorem total47 (v : Value) (V : View) (w : World) (hV : IsV w v V) (hM : Mid V) :
    Calls Tryz.prog 47 #[v] w fun e w' => e = .returned (.int .u64 V.total) ∧ Kept w w' := by
  obtain ⟨ab, nb, cb, al, nl, cl, ac, nc, cc, rfl, h1, h2, h3⟩ := hV.ex
  have hn := hM.changes
  have lo := hV.lo
  have hi := hV.hi
  unfold View.total
  rw [h3.len] at hn ⊢
  go_enter Tryz.func47, Tryz.ntmps47
  go_wp2
  go_ret
  exact ⟨rfl, Kept.alloc _ _⟩

set_option maxHeartbeats 800000 in
theorem before46 (v : Value) (V : View) (w : World) (hV : IsV w v V) (hM : Mid V) :
    Calls Tryz.prog 46 #[v] w fun e w' => e = .returned (.int .u64 V.before) ∧ Kept w w' := by
  obtain ⟨ab, nb, cb, al, nl, cl, ac, nc, cc, rfl, h1, h2, h3⟩ := hV.ex
  have hn := hM.last
  have lo := hV.lo
  have hi := hV.hi
  unfold View.before
  rw [h2.len] at hn ⊢
  go_enter Tryz.func46, Tryz.ntmps46
  go_wp2
  go_ret
  exact ⟨rfl, Kept.alloc _ _⟩

set_option maxHeartbeats 800000 in
theorem none45 (v : Value) (V : View) (w : World) (hV : IsV w v V) (hM : Mid V) :
    Calls Tryz.prog 45 #[v] w fun e w' => e = .returned (.bool V.none) ∧ Kept w w' := by
  obtain ⟨ab, nb, cb, al, nl, cl, ac, nc, cc, rfl, h1, h2, h3⟩ := hV.ex
  have hn := hM.changes
  unfold View.none
  rw [h3.len] at hn ⊢
  cases hc : (V.count == 0)
  · go_enter Tryz.func45, Tryz.ntmps45
    go_wp2
    go_ret
    exact ⟨rfl, Kept.alloc _ _⟩
  · go_enter Tryz.func45, Tryz.ntmps45
    go_wp2
    go_ret
    refine ⟨?_, Kept.alloc _ _⟩
    simp
    rw [Bool.eq_iff_iff]
    simp

set_option maxHeartbeats 800000 in
theorem view33 (N : Int) (ab al ac : Option Addr) (nb cb nl cl nc cc : Nat) (w : World) :
    Calls Tryz.prog 33 #[.int .u64 N, .slice ab nb cb, .slice al nl cl, .slice ac nc cc] w fun e w' => e = .returned (.agg #[.int .u64 N, .slice ab nb cb, .slice al nl cl, .slice ac nc cc]) ∧ Kept w w' := by
  go_enter Tryz.func33, Tryz.ntmps33
  go_wp2
  refine bodyPost_ret (v := .agg #[.int .u64 N, .slice ab nb cb, .slice al nl cl, .slice ac nc cc]) (by simp [results, Tryz.results33, go_sem]) rfl ⟨rfl, ?_⟩
  exact Kept.alloc _ _

set_option maxHeartbeats 800000 in
theorem fields34 (N : Int) (ab al ac : Option Addr) (nb cb nl cl nc cc : Nat) (w : World) :
    Calls Tryz.prog 34 #[.agg #[.int .u64 N, .slice ab nb cb, .slice al nl cl, .slice ac nc cc]] w fun e w' => e = .returned (.tuple #[.int .u64 N, .slice ab nb cb, .slice al nl cl, .slice ac nc cc]) ∧ Kept w w' := by
  go_enter Tryz.func34, Tryz.ntmps34
  go_wp2
  go_region
  go_wp2
  refine bodyPost_ret (v := .tuple #[.int .u64 N, .slice ab nb cb, .slice al nl cl, .slice ac nc cc]) (by simp [results, Tryz.results34, go_sem]) rfl ⟨rfl, ?_⟩
  exact (Kept.alloc _ _).trans (Kept.drew _)

end Go.Proofs.Qxb6616331aGreatDoor
