/-
  THE WALKS of seat b6616331aZD, o: slices.BinarySearch, inSet, pick, isSubset.
-/
import Derived.Test.Qxb6616331aGreatDoorZn
namespace Go.Proofs.Qxb6616331aGreatDoor
open Go.RowKit
set_option linter.unusedVariables false
set_option linter.unusedSimpArgs false
set_option linter.unnecessarySimpa false
set_option maxRecDepth 40000

theorem hid_of {p : Prop} (h : p) : Hid p := h

/-- The halving of slices.BinarySearch. -/
def half (less : Nat → Bool) : Nat → Nat → Nat → Nat
  | 0, lo, _ => lo
  | f + 1, lo, hi => if lo < hi then (if less ((lo + hi) / 2) then half less f ((lo + hi) / 2 + 1) hi else half less f lo ((lo + hi) / 2)) else lo
theorem half_fuel (less : Nat → Bool) : ∀ (f g lo hi : Nat), hi - lo ≤ f → hi - lo ≤ g → half less f lo hi = half less g lo hi
  | 0, 0, _, _, _, _ => rfl
  | 0, g + 1, lo, hi, hf, _ => by simp [half, show ¬ lo < hi by omega]
  | f + 1, 0, lo, hi, _, hg => by simp [half, show ¬ lo < hi by omega]
  | f + 1, g + 1, lo, hi, hf, hg => by
    unfold half
    by_cases h : lo < hi
    · rw [if_pos h, if_pos h, half_fuel less f g _ _ (by omega) (by omega), half_fuel less f g lo _ (by omega) (by omega)]
    · rw [if_neg h, if_neg h]
theorem half_step (less : Nat → Bool) (f lo hi : Nat) (h : lo < hi) (hf : hi - lo ≤ f) : half less f lo hi = if less ((lo + hi) / 2) then half less f ((lo + hi) / 2 + 1) hi else half less f lo ((lo + hi) / 2) := by
  obtain ⟨f, rfl⟩ : ∃ g, f = g + 1 := ⟨f - 1, by omega⟩
  rw [half, if_pos h, half_fuel less f (f + 1) _ _ (by omega) (by omega), half_fuel less f (f + 1) lo _ (by omega) (by omega)]
theorem half_end (less : Nat → Bool) (f lo hi : Nat) (h : ¬ lo < hi) : half less f lo hi = lo := by
  cases f with
  | zero => rfl
  | succ f => rw [half, if_neg h]

/-- Where the search for e in o ends. -/
def place (o : List Str) (e : Str) : Nat := half (fun t => Op.bytesLess (o.getD t []) e) o.length 0 o.length
/-- Does the search for e in o find it? -/
def inP (o : List Str) (e : Str) : Bool := decide (place o e < o.length) && (o.getD (place o e) [] == e)

set_option maxHeartbeats 800000 in
theorem isNaN80 (x : Str) (w : World) : Calls Tryz.prog 80 #[sv x] w fun e w' => e = .returned (.bool false) ∧ w' = w := by
  go_enter Tryz.func80, Tryz.ntmps80
  go_wp2
  go_ret
  exact ⟨by simp, rfl⟩

set_option maxHeartbeats 800000 in
theorem isNaN92 (x : Str) (w : World) : Calls Tryz.prog 92 #[sv x] w fun e w' => e = .returned (.bool false) ∧ w' = w := by
  go_enter Tryz.func92, Tryz.ntmps92
  go_wp2
  go_ret
  exact ⟨by simp, rfl⟩

set_option maxHeartbeats 800000 in
theorem less79 (x y : Str) (w : World) : Calls Tryz.prog 79 #[sv x, sv y] w fun e w' => e = .returned (.bool (Op.bytesLess x y)) ∧ w' = w := by
  go_enter Tryz.func79, Tryz.ntmps79
  go_wp2_with fail
  refine (isNaN92 x w).mono ?_
  rintro e w1 ⟨rfl, rfl⟩
  go_wp2
  go_ret
  exact ⟨rfl, rfl⟩

set_option maxHeartbeats 3200000 in
theorem search71 (a : Option Addr) (n c : Nat) (xs : List Str) (e : Str) (w : World) (hn : n ≤ 4398046511104) (hL : IsL w a n xs) :
    Calls Tryz.prog 71 #[.slice a n c, sv e] w fun r w' => (r = .returned (.tuple #[.int .i64 (place xs e : Nat), .bool (inP xs e)])) ∧ Kept w w' := by
  have hlen := hL.len
  obtain ⟨less, hless⟩ : ∃ less : Nat → Bool, less = fun t => Op.bytesLess (xs.getD t []) e := ⟨_, rfl⟩
  obtain ⟨R, hR⟩ : ∃ R, R = half less n 0 n := ⟨_, rfl⟩
  have HR : Hid (R = half less n 0 n) := hR
  have HP : Hid (R = place xs e) := by rw [hR, hless, ← hlen]; exact rfl
  have HLs : Hid (less = fun t => Op.bytesLess (xs.getD t []) e) := hless
  have HLL : Hid (IsL w a n xs) := hL
  have HE : Hid (xs.length = n) := hlen
  rw [← HP.out]
  clear hR hless hL hlen
  obtain ⟨P, hP⟩ : ∃ P, P = inP xs e := ⟨_, rfl⟩
  have HPP : Hid (P = (decide (R < n) && (xs.getD R [] == e))) := by rw [hP]; unfold inP; rw [← HP.out, HE.out]; exact rfl
  rw [← hP]
  clear hP
  go_enter Tryz.func71, Tryz.ntmps71
  go_wp2
  go_loopw [7, 8] (fun i j wr => ∃ (lo hi : Nat), lo ≤ hi ∧ hi ≤ n ∧ i = .int .i64 lo ∧ j = .int .i64 hi ∧ Hid (half less n lo hi = R) ∧ Hid (Kept w wr)) (fun i j _ => (intOf j).toNat - (intOf i).toNat)
  case atStart => exact ⟨0, n, by omega, by omega, rfl, rfl, HR.out.symm, Kept.refl _⟩
  case round =>
    obtain ⟨lo, hi, h1, h2, rfl, rfl, HH, KR⟩ := hrel
    by_cases hlt : lo < hi
    · obtain ⟨b, off, rfl, hc⟩ := HLL.out.row (by omega)
      obtain ⟨m, hm⟩ : ∃ m, m = (lo + hi) / 2 := ⟨_, rfl⟩
      have hm1 : lo ≤ m := by omega
      have hm2 : m < hi := by omega
      have cm := KR.out.cell (hc m (by omega))
      clear hc
      obtain ⟨x, hx⟩ : ∃ x, x = xs.getD m [] := ⟨_, rfl⟩
      rw [← hx] at cm
      have HX : Hid (less m = Op.bytesLess x e) := by rw [HLs.out, hx]; exact rfl
      have hmi : ((lo : Int) + hi) / 2 = m := by omega
      have hl : (lo : Int) < hi := by omega
      have hmn : (m : Int) < n := by omega
      have HM : Hid (m = (lo + hi) / 2) := hm
      clear hm hx
      go_wp2_with fail
      refine (less79 x e _).mono ?_
      rintro r w1 ⟨rfl, rfl⟩
      have ST : Hid (half less n lo hi = if less m then half less n (m + 1) hi else half less n lo m) := by rw [HM.out]; exact half_step less n lo hi hlt (by omega)
      cases hb : Op.bytesLess x e
      · rw [hb] at HX
        go_wp2
        go_roundw
        case rel =>
          have hO : Hid (half less n lo m = R) := by
            have h := ST.out
            rw [HX.out] at h
            exact h.symm.trans HH.out
          first | exact ⟨lo, m, by omega, by omega, rfl, rfl, hO, KR⟩ | exact ⟨lo, m, by omega, by omega, rfl, rfl, hO⟩
        case measure => simp [intOf]; omega
      · rw [hb] at HX
        go_wp2
        go_roundw
        case rel =>
          have hO : Hid (half less n (m + 1) hi = R) := by
            have h := ST.out
            rw [HX.out] at h
            exact h.symm.trans HH.out
          first | exact ⟨m + 1, hi, by omega, by omega, by go_num, rfl, hO, KR⟩ | exact ⟨m + 1, hi, by omega, by omega, by go_num, rfl, hO⟩
        case measure => simp [intOf]; omega
    · obtain rfl : lo = hi := by omega
      have hRl : lo = R := by rw [← HH.out, half_end _ _ _ _ hlt]
      subst hRl
      have hl : ¬ (lo : Int) < lo := by omega
      by_cases hin : lo < n
      · obtain ⟨b, off, rfl, hc⟩ := HLL.out.row (by omega)
        have cm := KR.out.cell (hc lo hin)
        clear hc
        obtain ⟨x, hx⟩ : ∃ x, x = xs.getD lo [] := ⟨_, rfl⟩
        rw [← hx] at cm HPP
        clear hx
        have hi2 : (lo : Int) < n := by omega
        by_cases hxe : x = e
        · subst hxe
          have HQ : Hid (P = true) := hid_of (by rw [HPP.out]; simp [hin])
          go_wp2
          go_ret2
          exact ⟨by rw [HQ.out]; rfl, KR.out⟩
        · have hne : (x == e) = false := by simpa using hxe
          have HQ : Hid (P = false) := hid_of (by rw [HPP.out]; simp [hxe])
          go_wp2_with fail
          refine (isNaN80 x _).mono ?_
          rintro r w1 ⟨rfl, rfl⟩
          go_wp2
          go_ret2
          exact ⟨by rw [HQ.out]; rfl, KR.out⟩
      · have hi2 : ¬ (lo : Int) < n := by omega
        have HQ : Hid (P = false) := hid_of (by rw [HPP.out]; simp [hin])
        go_wp2
        go_ret2
        exact ⟨by rw [HQ.out]; rfl, KR.out⟩

set_option maxHeartbeats 800000 in
theorem inSet60 (a : Option Addr) (n c : Nat) (xs : List Str) (e : Str) (w : World) (hn : n ≤ 4398046511104) (hL : IsL w a n xs) :
    Calls Tryz.prog 60 #[.slice a n c, sv e] w fun r w' => (r = .returned (.bool (inP xs e))) ∧ Kept w w' := by
  have H : Hid (Calls Tryz.prog 71 #[.slice a n c, sv e] w fun r w' => (r = .returned (.tuple #[.int .i64 (place xs e : Nat), .bool (inP xs e)])) ∧ Kept w w') := search71 a n c xs e w hn hL
  obtain ⟨P, hP⟩ : ∃ P, P = inP xs e := ⟨_, rfl⟩
  obtain ⟨R, hR⟩ : ∃ R, R = place xs e := ⟨_, rfl⟩
  rw [← hP, ← hR] at H
  rw [← hP]
  clear hP hR hL
  go_enter Tryz.func60, Tryz.ntmps60
  go_wp2_with fail
  refine H.out.mono ?_
  rintro r w1 ⟨rfl, k1⟩
  go_wp2
  go_ret
  exact ⟨rfl, k1⟩

/-- The elements of s that are (b) or are not (not b) found in o. -/
def pickP (s o : List Str) (b : Bool) : List Str := s.filter (fun e => inP o e == b)
theorem pick_yes (s o : List Str) (b : Bool) (k : Nat) (h : k < s.length) (hb : inP o (s.getD k []) = b) : pickP (s.take k) o b ++ [s.getD k []] = pickP (s.take (k + 1)) o b := by
  rw [← take_snoc s k h]
  simp only [pickP, List.filter_append]
  congr 1
  rw [List.filter_cons, if_pos (by rw [hb]; simp)]
  simp
theorem pick_no (s o : List Str) (b : Bool) (k : Nat) (h : k < s.length) (hb : inP o (s.getD k []) ≠ b) : pickP (s.take k) o b = pickP (s.take (k + 1)) o b := by
  rw [← take_snoc s k h]
  simp only [pickP, List.filter_append]
  rw [List.filter_cons, if_neg (by simpa using hb)]
  simp
theorem pickP_le (s o : List Str) (b : Bool) : (pickP s o b).length ≤ s.length := List.length_filter_le _ _

set_option maxHeartbeats 1600000 in
theorem pick49 (a : Option Addr) (n c : Nat) (xs : List Str) (a2 : Option Addr) (n2 c2 : Nat) (ys : List Str) (B : Bool) (w : World) (hn : n ≤ 4398046511104) (hL : IsL w a n xs) (hn2 : n2 ≤ 4398046511104) (hL2 : IsL w a2 n2 ys) :
    Calls Tryz.prog 49 #[.slice a n c, .slice a2 n2 c2, .bool B] w fun r w' => RetL w w' r (pickP xs ys B) ∧ Kept w w' := by
  have hlen := hL.len
  have HL : Hid (IsL w a n xs) := hL
  have HL2 : Hid (IsL w a2 n2 ys) := hL2
  have HE : Hid (xs.length = n) := hlen
  clear hL hL2 hlen
  go_enter Tryz.func49, Tryz.ntmps49
  go_wp2
  go_loopw [7, 12] (fun v i wr => ∃ (k : Nat), k ≤ n ∧ i = .int .i64 k ∧ Hid (OwnS wr w.heap.size v (pickP (xs.take k) ys B)) ∧ Hid (Kept w wr)) (fun _ i _ => n - (intOf i).toNat)
  case atStart => exact ⟨0, by omega, rfl, ownS_nil _ _, Kept.refl _⟩
  case round =>
    obtain ⟨k, hk, rfl, OV, KR⟩ := hrel
    obtain ⟨pre, hp⟩ : ∃ pre, pre = pickP (xs.take k) ys B := ⟨_, rfl⟩
    have hpl : pre.length ≤ 4398046511104 := by
      rw [hp]
      have h1 := pickP_le (xs.take k) ys B
      simp at h1
      omega
    rw [← hp] at OV
    have HP : Hid (pre = pickP (xs.take k) ys B) := hp
    clear hp
    have hs := KR.out.size
    by_cases hlt : k < n
    · obtain ⟨b, off, rfl, hc⟩ := HL.out.row (by omega)
      have cx := KR.out.cell (hc k hlt)
      have hl : (k : Int) < (n : Int) := by omega
      clear hc
      obtain ⟨x, hx⟩ : ∃ x, x = xs.getD k [] := ⟨_, rfl⟩
      rw [← hx] at cx
      have HX : Hid (x = xs.getD k []) := hx
      clear hx
      go_wp2_with fail
      refine (inSet60 a2 n2 c2 ys x _ hn2 (HL2.out.kept KR.out)).mono ?_
      rintro r w1 ⟨rfl, q1⟩
      have K1 : Hid (Kept w w1) := KR.out.trans q1
      have O1 : Hid (OwnS w1 w.heap.size _ pre) := OV.out.below q1
      have hs1 := K1.out.size
      obtain ⟨I, hI⟩ : ∃ I, I = inP ys x := ⟨_, rfl⟩
      rw [← hI]
      have HI : Hid (I = inP ys x) := hI
      clear hI q1
      by_cases hIB : I = B
      · subst hIB
        go_wp2_with (at_builtin; refine wpList_app1 rfl _ _ rfl rfl w1 w.heap.size _ pre x O1.out hpl hs1 rfl rfl ?_; intro g cg w2 HO2 B2 _; have K2 : Hid (Kept w w2) := K1.out.own B2.out (Nat.le_refl _))
        go_roundw
        case rel =>
          have hO : Hid (OwnS w2 w.heap.size (.slice (some ⟨g, 0, none⟩) (pre.length + 1) cg) (pickP (xs.take (k + 1)) ys I)) := by
            have := HO2.out
            rw [HP.out, HX.out, pick_yes _ _ _ _ (by rw [HE.out]; exact hlt) (by rw [← HX.out, ← HI.out])] at this
            rw [HP.out]
            exact this
          first | exact ⟨k + 1, by omega, by go_num, hO, K2⟩ | exact ⟨k + 1, by omega, by go_num, hO⟩
        case measure => simp [intOf]; omega
      · have hne : (I == B) = false := by simpa using hIB
        go_wp2
        go_roundw
        case rel =>
          have hO := O1.out
          rw [HP.out, pick_no _ _ _ _ (by rw [HE.out]; exact hlt) (by rw [← HX.out, ← HI.out]; exact hIB)] at hO
          first | exact ⟨k + 1, by omega, by go_num, hO, K1⟩ | exact ⟨k + 1, by omega, by go_num, hO⟩
        case measure => simp [intOf]; omega
    · obtain rfl : n = k := by omega
      have hl : ¬ (n : Int) < (n : Int) := by omega
      go_wp2
      go_ret
      refine ⟨?_, KR.out⟩
      have := OV.out
      rw [HP.out, List.take_of_length_le (by rw [HE.out]; exact Nat.le_refl _)] at this
      exact this.retL

/-- Is each element of s found in o? -/
def subP (s o : List Str) : Bool := (pickP s o false).length == 0

set_option maxHeartbeats 800000 in
theorem subset48 (a : Option Addr) (n c : Nat) (xs : List Str) (a2 : Option Addr) (n2 c2 : Nat) (ys : List Str) (w : World) (hn : n ≤ 4398046511104) (hL : IsL w a n xs) (hn2 : n2 ≤ 4398046511104) (hL2 : IsL w a2 n2 ys) :
    Calls Tryz.prog 48 #[.slice a n c, .slice a2 n2 c2] w fun r w' => (r = .returned (.bool (subP xs ys))) ∧ Kept w w' := by
  have H : Hid (Calls Tryz.prog 49 #[.slice a n c, .slice a2 n2 c2, .bool false] w fun r w' => RetL w w' r (pickP xs ys false) ∧ Kept w w') := pick49 a n c xs a2 n2 c2 ys false w hn hL hn2 hL2
  have hle := pickP_le xs ys false
  rw [hL.len] at hle
  clear hL hL2
  unfold subP
  obtain ⟨m, hm⟩ : ∃ m, m = (pickP xs ys false).length := ⟨_, rfl⟩
  rw [← hm] at hle ⊢
  have HM : Hid (m = (pickP xs ys false).length) := hm
  clear hm
  go_enter Tryz.func48, Tryz.ntmps48
  go_wp2_with fail
  refine H.out.mono ?_
  rintro r w1 ⟨⟨a1, c1, rfl, -, -⟩, k1⟩
  rw [← HM.out]
  go_wp2
  go_ret
  refine ⟨?_, k1⟩
  simp
  rw [Bool.eq_iff_iff]
  simp

end Go.Proofs.Qxb6616331aGreatDoor
