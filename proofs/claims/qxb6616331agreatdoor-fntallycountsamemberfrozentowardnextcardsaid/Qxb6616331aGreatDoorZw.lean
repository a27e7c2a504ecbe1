/-
  THE WALKS of seat b6616331aZD, w: strconv.ParseUint; the number that zzHex wrote.
-/
import Derived.Test.Qxb6616331aGreatDoorZv
namespace Go.Proofs.Qxb6616331aGreatDoor
open Go.RowKit
set_option linter.unusedVariables false
set_option linter.unusedSimpArgs false
set_option linter.unnecessarySimpa false
set_option maxRecDepth 40000

/-- The two laid errors of strconv. -/
structure Errs (w : World) : Prop where
  syn : ∃ te pe, w.cell? ⟨0, 0, none⟩ = some (.iface te pe)
  ran : ∃ te pe, w.cell? ⟨1, 0, none⟩ = some (.iface te pe)
theorem Errs.kept {w w' : World} (h : Errs w) (q : Kept w w') : Errs w' := by
  obtain ⟨t, p, h1⟩ := h.syn
  obtain ⟨t', p', h2⟩ := h.ran
  exact ⟨⟨t, p, q.cell h1⟩, ⟨t', p', q.cell h2⟩⟩

theorem parseGo_two : ∀ (s : Str) (n : Nat), (parseGo n s).2 = 0 ∨ (parseGo n s).2 = 1 ∨ (parseGo n s).2 = 2
  | [], n => by simp [parseGo]
  | c :: cs, n => by
    unfold parseGo
    cases digP c with
    | none => simp
    | some d =>
      simp only
      by_cases h : n < 1152921504606846976
      · rw [if_pos h]; exact parseGo_two cs _
      · rw [if_neg h]; simp
theorem digP_lt (c : UInt8) (d : Nat) (h : digP c = some d) : d < 16 := by
  unfold digP at h
  split at h
  · cases h; omega
  · split at h
    · cases h; omega
    · cases h
theorem parseGo_lt : ∀ (s : Str) (n : Nat), n < 18446744073709551616 → (parseGo n s).1 < 18446744073709551616
  | [], n, hn => by simpa [parseGo] using hn
  | c :: cs, n, hn => by
    unfold parseGo
    cases hd : digP c with
    | none => simp
    | some d =>
      have := digP_lt c d hd
      simp only
      by_cases h : n < 1152921504606846976
      · rw [if_pos h]; exact parseGo_lt cs _ (by omega)
      · rw [if_neg h]; simp
theorem parseP_lt (s : Str) : parseP s < 18446744073709551616 := by
  unfold parseP
  split
  · omega
  · exact parseGo_lt s 0 (by omega)

theorem digP_hex : ∀ d : Fin 16, digP (hexD d.val) = some d.val := by decide +kernel
theorem parseGo_hex (X : Nat) : ∀ (k n : Nat), k ≤ 16 → n * 16 ^ k + X % 16 ^ k < 18446744073709551616 → parseGo n (hexK X k) = (n * 16 ^ k + X % 16 ^ k, 0)
  | 0, n, _, h => by simp [hexK, parseGo, Nat.mod_one]
  | k + 1, n, hk, h => by
    have hd := digP_hex ⟨X / 16 ^ k % 16, Nat.mod_lt _ (by decide)⟩
    simp only at hd
    have e : n * 16 ^ (k + 1) + X % 16 ^ (k + 1) = (n * 16 + X / 16 ^ k % 16) * 16 ^ k + X % 16 ^ k := by
      rw [Nat.pow_succ, Nat.mod_mul, Nat.add_mul, Nat.mul_assoc, Nat.mul_comm 16 (16 ^ k), Nat.mul_comm (X / 16 ^ k % 16)]
      omega
    have hn : n < 1152921504606846976 := by
      rcases Nat.lt_or_ge n 1152921504606846976 with h' | h'
      · exact h'
      · exfalso
        have h1 : 1152921504606846976 * 16 ≤ n * 16 ^ (k + 1) := Nat.mul_le_mul h' (by rw [Nat.pow_succ]; have := Nat.pow_pos (n := k) (show 0 < 16 by decide); omega)
        omega
    rw [hexK, parseGo, hd]
    simp only [if_pos hn]
    rw [parseGo_hex X k _ (by omega) (by rw [← e]; exact h), ← e]
theorem parseP_hex (X k : Nat) (h1 : 1 ≤ k) (h2 : k ≤ 16) (hX : X < 16 ^ k) (h64 : X < 18446744073709551616) : parseP (hexK X k) = X := by
  have hne : hexK X k ≠ [] := by
    intro h
    have := congrArg List.length h
    rw [hexK_length] at this
    simp at this
    omega
  unfold parseP
  rw [if_neg hne, parseGo_hex X k 0 h2 (by rw [Nat.mod_eq_of_lt hX]; omega), Nat.mod_eq_of_lt hX]
  simp

/-- A number and some error are returned. -/
def RetN (e : Ending) (n : Nat) : Prop := ∃ ev, e = .returned (.tuple #[.int .u64 n, ev])

set_option maxHeartbeats 1600000 in
theorem parse43 (s : Str) (w : World) (hs : s.length ≤ 1048576) (hE : Errs w) :
    Calls Tryz.prog 43 #[sv s, .int .i64 16, .int .i64 64] w fun e w' => RetN e (parseP s) ∧ Kept w w' := by
  have P55 : ∃ n k, (n = parseP s) ∧ (k = 0 ∨ k = 1 ∨ k = 2) ∧ Calls Tryz.prog 55 #[sv s, .int .i64 16, .int .i64 64] w fun e w' => (e = .returned (.tuple #[.int .u64 (n : Nat), errV k])) ∧ Kept w w' := by
    by_cases h0 : s = []
    · subst h0
      refine ⟨0, 2, by simp [parseP], by omega, (Tryz.internal_strconv_ParseUint_empty 16 64 w).mono ?_⟩
      rintro e w' ⟨rfl, rfl⟩
      exact ⟨rfl, Kept.refl _⟩
    · exact ⟨(parseGo 0 s).1, (parseGo 0 s).2, by simp [parseP, h0], parseGo_two s 0, parse55 s w hs h0⟩
  obtain ⟨n, k, hn, hk, H⟩ := P55
  rw [← hn]
  have HH := hid_of' H
  have HE := hid_of' hE
  clear hn H hE
  rcases hk with rfl | rfl | rfl
  · go_enter Tryz.func43, Tryz.ntmps43
    go_wp2_with fail
    refine HH.out.mono ?_
    rintro e w1 ⟨rfl, k1⟩
    unfold errV
    go_wp2
    go_ret2
    exact ⟨⟨_, rfl⟩, k1⟩
  · go_enter Tryz.func43, Tryz.ntmps43
    go_wp2_with fail
    refine HH.out.mono ?_
    rintro e w1 ⟨rfl, k1⟩
    have K1 := hid_of' k1
    unfold errV
    obtain ⟨te, pe, hv⟩ := (HE.out.kept k1).ran
    have HV := hid_of' hv
    clear hv k1
    go_wp2_with fail
    refine (Tryz.strconv_toError_range _ ⟨s.toArray⟩ 16 64 _ w1 (by simp [ByteArray.size]; omega) HV.out (.inr ⟨te, pe, rfl⟩)).mono ?_
    rintro e w2 ⟨N, rfl, -, -, hb⟩
    go_wp2
    go_ret2
    exact ⟨⟨_, rfl⟩, K1.out.trans (Kept.of_below hb)⟩
  · go_enter Tryz.func43, Tryz.ntmps43
    go_wp2_with fail
    refine HH.out.mono ?_
    rintro e w1 ⟨rfl, k1⟩
    have K1 := hid_of' k1
    unfold errV
    obtain ⟨te, pe, hv⟩ := (HE.out.kept k1).syn
    have HV := hid_of' hv
    clear hv k1
    go_wp2_with fail
    refine (Tryz.strconv_toError_syntax _ ⟨s.toArray⟩ 16 64 _ w1 (by simp [ByteArray.size]; omega) HV.out (.inr ⟨te, pe, rfl⟩)).mono ?_
    rintro e w2 ⟨N, rfl, -, -, hb⟩
    go_wp2
    go_ret2
    exact ⟨⟨_, rfl⟩, K1.out.trans (Kept.of_below hb)⟩

end Go.Proofs.Qxb6616331aGreatDoor
