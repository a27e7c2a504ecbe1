import Derived.Test.Qxb6616311aDoorW5
namespace Go.Proofs.Qxb6616311aDoor
open Go.RowKit
set_option linter.unusedVariables false

set_option maxHeartbeats 400000 in
theorem keeps_long (a : Option Addr) (n c : Nat) (k : Int) (last : Bool) (w : World) (hn : 1048576 < n) :
    Calls Tryd.prog 4 #[.slice a n c, .bool last, .int .i64 k] w fun e w' => e = .returned (.bool true) ∧ Kept (fun _ => False) w w' := by
  go_enter Tryd.func4, Tryd.ntmps4
  go_wp2_with (go_at_call 12; refine (bytes12_no a n c last k _ hn).mono ?_; rintro e w ⟨rfl, rfl⟩)
  go_ret
  exact ⟨rfl, Kept.refl _ _⟩

set_option maxHeartbeats 400000 in
theorem keeps_low (a : Option Addr) (n c : Nat) (k : Int) (last : Bool) (w : World) (hn : n ≤ 1048576) (hk : k < 1) :
    Calls Tryd.prog 4 #[.slice a n c, .bool last, .int .i64 k] w fun e w' => e = .returned (.bool true) ∧ Kept (fun _ => False) w w' := by
  go_enter Tryd.func4, Tryd.ntmps4
  go_wp2_with (go_at_call 12; refine (bytes12 a n c last k _ hn).mono ?_; rintro e w ⟨rfl, rfl⟩)
  go_ret
  exact ⟨rfl, Kept.refl _ _⟩

set_option maxHeartbeats 400000 in
theorem keeps_high (a : Option Addr) (n c : Nat) (k : Int) (last : Bool) (w : World) (hn : n ≤ 1048576) (hk0 : ¬ k < 1) (hk : 65536 < k) :
    Calls Tryd.prog 4 #[.slice a n c, .bool last, .int .i64 k] w fun e w' => e = .returned (.bool true) ∧ Kept (fun _ => False) w w' := by
  go_enter Tryd.func4, Tryd.ntmps4
  go_wp2_with (go_at_call 12; refine (bytes12 a n c last k _ hn).mono ?_; rintro e w ⟨rfl, rfl⟩)
  go_ret
  exact ⟨rfl, Kept.refl _ _⟩

set_option maxHeartbeats 1600000 in
theorem keeps_nil (k : Nat) (last : Bool) (w : World) (hE : Errs w) (hk : k ≤ 65536) (hk1 : 1 ≤ k) :
    Calls Tryd.prog 4 #[.slice none 0 0, .bool last, .int .i64 k] w fun e w' => e = .returned (.bool true) ∧ Kept (fun _ => False) w w' := by
  have hmk := run_make_row' (P := Tryd.prog) 22 5 (.int .u8 0) 1 Tryd.underlying22 Tryd.info5 rfl .i64 .i64 k (by omega) (by omega)
  have hg0 := hE.1
  go_enter Tryd.func4, Tryd.ntmps4
  go_wp2_with fail
  refine (bytes12 _ 0 0 last k _ (by omega)).mono ?_
  rintro e w ⟨rfl, rfl⟩
  go_wp2_with fail
  refine (clone6_nil w).mono ?_
  rintro e w ⟨rfl, rfl⟩
  go_wp2_with fail
  refine (clone6_nil w).mono ?_
  rintro e w2 ⟨rfl, rfl⟩
  go_wp2_with fail
  refine (new7_any none 0 0 last w2).mono ?_
  rintro e w3 ⟨zb, rfl, hzb, hz, q3⟩
  have Q3 : Kept (fun _ => False) w2 w3 := q3
  have hE3 := Q3.errs hE (fun h => h) (fun h => h)
  go_wp2_with fail
  refine (wait8_end zb _ 0 last w3 hz hE3).mono ?_
  rintro e w4 ⟨⟨t1, x1, rfl⟩, q4⟩
  have hz4 := q4.isZ hz (fun h => h)
  have hE4 := q4.errs hE3 (fun h => h) (fun h => h)
  go_wp2_with fail
  refine (wait8_end zb _ 0 last w4 hz4 hE4).mono ?_
  rintro e w5 ⟨⟨t2, x2, rfl⟩, q5⟩
  have hz5 := q5.isZ hz4 (fun h => h)
  have hE5 := q5.errs hE4 (fun h => h) (fun h => h)
  go_wp2_with fail
  refine (part11 zb _ w5 hz5.c0).mono ?_
  rintro e w5 ⟨rfl, rfl⟩
  go_wp2_with fail
  refine (eq10_zero none none 0 0 w5).mono ?_
  rintro e w6 ⟨rfl, q, rfl⟩
  have q7 : Kept (fun _ => False) w5 ((w5.drewN q).alloc (Obj.cells (madeCells #[Value.int IntKind.u8 0] k) 5)) := (Kept.drewN _ _ _).trans (Kept.alloc _ _ _)
  have hz7 := q7.isZ hz5 (fun h => h)
  have hE7 := q7.errs hE5 (fun h => h) (fun h => h)
  have hk0 : (0 : Int) < (k : Int) := by omega
  go_wp2_with fail
  refine (read9_end zb 0 _ _ last _ hz7 hE7).mono ?_
  rintro e w8 ⟨⟨t3, x3, rfl⟩, q8⟩
  have hz8 := q8.isZ hz7 (fun h => h)
  have cz := hz8.c0
  have fin : ∀ q, Kept (fun _ => False) w2 (w8.drewN q) := fun q => (((((Q3.trans q4).trans q5).trans q7).trans q8)).trans (Kept.drewN _ _ _)
  clear hz hz4 hz5 hz7 hE3 hE4 hE5 hE7 hE
  go_wp2
  go_quiet ((first | (go_at_call 11; exact Calls.quiet_of_same (part11 zb _ _ cz)) | (go_at_call 10; exact Calls.quiet_of (eq10_zero _ _ _ _ _))))
  go_wp2
  go_ret
  exact ⟨rfl, fin _⟩

set_option maxHeartbeats 1600000 in
theorem keeps_empty (x : Addr) (c : Nat) (k : Nat) (last : Bool) (w : World) (hE : Errs w) (hk : k ≤ 65536) (hk1 : 1 ≤ k) :
    Calls Tryd.prog 4 #[.slice (some x) 0 c, .bool last, .int .i64 k] w fun e w' => e = .returned (.bool true) ∧ Kept (fun _ => False) w w' := by
  have hmk := run_make_row' (P := Tryd.prog) 22 5 (.int .u8 0) 1 Tryd.underlying22 Tryd.info5 rfl .i64 .i64 k (by omega) (by omega)
  have hg0 := hE.1
  go_enter Tryd.func4, Tryd.ntmps4
  go_wp2_with fail
  refine (bytes12 _ 0 c last k _ (by omega)).mono ?_
  rintro e w ⟨rfl, rfl⟩
  go_wp2_with fail
  refine (clone6_pos x 0 c [] w (by omega) ⟨rfl, fun h => absurd h (Nat.lt_irrefl _)⟩).mono ?_
  rintro e w1 ⟨g1, rfl, l1, hr1, q1⟩
  go_wp2_with fail
  refine (clone6_pos ⟨g1, 0, none⟩ 0 0 [] w1 (by omega) ⟨rfl, fun h => absurd h (Nat.lt_irrefl _)⟩).mono ?_
  rintro e w2 ⟨g2, rfl, l2, hr2, q2⟩
  go_wp2_with fail
  refine (new7_any (some ⟨g1, 0, none⟩) 0 0 last w2).mono ?_
  rintro e w3 ⟨zb, rfl, hzb, hz, q3⟩
  have Q3 : Kept (fun _ => False) w w3 := (q1.trans q2).trans q3
  have hs2 : w.heap.size ≤ w2.heap.size := Nat.le_trans q1.size q2.size
  have hE3 := Q3.errs hE (fun h => h) (fun h => h)
  go_wp2_with fail
  refine (wait8_end zb _ 0 last w3 hz hE3).mono ?_
  rintro e w4 ⟨⟨t1, x1, rfl⟩, q4⟩
  have hz4 := q4.isZ hz (fun h => h)
  have hE4 := q4.errs hE3 (fun h => h) (fun h => h)
  go_wp2_with fail
  refine (wait8_end zb _ 0 last w4 hz4 hE4).mono ?_
  rintro e w5 ⟨⟨t2, x2, rfl⟩, q5⟩
  have hz5 := q5.isZ hz4 (fun h => h)
  have hE5 := q5.errs hE4 (fun h => h) (fun h => h)
  go_wp2_with fail
  refine (part11 zb _ w5 hz5.c0).mono ?_
  rintro e w5 ⟨rfl, rfl⟩
  go_wp2_with fail
  refine (eq10_zero (some ⟨g1, 0, none⟩) (some ⟨g2, 0, none⟩) 0 0 w5).mono ?_
  rintro e w6 ⟨rfl, q, rfl⟩
  have q7 : Kept (fun _ => False) w5 ((w5.drewN q).alloc (Obj.cells (madeCells #[Value.int IntKind.u8 0] k) 5)) := (Kept.drewN _ _ _).trans (Kept.alloc _ _ _)
  have hz7 := q7.isZ hz5 (fun h => h)
  have hE7 := q7.errs hE5 (fun h => h) (fun h => h)
  have hk0 : (0 : Int) < (k : Int) := by omega
  go_wp2_with fail
  refine (read9_end zb 0 _ _ last _ hz7 hE7).mono ?_
  rintro e w8 ⟨⟨t3, x3, rfl⟩, q8⟩
  have hz8 := q8.isZ hz7 (fun h => h)
  have cz := hz8.c0
  have fin : ∀ q, Kept (fun _ => False) w (w8.drewN q) := fun q => (((((Q3.trans q4).trans q5).trans q7).trans q8)).trans (Kept.drewN _ _ _)
  clear hz hz4 hz5 hz7 hE3 hE4 hE5 hE7 hE
  go_wp2
  go_quiet ((first | (go_at_call 11; exact Calls.quiet_of_same (part11 zb _ _ cz)) | (go_at_call 10; exact Calls.quiet_of (eq10_zero _ _ _ _ _))))
  go_wp2
  go_ret
  exact ⟨rfl, fin _⟩

/-- THE LAW: for every slice of bytes, flag and number. -/
theorem keeps_any (a : Option Addr) (n c : Nat) (k : Int) (xs : List Int) (last : Bool) (w : World) (hB : IsB w a n xs) (hnil : a = none → n = 0 ∧ c = 0) (hE : Errs w) :
    Calls Tryd.prog 4 #[.slice a n c, .bool last, .int .i64 k] w fun e w' => e = .returned (.bool true) ∧ Kept (fun _ => False) w w' := by
  by_cases hn : n ≤ 1048576
  · by_cases hk : k < 1
    · exact keeps_low a n c k last w hn hk
    · by_cases hk' : 65536 < k
      · exact keeps_high a n c k last w hn hk hk'
      · obtain ⟨m, rfl⟩ := Int.eq_ofNat_of_zero_le (show 0 ≤ k by omega)
        cases a with
        | none =>
          obtain ⟨rfl, rfl⟩ := hnil rfl
          exact keeps_nil m last w hE (by omega) (by omega)
        | some x =>
          by_cases h0 : n = 0
          · subst h0
            exact keeps_empty x c m last w hE (by omega) (by omega)
          · exact keeps_some x n c m xs last w hB hE hn (by omega) (by omega) (by omega)
  · exact keeps_long a n c k last w (by omega)

end Go.Proofs.Qxb6616311aDoor
