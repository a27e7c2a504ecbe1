/-
  THE ROW 'fnTallyCountsAMemberFrozenTowardNext' AND ITS TIED CARD, PROVED out of the walk 'law3' (Qxb6616331aGreatDoorXf.lean).
-/
import Derived.Test.Qxb6616331aGreatDoorRows
import Derived.Test.Qxb6616331aGreatDoorTie
import Derived.Test.Qxb6616331aGreatDoorCards
import Derived.Test.Qxb6616331aGreatDoorXg
import Derived.ProofKit
import Derived.LaidMore
import Derived.OpenShut
import Derived.ShutString
import Derived.Stop.Joined
import Derived.Stop.LaidErr
import Derived.SevenTiedAt
namespace Go.Proofs.Qxb6616331aGreatDoor.tallyProof
open Go.ChangeShapes Go.WideShapes Go.ChangeAt Go.RowKit
open Go.ChangeMaps (open_string shut_string)
set_option linter.unusedVariables false

theorem own : ownKnob Tryz.prog.godebug = none := by kernel_rfl
theorem laidOut : laidOutB Tryz.prog = true := by kernel_rfl
theorem gS : Tryz.prog.globalNamed "strconv.ErrSyntax" = some 0 := by kernel_rfl
theorem gSType : (Tryz.prog.globals[0]?).map (·.type) = some 86 := by kernel_rfl
theorem gR : Tryz.prog.globalNamed "strconv.ErrRange" = some 1 := by kernel_rfl
theorem gRType : (Tryz.prog.globals[1]?).map (·.type) = some 86 := by kernel_rfl
theorem cells119 : Tryz.prog.cellsOf 119 = 1 := by kernel_rfl
theorem cells9 : Tryz.prog.cellsOf 9 = 1 := by kernel_rfl
/-- THE ONE ROW OF THAT NAME. -/
theorem row117 (u : TypeId) (h : Tryz.prog.typeName? 3 u = some ("*" ++ "errors.errorString")) : u = 117 :=
  typeName_ptr_named (nm := "errors.errorString") (by kernel_rfl) (by kernel_rfl) (by decide) u h

theorem door_met (os : Os) (args : Array Value) : laidMetH Tryz.prog Rows.fnTallyCountsAMemberFrozenTowardNextRow.laid ((World.doorLaid Tryz.prog 62 os).forCall (fun _ _ => 0) ⟨#[], args, []⟩).memory :=
  laidMetH_of_parts3 (fuel := 8) (laidMet_of_run' 8 (by kernel_rfl) (by kernel_rfl)) (by kernel_rfl) (by kernel_rfl)

/-- WHAT THE CONDITION GIVES THE WALKS: the two sentinels are errors that are not nil. -/
theorem of_laid {W : World} (h : laidMetH Tryz.prog Rows.fnTallyCountsAMemberFrozenTowardNextRow.laid W) : Errs W := by
  rw [MakeChecks.laidMetH_plain _ _ _ (by kernel_rfl)] at h
  have h3 := h.tail.tail.tail
  obtain ⟨a1, s1, hv1, hc1, hs1, hz1⟩ := laid_sentinel h3 gR gRType Tryz.underlying86 row117 Tryz.underlying117 Tryz.underlying119 rfl rfl Tryz.underlying9 cells119 cells9
  obtain ⟨a0, s0, hv0, hc0, hs0, hz0⟩ := laid_sentinel h3.tail gS gSType Tryz.underlying86 row117 Tryz.underlying117 Tryz.underlying119 rfl rfl Tryz.underlying9 cells119 cells9
  exact ⟨⟨_, _, by simpa using World.var?_cell gS hv0 0⟩, ⟨_, _, by simpa using World.var?_cell gR hv1 0⟩⟩

set_option maxRecDepth 100000 in
theorem lifted (os : Os) (started : os.Started) (H : Type) (enc : TypeId × Value → H) :
    ReturnsInHanded {} Tryz.checked os 3 .any (fun w args => (Rows.fnTallyCountsAMemberFrozenTowardNextSpec.pre enc Tryz.prog Tryz.f3 [] false w args ∧ laidMetH Tryz.prog Rows.fnTallyCountsAMemberFrozenTowardNextRow.laid w) ∧ sizedMet enc Tryz.prog Tryz.f3 (OpenSpec.ofChange Rows.fnTallyCountsAMemberFrozenTowardNextSpec) false w args)
      (Rows.fnTallyCountsAMemberFrozenTowardNextSpec.post enc Tryz.prog Tryz.f3 false true false false) := by
  refine returnsInHanded_of_change_and (C := Tryz.checked) (X := fun w _ => laidMetH Tryz.prog Rows.fnTallyCountsAMemberFrozenTowardNextRow.laid w) (fun _ _ _ hh h => h.of_heap hh) own started (by kernel_rfl) Tryz.func3
    (ChangeSpec.witness_shaped (enc := enc) (C := Tryz.checked) (os := os) (X := fun w _ => laidMetH Tryz.prog Rows.fnTallyCountsAMemberFrozenTowardNextRow.laid w) false (World.doorLaid Tryz.prog 62 os) #[.agg #[.int .u64 0, .slice none 0 0, .slice none 0 0, .slice none 0 0], .slice none 0 0, .agg #[.int .u64 0, .slice none 0 0, .slice none 0 0, .slice none 0 0], .slice none 0 0, .int .i64 0, .string ⟨#[]⟩, .bool false, .bool false] 8 rfl (World.shaped_of_RefB (by kernel_rfl) (by kernel_rfl)) (by kernel_rfl) (by kernel_rfl) (by kernel_rfl) (door_met os _)) ?_
  intro W base args ds gs before hval0 hW _ _ hL _
  have hval : ∀ (j : Nat) t v, Tryz.f3.params[j]? = some t → args[j]? = some v → Value.okWide Tryz.prog W .any base t v := hval0
  have hW' := hW
  obtain ⟨p, q, hA0, hV, rfl, hfz, hnd⟩ := hW
  have hA : DataW.TrodAll enc Tryz.prog W 0 (fun _ => true) true Tryz.f3.params.toList args.toList ds p := hA0
  rw [Tryz.params3] at hA hval
  obtain ⟨v0, vs0, d0, ds0, p0, q0, hargs, rfl, rfl, h0, r0⟩ := trodAll_cons hA
  obtain ⟨v1, vs1, d1, ds1, p1, q1, rfl, rfl, rfl, h1, r1⟩ := trodAll_cons r0
  obtain ⟨v2, vs2, d2, ds2, p2, q2, rfl, rfl, rfl, h2, r2⟩ := trodAll_cons r1
  obtain ⟨v3, vs3, d3, ds3, p3, q3, rfl, rfl, rfl, h3, r3⟩ := trodAll_cons r2
  obtain ⟨v4, vs4, d4, ds4, p4, q4, rfl, rfl, rfl, h4, r4⟩ := trodAll_cons r3
  obtain ⟨v5, vs5, d5, ds5, p5, q5, rfl, rfl, rfl, h5, r5⟩ := trodAll_cons r4
  obtain ⟨v6, vs6, d6, ds6, p6, q6, rfl, rfl, rfl, h6, r6⟩ := trodAll_cons r5
  obtain ⟨v7, vs7, d7, ds7, p7, q7, rfl, rfl, rfl, h7, r7⟩ := trodAll_cons r6
  obtain ⟨rfl, rfl, rfl⟩ := trodAll_nil r7
  obtain rfl : args = #[v0, v1, v2, v3, v4, v5, v6, v7] := by cases args; simp_all
  obtain ⟨rfl, rfl⟩ := trodVars_none hV
  have ltOf : ∀ {t : TypeId} {v : Value} {d : DataW H} {p : List MemPlace}, DataW.Trod enc Tryz.prog W 0 (fun _ => true) true t v d p → ∀ x ∈ p, x.block < W.heap.size := fun hk => by obtain ⟨m, hm⟩ := hk; exact DataW.trod_lt m _ _ _ hm
  have lt0 := ltOf h0
  have lt1 := ltOf h1
  have lt2 := ltOf h2
  have lt3 := ltOf h3
  obtain ⟨F, hF⟩ := opV (hval 0 25 v0 rfl rfl) h0
  obtain ⟨a1, n1, c1, rfl⟩ := okWide_slice Tryz.underlying23 (hval 1 23 v1 rfl rfl)
  obtain ⟨tos, hT⟩ : ∃ tos, IsL W a1 n1 tos := by
    obtain ⟨fuel, hf⟩ := h1
    obtain ⟨a, n, c, xs, e, hL⟩ := opStrs (by simpa [Value.cells] using hf)
    cases e
    exact ⟨xs, hL⟩
  obtain ⟨X, hX⟩ := opV (hval 2 25 v2 rfl rfl) h2
  obtain ⟨a3, n3, c3, rfl⟩ := okWide_slice Tryz.underlying26 (hval 3 26 v3 rfl rfl)
  obtain ⟨As, hAs⟩ : ∃ As, IsA W a3 n3 As := by
    obtain ⟨fuel, hf⟩ := h3
    obtain ⟨a, n, c, xs, e, hL⟩ := opA (by simpa [Value.cells] using hf)
    cases e
    exact ⟨xs, hL⟩
  obtain ⟨i4, rfl, rfl, rfl, w4⟩ := open_int Tryz.underlying3 (hval 4 3 v4 rfl rfl) h4
  obtain ⟨s5, rfl, rfl, rfl, w5⟩ := open_string Tryz.underlying9 (hval 5 9 v5 rfl rfl) h5
  obtain ⟨b6, rfl, rfl, rfl⟩ := open_bool Tryz.underlying4 (hval 6 4 v6 rfl rfl) h6
  obtain ⟨b7, rfl, rfl, rfl⟩ := open_bool Tryz.underlying4 (hval 7 4 v7 rfl rfl) h7
  have hE : Errs W := of_laid hL
  clear hA0 hval0
  have hlaw := law3 v0 v2 F X a1 a3 n1 c1 n3 c3 tos As i4 s5.data.toList b6 b7 W hF hX hT hAs hE
  rw [← sv_of] at hlaw
  refine hlaw.mono fun e W' ⟨he, hk⟩ => ?_
  subst he
  have bel : Below W.heap.size W W' := hk.below
  exact ⟨_, rfl, _, _, _, [], _, [], hW', trodAll_mk1 (shut_bool Tryz.underlying4 _), (trodAll_cons_mk (Below.trod laidOut (by kernel_rfl) (of_decide_eq_true (by kernel_rfl)) h0 bel lt0) (trodAll_cons_mk (Below.trod laidOut (by kernel_rfl) (of_decide_eq_true (by kernel_rfl)) h1 bel lt1) (trodAll_cons_mk (Below.trod laidOut (by kernel_rfl) (of_decide_eq_true (by kernel_rfl)) h2 bel lt2) (trodAll_cons_mk (Below.trod laidOut (by kernel_rfl) (of_decide_eq_true (by kernel_rfl)) h3 bel lt3) (trodAll_cons_mk (shut_int Tryz.underlying3 w4) (trodAll_cons_mk (shut_string Tryz.underlying9 w5) (trodAll_cons_mk (shut_bool Tryz.underlying4 _) (trodAll_cons_mk (shut_bool Tryz.underlying4 _) trodAll_mk0)))))))), rfl, bel.frame _, fun h => by cases h⟩

theorem row_holds : Rows.FnTallyCountsAMemberFrozenTowardNextSaid :=
  OpenClaim.holds_of_wide 3 Tryz.f3 rfl rfl rfl rfl rfl rfl rfl ⟨rfl, rfl, rfl, rfl, rfl⟩ rfl rfl rfl rfl rfl (by kernel_rfl) Tryz.func3 (by kernel_rfl)
    (of_decide_eq_true (by kernel_rfl)) (by unfold Func.isWrapper; rw [if_neg (of_decide_eq_false (by kernel_rfl))]; exact ⟨rfl, rfl⟩)
    (fun os started H enc _ => lifted os started H enc)

/-- THE TIED CARD. -/
theorem card_holds : Rows.FnTallyCountsAMemberFrozenTowardNextCardSaid :=
  Claim7.holds_tied_plain_at .later [] [.data, .data, .data, .sentinel, .sentinel] true (true, "3e29de16743726a4dda434135a9d883ef50a2ac60efb52d06a9ff95a4bcfdc33") true
    row_holds (fun _ h => by cases h) (by kernel_rfl) (fun _ h => by cases h) fnTallyCountsAMemberFrozenTowardNext_row_tie rfl ⟨rfl, rfl⟩ (by kernel_rfl) rfl
    (fun f fn hf hfn => by
      obtain rfl : f = 3 := Option.some.inj ((show Tryz.prog.funcNamed Rows.fnTallyCountsAMemberFrozenTowardNextRow.func = some 3 by kernel_rfl).symm.trans hf) |>.symm
      obtain rfl : fn = Tryz.f3 := (Option.some.inj (Tryz.func3.symm.trans hfn)).symm
      exact ⟨by kernel_rfl, fun j t ht => by
        rw [Tryz.params3] at ht
        have hm : t ∈ [25, 23, 25, 26, 3, 9, 4, 4] := by simpa using Array.mem_of_getElem? ht
        have hall : ([25, 23, 25, 26, 3, 9, 4, 4].all fun u => !Tryz.prog.wantsStandIn u) = true := by kernel_rfl
        exact (show Tryz.prog.wantsStandIn t = false by simpa using List.all_eq_true.1 hall t hm)⟩)
    (by kernel_rfl)
end Go.Proofs.Qxb6616331aGreatDoor.tallyProof
namespace Go.Proofs.Qxb6616331aGreatDoor
theorem tallyProofCard : Rows.FnTallyCountsAMemberFrozenTowardNextCardSaid := tallyProof.card_holds
end Go.Proofs.Qxb6616331aGreatDoor
