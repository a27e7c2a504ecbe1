/-
  THE ROW 'fnQRPInflaterWaitDrainsPartThenEnds' AND ITS TIED CARD, PROVED out of the walk 'drains_any' (Qxb6616311aDoorW8.lean).
-/
import Derived.Test.Qxb6616311aDoorRows
import Derived.Test.Qxb6616311aDoorTie
import Derived.Test.Qxb6616311aDoorCards
import Derived.Test.Qxb6616311aDoorW8
import Derived.ProofKit
import Derived.LaidMore
import Derived.OpenShut
import Derived.Stop.Joined
import Derived.Stop.LaidErr
import Derived.SevenTiedAt
namespace Go.Proofs.Qxb6616311aDoor.drainsProof
open Go.ChangeShapes Go.WideShapes Go.ChangeAt Go.RowKit
set_option linter.unusedVariables false

theorem own : ownKnob Tryd.prog.godebug = none := by kernel_rfl
theorem laidOut : laidOutB Tryd.prog = true := by kernel_rfl
theorem gE : Tryd.prog.globalNamed "io.EOF" = some 0 := by kernel_rfl
theorem gEType : (Tryd.prog.globals[0]?).map (·.type) = some 28 := by kernel_rfl
theorem gD : Tryd.prog.globalNamed (Rows.fnQRPInflaterWaitDrainsPartThenEndsSpec.vars.headD "x") = some 1 := by kernel_rfl
theorem gDType : (Tryd.prog.globals[1]?).map (·.type) = some 28 := by kernel_rfl
theorem vars1 : Rows.fnQRPInflaterWaitDrainsPartThenEndsSpec.vars = [Rows.fnQRPInflaterWaitDrainsPartThenEndsSpec.vars.headD "x"] := by kernel_rfl
theorem cells61 : Tryd.prog.cellsOf 61 = 1 := by kernel_rfl
theorem cells9 : Tryd.prog.cellsOf 9 = 1 := by kernel_rfl
/-- THE ONE ROW OF THAT NAME. -/
theorem row41 (u : TypeId) (h : Tryd.prog.typeName? 3 u = some ("*" ++ "errors.errorString")) : u = 41 :=
  typeName_ptr_named (nm := "errors.errorString") (by kernel_rfl) (by kernel_rfl) (by decide) u h

theorem door_met (os : Os) (args : Array Value) : laidMetH Tryd.prog Rows.fnQRPInflaterWaitDrainsPartThenEndsRow.laid ((World.doorLaid Tryd.prog 47 os).forCall (fun _ _ => 0) ⟨#[], args, []⟩).memory :=
  laidMetH_of_parts3 (fuel := 8) (laidMet_of_run' 8 (by kernel_rfl) (by kernel_rfl)) (by kernel_rfl) (by kernel_rfl)

/-- WHAT THE CONDITION GIVES THE WALKS: the two sentinels are errors that are not nil. -/
theorem of_laid {W : World} (h : laidMetH Tryd.prog Rows.fnQRPInflaterWaitDrainsPartThenEndsRow.laid W) :
    ∃ x0 x1, W.cell? ⟨0, 0, none⟩ = some (.iface 41 (.pointer (some x0))) ∧ W.cell? ⟨1, 0, none⟩ = some (.iface 41 (.pointer (some x1))) ∧ W.var? Tryd.prog (Rows.fnQRPInflaterWaitDrainsPartThenEndsSpec.vars.headD "x") = some #[.iface 41 (.pointer (some x1))] := by
  rw [MakeChecks.laidMetH_plain _ _ _ (by kernel_rfl)] at h
  obtain ⟨a0, s0, hv0, hc0, hs0, hz0⟩ := laid_sentinel h gE gEType Tryd.underlying28 row41 Tryd.underlying41 Tryd.underlying61 rfl rfl Tryd.underlying9 cells61 cells9
  obtain ⟨a1, s1, hv1, hc1, hs1, hz1⟩ := laid_sentinel h.tail gD gDType Tryd.underlying28 row41 Tryd.underlying41 Tryd.underlying61 rfl rfl Tryd.underlying9 cells61 cells9
  exact ⟨a0, a1, by simpa using World.var?_cell gE hv0 0, by simpa using World.var?_cell gD hv1 0, hv1⟩

set_option maxRecDepth 100000 in
theorem lifted (os : Os) (started : os.Started) (H : Type) (enc : TypeId × Value → H) :
    ReturnsInHanded {} Tryd.checked os 3 .any (fun w args => (Rows.fnQRPInflaterWaitDrainsPartThenEndsSpec.pre enc Tryd.prog Tryd.f3 [] false w args ∧ laidMetH Tryd.prog Rows.fnQRPInflaterWaitDrainsPartThenEndsRow.laid w) ∧ sizedMet enc Tryd.prog Tryd.f3 (OpenSpec.ofChange Rows.fnQRPInflaterWaitDrainsPartThenEndsSpec) false w args)
      (Rows.fnQRPInflaterWaitDrainsPartThenEndsSpec.post enc Tryd.prog Tryd.f3 false true false false) := by
  refine returnsInHanded_of_change_and (C := Tryd.checked) (X := fun w _ => laidMetH Tryd.prog Rows.fnQRPInflaterWaitDrainsPartThenEndsRow.laid w) (fun _ _ _ hh h => h.of_heap hh) own started (by kernel_rfl) Tryd.func3
    (ChangeSpec.witness_shaped (enc := enc) (C := Tryd.checked) (os := os) (X := fun w _ => laidMetH Tryd.prog Rows.fnQRPInflaterWaitDrainsPartThenEndsRow.laid w) false (World.doorLaid Tryd.prog 47 os) #[.slice none 0 0, .bool false, .int .i64 0] 8 rfl (World.shaped_of_RefB (by kernel_rfl) (by kernel_rfl)) (by kernel_rfl) (by kernel_rfl) (by kernel_rfl) (door_met os _)) ?_
  intro W base args ds gs before hval0 hW _ _ hL _
  have hval : ∀ (j : Nat) t v, Tryd.f3.params[j]? = some t → args[j]? = some v → Value.okWide Tryd.prog W .any base t v := hval0
  have hW' := hW
  obtain ⟨p, q, hA0, hV0, rfl, hfz, hnd⟩ := hW
  have hA : DataW.TrodAll enc Tryd.prog W 0 (fun _ => true) true Tryd.f3.params.toList args.toList ds p := hA0
  have hV : DataW.TrodVars enc Tryd.prog W (fun _ => true) [Rows.fnQRPInflaterWaitDrainsPartThenEndsSpec.vars.headD "x"] gs q := hV0
  rw [Tryd.params3] at hA hval
  obtain ⟨v0, v1, v2, d0, d1, d2, p0, p1, p2, rfl, rfl, rfl, h0, h1, h2⟩ := trodAll_three hA
  obtain ⟨a0, len0, cap0, rfl⟩ := okWide_slice Tryd.underlying22 (hval 0 22 v0 rfl rfl)
  have k0 := h0
  have lt0 : ∀ x ∈ p0, x.block < W.heap.size := by obtain ⟨m, hm⟩ := k0; exact DataW.trod_lt m _ _ _ hm
  obtain ⟨xs, hB, hnil⟩ : ∃ xs, IsB W a0 len0 xs ∧ (a0 = none → len0 = 0 ∧ cap0 = 0) := by
    obtain ⟨fuel, hf⟩ := h0
    rcases open_ints Tryd.underlying22 Tryd.underlying5 (by kernel_rfl) hf with ⟨hcs, _⟩ | ⟨x, l, c, zs, hcs, _, hl, hm, hz, _, hcell, hwz⟩
    · simp [Value.cells] at hcs
      obtain ⟨rfl, rfl, rfl⟩ := hcs
      exact ⟨[], ⟨rfl, fun h => absurd h (Nat.lt_irrefl _)⟩, fun _ => ⟨rfl, rfl⟩⟩
    · simp [Value.cells] at hcs
      obtain ⟨rfl, rfl, rfl⟩ := hcs
      have hz' : zs.length = cap0 := by simpa using hz
      refine ⟨zs.take len0, ⟨by simp; omega, fun h0 => ?_⟩, fun h => by cases h⟩
      obtain ⟨b, off, rfl, hc⟩ := ints_at hcell (by omega)
      exact ⟨b, off, rfl, fun i hi => by rw [hc i (by omega)]; simp [hi]⟩
  obtain ⟨last, rfl, rfl, rfl⟩ := open_bool Tryd.underlying4 (hval 1 4 v1 rfl rfl) h1
  obtain ⟨k, rfl, rfl, rfl, wk⟩ := open_int Tryd.underlying3 (hval 2 3 v2 rfl rfl) h2
  obtain ⟨x0, x1, hc0, hc1, hv1⟩ := of_laid hL
  obtain ⟨rfl, rfl⟩ := hV.unique (vars_read1 enc gD gDType Tryd.underlying28 hv1 trivial _)
  have hsz : 1 < W.heap.size := World.block_lt_of_cell? W ⟨1, 0, none⟩ hc1
  have hE : Errs W := ⟨hsz, ⟨_, _, hc0⟩, ⟨_, _, hc1⟩⟩
  clear hA0 hV0 hval0
  refine (drains_any a0 len0 cap0 k xs last W hB hnil hE).mono fun e W' ⟨he, hk⟩ => ?_
  subst he
  have bel : Below W.heap.size W W' := hk.below (Nat.le_refl _) (fun _ _ h => h)
  exact ⟨_, rfl, _, _, _, [], _, [.cell 1 0], hW', trodAll_mk1 (shut_bool Tryd.underlying4 _), (trodAll_cons_mk (Below.trod laidOut (by kernel_rfl) (of_decide_eq_true (by kernel_rfl)) k0 bel lt0) (trodAll_cons_mk (shut_bool Tryd.underlying4 _) (trodAll_cons_mk (shut_int Tryd.underlying3 wk) trodAll_mk0))), vars_read1 enc gD gDType Tryd.underlying28 (var?_below bel gD hsz hv1) trivial _, bel.frame _, fun h => by cases h⟩

theorem row_holds : Rows.FnQRPInflaterWaitDrainsPartThenEndsSaid :=
  OpenClaim.holds_of_wide 3 Tryd.f3 rfl rfl rfl rfl rfl rfl rfl ⟨rfl, rfl, rfl, rfl, rfl⟩ rfl rfl rfl rfl rfl (by kernel_rfl) Tryd.func3 (by kernel_rfl)
    (of_decide_eq_true (by kernel_rfl)) (by unfold Func.isWrapper; rw [if_neg (of_decide_eq_false (by kernel_rfl))]; exact ⟨rfl, rfl⟩)
    (fun os started H enc _ => lifted os started H enc)

/-- THE TIED CARD. -/
theorem card_holds : Rows.FnQRPInflaterWaitDrainsPartThenEndsCardSaid :=
  Claim7.holds_tied_plain_at .later [] [.sentinel, .sentinel] true (true, "0dcc5ed02ac163c9c0587990af34b4b38ceb8fdf4e17a765c75ac580ada46d97") false
    row_holds (fun _ h => by cases h) (by kernel_rfl) (fun _ h => by cases h) fnQRPInflaterWaitDrainsPartThenEnds_row_tie rfl ⟨rfl, rfl⟩ (by kernel_rfl) rfl
    (fun f fn hf hfn => by
      obtain rfl : f = 3 := Option.some.inj ((show Tryd.prog.funcNamed Rows.fnQRPInflaterWaitDrainsPartThenEndsRow.func = some 3 by kernel_rfl).symm.trans hf) |>.symm
      obtain rfl : fn = Tryd.f3 := (Option.some.inj (Tryd.func3.symm.trans hfn)).symm
      exact ⟨by kernel_rfl, fun j t ht => by
        rw [Tryd.params3] at ht
        have hm : t ∈ [22, 4, 3] := by simpa using Array.mem_of_getElem? ht
        have hall : ([22, 4, 3].all fun u => !Tryd.prog.wantsStandIn u) = true := by kernel_rfl
        exact (show Tryd.prog.wantsStandIn t = false by simpa using List.all_eq_true.1 hall t hm)⟩)
    (by kernel_rfl)
end Go.Proofs.Qxb6616311aDoor.drainsProof
namespace Go.Proofs.Qxb6616311aDoor
theorem drainsProofCard : Rows.FnQRPInflaterWaitDrainsPartThenEndsCardSaid := drainsProof.card_holds
end Go.Proofs.Qxb6616311aDoor
