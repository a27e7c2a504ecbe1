/-
  No cell of these rows narrows 'for every input' (looked for: loops, veiled, ifaces, maps, wideKeys, modest, calm, conditions, laid).
  DERIVED. THE GIVEN ROWS OF THIS SEAT. 4 by the template 'for every input the law returns true; each argument reads behind the call as it read before'; 0 by the template 'total and deterministic' (their statements: Qxb6616614aTotals.lean).
  GIVEN WITH THE SEED: the statements are not yours to turn. If you find one false, say at which input.
  Laid BY PROGRAM, IN A SANDBOX (cutbox-rows.mjs): the forced cells as the released guide's own fill.sh prints them over the translation 56989c7bda8300a7… (all of the seat's roots in one cut). By AI agents, Wed Nov 11 2026. No macro, syntax, notation, axiom, sorry.
-/
import Derived.Test.Qxb6616614aChecked
import GoSem.Claim
import GoSem.ClaimJoined
import GoSem.ClaimMapViews
import Derived.JoinedTies
import Derived.KernelRfl
namespace Go.Proofs.Qxb6616614a
/- THE CELL 'sum', in the pinned program and in every row, IS THE sha256 OF THE DUMP (.gsa) THAT Qxb6616614aProg.lean LOADS. Nothing in Lean hashes anything: it is a label: what it is worth is what the hold of that sum in a sandbox is worth. -/
noncomputable def Try.pinned : Pinned := { name := "qxb6616614a", sum := "56989c7bda8300a7865a3b64078ee75494f7e018e75116e86a9ccf47123ea8bc", checked := Try.checked }
namespace Rows
def none {H : Type} : Left H := { results := [], args := [] }

/-- 'zzlaws_pkg_engine_b1.FnReasonsFreshDistinctComplete': WHATEVER THE INPUT: true; the input reads as it did. -/
def fnReasonsFreshDistinctCompleteSpec : ChangeSpec := { name := "fnReasonsFreshDistinctComplete", fn := fun _ => fun
  | [d1, d2] => { results := [.lit (.bool true)], args := [d1, d2] }
  | _ => none }
def fnReasonsFreshDistinctCompleteRow : OpenClaim := { program := "qxb6616614a", sum := "56989c7bda8300a7865a3b64078ee75494f7e018e75116e86a9ccf47123ea8bc", func := "example.com/tierline/tierline/zzlaws_pkg_engine_b1.FnReasonsFreshDistinctComplete", spec := "fnReasonsFreshDistinctComplete", apart := false }
def FnReasonsFreshDistinctCompleteSaid : Prop := fnReasonsFreshDistinctCompleteRow.holds Try.pinned (OpenSpec.ofChange fnReasonsFreshDistinctCompleteSpec)

/-- ITS FALSE NEIGHBOUR: 'it returns false'. Refute it at one input. -/
def fnReasonsFreshDistinctCompleteWrong : ChangeSpec := { name := "fnReasonsFreshDistinctComplete", fn := fun _ => fun
  | [d1, d2] => { results := [.lit (.bool false)], args := [d1, d2] }
  | _ => none }
def FnReasonsFreshDistinctCompleteWrongFalsely : Prop := fnReasonsFreshDistinctCompleteRow.holds Try.pinned (OpenSpec.ofChange fnReasonsFreshDistinctCompleteWrong)

/-- 'zzlaws_pkg_engine_b1.FnSpanLeafIsLeastAndGreatest': WHATEVER THE INPUT: true; the input reads as it did. -/
def fnSpanLeafIsLeastAndGreatestSpec : ChangeSpec := { name := "fnSpanLeafIsLeastAndGreatest", fn := fun _ => fun
  | [d] => { results := [.lit (.bool true)], args := [d] }
  | _ => none }
def fnSpanLeafIsLeastAndGreatestRow : OpenClaim := { program := "qxb6616614a", sum := "56989c7bda8300a7865a3b64078ee75494f7e018e75116e86a9ccf47123ea8bc", func := "example.com/tierline/tierline/zzlaws_pkg_engine_b1.FnSpanLeafIsLeastAndGreatest", spec := "fnSpanLeafIsLeastAndGreatest", apart := false }
def FnSpanLeafIsLeastAndGreatestSaid : Prop := fnSpanLeafIsLeastAndGreatestRow.holds Try.pinned (OpenSpec.ofChange fnSpanLeafIsLeastAndGreatestSpec)

/-- ITS FALSE NEIGHBOUR: 'it returns false'. Refute it at one input. -/
def fnSpanLeafIsLeastAndGreatestWrong : ChangeSpec := { name := "fnSpanLeafIsLeastAndGreatest", fn := fun _ => fun
  | [d] => { results := [.lit (.bool false)], args := [d] }
  | _ => none }
def FnSpanLeafIsLeastAndGreatestWrongFalsely : Prop := fnSpanLeafIsLeastAndGreatestRow.holds Try.pinned (OpenSpec.ofChange fnSpanLeafIsLeastAndGreatestWrong)

/-- 'zzlaws_pkg_engine_b1.FnSpanAgreesAcrossAnyCut': WHATEVER THE INPUT: true; the input reads as it did. -/
def fnSpanAgreesAcrossAnyCutSpec : ChangeSpec := { name := "fnSpanAgreesAcrossAnyCut", fn := fun _ => fun
  | [d1, d2] => { results := [.lit (.bool true)], args := [d1, d2] }
  | _ => none }
def fnSpanAgreesAcrossAnyCutRow : OpenClaim := { program := "qxb6616614a", sum := "56989c7bda8300a7865a3b64078ee75494f7e018e75116e86a9ccf47123ea8bc", func := "example.com/tierline/tierline/zzlaws_pkg_engine_b1.FnSpanAgreesAcrossAnyCut", spec := "fnSpanAgreesAcrossAnyCut", apart := false }
def FnSpanAgreesAcrossAnyCutSaid : Prop := fnSpanAgreesAcrossAnyCutRow.holds Try.pinned (OpenSpec.ofChange fnSpanAgreesAcrossAnyCutSpec)

/-- ITS FALSE NEIGHBOUR: 'it returns false'. Refute it at one input. -/
def fnSpanAgreesAcrossAnyCutWrong : ChangeSpec := { name := "fnSpanAgreesAcrossAnyCut", fn := fun _ => fun
  | [d1, d2] => { results := [.lit (.bool false)], args := [d1, d2] }
  | _ => none }
def FnSpanAgreesAcrossAnyCutWrongFalsely : Prop := fnSpanAgreesAcrossAnyCutRow.holds Try.pinned (OpenSpec.ofChange fnSpanAgreesAcrossAnyCutWrong)

/-- 'zzlaws_pkg_engine_b1.FnAtWalkAcrossTwoLeaves': WHATEVER THE INPUT: true; the input reads as it did. -/
def fnAtWalkAcrossTwoLeavesSpec : ChangeSpec := { name := "fnAtWalkAcrossTwoLeaves", fn := fun _ => fun
  | [d1, d2] => { results := [.lit (.bool true)], args := [d1, d2] }
  | _ => none }
def fnAtWalkAcrossTwoLeavesRow : OpenClaim := { program := "qxb6616614a", sum := "56989c7bda8300a7865a3b64078ee75494f7e018e75116e86a9ccf47123ea8bc", func := "example.com/tierline/tierline/zzlaws_pkg_engine_b1.FnAtWalkAcrossTwoLeaves", spec := "fnAtWalkAcrossTwoLeaves", apart := false }
def FnAtWalkAcrossTwoLeavesSaid : Prop := fnAtWalkAcrossTwoLeavesRow.holds Try.pinned (OpenSpec.ofChange fnAtWalkAcrossTwoLeavesSpec)

/-- ITS FALSE NEIGHBOUR: 'it returns false'. Refute it at one input. -/
def fnAtWalkAcrossTwoLeavesWrong : ChangeSpec := { name := "fnAtWalkAcrossTwoLeaves", fn := fun _ => fun
  | [d1, d2] => { results := [.lit (.bool false)], args := [d1, d2] }
  | _ => none }
def FnAtWalkAcrossTwoLeavesWrongFalsely : Prop := fnAtWalkAcrossTwoLeavesRow.holds Try.pinned (OpenSpec.ofChange fnAtWalkAcrossTwoLeavesWrong)

end Rows
end Go.Proofs.Qxb6616614a
