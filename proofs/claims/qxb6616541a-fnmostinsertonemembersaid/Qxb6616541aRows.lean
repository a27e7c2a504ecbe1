/-
  No cell of these rows narrows 'for every input' (looked for: loops, veiled, ifaces, maps, wideKeys, modest, calm, conditions, laid).
  DERIVED. THE GIVEN ROWS OF THIS SEAT. 2 by the template 'for every input the law returns true; each argument reads behind the call as it read before'; 0 by the template 'total and deterministic' (their statements: Qxb6616541aTotals.lean).
  GIVEN WITH THE SEED: the statements are not yours to turn. If you find one false, say at which input.
  Laid BY PROGRAM, IN A SANDBOX (cutbox-rows.mjs): the forced cells as the released guide's own fill.sh prints them over the translation b67446485bf53d5f… (all of the seat's roots in one cut). By AI agents, Wed Nov 11 2026. No macro, syntax, notation, axiom, sorry.
-/
import Derived.Test.Qxb6616541aChecked
import GoSem.Claim
import GoSem.ClaimJoined
import GoSem.ClaimMapViews
import Derived.JoinedTies
import Derived.KernelRfl
namespace Go.Proofs.Qxb6616541a
/- THE CELL 'sum', in the pinned program and in every row, IS THE sha256 OF THE DUMP (.gsa) THAT Qxb6616541aProg.lean LOADS. Nothing in Lean hashes anything: it is a label: what it is worth is what the hold of that sum in a sandbox is worth. -/
noncomputable def Try.pinned : Pinned := { name := "qxb6616541a", sum := "b67446485bf53d5fc0c7e271f42489aa78d63da1d4b148ebc2233d4eb0b7561c", checked := Try.checked }
namespace Rows
def none {H : Type} : Left H := { results := [], args := [] }

/-- 'zzlaws_internal_membership_b1.FnMostInsertOneMember': WHATEVER THE INPUT: true; the input reads as it did. -/
def fnMostInsertOneMemberSpec : ChangeSpec := { name := "fnMostInsertOneMember", fn := fun _ => fun
  | [d1, d2, d3, d4, d5, d6, d7, d8, d9, d10, d11] => { results := [.lit (.bool true)], args := [d1, d2, d3, d4, d5, d6, d7, d8, d9, d10, d11] }
  | _ => none }
def fnMostInsertOneMemberRow : OpenClaim := { program := "qxb6616541a", sum := "b67446485bf53d5fc0c7e271f42489aa78d63da1d4b148ebc2233d4eb0b7561c", func := "example.com/witan/witan/zzlaws_internal_membership_b1.FnMostInsertOneMember", spec := "fnMostInsertOneMember", apart := false }
def FnMostInsertOneMemberSaid : Prop := fnMostInsertOneMemberRow.holds Try.pinned (OpenSpec.ofChange fnMostInsertOneMemberSpec)

/-- ITS FALSE NEIGHBOUR: 'it returns false'. Refute it at one input. -/
def fnMostInsertOneMemberWrong : ChangeSpec := { name := "fnMostInsertOneMember", fn := fun _ => fun
  | [d1, d2, d3, d4, d5, d6, d7, d8, d9, d10, d11] => { results := [.lit (.bool false)], args := [d1, d2, d3, d4, d5, d6, d7, d8, d9, d10, d11] }
  | _ => none }
def FnMostInsertOneMemberWrongFalsely : Prop := fnMostInsertOneMemberRow.holds Try.pinned (OpenSpec.ofChange fnMostInsertOneMemberWrong)

/-- 'zzlaws_internal_membership_b1.FnMostLeavingIsLeavingListAlone': WHATEVER THE INPUT: true; the input reads as it did. -/
def fnMostLeavingIsLeavingListAloneSpec : ChangeSpec := { name := "fnMostLeavingIsLeavingListAlone", fn := fun _ => fun
  | [d1, d2, d3, d4, d5, d6, d7, d8] => { results := [.lit (.bool true)], args := [d1, d2, d3, d4, d5, d6, d7, d8] }
  | _ => none }
def fnMostLeavingIsLeavingListAloneRow : OpenClaim := { program := "qxb6616541a", sum := "b67446485bf53d5fc0c7e271f42489aa78d63da1d4b148ebc2233d4eb0b7561c", func := "example.com/witan/witan/zzlaws_internal_membership_b1.FnMostLeavingIsLeavingListAlone", spec := "fnMostLeavingIsLeavingListAlone", apart := false }
def FnMostLeavingIsLeavingListAloneSaid : Prop := fnMostLeavingIsLeavingListAloneRow.holds Try.pinned (OpenSpec.ofChange fnMostLeavingIsLeavingListAloneSpec)

/-- ITS FALSE NEIGHBOUR: 'it returns false'. Refute it at one input. -/
def fnMostLeavingIsLeavingListAloneWrong : ChangeSpec := { name := "fnMostLeavingIsLeavingListAlone", fn := fun _ => fun
  | [d1, d2, d3, d4, d5, d6, d7, d8] => { results := [.lit (.bool false)], args := [d1, d2, d3, d4, d5, d6, d7, d8] }
  | _ => none }
def FnMostLeavingIsLeavingListAloneWrongFalsely : Prop := fnMostLeavingIsLeavingListAloneRow.holds Try.pinned (OpenSpec.ofChange fnMostLeavingIsLeavingListAloneWrong)

end Rows
end Go.Proofs.Qxb6616541a
