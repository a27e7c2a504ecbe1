/-
  NARROWER THAN 'FOR EVERY INPUT', by the rows' own cells (each row's printed sentence says how): FnQRPInflaterWaitDrainsPartThenEnds: ifaces, laid · FnQRPInflaterWaitKeepsPartAgreesWithRead: ifaces, laid.
  DERIVED. THE GIVEN ROWS OF THIS SEAT. 2 by the template 'for every input the law returns true; each argument reads behind the call as it read before'; 0 by the template 'total and deterministic' (their statements: Qxb6616311aDoorTotals.lean).
  GIVEN WITH THE SEED: the statements are not yours to turn. If you find one false, say at which input.
  Laid BY PROGRAM, IN A SANDBOX (cutbox-rows.mjs): the forced cells as the released guide's own fill.sh prints them over the translation af2f8fe0612b195e… (all of the seat's roots in one cut). By AI agents, Wed Nov 11 2026. No macro, syntax, notation, axiom, sorry.
-/
import Derived.Test.Qxb6616311aDoorChecked
import GoSem.Claim
import GoSem.ClaimJoined
import GoSem.ClaimMapViews
import Derived.JoinedTies
import Derived.KernelRfl
namespace Go.Proofs.Qxb6616311aDoor
/- THE CELL 'sum', in the pinned program and in every row, IS THE sha256 OF THE DUMP (.gsa) THAT Qxb6616311aDoorProg.lean LOADS. Nothing in Lean hashes anything: it is a label: what it is worth is what the hold of that sum in a sandbox is worth. -/
noncomputable def Tryd.pinned : Pinned := { name := "qxb6616311adoor", sum := "af2f8fe0612b195ea5803cf98384a4eba49cf47676634306b10208a902fc906e", checked := Tryd.checked }
namespace Rows
def none {H : Type} : Left H := { results := [], args := [] }

/- WHAT THE LISTED PACKAGE-LEVEL VARIABLES READ AS WHEN THE CALL BEGINS. Each datum BY PROGRAM (the guide's laid-datum.mjs) off the statement by which the dump's own 'gosem.cut.vars' lays the variable. In a bare row this is a premise. The card (Qxb6616311aDoorCards.lean) ties it to the program's text. -/
def laid_io_EOF {H : Type} : DataW H := .iface "*errors.errorString" (.ptr (.agg [.lit (.string [69, 79, 70])]))
def laid_example_com_halyard_halyard_pkg_message_errQRPDropped {H : Type} : DataW H := .iface "*errors.errorString" (.ptr (.agg [.lit (.string [116, 104, 101, 32, 113, 117, 101, 114, 121, 32, 114, 111, 117, 116, 105, 110, 103, 32, 112, 97, 116, 99, 104, 32, 115, 101, 113, 117, 101, 110, 99, 101, 32, 119, 97, 115, 32, 100, 114, 111, 112, 112, 101, 100])]))

/-- 'zzlaws_pkg_message_b1.FnQRPInflaterWaitDrainsPartThenEnds': WHATEVER THE INPUT: true; the input reads as it did. -/
def fnQRPInflaterWaitDrainsPartThenEndsSpec : ChangeSpec := { name := "fnQRPInflaterWaitDrainsPartThenEnds", vars := ["example.com/halyard/halyard/pkg/message.errQRPDropped"], fn := fun _ => fun
  | [d1, d2, d3, g1] => { results := [.lit (.bool true)], args := [d1, d2, d3], vars := [g1] }
  | _ => none }
def fnQRPInflaterWaitDrainsPartThenEndsRow : OpenClaim := { program := "qxb6616311adoor", sum := "af2f8fe0612b195ea5803cf98384a4eba49cf47676634306b10208a902fc906e", func := "example.com/halyard/halyard/zzlaws_pkg_message_b1.FnQRPInflaterWaitDrainsPartThenEnds", spec := "fnQRPInflaterWaitDrainsPartThenEnds", unfollowed := true, recurses := true, named := ["io.EOF", "example.com/halyard/halyard/pkg/message.errQRPDropped"], ifaces := true, apart := false, laid := [("io.EOF", laid_io_EOF), ("example.com/halyard/halyard/pkg/message.errQRPDropped", laid_example_com_halyard_halyard_pkg_message_errQRPDropped)] }
def FnQRPInflaterWaitDrainsPartThenEndsSaid : Prop := fnQRPInflaterWaitDrainsPartThenEndsRow.holds Tryd.pinned (OpenSpec.ofChange fnQRPInflaterWaitDrainsPartThenEndsSpec)

/-- ITS FALSE NEIGHBOUR: 'it returns false'. Refute it at one input. -/
def fnQRPInflaterWaitDrainsPartThenEndsWrong : ChangeSpec := { name := "fnQRPInflaterWaitDrainsPartThenEnds", vars := ["example.com/halyard/halyard/pkg/message.errQRPDropped"], fn := fun _ => fun
  | [d1, d2, d3, g1] => { results := [.lit (.bool false)], args := [d1, d2, d3], vars := [g1] }
  | _ => none }
def FnQRPInflaterWaitDrainsPartThenEndsWrongFalsely : Prop := fnQRPInflaterWaitDrainsPartThenEndsRow.holds Tryd.pinned (OpenSpec.ofChange fnQRPInflaterWaitDrainsPartThenEndsWrong)

/-- 'zzlaws_pkg_message_b1.FnQRPInflaterWaitKeepsPartAgreesWithRead': WHATEVER THE INPUT: true; the input reads as it did. -/
def fnQRPInflaterWaitKeepsPartAgreesWithReadSpec : ChangeSpec := { name := "fnQRPInflaterWaitKeepsPartAgreesWithRead", vars := ["example.com/halyard/halyard/pkg/message.errQRPDropped"], fn := fun _ => fun
  | [d1, d2, d3, g1] => { results := [.lit (.bool true)], args := [d1, d2, d3], vars := [g1] }
  | _ => none }
def fnQRPInflaterWaitKeepsPartAgreesWithReadRow : OpenClaim := { program := "qxb6616311adoor", sum := "af2f8fe0612b195ea5803cf98384a4eba49cf47676634306b10208a902fc906e", func := "example.com/halyard/halyard/zzlaws_pkg_message_b1.FnQRPInflaterWaitKeepsPartAgreesWithRead", spec := "fnQRPInflaterWaitKeepsPartAgreesWithRead", unfollowed := true, recurses := true, named := ["io.EOF", "example.com/halyard/halyard/pkg/message.errQRPDropped"], ifaces := true, apart := false, laid := [("io.EOF", laid_io_EOF), ("example.com/halyard/halyard/pkg/message.errQRPDropped", laid_example_com_halyard_halyard_pkg_message_errQRPDropped)] }
def FnQRPInflaterWaitKeepsPartAgreesWithReadSaid : Prop := fnQRPInflaterWaitKeepsPartAgreesWithReadRow.holds Tryd.pinned (OpenSpec.ofChange fnQRPInflaterWaitKeepsPartAgreesWithReadSpec)

/-- ITS FALSE NEIGHBOUR: 'it returns false'. Refute it at one input. -/
def fnQRPInflaterWaitKeepsPartAgreesWithReadWrong : ChangeSpec := { name := "fnQRPInflaterWaitKeepsPartAgreesWithRead", vars := ["example.com/halyard/halyard/pkg/message.errQRPDropped"], fn := fun _ => fun
  | [d1, d2, d3, g1] => { results := [.lit (.bool false)], args := [d1, d2, d3], vars := [g1] }
  | _ => none }
def FnQRPInflaterWaitKeepsPartAgreesWithReadWrongFalsely : Prop := fnQRPInflaterWaitKeepsPartAgreesWithReadRow.holds Tryd.pinned (OpenSpec.ofChange fnQRPInflaterWaitKeepsPartAgreesWithReadWrong)

end Rows
end Go.Proofs.Qxb6616311aDoor
