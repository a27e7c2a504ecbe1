/-
  DERIVED. GIVEN WITH THE SEED: THE CARDS: each row of Qxb6616311aDoorRows.lean that lists a variable, with what it lists TIED to the program's text (the seventh form; the later family's looks); each row that meets fmt, with fmt's text TOLD by the authors' own Lean function (tested against real Go, not proved from fmt's source: count such statements apart). THE CARD IS WHAT COUNTS. Prove the row's statement (the work); the ties are given (Qxb6616311aDoorTie.lean); close each card by the builder's one call (the guide's Derived/Test/ToyasCard.lean, 'card_holds'). Laid BY PROGRAM, IN A SANDBOX (cutbox-door.mjs). By AI agents, Wed Nov 11 2026. No macro, syntax, notation, axiom, sorry.
-/
import Derived.Test.Qxb6616311aDoorRows
import GoSem.ClaimSeven
namespace Go.Proofs.Qxb6616311aDoor
namespace Rows

/-- THE TIED CARD OF 'zzlaws_pkg_message_b1.FnQRPInflaterWaitDrainsPartThenEnds'. -/
def fnQRPInflaterWaitDrainsPartThenEndsCard : Claim7 := { stood := { row := fnQRPInflaterWaitDrainsPartThenEndsRow, standIns := [], harness := (true, "0dcc5ed02ac163c9c0587990af34b4b38ceb8fdf4e17a765c75ac580ada46d97"), looks := false }, kinds := [], alts := [], laidByText := true, laidKinds := [.sentinel, .sentinel], laidTests := true, laidLooks := .later }
def FnQRPInflaterWaitDrainsPartThenEndsCardSaid : Prop := Claim7.holds Tryd.pinned (.plain (OpenSpec.ofChange fnQRPInflaterWaitDrainsPartThenEndsSpec)) fnQRPInflaterWaitDrainsPartThenEndsCard

/-- THE TIED CARD OF 'zzlaws_pkg_message_b1.FnQRPInflaterWaitKeepsPartAgreesWithRead'. -/
def fnQRPInflaterWaitKeepsPartAgreesWithReadCard : Claim7 := { stood := { row := fnQRPInflaterWaitKeepsPartAgreesWithReadRow, standIns := [], harness := (true, "0dcc5ed02ac163c9c0587990af34b4b38ceb8fdf4e17a765c75ac580ada46d97"), looks := false }, kinds := [], alts := [], laidByText := true, laidKinds := [.sentinel, .sentinel], laidTests := true, laidLooks := .later }
def FnQRPInflaterWaitKeepsPartAgreesWithReadCardSaid : Prop := Claim7.holds Tryd.pinned (.plain (OpenSpec.ofChange fnQRPInflaterWaitKeepsPartAgreesWithReadSpec)) fnQRPInflaterWaitKeepsPartAgreesWithReadCard
end Rows
end Go.Proofs.Qxb6616311aDoor
