/-
  DERIVED. GIVEN WITH THE SEED: THE CARDS: each row of Qxb6616331aGreatDoorRows.lean that lists a variable, with what it lists TIED to the program's text (the seventh form; the later family's looks); each row that meets fmt, with fmt's text TOLD by the authors' own Lean function (tested against real Go, not proved from fmt's source: count such statements apart). THE CARD IS WHAT COUNTS. Prove the row's statement (the work); the ties are given (Qxb6616331aGreatDoorTie.lean); close each card by the builder's one call (the guide's Derived/Test/ToyasCard.lean, 'card_holds'). Laid BY PROGRAM, IN A SANDBOX (cutbox-door.mjs). By AI agents, Wed Nov 11 2026. No macro, syntax, notation, axiom, sorry.
-/
import Derived.Test.Qxb6616331aGreatDoorRows
import GoSem.ClaimSeven
namespace Go.Proofs.Qxb6616331aGreatDoor
namespace Rows

/-- THE TIED CARD OF 'zzlaws_internal_server_b1.FnTallyCountsAMemberFrozenTowardNext'. -/
def fnTallyCountsAMemberFrozenTowardNextCard : Claim7 := { stood := { row := fnTallyCountsAMemberFrozenTowardNextRow, standIns := [], harness := (true, "3e29de16743726a4dda434135a9d883ef50a2ac60efb52d06a9ff95a4bcfdc33"), looks := true }, kinds := [], alts := [], laidByText := true, laidKinds := [.data, .data, .data, .sentinel, .sentinel], laidTests := true, laidLooks := .later }
def FnTallyCountsAMemberFrozenTowardNextCardSaid : Prop := Claim7.holds Tryz.pinned (.plain (OpenSpec.ofChange fnTallyCountsAMemberFrozenTowardNextSpec)) fnTallyCountsAMemberFrozenTowardNextCard

/-- THE TIED CARD OF 'zzlaws_internal_server_b1.FnTallyTurnsToAViewThatFromDoesNotHold'. -/
def fnTallyTurnsToAViewThatFromDoesNotHoldCard : Claim7 := { stood := { row := fnTallyTurnsToAViewThatFromDoesNotHoldRow, standIns := [], harness := (true, "3e29de16743726a4dda434135a9d883ef50a2ac60efb52d06a9ff95a4bcfdc33"), looks := true }, kinds := [], alts := [], laidByText := true, laidKinds := [.data, .data, .data, .sentinel, .sentinel], laidTests := true, laidLooks := .later }
def FnTallyTurnsToAViewThatFromDoesNotHoldCardSaid : Prop := Claim7.holds Tryz.pinned (.plain (OpenSpec.ofChange fnTallyTurnsToAViewThatFromDoesNotHoldSpec)) fnTallyTurnsToAViewThatFromDoesNotHoldCard
end Rows
end Go.Proofs.Qxb6616331aGreatDoor
