/-
  DERIVED. GIVEN WITH THE SEED: THE CARDS: each row of YtkmieonfhcmimaaGreatDoorRows.lean that lists a variable, with what it lists TIED to the program's text (the seventh form; the later family's looks); each row that meets fmt, with fmt's text TOLD by the authors' own Lean function (tested against real Go, not proved from fmt's source: count such statements apart). THE CARD IS WHAT COUNTS. Prove the row's statement (the work); the ties are given (YtkmieonfhcmimaaGreatDoorTie.lean); close each card by the builder's one call (the guide's Derived/Test/ToyasCard.lean, 'card_holds'). Laid BY PROGRAM, IN A SANDBOX (cutbox-door.mjs). By AI agents, Wed Nov 11 2026. No macro, syntax, notation, axiom, sorry.
-/
import Derived.Test.YtkmieonfhcmimaaGreatDoorRows
import GoSem.ClaimSeven
namespace Go.Proofs.YtkmieonfhcmimaaGreatDoor
namespace Rows

/-- THE TIED CARD OF 'laws.FnAddrNames'. -/
def fnAddrNamesCard : Claim7 := { stood := { row := fnAddrNamesRow, standIns := [], harness := (true, "b740c42c78935da9b2c85157ebdca86a47c5f1b8c567fbc673b7270b77f6c88a"), looks := true }, kinds := [], alts := [], laidByText := true, laidKinds := [.data, .data, .data, .sentinel], laidTests := true, laidLooks := .later }
def FnAddrNamesCardSaid : Prop := Claim7.holds Tryz.pinned (.plain (OpenSpec.ofChange fnAddrNamesSpec)) fnAddrNamesCard

/-- THE TIED CARD OF 'laws.FnAddrMerged'. -/
def fnAddrMergedCard : Claim7 := { stood := { row := fnAddrMergedRow, standIns := [], harness := (true, "b740c42c78935da9b2c85157ebdca86a47c5f1b8c567fbc673b7270b77f6c88a"), looks := true }, kinds := [], alts := [], laidByText := true, laidKinds := [.data, .data, .data, .sentinel], laidTests := true, laidLooks := .later }
def FnAddrMergedCardSaid : Prop := Claim7.holds Tryz.pinned (.plain (OpenSpec.ofChange fnAddrMergedSpec)) fnAddrMergedCard

/-- THE SECOND FORM's CARD OF 'laws.FnAddrNames'. -/
def fnAddrNamesUptoCard : Claim7 := { stood := { row := fnAddrNamesUptoRow, standIns := [], harness := (true, "b740c42c78935da9b2c85157ebdca86a47c5f1b8c567fbc673b7270b77f6c88a"), looks := true }, kinds := [], alts := [], laidByText := true, laidKinds := [.data, .data, .data, .sentinel], laidTests := true, laidLooks := .later }
def FnAddrNamesUptoCardSaid : Prop := Claim7.holds Tryz.pinned (.plain (OpenSpec.upto fnAddrNamesSpec)) fnAddrNamesUptoCard

/-- THE SECOND FORM's CARD OF 'laws.FnAddrMerged'. -/
def fnAddrMergedUptoCard : Claim7 := { stood := { row := fnAddrMergedUptoRow, standIns := [], harness := (true, "b740c42c78935da9b2c85157ebdca86a47c5f1b8c567fbc673b7270b77f6c88a"), looks := true }, kinds := [], alts := [], laidByText := true, laidKinds := [.data, .data, .data, .sentinel], laidTests := true, laidLooks := .later }
def FnAddrMergedUptoCardSaid : Prop := Claim7.holds Tryz.pinned (.plain (OpenSpec.upto fnAddrMergedSpec)) fnAddrMergedUptoCard
end Rows
end Go.Proofs.YtkmieonfhcmimaaGreatDoor
