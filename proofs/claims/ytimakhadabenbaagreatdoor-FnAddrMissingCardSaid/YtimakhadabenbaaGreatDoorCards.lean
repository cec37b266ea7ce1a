/-
  DERIVED. GIVEN WITH THE SEED: THE CARDS: each row of YtimakhadabenbaaGreatDoorRows.lean that lists a variable, with what it lists TIED to the program's text (the seventh form; the later family's looks); each row that meets fmt, with fmt's text TOLD by the authors' own Lean function (tested against real Go, not proved from fmt's source: count such statements apart). THE CARD IS WHAT COUNTS. Prove the row's statement (the work); the ties are given (YtimakhadabenbaaGreatDoorTie.lean); close each card by the builder's one call (the guide's Derived/Test/ToyasCard.lean, 'card_holds'). Laid BY PROGRAM, IN A SANDBOX (cutbox-door.mjs). By AI agents, Wed Nov 11 2026. No macro, syntax, notation, axiom, sorry.
-/
import Derived.Test.YtimakhadabenbaaGreatDoorRows
import GoSem.ClaimSeven
namespace Go.Proofs.YtimakhadabenbaaGreatDoor
namespace Rows

/-- THE TIED CARD OF 'laws.FnAddrMissing'. -/
def fnAddrMissingCard : Claim7 := { stood := { row := fnAddrMissingRow, standIns := [], harness := (true, "ae0945b162df59ab01fd1225363179f2affe56ab3ffecff88cb45838449e0ad7"), looks := true }, kinds := [], alts := [], laidByText := true, laidKinds := [.data, .data, .data, .sentinel], laidTests := true, laidLooks := .later }
def FnAddrMissingCardSaid : Prop := Claim7.holds Tryz.pinned (.plain (OpenSpec.ofChange fnAddrMissingSpec)) fnAddrMissingCard

/-- THE SECOND FORM's CARD OF 'laws.FnAddrMissing'. -/
def fnAddrMissingUptoCard : Claim7 := { stood := { row := fnAddrMissingUptoRow, standIns := [], harness := (true, "ae0945b162df59ab01fd1225363179f2affe56ab3ffecff88cb45838449e0ad7"), looks := true }, kinds := [], alts := [], laidByText := true, laidKinds := [.data, .data, .data, .sentinel], laidTests := true, laidLooks := .later }
def FnAddrMissingUptoCardSaid : Prop := Claim7.holds Tryz.pinned (.plain (OpenSpec.upto fnAddrMissingSpec)) fnAddrMissingUptoCard
end Rows
end Go.Proofs.YtimakhadabenbaaGreatDoor
