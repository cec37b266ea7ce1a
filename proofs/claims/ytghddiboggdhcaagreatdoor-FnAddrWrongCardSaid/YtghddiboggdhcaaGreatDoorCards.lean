/-
  DERIVED. GIVEN WITH THE SEED: THE CARDS: each row of YtghddiboggdhcaaGreatDoorRows.lean that lists a variable, with what it lists TIED to the program's text (the seventh form; the later family's looks); each row that meets fmt, with fmt's text TOLD by the authors' own Lean function (tested against real Go, not proved from fmt's source: count such statements apart). THE CARD IS WHAT COUNTS. Prove the row's statement (the work); the ties are given (YtghddiboggdhcaaGreatDoorTie.lean); close each card by the builder's one call (the guide's Derived/Test/ToyasCard.lean, 'card_holds'). Laid BY PROGRAM, IN A SANDBOX (cutbox-door.mjs). By AI agents, Wed Nov 11 2026. No macro, syntax, notation, axiom, sorry.
-/
import Derived.Test.YtghddiboggdhcaaGreatDoorRows
import GoSem.ClaimSeven
namespace Go.Proofs.YtghddiboggdhcaaGreatDoor
namespace Rows

/-- THE TIED CARD OF 'laws.FnAddrWrong'. -/
def fnAddrWrongCard : Claim7 := { stood := { row := fnAddrWrongRow, standIns := [], harness := (true, "1e6de949154f693bbb4c7b5c27996fa170841ce44a2c6954ce7d4dcc218588f5"), looks := true }, kinds := [], alts := [], laidByText := true, laidKinds := [.sentinel, .sentinel, .sentinel, .data, .data, .data, .sentinel, .sentinel, .sentinel, .pinned, .data, .sentinel, .data, .sentinel, .sentinel, .sentinel, .data, .data, .sentinel, .sentinel, .sentinel, .sentinel], laidTests := true, laidLooks := .later }
def FnAddrWrongCardSaid : Prop := Claim7.holds Tryz.pinned (.plain (OpenSpec.ofChange fnAddrWrongSpec)) fnAddrWrongCard

/-- THE SECOND FORM's CARD OF 'laws.FnAddrWrong'. -/
def fnAddrWrongUptoCard : Claim7 := { stood := { row := fnAddrWrongUptoRow, standIns := [], harness := (true, "1e6de949154f693bbb4c7b5c27996fa170841ce44a2c6954ce7d4dcc218588f5"), looks := true }, kinds := [], alts := [], laidByText := true, laidKinds := [.sentinel, .sentinel, .sentinel, .data, .data, .data, .sentinel, .sentinel, .sentinel, .pinned, .data, .sentinel, .data, .sentinel, .sentinel, .sentinel, .data, .data, .sentinel, .sentinel, .sentinel, .sentinel], laidTests := true, laidLooks := .later }
def FnAddrWrongUptoCardSaid : Prop := Claim7.holds Tryz.pinned (.plain (OpenSpec.upto fnAddrWrongSpec)) fnAddrWrongUptoCard
end Rows
end Go.Proofs.YtghddiboggdhcaaGreatDoor
