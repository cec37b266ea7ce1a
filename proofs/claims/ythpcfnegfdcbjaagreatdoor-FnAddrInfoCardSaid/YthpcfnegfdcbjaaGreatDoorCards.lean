/-
  DERIVED. GIVEN WITH THE SEED: THE CARDS: each row of YthpcfnegfdcbjaaGreatDoorRows.lean that lists a variable, with what it lists TIED to the program's text (the seventh form; the later family's looks); each row that meets fmt, with fmt's text TOLD by the authors' own Lean function (tested against real Go, not proved from fmt's source: count such statements apart). THE CARD IS WHAT COUNTS. Prove the row's statement (the work); the ties are given (YthpcfnegfdcbjaaGreatDoorTie.lean); close each card by the builder's one call (the guide's Derived/Test/ToyasCard.lean, 'card_holds'). Laid BY PROGRAM, IN A SANDBOX (cutbox-door.mjs). By AI agents, Wed Nov 11 2026. No macro, syntax, notation, axiom, sorry.
-/
import Derived.Test.YthpcfnegfdcbjaaGreatDoorRows
import GoSem.ClaimSeven
namespace Go.Proofs.YthpcfnegfdcbjaaGreatDoor
namespace Rows

/-- THE TIED CARD OF 'laws.FnAddrInfo'. -/
def fnAddrInfoCard : Claim7 := { stood := { row := fnAddrInfoRow, standIns := [], harness := (true, "412b1c8060867069a66715c8f30f0ab990cc9a80aeeda7539028dbae23b6272a"), looks := true }, kinds := [], alts := [], laidByText := true, laidKinds := [.data, .data, .data, .sentinel], laidTests := true, laidLooks := .later }
def FnAddrInfoCardSaid : Prop := Claim7.holds Tryz.pinned (.plain (OpenSpec.ofChange fnAddrInfoSpec)) fnAddrInfoCard

/-- THE TIED CARD OF 'laws.FnAddrWrong'. -/
def fnAddrWrongCard : Claim7 := { stood := { row := fnAddrWrongRow, standIns := [], harness := (true, "412b1c8060867069a66715c8f30f0ab990cc9a80aeeda7539028dbae23b6272a"), looks := true }, kinds := [], alts := [], laidByText := true, laidKinds := [.data, .data, .data, .sentinel, .sentinel, .sentinel, .sentinel], laidTests := true, laidLooks := .later }
def FnAddrWrongCardSaid : Prop := Claim7.holds Tryz.pinned (.plain (OpenSpec.ofChange fnAddrWrongSpec)) fnAddrWrongCard

/-- THE SECOND FORM's CARD OF 'laws.FnAddrInfo'. -/
def fnAddrInfoUptoCard : Claim7 := { stood := { row := fnAddrInfoUptoRow, standIns := [], harness := (true, "412b1c8060867069a66715c8f30f0ab990cc9a80aeeda7539028dbae23b6272a"), looks := true }, kinds := [], alts := [], laidByText := true, laidKinds := [.data, .data, .data, .sentinel], laidTests := true, laidLooks := .later }
def FnAddrInfoUptoCardSaid : Prop := Claim7.holds Tryz.pinned (.plain (OpenSpec.upto fnAddrInfoSpec)) fnAddrInfoUptoCard

/-- THE SECOND FORM's CARD OF 'laws.FnAddrWrong'. -/
def fnAddrWrongUptoCard : Claim7 := { stood := { row := fnAddrWrongUptoRow, standIns := [], harness := (true, "412b1c8060867069a66715c8f30f0ab990cc9a80aeeda7539028dbae23b6272a"), looks := true }, kinds := [], alts := [], laidByText := true, laidKinds := [.data, .data, .data, .sentinel, .sentinel, .sentinel, .sentinel], laidTests := true, laidLooks := .later }
def FnAddrWrongUptoCardSaid : Prop := Claim7.holds Tryz.pinned (.plain (OpenSpec.upto fnAddrWrongSpec)) fnAddrWrongUptoCard
end Rows
end Go.Proofs.YthpcfnegfdcbjaaGreatDoor
