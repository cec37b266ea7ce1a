/-
  DERIVED. GIVEN WITH THE SEED: THE CARDS: each row of YtllofneeodnllaaGreatDoorRows.lean that lists a variable, with what it lists TIED to the program's text (the seventh form; the later family's looks); each row that meets fmt, with fmt's text TOLD by the authors' own Lean function (tested against real Go, not proved from fmt's source: count such statements apart). THE CARD IS WHAT COUNTS. Prove the row's statement (the work); the ties are given (YtllofneeodnllaaGreatDoorTie.lean); close each card by the builder's one call (the guide's Derived/Test/ToyasCard.lean, 'card_holds'). Laid BY PROGRAM, IN A SANDBOX (cutbox-door.mjs). By AI agents, Wed Nov 11 2026. No macro, syntax, notation, axiom, sorry.
-/
import Derived.Test.YtllofneeodnllaaGreatDoorRows
import GoSem.ClaimSeven
namespace Go.Proofs.YtllofneeodnllaaGreatDoor
namespace Rows

/-- THE TIED CARD OF 'laws.FnAddrPeerText'. -/
def fnAddrPeerTextCard : Claim7 := { stood := { row := fnAddrPeerTextRow, standIns := [], harness := (true, "09ee442c42c7edc08e9f8f5e05bde36f8c4c205c385b746c74bdf15c8ed99430"), looks := true }, kinds := [], alts := [], laidByText := true, laidKinds := [.data, .data, .data], laidTests := true, laidLooks := .later }
def FnAddrPeerTextCardSaid : Prop := Claim7.holds Tryz.pinned (.plain (OpenSpec.ofChange fnAddrPeerTextSpec)) fnAddrPeerTextCard

/-- THE TIED CARD OF 'laws.FnAddrBytes'. -/
def fnAddrBytesCard : Claim7 := { stood := { row := fnAddrBytesRow, standIns := [], harness := (true, "09ee442c42c7edc08e9f8f5e05bde36f8c4c205c385b746c74bdf15c8ed99430"), looks := true }, kinds := [], alts := [], laidByText := true, laidKinds := [.data, .data, .data], laidTests := true, laidLooks := .later }
def FnAddrBytesCardSaid : Prop := Claim7.holds Tryz.pinned (.plain (OpenSpec.ofChange fnAddrBytesSpec)) fnAddrBytesCard

/-- THE SECOND FORM's CARD OF 'laws.FnAddrPeerText'. -/
def fnAddrPeerTextUptoCard : Claim7 := { stood := { row := fnAddrPeerTextUptoRow, standIns := [], harness := (true, "09ee442c42c7edc08e9f8f5e05bde36f8c4c205c385b746c74bdf15c8ed99430"), looks := true }, kinds := [], alts := [], laidByText := true, laidKinds := [.data, .data, .data], laidTests := true, laidLooks := .later }
def FnAddrPeerTextUptoCardSaid : Prop := Claim7.holds Tryz.pinned (.plain (OpenSpec.upto fnAddrPeerTextSpec)) fnAddrPeerTextUptoCard

/-- THE SECOND FORM's CARD OF 'laws.FnAddrBytes'. -/
def fnAddrBytesUptoCard : Claim7 := { stood := { row := fnAddrBytesUptoRow, standIns := [], harness := (true, "09ee442c42c7edc08e9f8f5e05bde36f8c4c205c385b746c74bdf15c8ed99430"), looks := true }, kinds := [], alts := [], laidByText := true, laidKinds := [.data, .data, .data], laidTests := true, laidLooks := .later }
def FnAddrBytesUptoCardSaid : Prop := Claim7.holds Tryz.pinned (.plain (OpenSpec.upto fnAddrBytesSpec)) fnAddrBytesUptoCard
end Rows
end Go.Proofs.YtllofneeodnllaaGreatDoor
